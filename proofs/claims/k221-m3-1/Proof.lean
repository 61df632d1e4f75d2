import JvmDerived
import JvmDerived.Pilot.@@N@@Statement
import JvmDerived.Pilot.@@N@@Code
set_option linter.unusedVariables false
set_option linter.unusedSimpArgs false
/- laws to paste: Road.backV, Road.eqW, Road.codOf (cut by pick.py; bodies as the Statement names them) -/
namespace Jvm.Pilot.@@N@@
namespace StrChars
open Jvm Sem ClassFile Op Lib Jvm.Stand Jvm.Free.XT Jvm.Free.ALB Jvm.Free.JM Jvm.Free
open Jvm.Lib.Cold (StaticIs)
/-- a char array whose places are chars -/
def Ch (a : Addr) (A : Cell) (U : State) : Prop := Arr .char a A U ∧ Typed .char A
theorem Ch.mv {a : Addr} {A : Cell} {U U' : State} (h : Ch a A U) (hal : U.vm.Alike U'.vm) (hh : U'.heap = U.heap) : Ch a A U' := ⟨h.1.mv hal hh, h.2⟩
theorem Ch.keep {a : Addr} {A : Cell} {U U' : State} (h : Ch a A U) (hal : U.vm.Alike U'.vm) (hk : U'.heap[a]? = some A) : Ch a A U' := ⟨h.1.keep hal hk, h.2⟩
/-- what place i of a char[]'s cell holds -/
def cv (A : Cell) (i : Nat) : Int32 := match A.slots[i]? with | some (.int x) => x | _ => 0
theorem Ch.get {a : Addr} {A : Cell} {U : State} (h : Ch a A U) {i : Nat} (hi : i < A.slots.size) : A.slots[i]? = some (.int (cv A i)) := by
  have e := Array.getElem?_eq_getElem hi
  have f := h.2 i _ e
  unfold cv; rw [e]
  generalize A.slots[i] = v at f
  cases v <;> simp [fits] at f ⊢
/-- the byte that i2b leaves of a char -/
def lo8 (x : Int32) : Int32 := x.toInt8.toInt32
theorem fits_lo8 (y : Int32) : fits .byte (.int (lo8 y)) = true := by
  have h1 := y.toInt8.le_toInt
  have h2 := y.toInt8.toInt_lt
  simp only [lo8, fits, Bool.and_eq_true, decide_eq_true_eq, Int32.le_iff_toInt_le, Int8.toInt_toInt32, show (-128 : Int32).toInt = -128 from by decide, show (127 : Int32).toInt = 127 from by decide]
  omega
/-- A' is A but that each place j of lo .. hi - 1 holds f j -/
def Laid (A A' : Cell) (lo hi : Nat) (f : Nat → Value) : Prop := A'.cls = A.cls ∧ A'.vm = A.vm ∧ A'.slots.size = A.slots.size ∧ ∀ i, A'.slots[i]? = if lo ≤ i ∧ i < hi then some (f i) else A.slots[i]?
theorem Laid.zero (A : Cell) (lo : Nat) (f : Nat → Value) : Laid A A lo (lo + 0) f := ⟨rfl, rfl, rfl, fun i => by rw [if_neg (by omega)]⟩
theorem Laid.step {A Ak : Cell} {lo k : Nat} {f : Nat → Value} {v : Value} (h : Laid A Ak lo k f) (hlo : lo ≤ k) (hk : k < Ak.slots.size) (hv : v = f k) : Laid A (Ak.setSlot k v) lo (k + 1) f := by
  refine ⟨h.1, h.2.1, by simpa [Cell.setSlot] using h.2.2.1, fun i => ?_⟩
  by_cases e : k = i
  · subst e; rw [Cell.slots_setSlot_self v hk, if_pos (by omega), hv]
  · rw [Cell.slots_setSlot_ne v e, h.2.2.2 i]
    by_cases q : lo ≤ i ∧ i < k
    · rw [if_pos q, if_pos (by omega)]
    · rw [if_neg q, if_neg (by omega)]
def U16 : String := "java/lang/StringUTF16"
namespace Cmp5
def yN : MethodName := ⟨"java/lang/StringUTF16", "compress", "([CI[BII)I"⟩
abbrev yB : ByteArray := jdk_52_method_21_code
theorem d0 : decode yB 0 = .ok (.iconst 0, 1) := by decide +kernel
theorem d1 : decode yB 1 = .ok (.istore 5, 2) := by decide +kernel
theorem d3 : decode yB 3 = .ok (.iload 5, 2) := by decide +kernel
theorem d5 : decode yB 5 = .ok (.iload 4, 2) := by decide +kernel
theorem d7 : decode yB 7 = .ok (.if_icmp (.ge) 37, 3) := by decide +kernel
theorem d10 : decode yB 10 = .ok (.aload_n 0, 1) := by decide +kernel
theorem d11 : decode yB 11 = .ok (.iload_n 1, 1) := by decide +kernel
theorem d12 : decode yB 12 = .ok (.caload, 1) := by decide +kernel
theorem d13 : decode yB 13 = .ok (.istore 6, 2) := by decide +kernel
theorem d15 : decode yB 15 = .ok (.iload 6, 2) := by decide +kernel
theorem d17 : decode yB 17 = .ok (.sipush 255, 3) := by decide +kernel
theorem d20 : decode yB 20 = .ok (.if_icmp (.le) 6, 3) := by decide +kernel
theorem d26 : decode yB 26 = .ok (.aload_n 2, 1) := by decide +kernel
theorem d27 : decode yB 27 = .ok (.iload_n 3, 1) := by decide +kernel
theorem d28 : decode yB 28 = .ok (.iload 6, 2) := by decide +kernel
theorem d30 : decode yB 30 = .ok (.i2b, 1) := by decide +kernel
theorem d31 : decode yB 31 = .ok (.bastore, 1) := by decide +kernel
theorem d32 : decode yB 32 = .ok (.iinc 1 1, 3) := by decide +kernel
theorem d35 : decode yB 35 = .ok (.iinc 3 1, 3) := by decide +kernel
theorem d38 : decode yB 38 = .ok (.iinc 5 1, 3) := by decide +kernel
theorem d41 : decode yB 41 = .ok (.goto (-38), 3) := by decide +kernel
theorem d44 : decode yB 44 = .ok (.iload 4, 2) := by decide +kernel
theorem d46 : decode yB 46 = .ok (.ireturn, 1) := by decide +kernel
def site : List Cond := []
def tab : Cond := tabOf yN yB 7 (some .int) site
def P (b : Addr) (A : Cell) (d : Addr) (B : Cell) (o q len : Nat) (args : Array Value) (s : State) : Prop := args = #[.ref b, .int (Int32.ofNat o), .ref d, .int (Int32.ofNat q), .int (Int32.ofNat len)] ∧ Ch b A s ∧ Arr .byte d B s ∧ b ≠ d ∧ o + len ≤ A.slots.size ∧ q + len ≤ B.slots.size ∧ ∀ i, i < len → ¬ 255 < cv A (o + i)
def E (b : Addr) (A : Cell) (d : Addr) (B : Cell) (o q len : Nat) (r : Option Value) (s u : State) : Prop := r = some (.int (Int32.ofNat len)) ∧ ∃ B', Put d B' s u ∧ Laid B B' q (q + len) (fun j => Value.int (lo8 (cv A (o + (j - q)))))
/-- no char of the range above 255: len; the places written hold each char's low byte -/
theorem law (l : Launch) (b : Addr) (A : Cell) (d : Addr) (B : Cell) (o q len : Nat) : Law l yN 5 5 0 0 yB 7 (some .int) site (P b A d B o q len) (E b A d B o q len) (copyLocs d q len) 0 0 := by
  refine Law.of_walk (plainFor_of_name (by decide +kernel)) (by decide +kernel) (by decide +kernel) (by decide) (fun _ _ h => by rw [h.1]; rfl) (fun _ U U' hal hh h => ⟨h.1, h.2.1.mv hal hh, h.2.2.1.mv hal hh, h.2.2.2⟩) (fun r U U' V V' h1 hal h2 h => ⟨h.1, h.2.elim fun B' q => ⟨B', q.1.mv h1 h2, q.2⟩⟩) ?_
  intro p e s m args below meth c s₁ X0 hexec hbytes hml hret hlk hnm hown hh0 W hP
  obtain ⟨rfl, hA, hB, hne, l1, l2, hp⟩ := hP
  have c1 : Steps p.tables e below (s₁.setTop (entryFrame m #[.ref b, .int (Int32.ofNat o), .ref d, .int (Int32.ofNat q), .int (Int32.ofNat len)] 7)) (s₁.setTop (mkF m 0 #[.val (.ref b), .val (.int (Int32.ofNat o)), .val (.ref d), .val (.int (Int32.ofNat q)), .val (.int (Int32.ofNat len)), .unset, .unset] [])) := entry rfl
  have hA0 := hA.1.mv X0.warmed.alike hh0
  have hB0 := hB.mv X0.warmed.alike hh0
  have a31 := hA.1.2.2.2
  have c2 : Steps p.tables e below (s₁.setTop (entryFrame m #[.ref b, .int (Int32.ofNat o), .ref d, .int (Int32.ofNat q), .int (Int32.ofNat len)] 7)) (s₁.setTop (mkF m 3 #[.val (.ref b), .val (.int (Int32.ofNat o)), .val (.ref d), .val (.int (Int32.ofNat q)), .val (.int (Int32.ofNat len)), .val (.int 0), .unset] [])) := c1.trans (by
    refine iconstV X0.here hexec rfl 0 (hb hbytes d0) (by decide) ?_
    refine XS.istore X0.here hexec rfl (hb hbytes d1) rfl rfl ?_
    exact Steps.refl _)
  have loop : ∀ (r i : Nat), i + r = len → ∀ (z : Slot), (z = .unset ∨ ∃ w, z = .val w ∧ w.category = 1) → ∀ (Tl : State) (Bk : Cell), Stand p l e { frames := 0, locals := 0, cells := 0, slots := 0 } s m #[.ref b, .int (Int32.ofNat o), .ref d, .int (Int32.ofNat q), .int (Int32.ofNat len)] below meth c Tl ([] ++ copyLocs d q i) 0 0 → Put d Bk s₁ Tl → Laid B Bk q (q + i) (fun j => Value.int (lo8 (cv A (o + (j - q))))) →
      Steps p.tables e below (s₁.setTop (entryFrame m #[.ref b, .int (Int32.ofNat o), .ref d, .int (Int32.ofNat q), .int (Int32.ofNat len)] 7)) (Tl.setTop (mkF m 3 #[.val (.ref b), .val (.int (Int32.ofNat (o + i))), .val (.ref d), .val (.int (Int32.ofNat (q + i))), .val (.int (Int32.ofNat len)), .val (.int (Int32.ofNat i)), z] [])) → ∃ (T' : State) (B' : Cell) (z' : Slot), Stand p l e { frames := 0, locals := 0, cells := 0, slots := 0 } s m #[.ref b, .int (Int32.ofNat o), .ref d, .int (Int32.ofNat q), .int (Int32.ofNat len)] below meth c T' ([] ++ copyLocs d q len) 0 0 ∧ Put d B' s₁ T' ∧ Laid B B' q (q + len) (fun j => Value.int (lo8 (cv A (o + (j - q))))) ∧
      Steps p.tables e below (s₁.setTop (entryFrame m #[.ref b, .int (Int32.ofNat o), .ref d, .int (Int32.ofNat q), .int (Int32.ofNat len)] 7)) (T'.setTop (mkF m 3 #[.val (.ref b), .val (.int (Int32.ofNat (o + len))), .val (.ref d), .val (.int (Int32.ofNat (q + len))), .val (.int (Int32.ofNat len)), .val (.int (Int32.ofNat len)), z'] [])) := by
    intro r
    induction r with
    | zero =>
      intro i hi z hz Tl Bk Xl pl fl cl
      have hil : i = len := by omega
      rw [hil] at Xl fl cl
      exact ⟨Tl, Bk, z, Xl, pl, fl, cl⟩
    | succ r ih =>
      intro i hi z hz Tl Bk Xl pl fl cl
      have all := X0.warmed.alike.symm.trans Xl.warmed.alike
      have hAl := hA0.keep all (pl.other hne hA0.1)
      have hBk := hB0.like all pl.1 fl.1 fl.2.1 fl.2.2.1
      have hlt : q + i < Bk.slots.size := by rw [fl.2.2.1]; omega
      have c3 : Steps p.tables e below (s₁.setTop (entryFrame m #[.ref b, .int (Int32.ofNat o), .ref d, .int (Int32.ofNat q), .int (Int32.ofNat len)] 7)) (Tl.setTop (mkF m 12 #[.val (.ref b), .val (.int (Int32.ofNat (o + i))), .val (.ref d), .val (.int (Int32.ofNat (q + i))), .val (.int (Int32.ofNat len)), .val (.int (Int32.ofNat i)), z] [.int (Int32.ofNat (o + i)), .ref b])) := cl.trans (by
        refine XS.iload Xl.here hexec rfl (hb hbytes d3) rfl ?_
        refine XS.iload Xl.here hexec rfl (hb hbytes d5) rfl ?_
        refine XS.icmpNo Xl.here hexec rfl (hb hbytes d7) rfl (ii_ge_f (lt32 (by omega) (by omega))) ?_
        refine XS.aloadN Xl.here hexec rfl (hb hbytes d10) rfl rfl ?_
        refine XS.iloadN Xl.here hexec rfl (hb hbytes d11) rfl ?_
        exact Steps.refl _)
      have c4 : Steps p.tables e below (s₁.setTop (entryFrame m #[.ref b, .int (Int32.ofNat o), .ref d, .int (Int32.ofNat q), .int (Int32.ofNat len)] 7)) (Tl.setTop (mkF m 13 #[.val (.ref b), .val (.int (Int32.ofNat (o + i))), .val (.ref d), .val (.int (Int32.ofNat (q + i))), .val (.int (Int32.ofNat len)), .val (.int (Int32.ofNat i)), z] [.int (cv A (o + i))])) := c3.trans (by
        refine Xl.aget hexec hAl rfl (hA.get (i := o + i) (by omega)) rfl rfl (hb hbytes d12) ?_
        exact Steps.refl _)
      have c5 : Steps p.tables e below (s₁.setTop (entryFrame m #[.ref b, .int (Int32.ofNat o), .ref d, .int (Int32.ofNat q), .int (Int32.ofNat len)] 7)) (Tl.setTop (mkF m 15 #[.val (.ref b), .val (.int (Int32.ofNat (o + i))), .val (.ref d), .val (.int (Int32.ofNat (q + i))), .val (.int (Int32.ofNat len)), .val (.int (Int32.ofNat i)), .val (.int (cv A (o + i)))] [])) := c4.trans (by
        refine XS.istoreS Xl.here hexec rfl (hb hbytes d13) rfl rfl hz ?_
        exact Steps.refl _)
      have c6 : Steps p.tables e below (s₁.setTop (entryFrame m #[.ref b, .int (Int32.ofNat o), .ref d, .int (Int32.ofNat q), .int (Int32.ofNat len)] 7)) (Tl.setTop (mkF m 31 #[.val (.ref b), .val (.int (Int32.ofNat (o + i))), .val (.ref d), .val (.int (Int32.ofNat (q + i))), .val (.int (Int32.ofNat len)), .val (.int (Int32.ofNat i)), .val (.int (cv A (o + i)))] [.int (lo8 (cv A (o + i))), .int (Int32.ofNat (q + i)), .ref d])) := c5.trans (by
        refine XS.iload Xl.here hexec rfl (hb hbytes d15) rfl ?_
        refine sipushV Xl.here hexec rfl 255 (hb hbytes d17) (by decide) ?_
        refine XS.icmpYes Xl.here hexec rfl (pc0 := 20) rfl (hb hbytes d20) rfl (ii_le_t (hp i (by omega))) (by decide) rfl ?_
        refine XS.aloadN Xl.here hexec rfl (hb hbytes d26) rfl rfl ?_
        refine XS.iloadN Xl.here hexec rfl (hb hbytes d27) rfl ?_
        refine XS.iload Xl.here hexec rfl (hb hbytes d28) rfl ?_
        refine i2b Xl.here hexec rfl (hb hbytes d30) rfl ?_
        exact Steps.refl _)
      obtain ⟨T7, X7, p7, st7⟩ := Xl.aput hexec hBk rfl hlt rfl (fits_lo8 (cv A (o + i))) (g := (mkF m 31 #[.val (.ref b), .val (.int (Int32.ofNat (o + i))), .val (.ref d), .val (.int (Int32.ofNat (q + i))), .val (.int (Int32.ofNat len)), .val (.int (Int32.ofNat i)), .val (.int (cv A (o + i)))] [.int (lo8 (cv A (o + i))), .int (Int32.ofNat (q + i)), .ref d])) rfl (rest := []) rfl (hb hbytes d31)
      have c8 : Steps p.tables e below (s₁.setTop (entryFrame m #[.ref b, .int (Int32.ofNat o), .ref d, .int (Int32.ofNat q), .int (Int32.ofNat len)] 7)) (T7.setTop (mkF m 32 #[.val (.ref b), .val (.int (Int32.ofNat (o + i))), .val (.ref d), .val (.int (Int32.ofNat (q + i))), .val (.int (Int32.ofNat len)), .val (.int (Int32.ofNat i)), .val (.int (cv A (o + i)))] [])) := c6.trans (st7 _ (Steps.refl _))
      have c9 : Steps p.tables e below (s₁.setTop (entryFrame m #[.ref b, .int (Int32.ofNat o), .ref d, .int (Int32.ofNat q), .int (Int32.ofNat len)] 7)) (T7.setTop (mkF m 3 #[.val (.ref b), .val (.int (Int32.ofNat (o + i) + 1)), .val (.ref d), .val (.int (Int32.ofNat (q + i) + 1)), .val (.int (Int32.ofNat len)), .val (.int (Int32.ofNat i + 1)), .val (.int (cv A (o + i)))] [])) := c8.trans (by
        refine iincV X7.here hexec rfl 1 (hb hbytes d32) (by decide) rfl rfl ?_
        refine iincV X7.here hexec rfl 1 (hb hbytes d35) (by decide) rfl rfl ?_
        refine iincV X7.here hexec rfl 1 (hb hbytes d38) (by decide) rfl rfl ?_
        refine XS.goto X7.here hexec rfl (pc0 := 41) rfl (hb hbytes d41) (by decide) rfl ?_
        exact Steps.refl _)
      have c10 : Steps p.tables e below (s₁.setTop (entryFrame m #[.ref b, .int (Int32.ofNat o), .ref d, .int (Int32.ofNat q), .int (Int32.ofNat len)] 7)) (T7.setTop (mkF m 3 #[.val (.ref b), .val (.int (Int32.ofNat (o + (i + 1)))), .val (.ref d), .val (.int (Int32.ofNat (q + (i + 1)))), .val (.int (Int32.ofNat len)), .val (.int (Int32.ofNat (i + 1))), .val (.int (cv A (o + i)))] [])) := by
        have := c9
        rw [succ32, succ32, succ32] at this
        exact this
      exact ih (i + 1) (by omega) _ (Or.inr ⟨_, rfl, rfl⟩) T7 _ (by rw [copyLocs_step, ← List.append_assoc]; exact X7) (pl.trans p7) (fl.step (by omega) hlt (by simp)) c10
  obtain ⟨T9, B9, z9, X9, p9, f9, g9⟩ := loop len 0 (by omega) .unset (Or.inl rfl) s₁ B (by simpa [copyLocs] using X0) ⟨hB0.1, fun _ _ => rfl, rfl⟩ (Laid.zero _ _ _) c2
  have c11 : Steps p.tables e below (s₁.setTop (entryFrame m #[.ref b, .int (Int32.ofNat o), .ref d, .int (Int32.ofNat q), .int (Int32.ofNat len)] 7)) (T9.setTop (mkF m 46 #[.val (.ref b), .val (.int (Int32.ofNat (o + len))), .val (.ref d), .val (.int (Int32.ofNat (q + len))), .val (.int (Int32.ofNat len)), .val (.int (Int32.ofNat len)), z9] [.int (Int32.ofNat len)])) := g9.trans (by
    refine XS.iload X9.here hexec rfl (hb hbytes d3) rfl ?_
    refine XS.iload X9.here hexec rfl (hb hbytes d5) rfl ?_
    refine XS.icmpYes X9.here hexec rfl (pc0 := 7) rfl (hb hbytes d7) rfl (ii_ge_t (nlt32 (by omega) (Nat.le_refl _))) (by decide) rfl ?_
    refine XS.iload X9.here hexec rfl (hb hbytes d44) rfl ?_
    exact Steps.refl _)
  exact ⟨T9, some (.int (Int32.ofNat len)), _, _, _, X9, by simp, rfl, rfl, (fun h => by cases h), ⟨rfl, B9, p9.from hh0, f9⟩, fun fs hl => c11.trans (X9.ireturnOut hexec hret rfl (Or.inl rfl) (hb hbytes d46) hl)⟩
end Cmp5
namespace Cmp3
def yN : MethodName := ⟨"java/lang/StringUTF16", "compress", "([CII)[B"⟩
abbrev yB : ByteArray := jdk_52_method_16_code
theorem d0 : decode yB 0 = .ok (.iload_n 2, 1) := by decide +kernel
theorem d1 : decode yB 1 = .ok (.newarray .byte, 2) := by decide +kernel
theorem d3 : decode yB 3 = .ok (.astore_n 3, 1) := by decide +kernel
theorem d4 : decode yB 4 = .ok (.aload_n 0, 1) := by decide +kernel
theorem d5 : decode yB 5 = .ok (.iload_n 1, 1) := by decide +kernel
theorem d6 : decode yB 6 = .ok (.aload_n 3, 1) := by decide +kernel
theorem d7 : decode yB 7 = .ok (.iconst 0, 1) := by decide +kernel
theorem d8 : decode yB 8 = .ok (.iload_n 2, 1) := by decide +kernel
theorem d9 : decode yB 9 = .ok (.invokestatic 115, 3) := by decide +kernel
theorem d12 : decode yB 12 = .ok (.istore 4, 2) := by decide +kernel
theorem d14 : decode yB 14 = .ok (.iload 4, 2) := by decide +kernel
theorem d16 : decode yB 16 = .ok (.iload_n 2, 1) := by decide +kernel
theorem d17 : decode yB 17 = .ok (.if_icmp (.eq) 40, 3) := by decide +kernel
theorem d57 : decode yB 57 = .ok (.aload_n 3, 1) := by decide +kernel
theorem d58 : decode yB 58 = .ok (.areturn, 1) := by decide +kernel
def site : List Cond := [.arrayClass .byte, Cmp5.tab] ++ staticW U16 115 Cmp5.yN
def tab : Cond := tabOf yN yB 6 (some (.array .byte)) site
def P (b : Addr) (A : Cell) (o len : Nat) (args : Array Value) (s : State) : Prop := args = #[.ref b, .int (Int32.ofNat o), .int (Int32.ofNat len)] ∧ Ch b A s ∧ o + len ≤ A.slots.size ∧ len ≤ 536870912 ∧ ∀ i, i < len → ¬ 255 < cv A (o + i)
def E (b : Addr) (A : Cell) (o len : Nat) (r : Option Value) (s u : State) : Prop := NewArr .byte "[B" len (fun j => .int (lo8 (cv A (o + j)))) r s u ∧ u.heap.size = s.heap.size + 1
/-- no char of the range above 255: a new byte[] of their low bytes -/
theorem law (l : Launch) (b : Addr) (A : Cell) (o len : Nat) : Law l yN 3 3 1 18 yB 6 (some (.array .byte)) site (P b A o len) (E b A o len) [] 1 len := by
  refine Law.of_walk (plainFor_of_name (by decide +kernel)) (by decide +kernel) (by decide +kernel) (by decide) (fun _ _ h => by rw [h.1]; rfl) (fun _ U U' hal hh h => ⟨h.1, h.2.1.mv hal hh, h.2.2⟩) (fun r U U' V V' h1 hal h2 h => ⟨NewArr.mv r U U' V V' h1 hal h2 h.1, by rw [h1, h2]; exact h.2⟩) ?_
  intro p e s m args below meth c s₁ X0 hexec hbytes hml hret hlk hnm hown hh0 W hP
  obtain ⟨rfl, hA, l1, l2, hp⟩ := hP
  have a31 := hA.1.2.2.2
  have c1 : Steps p.tables e below (s₁.setTop (entryFrame m #[.ref b, .int (Int32.ofNat o), .int (Int32.ofNat len)] 6)) (s₁.setTop (mkF m 0 #[.val (.ref b), .val (.int (Int32.ofNat o)), .val (.int (Int32.ofNat len)), .unset, .unset, .unset] [])) := entry rfl
  have c2 : Steps p.tables e below (s₁.setTop (entryFrame m #[.ref b, .int (Int32.ofNat o), .int (Int32.ofNat len)] 6)) (s₁.setTop (mkF m 1 #[.val (.ref b), .val (.int (Int32.ofNat o)), .val (.int (Int32.ofNat len)), .unset, .unset, .unset] [.int (Int32.ofNat len)])) := c1.trans (by
    refine XS.iloadN X0.here hexec rfl (hb hbytes d0) rfl ?_
    exact Steps.refl _)
  obtain ⟨T3, B3, X3, ba3, bs3, bv3, bh3, bf3, st3⟩ := X0.anew hexec (atype := .byte) (wk W (.arrayClass .byte)) rfl (by show len * 1 ≤ _; omega) (by omega) (g := (mkF m 1 #[.val (.ref b), .val (.int (Int32.ofNat o)), .val (.int (Int32.ofNat len)), .unset, .unset, .unset] [.int (Int32.ofNat len)])) rfl (hb hbytes d1) (rest := []) rfl (Nat.le_refl _) (by show 0 + len ≤ len; omega)
  rw [hh0] at ba3 st3
  have kp3 : XT.Kept s T3 := (XT.Kept.of_eq hh0).push bh3
  have hA3 := hA.keep X3.warmed.alike (kp3 _ _ hA.1.1)
  have hne : b ≠ s.heap.size := hA.1.ne
  have c4 : Steps p.tables e below (s₁.setTop (entryFrame m #[.ref b, .int (Int32.ofNat o), .int (Int32.ofNat len)] 6)) (T3.setTop (mkF m 3 #[.val (.ref b), .val (.int (Int32.ofNat o)), .val (.int (Int32.ofNat len)), .unset, .unset, .unset] [.ref s.heap.size])) := c2.trans (st3 _ (Steps.refl _))
  have c5 : Steps p.tables e below (s₁.setTop (entryFrame m #[.ref b, .int (Int32.ofNat o), .int (Int32.ofNat len)] 6)) (T3.setTop (mkF m 9 #[.val (.ref b), .val (.int (Int32.ofNat o)), .val (.int (Int32.ofNat len)), .val (.ref s.heap.size), .unset, .unset] [.int (Int32.ofNat len), .int 0, .ref s.heap.size, .int (Int32.ofNat o), .ref b])) := c4.trans (by
    refine XS.astoreN X3.here hexec rfl (hb hbytes d3) rfl rfl rfl ?_
    refine XS.aloadN X3.here hexec rfl (hb hbytes d4) rfl rfl ?_
    refine XS.iloadN X3.here hexec rfl (hb hbytes d5) rfl ?_
    refine XS.aloadN X3.here hexec rfl (hb hbytes d6) rfl rfl ?_
    refine iconstV X3.here hexec rfl 0 (hb hbytes d7) (by decide) ?_
    refine XS.iloadN X3.here hexec rfl (hb hbytes d8) rfl ?_
    exact Steps.refl _)
  obtain ⟨v6, T6, X6, E6, g6⟩ := X3.callS hexec (Cmp5.law l b A s.heap.size B3 o 0 len) hown (wks W (staticW U16 115 Cmp5.yN)) (wk W Cmp5.tab) (W := 0) (Nat.le_of_ble_eq_true rfl) (Nat.le_of_ble_eq_true rfl) (Nat.le_refl _) (by show 0 + len + 0 ≤ len; omega) (g := (mkF m 9 #[.val (.ref b), .val (.int (Int32.ofNat o)), .val (.int (Int32.ofNat len)), .val (.ref s.heap.size), .unset, .unset] [.int (Int32.ofNat len), .int (Int32.ofNat 0), .ref s.heap.size, .int (Int32.ofNat o), .ref b])) rfl (by rw [hml]; rfl) c5 (argsL := [.ref b, .int (Int32.ofNat o), .ref s.heap.size, .int (Int32.ofNat 0), .int (Int32.ofNat len)]) (rest := []) rfl rfl (by show 2 * 0 + 0 ≤ _; decide) (hb hbytes d9) (⟨rfl, hA3, ba3, hne, l1, by rw [bs3]; simp, hp⟩)
  obtain ⟨rfl, B6, p6, f6⟩ := E6
  have c7 : Steps p.tables e below (s₁.setTop (entryFrame m #[.ref b, .int (Int32.ofNat o), .int (Int32.ofNat len)] 6)) (T6.setTop (mkF m 12 #[.val (.ref b), .val (.int (Int32.ofNat o)), .val (.int (Int32.ofNat len)), .val (.ref s.heap.size), .unset, .unset] [.int (Int32.ofNat len)])) := g6
  have c8 : Steps p.tables e below (s₁.setTop (entryFrame m #[.ref b, .int (Int32.ofNat o), .int (Int32.ofNat len)] 6)) (T6.setTop (mkF m 58 #[.val (.ref b), .val (.int (Int32.ofNat o)), .val (.int (Int32.ofNat len)), .val (.ref s.heap.size), .val (.int (Int32.ofNat len)), .unset] [.ref s.heap.size])) := c7.trans (by
    refine XS.istore X6.here hexec rfl (hb hbytes d12) rfl rfl ?_
    refine XS.iload X6.here hexec rfl (hb hbytes d14) rfl ?_
    refine XS.iloadN X6.here hexec rfl (hb hbytes d16) rfl ?_
    refine XS.icmpYes X6.here hexec rfl (pc0 := 17) rfl (hb hbytes d17) rfl (ii_eq_t rfl) (by decide) rfl ?_
    refine XS.aloadN X6.here hexec rfl (hb hbytes d57) rfl rfl ?_
    exact Steps.refl _)
  have X8 := X6.wide (L' := []) (cells' := 1) (slots' := len) (fun x hx hlt => by
    simp only [List.nil_append, copyLocs, List.mem_map, List.mem_range] at hx
    obtain ⟨i, -, rfl⟩ := hx
    exact absurd hlt (Nat.lt_irrefl _)) (Nat.le_refl _) (by omega)
  exact ⟨T6, some (.ref s.heap.size), _, _, _, X8, rfl, rfl, rfl, (fun h => by cases h), ⟨⟨rfl, B6, ba3.like (X3.warmed.alike.symm.trans X6.warmed.alike) p6.1 f6.1 f6.2.1 f6.2.2.1, f6.2.1.trans bv3, by rw [X6.warmed.alike.findClass, f6.1]; exact bf3, by rw [f6.2.2.1, bs3]; simp, fun j hj => by rw [f6.2.2.2 j, if_pos (by omega)]; rfl, kp3.put p6 (Nat.le_refl _)⟩, by rw [p6.2.2, bh3, hh0]; simp⟩, fun fs hl => c8.trans (X8.areturnOut hexec rfl hret rfl (hb hbytes d58) hl)⟩
end Cmp3
namespace CodL
def yN : MethodName := ⟨"java/lang/StringUTF16", "coderFromArrayLen", "([BI)B"⟩
abbrev yB : ByteArray := jdk_52_method_15_code
theorem d0 : decode yB 0 = .ok (.iload_n 1, 1) := by decide +kernel
theorem d1 : decode yB 1 = .ok (.aload_n 0, 1) := by decide +kernel
theorem d2 : decode yB 2 = .ok (.arraylength, 1) := by decide +kernel
theorem d3 : decode yB 3 = .ok (.isub, 1) := by decide +kernel
theorem d4 : decode yB 4 = .ok (.bipush 31, 2) := by decide +kernel
theorem d6 : decode yB 6 = .ok (.iushr, 1) := by decide +kernel
theorem d7 : decode yB 7 = .ok (.i2b, 1) := by decide +kernel
theorem d8 : decode yB 8 = .ok (.ireturn, 1) := by decide +kernel
def site : List Cond := []
def tab : Cond := tabOf yN yB 2 (some .byte) site
def P (d : Addr) (B : Cell) (args : Array Value) (s : State) : Prop := args = #[.ref d, .int (Int32.ofNat B.slots.size)] ∧ Arr .byte d B s
def E (r : Option Value) (s u : State) : Prop := XT.PureE (some (.int 0)) r s u
/-- an array as long as the number of chars: LATIN1 -/
theorem law (l : Launch) (d : Addr) (B : Cell) : Law l yN 2 2 0 0 yB 2 (some .byte) site (P d B) E [] 0 0 := by
  refine Law.of_walk (plainFor_of_name (by decide +kernel)) (by decide +kernel) (by decide +kernel) (by decide) (fun _ _ h => by rw [h.1]; rfl) (fun _ U U' hal hh h => ⟨h.1, h.2.mv hal hh⟩) (fun r U U' V V' h1 hal h2 h => XT.PureE.mv r U U' V V' h1 hal h2 h) ?_
  intro p e s m args below meth c s₁ X0 hexec hbytes hml hret hlk hnm hown hh0 W hP
  obtain ⟨rfl, hB⟩ := hP
  have hB0 := hB.mv X0.warmed.alike hh0
  have c1 : Steps p.tables e below (s₁.setTop (entryFrame m #[.ref d, .int (Int32.ofNat B.slots.size)] 2)) (s₁.setTop (mkF m 0 #[.val (.ref d), .val (.int (Int32.ofNat B.slots.size))] [])) := entry rfl
  have c2 : Steps p.tables e below (s₁.setTop (entryFrame m #[.ref d, .int (Int32.ofNat B.slots.size)] 2)) (s₁.setTop (mkF m 2 #[.val (.ref d), .val (.int (Int32.ofNat B.slots.size))] [.ref d, .int (Int32.ofNat B.slots.size)])) := c1.trans (by
    refine XS.iloadN X0.here hexec rfl (hb hbytes d0) rfl ?_
    refine XS.aloadN X0.here hexec rfl (hb hbytes d1) rfl rfl ?_
    exact Steps.refl _)
  have c3 : Steps p.tables e below (s₁.setTop (entryFrame m #[.ref d, .int (Int32.ofNat B.slots.size)] 2)) (s₁.setTop (mkF m 8 #[.val (.ref d), .val (.int (Int32.ofNat B.slots.size))] [.int (lo8 (ushr (Int32.ofNat B.slots.size - Int32.ofNat B.slots.size) 31))])) := c2.trans (by
    refine X0.alen hexec hB0 rfl rfl (hb hbytes d2) ?_
    refine XS.isub X0.here hexec rfl (hb hbytes d3) rfl ?_
    refine bipushV X0.here hexec rfl 31 (hb hbytes d4) (by decide) ?_
    refine iushr X0.here hexec rfl (hb hbytes d6) rfl ?_
    refine i2b X0.here hexec rfl (hb hbytes d7) rfl ?_
    exact Steps.refl _)
  have e0 : lo8 (ushr (Int32.ofNat B.slots.size - Int32.ofNat B.slots.size) 31) = 0 := by rw [Int32.sub_self]; decide
  rw [e0] at c3
  exact ⟨s₁, some (.int 0), _, _, _, X0, rfl, rfl, rfl, (fun h => by cases h), ⟨rfl, hh0⟩, fun fs hl => c3.trans (X0.ireturnOut hexec hret rfl (Or.inr (Or.inr (Or.inl rfl))) (hb hbytes d8) hl)⟩
end CodL
/-- the String at a is Latin-1 over a new byte[] (the heap's one new cell): the low bytes of the len chars of A from o on; every cell but a is kept -/
def Got (a : Addr) (D : Cell) (fV fC : Field) (A : Cell) (o len : Nat) (r : Option Value) (s u : State) : Prop := r = none ∧ ∃ D' V : Cell, Blank "java/lang/String" a D' u ∧ Same D D' [fV.slot, fC.slot] ∧ D'.slots[fV.slot]? = some (.ref s.heap.size) ∧ D'.slots[fC.slot]? = some (.int 0) ∧ Arr .byte s.heap.size V u ∧ V.vm = .none ∧ u.vm.findClass "[B" = some V.cls ∧ V.slots.size = len ∧ (∀ j, j < len → V.slots[j]? = some (.int (lo8 (cv A (o + j))))) ∧ (∀ (y : Addr) (c : Cell), y ≠ a → s.heap[y]? = some c → u.heap[y]? = some c) ∧ u.heap.size = s.heap.size + 1
theorem Got.mv {a : Addr} {D A : Cell} {fV fC : Field} {o len : Nat} : ∀ r (U U' V V' : State), U'.heap = U.heap → V.vm.Alike V'.vm → V'.heap = V.heap → Got a D fV fC A o len r U V → Got a D fV fC A o len r U' V' :=
  fun r U U' V V' h1 hal h2 ⟨e0, D', X, a1, a2, a3, a4, a5, a6, a7, a8, a9, a10, a11⟩ => ⟨e0, D', X, a1.mv hal h2, a2, by rw [h1]; exact a3, a4, by rw [h1]; exact a5.mv hal h2, a6, by rw [hal.findClass]; exact a7, a8, a9, by rw [h1, h2]; exact a10, by rw [h1, h2]; exact a11⟩
namespace New4
def yN : MethodName := ⟨"java/lang/String", "<init>", "([CIILjava/lang/Void;)V"⟩
abbrev yB : ByteArray := jdk_42_method_149_code
theorem d0 : decode yB 0 = .ok (.aload_n 0, 1) := by decide +kernel
theorem d1 : decode yB 1 = .ok (.invokespecial 1, 3) := by decide +kernel
theorem d4 : decode yB 4 = .ok (.iload_n 3, 1) := by decide +kernel
theorem d5 : decode yB 5 = .ok (.ifCond (.ne) 22, 3) := by decide +kernel
theorem d27 : decode yB 27 = .ok (.getstatic 38, 3) := by decide +kernel
theorem d30 : decode yB 30 = .ok (.ifCond (.eq) 28, 3) := by decide +kernel
theorem d33 : decode yB 33 = .ok (.aload_n 1, 1) := by decide +kernel
theorem d34 : decode yB 34 = .ok (.iload_n 2, 1) := by decide +kernel
theorem d35 : decode yB 35 = .ok (.iload_n 3, 1) := by decide +kernel
theorem d36 : decode yB 36 = .ok (.invokestatic 177, 3) := by decide +kernel
theorem d39 : decode yB 39 = .ok (.astore 5, 2) := by decide +kernel
theorem d41 : decode yB 41 = .ok (.aload_n 0, 1) := by decide +kernel
theorem d42 : decode yB 42 = .ok (.aload 5, 2) := by decide +kernel
theorem d44 : decode yB 44 = .ok (.iload_n 3, 1) := by decide +kernel
theorem d45 : decode yB 45 = .ok (.invokestatic 47, 3) := by decide +kernel
theorem d48 : decode yB 48 = .ok (.putfield 15, 3) := by decide +kernel
theorem d51 : decode yB 51 = .ok (.aload_n 0, 1) := by decide +kernel
theorem d52 : decode yB 52 = .ok (.aload 5, 2) := by decide +kernel
theorem d54 : decode yB 54 = .ok (.putfield 9, 3) := by decide +kernel
theorem d57 : decode yB 57 = .ok (.return_, 1) := by decide +kernel
def site : List Cond := [.fieldLink "java/lang/String" 38 "java/lang/String" "COMPACT_STRINGS" "Z", Cmp3.tab, CodL.tab, .laysFinal "java/lang/String" "java/lang/String" "value" "[B", .fieldLink "java/lang/String" 9 "java/lang/String" "value" "[B", .laysFinal "java/lang/String" "java/lang/String" "coder" "B", .fieldLink "java/lang/String" 15 "java/lang/String" "coder" "B"] ++ objW "java/lang/String" 1 ++ staticW "java/lang/String" 177 Cmp3.yN ++ staticW "java/lang/String" 47 CodL.yN
def tab : Cond := tabOf yN yB 6 none site
def P (a : Addr) (D : Cell) (fV fC : Field) (b : Addr) (A : Cell) (z : Int32) (o len : Nat) (args : Array Value) (s : State) : Prop := args = #[.ref a, .ref b, .int (Int32.ofNat o), .int (Int32.ofNat len), .null] ∧ Blank "java/lang/String" a D s ∧ Found "java/lang/String" "value" "[B" fV s ∧ Found "java/lang/String" "coder" "B" fC s ∧ Ch b A s ∧ StaticIs s "java/lang/String" "COMPACT_STRINGS" "Z" (.int z) ∧ ¬ z = 0 ∧ 0 < len ∧ o + len ≤ A.slots.size ∧ len ≤ 536870912 ∧ ∀ i, i < len → ¬ 255 < cv A (o + i)
def E (a : Addr) (D : Cell) (fV fC : Field) (A : Cell) (o len : Nat) (r : Option Value) (s u : State) : Prop := Got a D fV fC A o len r s u
/-- len > 0, no char of the range above 255: a Latin-1 String of their low bytes -/
theorem law (l : Launch) (a : Addr) (D : Cell) (fV fC : Field) (b : Addr) (A : Cell) (z : Int32) (o len : Nat) : Law l yN 5 4 2 35 yB 6 none site (P a D fV fC b A z o len) (E a D fV fC A o len) [⟨a, fC.slot⟩, ⟨a, fV.slot⟩] 1 len := by
  refine Law.of_walk (plainFor_of_name (by decide +kernel)) (by decide +kernel) (by decide +kernel) (by decide) (fun _ _ h => by rw [h.1]; rfl) (fun _ U U' hal hh h => ⟨h.1, h.2.1.mv hal hh, h.2.2.1.al hal, h.2.2.2.1.al hal, h.2.2.2.2.1.mv hal hh, h.2.2.2.2.2.1.there hal hh, h.2.2.2.2.2.2⟩) (fun r U U' V V' h1 hal h2 h => Got.mv r U U' V V' h1 hal h2 h) ?_
  intro p e s m args below meth c s₁ X0 hexec hbytes hml hret hlk hnm hown hh0 W hP
  obtain ⟨rfl, hB, f1, f2, hA, s1, hz, l0, l1, l2, hp⟩ := hP
  have a31 := hA.1.2.2.2
  have c1 : Steps p.tables e below (s₁.setTop (entryFrame m #[.ref a, .ref b, .int (Int32.ofNat o), .int (Int32.ofNat len), .null] 6)) (s₁.setTop (mkF m 0 #[.val (.ref a), .val (.ref b), .val (.int (Int32.ofNat o)), .val (.int (Int32.ofNat len)), .val .null, .unset] [])) := entry rfl
  have c2 : Steps p.tables e below (s₁.setTop (entryFrame m #[.ref a, .ref b, .int (Int32.ofNat o), .int (Int32.ofNat len), .null] 6)) (s₁.setTop (mkF m 1 #[.val (.ref a), .val (.ref b), .val (.int (Int32.ofNat o)), .val (.int (Int32.ofNat len)), .val .null, .unset] [.ref a])) := c1.trans (by
    refine XS.aloadN X0.here hexec rfl (hb hbytes d0) rfl rfl ?_
    exact Steps.refl _)
  obtain ⟨T3, X3, q3, st3⟩ := X0.oinit hexec hown (wks W (objW "java/lang/String" 1)) (g := (mkF m 1 #[.val (.ref a), .val (.ref b), .val (.int (Int32.ofNat o)), .val (.int (Int32.ofNat len)), .val .null, .unset] [.ref a])) rfl (by rw [hml]; rfl) (rest := []) rfl (hb hbytes d1) (W := 0) (by show 2 * 0 + 0 ≤ _; decide) (Nat.le_of_ble_eq_true rfl) (Nat.le_of_ble_eq_true rfl)
  have hh3 := q3.trans hh0
  have c4 : Steps p.tables e below (s₁.setTop (entryFrame m #[.ref a, .ref b, .int (Int32.ofNat o), .int (Int32.ofNat len), .null] 6)) (T3.setTop (mkF m 27 #[.val (.ref a), .val (.ref b), .val (.int (Int32.ofNat o)), .val (.int (Int32.ofNat len)), .val .null, .unset] [])) := (c2.trans (st3 _ (Steps.refl _))).trans (by
    refine XS.iloadN X3.here hexec rfl (hb hbytes d4) rfl ?_
    refine XS.ifYes X3.here hexec rfl (pc0 := 5) rfl (hb hbytes d5) rfl (i0_ne_t (nz32 (by omega) l0)) (by decide) rfl ?_
    exact Steps.refl _)
  obtain ⟨T5, X5, q5, st5⟩ := X3.sget hexec hown (wk W (.fieldLink "java/lang/String" 38 "java/lang/String" "COMPACT_STRINGS" "Z")) s1 (fun _ _ h => by rw [hh3]; exact h) (g := (mkF m 27 #[.val (.ref a), .val (.ref b), .val (.int (Int32.ofNat o)), .val (.int (Int32.ofNat len)), .val .null, .unset] [])) rfl (hb hbytes d27)
  have hh5 := q5.trans hh3
  have c6 : Steps p.tables e below (s₁.setTop (entryFrame m #[.ref a, .ref b, .int (Int32.ofNat o), .int (Int32.ofNat len), .null] 6)) (T5.setTop (mkF m 30 #[.val (.ref a), .val (.ref b), .val (.int (Int32.ofNat o)), .val (.int (Int32.ofNat len)), .val .null, .unset] [.int z])) := c4.trans (st5 _ (Steps.refl _))
  have c7 : Steps p.tables e below (s₁.setTop (entryFrame m #[.ref a, .ref b, .int (Int32.ofNat o), .int (Int32.ofNat len), .null] 6)) (T5.setTop (mkF m 36 #[.val (.ref a), .val (.ref b), .val (.int (Int32.ofNat o)), .val (.int (Int32.ofNat len)), .val .null, .unset] [.int (Int32.ofNat len), .int (Int32.ofNat o), .ref b])) := c6.trans (by
    refine XS.ifNo X5.here hexec rfl (hb hbytes d30) rfl (i0_eq_f hz) ?_
    refine XS.aloadN X5.here hexec rfl (hb hbytes d33) rfl rfl ?_
    refine XS.iloadN X5.here hexec rfl (hb hbytes d34) rfl ?_
    refine XS.iloadN X5.here hexec rfl (hb hbytes d35) rfl ?_
    exact Steps.refl _)
  obtain ⟨v8, T8, X8, E8, g8⟩ := X5.callS hexec (Cmp3.law l b A o len) hown (wks W (staticW "java/lang/String" 177 Cmp3.yN)) (wk W Cmp3.tab) (W := 0) (Nat.le_of_ble_eq_true rfl) (Nat.le_of_ble_eq_true rfl) (Nat.le_refl _) (by show 0 + len ≤ len; omega) (g := (mkF m 36 #[.val (.ref a), .val (.ref b), .val (.int (Int32.ofNat o)), .val (.int (Int32.ofNat len)), .val .null, .unset] [.int (Int32.ofNat len), .int (Int32.ofNat o), .ref b])) rfl (by rw [hml]; rfl) c7 (argsL := [.ref b, .int (Int32.ofNat o), .int (Int32.ofNat len)]) (rest := []) rfl rfl (by show 2 * 0 + 0 ≤ _; decide) (hb hbytes d36) (⟨rfl, hA.mv X5.warmed.alike hh5, l1, l2, hp⟩)
  obtain ⟨e8, z8⟩ := E8
  obtain ⟨rfl, N, n1, n2, n3, n4, n5, n6⟩ := NewArr.mv _ T5 s _ _ hh5.symm (Vm.Alike.refl _) rfl e8
  rw [hh5] at z8
  have hB1 := hB.keep X8.warmed.alike (n6 _ _ hB.1)
  have hne : s.heap.size ≠ a := (Nat.ne_of_lt (Array.getElem?_eq_some_iff.mp hB.1).1).symm
  have c9 : Steps p.tables e below (s₁.setTop (entryFrame m #[.ref a, .ref b, .int (Int32.ofNat o), .int (Int32.ofNat len), .null] 6)) (T8.setTop (mkF m 39 #[.val (.ref a), .val (.ref b), .val (.int (Int32.ofNat o)), .val (.int (Int32.ofNat len)), .val .null, .unset] [.ref s.heap.size])) := g8
  have c10 : Steps p.tables e below (s₁.setTop (entryFrame m #[.ref a, .ref b, .int (Int32.ofNat o), .int (Int32.ofNat len), .null] 6)) (T8.setTop (mkF m 45 #[.val (.ref a), .val (.ref b), .val (.int (Int32.ofNat o)), .val (.int (Int32.ofNat len)), .val .null, .val (.ref s.heap.size)] [.int (Int32.ofNat N.slots.size), .ref s.heap.size, .ref a])) := by
    have hc : Steps p.tables e below (s₁.setTop (entryFrame m #[.ref a, .ref b, .int (Int32.ofNat o), .int (Int32.ofNat len), .null] 6)) (T8.setTop (mkF m 45 #[.val (.ref a), .val (.ref b), .val (.int (Int32.ofNat o)), .val (.int (Int32.ofNat len)), .val .null, .val (.ref s.heap.size)] [.int (Int32.ofNat len), .ref s.heap.size, .ref a])) := c9.trans (by
      refine XS.astore X8.here hexec rfl (hb hbytes d39) rfl rfl rfl ?_
      refine XS.aloadN X8.here hexec rfl (hb hbytes d41) rfl rfl ?_
      refine XS.aload X8.here hexec rfl (hb hbytes d42) rfl rfl ?_
      refine XS.iloadN X8.here hexec rfl (hb hbytes d44) rfl ?_
      exact Steps.refl _)
    rw [n4]; exact hc
  obtain ⟨v11, T11, X11, E11, g11⟩ := X8.callS hexec (CodL.law l s.heap.size N) hown (wks W (staticW "java/lang/String" 47 CodL.yN)) (wk W CodL.tab) (W := 1) (Nat.le_of_ble_eq_true rfl) (Nat.le_of_ble_eq_true rfl) (Nat.le_refl _) (by show 0 + len + 0 ≤ len; omega) (g := (mkF m 45 #[.val (.ref a), .val (.ref b), .val (.int (Int32.ofNat o)), .val (.int (Int32.ofNat len)), .val .null, .val (.ref s.heap.size)] [.int (Int32.ofNat N.slots.size), .ref s.heap.size, .ref a])) rfl (by rw [hml]; rfl) c10 (argsL := [.ref s.heap.size, .int (Int32.ofNat N.slots.size)]) (rest := [.ref a]) rfl rfl (by show 2 * 0 + (1 + 0) ≤ _; decide) (hb hbytes d45) (⟨rfl, n1⟩)
  obtain ⟨rfl, q11⟩ := E11
  have hB11 := hB1.mv (X8.warmed.alike.symm.trans X11.warmed.alike) q11
  have c12 : Steps p.tables e below (s₁.setTop (entryFrame m #[.ref a, .ref b, .int (Int32.ofNat o), .int (Int32.ofNat len), .null] 6)) (T11.setTop (mkF m 48 #[.val (.ref a), .val (.ref b), .val (.int (Int32.ofNat o)), .val (.int (Int32.ofNat len)), .val .null, .val (.ref s.heap.size)] [.int 0, .ref a])) := g11
  obtain ⟨T13, X13, p13, bl13, sl13, st13⟩ := X11.finit hexec hown (wk W (.fieldLink "java/lang/String" 15 "java/lang/String" "coder" "B")) (Or.inr ⟨_, (wk W (.laysFinal "java/lang/String" "java/lang/String" "coder" "B"))⟩) (Or.inl ⟨rfl, hnm⟩) f2 (Or.inl rfl) hB11 (t := .byte) (by decide +kernel) rfl (g := (mkF m 48 #[.val (.ref a), .val (.ref b), .val (.int (Int32.ofNat o)), .val (.int (Int32.ofNat len)), .val .null, .val (.ref s.heap.size)] [.int 0, .ref a])) rfl (rest := []) rfl (hb hbytes d48)
  have c14 : Steps p.tables e below (s₁.setTop (entryFrame m #[.ref a, .ref b, .int (Int32.ofNat o), .int (Int32.ofNat len), .null] 6)) (T13.setTop (mkF m 54 #[.val (.ref a), .val (.ref b), .val (.int (Int32.ofNat o)), .val (.int (Int32.ofNat len)), .val .null, .val (.ref s.heap.size)] [.ref s.heap.size, .ref a])) := (c12.trans (st13 _ (Steps.refl _))).trans (by
    refine XS.aloadN X13.here hexec rfl (hb hbytes d51) rfl rfl ?_
    refine XS.aload X13.here hexec rfl (hb hbytes d52) rfl rfl ?_
    exact Steps.refl _)
  obtain ⟨T15, X15, p15, bl15, sl15, st15⟩ := X13.finit hexec hown (wk W (.fieldLink "java/lang/String" 9 "java/lang/String" "value" "[B")) (Or.inr ⟨_, (wk W (.laysFinal "java/lang/String" "java/lang/String" "value" "[B"))⟩) (Or.inl ⟨rfl, hnm⟩) f1 (Or.inl rfl) bl13 (t := (.array .byte)) (by decide +kernel) rfl (g := (mkF m 54 #[.val (.ref a), .val (.ref b), .val (.int (Int32.ofNat o)), .val (.int (Int32.ofNat len)), .val .null, .val (.ref s.heap.size)] [.ref s.heap.size, .ref a])) rfl (rest := []) rfl (hb hbytes d54)
  have c16 : Steps p.tables e below (s₁.setTop (entryFrame m #[.ref a, .ref b, .int (Int32.ofNat o), .int (Int32.ofNat len), .null] 6)) (T15.setTop (mkF m 57 #[.val (.ref a), .val (.ref b), .val (.int (Int32.ofNat o)), .val (.int (Int32.ofNat len)), .val .null, .val (.ref s.heap.size)] [])) := c14.trans (st15 _ (Steps.refl _))
  have ap := apart (Or.inr ⟨_, (wk W (.laysFinal "java/lang/String" "java/lang/String" "value" "[B"))⟩) (Or.inr ⟨_, (wk W (.laysFinal "java/lang/String" "java/lang/String" "coder" "B"))⟩) f1 f2 (t₁ := .array .byte) (t₂ := .byte) (by decide +kernel) (by decide +kernel) (by decide)
  have al := X8.warmed.alike.symm.trans X15.warmed.alike
  have n7 : T11.heap[s.heap.size]? = some N := by rw [q11]; exact n1.1
  exact ⟨T15, none, _, _, _, X15, by simp, rfl, by omega, (fun _ => rfl), ⟨rfl, _, N, bl15, ((Same.refl D _).set _ (by simp)).set _ (by simp), sl15, (Cell.slots_setSlot_ne _ ap).trans sl13, n1.keep al (p15.other hne (p13.other hne n7)), n2, by rw [al.findClass]; exact n3, n4, n5, fun y c h1 h2 => p15.other h1 (p13.other h1 (by rw [q11]; exact n6 y c h2)), by rw [p15.2.2, p13.2.2, q11]; exact z8⟩, fun fs hl => c16.trans (X15.returnOut hexec hret (hb hbytes d57) hl)⟩
end New4
namespace New1
def yN : MethodName := ⟨"java/lang/String", "<init>", "([C)V"⟩
abbrev yB : ByteArray := jdk_42_method_3_code
theorem d0 : decode yB 0 = .ok (.aload_n 0, 1) := by decide +kernel
theorem d1 : decode yB 1 = .ok (.aload_n 1, 1) := by decide +kernel
theorem d2 : decode yB 2 = .ok (.iconst 0, 1) := by decide +kernel
theorem d3 : decode yB 3 = .ok (.aload_n 1, 1) := by decide +kernel
theorem d4 : decode yB 4 = .ok (.arraylength, 1) := by decide +kernel
theorem d5 : decode yB 5 = .ok (.aconst_null, 1) := by decide +kernel
theorem d6 : decode yB 6 = .ok (.invokespecial 27, 3) := by decide +kernel
theorem d9 : decode yB 9 = .ok (.return_, 1) := by decide +kernel
def site : List Cond := [New4.tab] ++ initW "java/lang/String" 27 New4.yN
def tab : Cond := tabOf yN yB 2 none site
def P (a : Addr) (D : Cell) (fV fC : Field) (b : Addr) (A : Cell) (z : Int32) (args : Array Value) (s : State) : Prop := args = #[.ref a, .ref b] ∧ Blank "java/lang/String" a D s ∧ Found "java/lang/String" "value" "[B" fV s ∧ Found "java/lang/String" "coder" "B" fC s ∧ Ch b A s ∧ StaticIs s "java/lang/String" "COMPACT_STRINGS" "Z" (.int z) ∧ ¬ z = 0 ∧ 0 < A.slots.size ∧ A.slots.size ≤ 536870912 ∧ ∀ i, i < A.slots.size → ¬ 255 < cv A i
def E (a : Addr) (D : Cell) (fV fC : Field) (A : Cell) (r : Option Value) (s u : State) : Prop := Got a D fV fC A 0 A.slots.size r s u
/-- new String(chars), not empty, no char above 255: a Latin-1 String of their low bytes -/
theorem law (l : Launch) (a : Addr) (D : Cell) (fV fC : Field) (b : Addr) (A : Cell) (z : Int32) : Law l yN 2 1 3 52 yB 2 none site (P a D fV fC b A z) (E a D fV fC A) [⟨a, fC.slot⟩, ⟨a, fV.slot⟩] 1 A.slots.size := by
  refine Law.of_walk (plainFor_of_name (by decide +kernel)) (by decide +kernel) (by decide +kernel) (by decide) (fun _ _ h => by rw [h.1]; rfl) (fun _ U U' hal hh h => ⟨h.1, h.2.1.mv hal hh, h.2.2.1.al hal, h.2.2.2.1.al hal, h.2.2.2.2.1.mv hal hh, h.2.2.2.2.2.1.there hal hh, h.2.2.2.2.2.2⟩) (fun r U U' V V' h1 hal h2 h => Got.mv r U U' V V' h1 hal h2 h) ?_
  intro p e s m args below meth c s₁ X0 hexec hbytes hml hret hlk hnm hown hh0 W hP
  obtain ⟨rfl, hB, f1, f2, hA, s1, hz, l0, l2, hp⟩ := hP
  have c1 : Steps p.tables e below (s₁.setTop (entryFrame m #[.ref a, .ref b] 2)) (s₁.setTop (mkF m 0 #[.val (.ref a), .val (.ref b)] [])) := entry rfl
  have c2 : Steps p.tables e below (s₁.setTop (entryFrame m #[.ref a, .ref b] 2)) (s₁.setTop (mkF m 6 #[.val (.ref a), .val (.ref b)] [.null, .int (Int32.ofNat A.slots.size), .int 0, .ref b, .ref a])) := c1.trans (by
    refine XS.aloadN X0.here hexec rfl (hb hbytes d0) rfl rfl ?_
    refine XS.aloadN X0.here hexec rfl (hb hbytes d1) rfl rfl ?_
    refine iconstV X0.here hexec rfl 0 (hb hbytes d2) (by decide) ?_
    refine XS.aloadN X0.here hexec rfl (hb hbytes d3) rfl rfl ?_
    refine X0.alen hexec (hA.1.mv X0.warmed.alike hh0) rfl rfl (hb hbytes d4) ?_
    refine XS.aconstNull X0.here hexec rfl (hb hbytes d5) ?_
    exact Steps.refl _)
  obtain ⟨v3, T3, X3, E3, g3⟩ := X0.callN hexec (New4.law l a D fV fC b A z 0 A.slots.size) rfl hown (wks W (initW "java/lang/String" 27 New4.yN)) (W New4.tab (by simp only [site, List.mem_cons, List.mem_append, true_or, or_true])) (W := 0) (Nat.le_of_ble_eq_true rfl) (Nat.le_of_ble_eq_true rfl) (Nat.le_refl _) (by show 0 + A.slots.size ≤ A.slots.size; omega) (g := (mkF m 6 #[.val (.ref a), .val (.ref b)] [.null, .int (Int32.ofNat A.slots.size), .int (Int32.ofNat 0), .ref b, .ref a])) rfl (by rw [hml]; rfl) c2 (argsL := [.ref b, .int (Int32.ofNat 0), .int (Int32.ofNat A.slots.size), .null]) (rest := []) rfl rfl (by show 2 * 0 + 0 ≤ _; decide) (hb hbytes d6) (⟨rfl, hB.mv X0.warmed.alike hh0, f1.al X0.warmed.alike, f2.al X0.warmed.alike, hA.mv X0.warmed.alike hh0, s1.there X0.warmed.alike hh0, hz, l0, by omega, l2, fun i hi => by rw [Nat.zero_add]; exact hp i hi⟩)
  have e0 := Got.mv _ s₁ s _ _ hh0.symm (Vm.Alike.refl _) rfl E3
  obtain rfl := e0.1
  have c4 : Steps p.tables e below (s₁.setTop (entryFrame m #[.ref a, .ref b] 2)) (T3.setTop (mkF m 9 #[.val (.ref a), .val (.ref b)] [])) := g3
  exact ⟨T3, none, _, _, _, X3, by simp, rfl, by omega, (fun _ => rfl), e0, fun fs hl => c4.trans (X3.returnOut hexec hret (hb hbytes d9) hl)⟩
theorem pays {l : Launch} {R : Room} {p : Program} {e : Env} {below : List Frame} {s : State} {sargs : Array Value} {len W : Nat} (a : Addr) (D : Cell) (fV fC : Field) (b : Addr) (A : Cell) (z : Int32) (htab : tab.before sargs s = true) (hfr : 4 ≤ R.frames) (hlo : W + 65 ≤ R.locals) :
    Back l R p e below s sargs yN len W (fun A₁ a₁ => A₁.cells + 1 ≤ R.cells ∧ A₁.slots + A.slots.size ≤ R.slots ∧ P a D fV fC b A z a₁ A₁.U) (fun A₁ _ v₁ B₁ => E a D fV fC A v₁ A₁.U B₁.U ∧ B₁.locs = A₁.locs ++ [⟨a, fC.slot⟩, ⟨a, fV.slot⟩] ∧ B₁.cells = A₁.cells + 1 ∧ B₁.slots = A₁.slots + A.slots.size) :=
  (law l a D fV fC b A z).pays htab hfr (by omega)
end New1
/-- the byte, read back as charAt reads it, is the char -/
theorem lo8_mask {x : Int32} (h0 : ¬ x < 0) (h1 : ¬ 255 < x) : lo8 x &&& 255 = x := by
  have t : ∀ k : Fin 256, lo8 (Int32.ofNat k.val) &&& 255 = Int32.ofNat k.val := by decide +kernel
  rw [Int32.lt_iff_toInt_lt] at h0 h1
  have e0 : (0 : Int32).toInt = 0 := rfl
  have e1 : (255 : Int32).toInt = 255 := rfl
  obtain ⟨k, hk⟩ : ∃ k : Nat, x.toInt = k := ⟨x.toInt.toNat, by omega⟩
  have hx : x = Int32.ofNat k := Int32.toInt_inj.mp (by rw [hk, Int32.toInt_ofNat_small (by omega)])
  rw [hx]
  exact t ⟨k, by omega⟩
end StrChars
namespace StrChars.Road
open Jvm Sem ClassFile Op Lib Jvm.Stand Jvm.Free Jvm.Free.XT
open Jvm.Lib.Cold (StaticIs)
abbrev ST : String := "java/lang/String"
/-- every table word that New1's law asks, flat -/
abbrev words : List Jvm.Cond := [.code New1.yN New1.yB 2 none, .initialized ST, .methodLink ST 27 New4.yN, .instanceMethod New4.yN,
  .code New4.yN New4.yB 6 none, .fieldLink ST 38 ST "COMPACT_STRINGS" "Z", .laysFinal ST ST "value" "[B", .fieldLink ST 9 ST "value" "[B", .laysFinal ST ST "coder" "B", .fieldLink ST 15 ST "coder" "B",
  .methodLink ST 1 Lib.objectInit, .instanceMethod Lib.objectInit, .code Lib.objectInit ⟨#[0xb1]⟩ 1 none, .methodLink ST 177 Cmp3.yN, .static Cmp3.yN, .methodLink ST 47 CodL.yN, .static CodL.yN,
  .code Cmp3.yN Cmp3.yB 6 (some (.array .byte)), .initialized U16, .arrayClass .byte, .methodLink U16 115 Cmp5.yN, .static Cmp5.yN, .code Cmp5.yN Cmp5.yB 7 (some .int), .code CodL.yN CodL.yB 2 (some .byte)]
theorem tab_of {a : Array Value} {s : State} (h : ∀ w ∈ words, w.before a s = true) : New1.tab.before a s = true := by
  have h5 : Cmp5.tab.before a s = true := unparts (wk h (.code Cmp5.yN Cmp5.yB 7 (some .int))) (wks h (.initialized Cmp5.yN.cls :: Cmp5.site))
  have hc : CodL.tab.before a s = true := unparts (wk h (.code CodL.yN CodL.yB 2 (some .byte))) (wks h (.initialized CodL.yN.cls :: CodL.site))
  have q5 : ∀ w ∈ Cmp5.tab :: words, w.before a s = true := fun w hw => (List.mem_cons.mp hw).elim (fun e => e ▸ h5) (h w)
  have h3 : Cmp3.tab.before a s = true := unparts (wk q5 (.code Cmp3.yN Cmp3.yB 6 (some (.array .byte)))) (wks q5 (.initialized Cmp3.yN.cls :: Cmp3.site))
  have q3 : ∀ w ∈ Cmp3.tab :: CodL.tab :: words, w.before a s = true := fun w hw => (List.mem_cons.mp hw).elim (fun e => e ▸ h3) fun hw => (List.mem_cons.mp hw).elim (fun e => e ▸ hc) (h w)
  have h4 : New4.tab.before a s = true := unparts (wk q3 (.code New4.yN New4.yB 6 none)) (wks q3 (.initialized New4.yN.cls :: New4.site))
  have q4 : ∀ w ∈ New4.tab :: words, w.before a s = true := fun w hw => (List.mem_cons.mp hw).elim (fun e => e ▸ h4) (h w)
  exact unparts (wk q4 (.code New1.yN New1.yB 2 none)) (wks q4 (.initialized New1.yN.cls :: New1.site))
/-- the words ride from the start Z to the walk's own state -/
theorem moved {Z s : State} {a0 args : Array Value} (hZ : Z.Warmed39 s.vm) (hw : ∀ d ∈ words, d.before a0 Z = true) : ∀ d ∈ words, d.before args s = true := fun d hd => by
  have q := hw d hd
  have t : ∀ d ∈ words, d = .arrayClass .byte ∨ (d.onTables && d.keepsFace) = true := by decide +kernel
  rcases t d hd with rfl | t
  · exact RoadKit.mvA hZ q
  · exact RoadKit.mv hZ q t
/-- WHAT COMES BACK, over the tables of the start Z: h the heap at the call, h' behind it -/
def Q (Z : State) (x : Addr) (A : Cell) (h : Heap) (v : Option Value) (h' : Heap) (L : List Loc) : Prop := v = none ∧ (∀ y ∈ L, y.base = x) ∧ RoadKit.Keep h h' [x] ∧ h'.size = h.size + 1 ∧ RoadKit.Exa Z h' x ST ∧ RoadKit.Fld Z h' x ST "value" "[B" (.ref h.size) ∧ RoadKit.Fld Z h' x ST "coder" "B" (.int 0) ∧
  (∃ V : Cell, RoadKit.Arr Z h' h.size V .byte ∧ V.vm = .none ∧ Z.vm.findClass "[B" = some V.cls ∧ V.slots.size = A.slots.size ∧ ∀ j, j < A.slots.size → V.slots[j]? = some (.int (lo8 (cv A j)))) ∧
  ∀ (O n d : String) (w : Value), RoadKit.Fld Z h x O n d w → RoadKit.slotOf Z O n d ≠ RoadKit.slotOf Z ST "value" "[B" → RoadKit.slotOf Z O n d ≠ RoadKit.slotOf Z ST "coder" "B" → RoadKit.Fld Z h' x O n d w
/-- **new String(chars) AT A CALL, IN THE ROAD'S FORM**: for specialBack behind newO: x the fresh String, b the char[] with the cell A -/
theorem back {p : Program} {l : Launch} {e : Env} {R : Room} {s : State} {args : Array Value} {below : List Frame} {len W : Nat} {Z : State} {a0 : Array Value} {h : Heap} (hZ : Z.Warmed39 s.vm) (hw : ∀ d ∈ words, d.before a0 Z = true) {kI : Nat} (wi : (Jvm.Cond.instantiable ST kI).before a0 Z = true)
    {x b : Addr} {A : Cell} {z : Int32} {v0 c0 : Value} (E : RoadKit.Exa Z h x ST) (V : RoadKit.Fld Z h x ST "value" "[B" v0) (C : RoadKit.Fld Z h x ST "coder" "B" c0) (K : RoadKit.Arr Z h b A .char) (hty : Typed .char A) (S : RoadKit.Sta Z h ST "COMPACT_STRINGS" "Z" (.int z)) (hz : ¬ z = 0)
    (l0 : 0 < A.slots.size) (l2 : A.slots.size ≤ 536870912) (hp : ∀ i, i < A.slots.size → ¬ 255 < cv A i) (hfr : 4 ≤ R.frames) (hlo : W + 65 ≤ R.locals) :
    Back l R p e below s args New1.yN len W (fun P a => a = #[.ref x, .ref b] ∧ P.U.heap = h ∧ P.cells + 1 ≤ R.cells ∧ P.slots + A.slots.size ≤ R.slots)
      (fun P _ v B => ∃ L, Q Z x A h v B.U.heap L ∧ B.locs = P.locs ++ L ∧ B.cells = P.cells + 1 ∧ B.slots = P.slots + A.slots.size) := by
  intro m meth c P g ig mk a X hg hsize hdg hW hn hp'
  obtain ⟨rfl, rfl, r1, r2⟩ := hp'
  have al : Z.vm.Alike P.U.vm := hZ.alike.trans X.warmed.alike
  obtain ⟨D, cfV, kV, iV, fV, hD, gV, stV, knV, obV, asV, slV⟩ := id V
  obtain ⟨D', cfC, kC, iC, fC, hD', gC, stC, -, -, asC, slC⟩ := id C
  cases hD.symm.trans hD'
  obtain ⟨D2, kD, e1, e2, e3, e4, e5⟩ := id E
  cases hD.symm.trans e1
  obtain ⟨c2, k2, i1, i2, i3, -⟩ := Cond.instantiable_spec wi
  cases e2.symm.trans i1
  cases e3.symm.trans i2
  obtain ⟨kU, u1, u2⟩ := al.2.2 _ _ e3
  have hB : Blank ST x D P.U := ⟨hD, ⟨knV, fun q hq => by rw [hq] at obV; cases obV⟩, by rw [al.findClass]; exact e2, kU, u1, by rw [u2]; exact i3, by rw [u2]; exact e5 i3⟩
  have F1 : Found ST "value" "[B" fV P.U := ⟨SBG.found_only al ⟨cfV, kV, iV, gV⟩, stV⟩
  have F2 : Found ST "coder" "B" fC P.U := ⟨SBG.found_only al ⟨cfC, kC, iC, gC⟩, stC⟩
  have hA : Ch b A P.U := ⟨⟨K.1, State.isArrayOf_alike al K.2.1, K.2.2, by omega⟩, hty⟩
  have hS : StaticIs P.U ST "COMPACT_STRINGS" "Z" (.int z) := by
    obtain ⟨cfS, iS, kS, fS, st, cS, t1, t2, t3, t4, t5, t6, t7⟩ := S
    exact StaticIs.there (s := { Z with heap := P.U.heap }) ⟨cfS, iS, kS, fS, st, cS, t1, t2, t3, t4, t5, (fun q => by rw [q] at t6; cases t6), t7⟩ al rfl
  obtain ⟨v, B, X', ⟨⟨hv, E', V', q1, q2, q3, q4, q5, q6, q7, q8, q9, q10, q11⟩, hl, hc, hs⟩, st⟩ := New1.pays x D fV fC b A z (tab_of (moved hZ hw)) hfr hlo m meth c P g ig mk _ X hg hsize hdg hW hn ⟨r1, r2, rfl, hB, F1, F2, hA, hS, hz, l0, l2, hp⟩
  have al' : Z.vm.Alike B.U.vm := hZ.alike.trans X'.warmed.alike
  have hsz : E'.slots.size = D.slots.size := by
    obtain ⟨-, -, -, kB, w1, w2, w3⟩ := q1
    obtain ⟨kB', y1, y2⟩ := al'.2.2 _ _ e3
    rw [q2.2.1] at w1
    cases w1.symm.trans y1
    rw [w3, e5 i3, y2]
  refine ⟨v, B, X', ⟨_, ⟨hv, ?_, ⟨by omega, fun y cy hy hn' => q10 y cy (by simpa using hn') hy, fun y cy hy => ?_⟩, q11, ⟨E', _, q1.1, by rw [q2.2.1]; exact e2, by rw [q2.2.1]; exact e3, by rw [q2.1]; exact obV, fun _ => by rw [hsz]; exact e5 i3⟩,
    ⟨E', cfV, kV, iV, fV, q1.1, gV, stV, by rw [q2.1]; exact knV, by rw [q2.1]; exact obV, by rw [q2.2.1]; exact asV, q3⟩, ⟨E', cfC, kC, iC, fC, q1.1, gC, stC, by rw [q2.1]; exact knV, by rw [q2.1]; exact obV, by rw [q2.2.1]; exact asC, q4⟩,
    ⟨V', ⟨q5.1, State.isArrayOf_alike al'.symm q5.2.1, q5.2.2.1⟩, q6, by rw [← al'.findClass]; exact q7, q8, fun j hj => by have := q9 j hj; rwa [Nat.zero_add] at this⟩, fun O n d w F n1 n2 => ?_⟩, hl, hc, hs⟩, st⟩
  · intro y hy
    simp only [List.mem_cons, List.not_mem_nil, or_false] at hy
    rcases hy with rfl | rfl <;> rfl
  · by_cases q : y = x
    · subst q
      cases hD.symm.trans hy
      exact ⟨E', q1.1, q2.2.1, q2.1, hsz⟩
    · exact ⟨cy, q10 y cy q hy, rfl, rfl, rfl⟩
  · obtain ⟨D3, cf, k, i, f, g1, g2, g3, g4, g5, g6, g7⟩ := F
    cases hD.symm.trans g1
    simp only [RoadKit.slotOf, g2, gV, gC, Option.map_some, Option.getD_some] at n1 n2
    exact ⟨E', cf, k, i, f, q1.1, g2, g3, by rw [q2.1]; exact g4, by rw [q2.1]; exact g5, by rw [q2.2.1]; exact g6, by rw [q2.2.2 f.slot (by simp [n1, n2])]; exact g7⟩
end StrChars.Road
namespace StrChars.Road
open Jvm Sem ClassFile Op Lib Jvm.Stand Jvm.Free Jvm.Free.XT
/-- WHAT COMES BACK, the byte[] as a list of values -/
def QA (Z : State) (x : Addr) (zn : Int32) (cs : List Int32) (h : Heap) (v : Option Value) (h' : Heap) (L : List Loc) : Prop := v = none ∧ (∀ y ∈ L, y.base = x) ∧ RoadKit.Keep h h' [x] ∧ h'.size = h.size + 1 ∧ RoadKit.Exa Z h' x ST ∧ RoadKit.Fld Z h' x ST "value" "[B" (.ref h.size) ∧ RoadKit.Fld Z h' x ST "coder" "B" (.int 0) ∧
  (∃ kb, Z.vm.findClass "[B" = some kb ∧ RoadKit.Arv Z h' h.size kb .byte zn (cs.map fun c => .int (lo8 c)) (.int 0)) ∧
  ∀ (O n d : String) (w : Value), RoadKit.Fld Z h x O n d w → RoadKit.slotOf Z O n d ≠ RoadKit.slotOf Z ST "value" "[B" → RoadKit.slotOf Z O n d ≠ RoadKit.slotOf Z ST "coder" "B" → RoadKit.Fld Z h' x O n d w
/-- **new String(chars) AT A CALL, THE ARRAYS AS LISTS**: the char[] at b holds cs, not empty, no char above 255 -/
theorem backArv {p : Program} {l : Launch} {e : Env} {R : Room} {s : State} {args : Array Value} {below : List Frame} {len W : Nat} {Z : State} {a0 : Array Value} {h : Heap} (hZ : Z.Warmed39 s.vm) (hw : ∀ d ∈ words, d.before a0 Z = true) {kI : Nat} (wi : (Jvm.Cond.instantiable ST kI).before a0 Z = true)
    {x b : Addr} {k : ClassId} {zn z : Int32} {cs : List Int32} {dv v0 c0 : Value} (E : RoadKit.Exa Z h x ST) (V : RoadKit.Fld Z h x ST "value" "[B" v0) (C : RoadKit.Fld Z h x ST "coder" "B" c0) (K : RoadKit.Arv Z h b k .char zn (cs.map Value.int) dv) (S : RoadKit.Sta Z h ST "COMPACT_STRINGS" "Z" (.int z)) (hz : ¬ z = 0)
    (hlen : zn.toNatClampNeg = cs.length) (h0 : 0 < cs.length) (hbig : cs.length ≤ 536870912) (hall : ∀ c ∈ cs, ¬ 255 < c) (hfr : 4 ≤ R.frames) (hlo : W + 65 ≤ R.locals) :
    Back l R p e below s args New1.yN len W (fun P a => a = #[.ref x, .ref b] ∧ P.U.heap = h ∧ P.cells + 1 ≤ R.cells ∧ P.slots + cs.length ≤ R.slots)
      (fun P _ v B => ∃ L, QA Z x zn cs h v B.U.heap L ∧ B.locs = P.locs ++ L ∧ B.cells = P.cells + 1 ∧ B.slots = P.slots + cs.length) := by
  obtain ⟨A, K1, K2, K3, K4, K5, K6⟩ := K
  have e : A.slots.size = cs.length := K3.trans hlen
  have hat : ∀ (i : Nat) (hi : i < cs.length), A.slots[i]? = some (.int cs[i]) := fun i hi => by rw [K5 i (by omega)]; simp [List.getD_eq_getElem?_getD, hi]
  have hcv : ∀ (i : Nat) (hi : i < cs.length), cv A i = cs[i] := fun i hi => by unfold cv; rw [hat i hi]
  have hty : Typed .char A := fun i v hv => by
    have hi : i < A.slots.size := (Array.getElem?_eq_some_iff.mp hv).1
    have q := K5 i hi
    rw [hv] at q
    rw [Option.some.inj q]
    exact K6 i hi
  refine Back.mono (back hZ hw wi E V C K1 hty S hz (by omega) (by omega) (fun i hi => by rw [hcv i (by omega)]; exact hall _ (List.getElem_mem _)) hfr hlo) (fun P a hp => ⟨hp.1, hp.2.1, hp.2.2.1, by rw [e]; exact hp.2.2.2⟩) (fun P a v B hp hq => ?_)
  obtain ⟨L, ⟨q1, q2, q3, q4, q5, q6, q7, ⟨V', v1, v2, v3, v4, v5⟩, q9⟩, hl, hc, hs⟩ := hq
  refine ⟨L, ⟨q1, q2, q3, q4, q5, q6, q7, ⟨V'.cls, v3, V', v1, rfl, by rw [v4, e, hlen], K4, fun i hi => ?_, fun i hi => ?_⟩, q9⟩, hl, hc, by rw [hs, e]⟩
  · have hi' : i < cs.length := by omega
    rw [v5 i (by omega), hcv i hi']; simp [List.getD_eq_getElem?_getD, hi']
  · have hi' : i < cs.length := by omega
    simp only [List.getD_eq_getElem?_getD, List.getElem?_map, List.getElem?_eq_getElem hi', Option.map_some, Option.getD_some]
    exact fits_lo8 _
end StrChars.Road
namespace StrChars.Road
open Jvm Sem ClassFile Op Lib Jvm.Stand Jvm.Free Jvm.Free.XT
/-- WHAT COMES BACK, in the writer's own shape -/
def QV (Z : State) (x : Addr) (N : Int32) (bs : List Int32) (h : Heap) (n0 : Nat) (v : Option Value) (h' : Heap) (L : List Loc) : Prop := v = none ∧ RoadKit.Fr n0 L ∧ RoadKit.Keep h h' [x] ∧ RoadKit.Exa Z h' x ST ∧ RoadKit.Fld Z h' x ST "coder" "B" (.int 0) ∧
  ∃ (t : Addr) (kb : ClassId), n0 ≤ t ∧ h.size ≤ t ∧ ¬ t = x ∧ RoadKit.Fld Z h' x ST "value" "[B" (.ref t) ∧ RoadKit.Arv Z h' t kb .byte N (bs.map Value.int) (.int 0)
/-- **new String(chars) AT A CALL, FOR THE WRITER**: a char[] of n known ints, each 0 to 255 -/
theorem backV {p : Program} {l : Launch} {e : Env} {R : Room} {s : State} {args : Array Value} {below : List Frame} {len W : Nat} {Z : State} {a0 : Array Value} {h : Heap} (hZ : Z.Warmed39 s.vm) (hw : ∀ d ∈ words, d.before a0 Z = true) {kI : Nat} (wi : (Jvm.Cond.instantiable ST kI).before a0 Z = true)
    {x b : Addr} {kC : ClassId} {cs bs : List Int32} {d v0 c0 : Value} {z N : Int32} {n n0 : Nat} (hx0 : n0 ≤ x) (hh0 : n0 ≤ h.size) (E : RoadKit.Exa Z h x ST) (V : RoadKit.Fld Z h x ST "value" "[B" v0) (C : RoadKit.Fld Z h x ST "coder" "B" c0) (K : RoadKit.Arv Z h b kC .char N (cs.map Value.int) d) (S : RoadKit.Sta Z h ST "COMPACT_STRINGS" "Z" (.int z)) (hz : ¬ z = 0)
    (hn : cs.length = n) (hN : N = Int32.ofNat n) (l0 : 0 < n) (l2 : n ≤ 4000) (hp : ∀ c ∈ cs, ¬ c < 0 ∧ ¬ (255 : Int32) < c) (hb : bs = cs.map (fun c => c.toInt8.toInt32)) (hfr : 4 ≤ R.frames) (hlo : W + 65 ≤ R.locals) :
    Back l R p e below s args (⟨"java/lang/String", "<init>", "([C)V"⟩ : MethodName) len W (fun P a => a = #[.ref x, .ref b] ∧ P.U.heap = h ∧ P.cells + 1 ≤ R.cells ∧ P.slots + n ≤ R.slots)
      (fun P _ v B => ∃ L, QV Z x N bs h n0 v B.U.heap L ∧ B.locs = P.locs ++ L ∧ B.cells = P.cells + 1 ∧ B.slots = P.slots + n) := by
  subst hn hN hb
  refine Back.mono (backArv hZ hw wi E V C K S hz (n32 (by omega)) l0 (by omega) (fun c hc => (hp c hc).2) hfr hlo) (fun P a hp => hp) (fun P a v B hp hq => ?_)
  obtain ⟨L, ⟨q1, q2, q3, q4, q5, q6, q7, ⟨kb, v1, v2⟩, q9⟩, hl, hc, hs⟩ := hq
  exact ⟨L, ⟨q1, fun y hy => by rw [q2 y hy]; exact hx0, q3, q5, q7, h.size, kb, hh0, Nat.le_refl _, Nat.ne_of_gt E.lt, q6, by rw [List.map_map]; exact v2⟩, hl, hc, hs⟩
end StrChars.Road
namespace StrChars
open Jvm Sem ClassFile Op Lib Jvm.Stand Jvm.Free.XT Jvm.Free.ALB Jvm.Free.JM Jvm.Free
open Jvm.Lib.Cold (StaticIs)
def hi8 (x : Int32) : Int32 := lo8 (x >>> ((8 : Int32) &&& 31))
/-- what StringUTF16.getChar makes of two bytes -/
def pairCh (u v : Int32) : Int32 := (((u &&& 255) <<< ((0 : Int32) &&& 31)) ||| ((v &&& 255) <<< ((8 : Int32) &&& 31))).toUInt32.toUInt16.toUInt32.toInt32
theorem lo8_and (x : Int32) : (lo8 x &&& 255).toBitVec.toNat = x.toBitVec.toNat % 256 := by
  have h : (lo8 x).toBitVec = (x.toBitVec.signExtend 8).signExtend 32 := by rw [lo8, Int8.toBitVec_toInt32, Int32.toBitVec_toInt8]
  rw [Int32.toBitVec_and, BitVec.toNat_and, h]
  have e : ((x.toBitVec.signExtend 8).signExtend 32).toNat % 256 = x.toBitVec.toNat % 256 := by
    rw [BitVec.toNat_signExtend]
    have hlt := x.toBitVec.isLt
    simp only [BitVec.toNat_setWidth, BitVec.toNat_signExtend]
    split <;> split <;> omega
  rw [← e]
  exact Nat.and_two_pow_sub_one_eq_mod _ 8
theorem pair_says {c : Int32} (h0 : ¬ c < 0) (h1 : ¬ 65535 < c) : pairCh (lo8 c) (hi8 c) = c := by
  rw [Int32.lt_iff_toInt_lt] at h0 h1
  have e0 : (0 : Int32).toInt = 0 := rfl
  have e1 : (65535 : Int32).toInt = 65535 := rfl
  have hc : c.toInt = c.toBitVec.toNat := by
    have := c.toBitVec.isLt
    have e : c.toInt = c.toBitVec.toInt := rfl
    rw [e] at h0 h1
    rw [e]
    rw [BitVec.toInt_eq_toNat_cond] at h0 h1 ⊢
    split at h0 <;> split <;> omega
  have hn : c.toBitVec.toNat < 65536 := by omega
  have a1 := lo8_and c
  have a2 : (hi8 c &&& 255).toBitVec.toNat = c.toBitVec.toNat / 256 := by
    rw [hi8, lo8_and]
    have e : ((8 : Int32) &&& 31) = 8 := by decide
    rw [e, Int32.toBitVec_shiftRight]
    have e2 : ((8 : Int32).toBitVec.smod 32) = 8#32 := by decide
    rw [e2, BitVec.sshiftRight_eq', BitVec.toNat_sshiftRight_of_msb_false (by rw [BitVec.msb_eq_false_iff_two_mul_lt]; omega)]
    show c.toBitVec.toNat >>> 8 % 256 = _
    rw [Nat.shiftRight_eq_div_pow]
    omega
  unfold pairCh
  apply Int32.toBitVec_inj.mp
  apply BitVec.eq_of_toNat_eq
  have f0 : ((0 : Int32) &&& 31) = 0 := by decide
  have f8 : ((8 : Int32) &&& 31) = 8 := by decide
  rw [f0, f8]
  have g : (((lo8 c &&& 255) <<< (0 : Int32)) ||| ((hi8 c &&& 255) <<< (8 : Int32))).toBitVec.toNat = c.toBitVec.toNat := by
    rw [Int32.toBitVec_or, Int32.toBitVec_shiftLeft, Int32.toBitVec_shiftLeft]
    have s0 : ((0 : Int32).toBitVec.smod 32) = 0#32 := by decide
    have s8 : ((8 : Int32).toBitVec.smod 32) = 8#32 := by decide
    rw [s0, s8, BitVec.toNat_or]
    simp only [BitVec.shiftLeft_eq', BitVec.toNat_shiftLeft, a1, a2]
    show (c.toBitVec.toNat % 256) <<< 0 % 2 ^ 32 ||| (c.toBitVec.toNat / 256) <<< 8 % 2 ^ 32 = _
    rw [Nat.shiftLeft_zero, Nat.mod_eq_of_lt (show c.toBitVec.toNat % 256 < 2 ^ 32 by omega), Nat.mod_eq_of_lt (show (c.toBitVec.toNat / 256) <<< 8 < 2 ^ 32 by rw [Nat.shiftLeft_eq]; omega), Nat.or_comm, ← Nat.shiftLeft_add_eq_or_of_lt (by omega), Nat.shiftLeft_eq]
    omega
  show BitVec.toNat (((((lo8 c &&& 255) <<< (0 : Int32)) ||| ((hi8 c &&& 255) <<< (8 : Int32))).toBitVec.setWidth 16).setWidth 32) = _
  rw [BitVec.toNat_setWidth, BitVec.toNat_setWidth, g]
  omega
end StrChars
namespace StrChars
open Jvm Sem ClassFile Op Lib Jvm.Stand Jvm.Free.XT Jvm.Free.ALB Jvm.Free.JM Jvm.Free
open Jvm.Lib.Cold (StaticIs)
/-- the array's cell V codes the n chars f 0 .. f (n - 1) by the coder cd, as the JDK does: coder 1 just where some char is above 255 -/
def Cod (cd : Int32) (n : Nat) (f : Nat → Int32) (V : Cell) : Prop := (cd = 0 ∧ V.slots.size = n ∧ ∀ j, j < n → V.slots[j]? = some (.int (lo8 (f j))) ∧ ¬ 255 < f j) ∨ (cd = 1 ∧ V.slots.size = 2 * n ∧ (∀ j, j < n → V.slots[2 * j]? = some (.int (lo8 (f j))) ∧ V.slots[2 * j + 1]? = some (.int (hi8 (f j)))) ∧ ∃ j, j < n ∧ 255 < f j)
/-- **x is a String of the n chars f 0 .. f (n - 1)**, Latin-1 or UTF-16; its array at t has the cell V -/
def Txt (x t : Addr) (V : Cell) (cd : Int32) (n : Nat) (f : Nat → Int32) (U : State) : Prop := Exact "java/lang/String" x U ∧ Has x "java/lang/String" "value" "[B" (.ref t) U ∧ Has x "java/lang/String" "coder" "B" (.int cd) U ∧ XT.Arr .byte t V U ∧ Cod cd n f V ∧ ∀ j, j < n → ¬ f j < 0 ∧ ¬ 65535 < f j
theorem Txt.mv {x t : Addr} {V : Cell} {cd : Int32} {n : Nat} {f : Nat → Int32} {U U' : State} (h : Txt x t V cd n f U) (hal : U.vm.Alike U'.vm) (hh : U'.heap = U.heap) : Txt x t V cd n f U' := ⟨h.1.mv hal hh, h.2.1.mv hal hh, h.2.2.1.mv hal hh, h.2.2.2.1.mv hal hh, h.2.2.2.2⟩
end StrChars
namespace StrChars.Road
open Jvm Sem ClassFile Op Lib Jvm.Stand Jvm.Free Jvm.Free.XT
open Jvm.Lib.Cold (StaticIs)
theorem consq {a : Array Value} {s : State} {c : Jvm.Cond} {L : List Jvm.Cond} (h0 : c.before a s = true) (h : ∀ w ∈ L, w.before a s = true) : ∀ w ∈ c :: L, w.before a s = true := fun w hw => (List.mem_cons.mp hw).elim (fun e => e ▸ h0) (h w)
/-- the bytes of the chars cs, low before high -/
def wideBytes : List Int32 → List Value
  | [] => []
  | c :: cs => .int (lo8 c) :: .int (hi8 c) :: wideBytes cs
theorem wide_lo (d : Value) : ∀ (cs : List Int32) (j : Nat), j < cs.length → (wideBytes cs).getD (2 * j) d = .int (lo8 (cs.getD j 0))
  | [], j, h => absurd h (Nat.not_lt_zero j)
  | c :: cs, 0, _ => rfl
  | c :: cs, j + 1, h => by
    have q := wide_lo d cs j (by simpa using h)
    rw [show 2 * (j + 1) = 2 * j + 1 + 1 from by omega]
    simpa [wideBytes] using q
theorem wide_hi (d : Value) : ∀ (cs : List Int32) (j : Nat), j < cs.length → (wideBytes cs).getD (2 * j + 1) d = .int (hi8 (cs.getD j 0))
  | [], j, h => absurd h (Nat.not_lt_zero j)
  | c :: cs, 0, _ => rfl
  | c :: cs, j + 1, h => by
    have q := wide_hi d cs j (by simpa using h)
    rw [show 2 * (j + 1) + 1 = 2 * j + 1 + 1 + 1 from by omega]
    simpa [wideBytes] using q
theorem low_at (d : Value) (cs : List Int32) (j : Nat) (h : j < cs.length) : (cs.map fun c => Value.int (lo8 c)).getD j d = .int (lo8 (cs.getD j 0)) := by
  simp [List.getD_eq_getElem?_getD, h]
/-- an array of N2 bytes vs codes the chars cs by the coder cd -/
def CodA (cs : List Int32) (cd N2 : Int32) (vs : List Value) : Prop := (cd = 0 ∧ N2 = Int32.ofNat cs.length ∧ vs = (cs.map fun c => Value.int (lo8 c)) ∧ ∀ c ∈ cs, ¬ 255 < c) ∨ (cd = 1 ∧ N2 = Int32.ofNat (2 * cs.length) ∧ vs = wideBytes cs ∧ ∃ c ∈ cs, 255 < c)
theorem CodA.cod {cs : List Int32} {cd N2 : Int32} {vs : List Value} {V : Cell} (h : CodA cs cd N2 vs) (hn : 2 * cs.length < 2 ^ 31) (hs : V.slots.size = N2.toNatClampNeg) (hv : RoadKit.Has V vs (.int 0)) : Cod cd cs.length (fun j => cs.getD j 0) V := by
  rcases h with ⟨rfl, rfl, rfl, h⟩ | ⟨rfl, rfl, rfl, c, hc, hw⟩
  · rw [n32 (by omega)] at hs
    exact Or.inl ⟨rfl, hs, fun j hj => ⟨by rw [hv j (by omega), low_at _ _ _ hj], by
      have e : cs.getD j 0 = cs[j] := by simp [List.getD_eq_getElem?_getD, hj]
      show ¬ 255 < cs.getD j 0
      rw [e]; exact h _ (List.getElem_mem _)⟩⟩
  · rw [n32 (by omega)] at hs
    obtain ⟨j, hj, rfl⟩ := List.getElem_of_mem hc
    exact Or.inr ⟨rfl, hs, fun j hj => ⟨by rw [hv _ (by omega), wide_lo _ _ _ hj], by rw [hv _ (by omega), wide_hi _ _ _ hj]⟩, j, hj, by
      have e : cs.getD j 0 = cs[j] := by simp [List.getD_eq_getElem?_getD, hj]
      show 255 < cs.getD j 0
      rw [e]; exact hw⟩
/-- an object of exactly java/lang/String, its two fields found: as the laws ask it -/
theorem strObj {Z U : State} {a0 : Array Value} {kI : Nat} (wi : (Jvm.Cond.instantiable ST kI).before a0 Z = true) (al : Z.vm.Alike U.vm) {x : Addr} {v0 c0 : Value} (E : RoadKit.Exa Z U.heap x ST) (V : RoadKit.Fld Z U.heap x ST "value" "[B" v0) (C : RoadKit.Fld Z U.heap x ST "coder" "B" c0) :
    ∃ (D : Cell) (fV fC : Field), Blank ST x D U ∧ Found ST "value" "[B" fV U ∧ Found ST "coder" "B" fC U ∧ D.slots[fV.slot]? = some v0 ∧ D.slots[fC.slot]? = some c0 ∧ RoadKit.slotOf Z ST "value" "[B" = fV.slot ∧ RoadKit.slotOf Z ST "coder" "B" = fC.slot := by
  obtain ⟨D, cfV, kV, iV, fV, hD, gV, stV, knV, obV, asV, slV⟩ := V
  obtain ⟨D', cfC, kC, iC, fC, hD', gC, stC, -, -, asC, slC⟩ := C
  cases hD.symm.trans hD'
  obtain ⟨D2, kD, e1, e2, e3, e4, e5⟩ := E
  cases hD.symm.trans e1
  obtain ⟨c2, k2, i1, i2, i3, -⟩ := Cond.instantiable_spec wi
  cases e2.symm.trans i1
  cases e3.symm.trans i2
  obtain ⟨kU, u1, u2⟩ := al.2.2 _ _ e3
  exact ⟨D, fV, fC, ⟨hD, ⟨knV, fun q hq => by rw [hq] at obV; cases obV⟩, by rw [al.findClass]; exact e2, kU, u1, by rw [u2]; exact i3, by rw [u2]; exact e5 i3⟩, ⟨SBG.found_only al ⟨cfV, kV, iV, gV⟩, stV⟩, ⟨SBG.found_only al ⟨cfC, kC, iC, gC⟩, stC⟩, slV, slC, by simp [RoadKit.slotOf, gV], by simp [RoadKit.slotOf, gC]⟩
theorem sta_is {Z U : State} (al : Z.vm.Alike U.vm) {C n d : String} {v : Value} (S : RoadKit.Sta Z U.heap C n d v) : StaticIs U C n d v := by
  obtain ⟨cfS, iS, kS, fS, st, cS, t1, t2, t3, t4, t5, t6, t7⟩ := S
  exact StaticIs.there (s := { Z with heap := U.heap }) ⟨cfS, iS, kS, fS, st, cS, t1, t2, t3, t4, t5, (fun q => by rw [q] at t6; cases t6), t7⟩ al rfl
end StrChars.Road
namespace StrChars
open Jvm Sem ClassFile Op Lib Jvm.Stand Jvm.Free.XT Jvm.Free.ALB Jvm.Free.JM Jvm.Free
open Jvm.Lib.Cold (StaticIs)
/-- what place i of a byte[]'s cell holds -/
def yv (A : Cell) (i : Nat) : Int32 := match A.slots[i]? with | some (.int x) => x | _ => 0
theorem yv_get {a : Addr} {A : Cell} {U : State} (h : XT.Arr .byte a A U) (ht : Typed .byte A) {i : Nat} (hi : i < A.slots.size) : A.slots[i]? = some (.int (yv A i)) := by
  have e := Array.getElem?_eq_getElem hi
  have f := ht i _ e
  unfold yv; rw [e]
  generalize A.slots[i] = v at f
  cases v <;> simp [fits] at f ⊢
/-- the two arrays are equal, place for place -/
def EqC (A B : Cell) : Prop := A.slots.size = B.slots.size ∧ ∀ i, i < A.slots.size → yv A i = yv B i
/-- a boolean that says whether p -/
def Says01 (q : Prop) (r : Option Value) (s u : State) : Prop := ∃ v : Int32, r = some (.int v) ∧ u.heap = s.heap ∧ ((v = 1 ∧ q) ∨ (v = 0 ∧ ¬ q))
theorem Says01.mv {q : Prop} : ∀ r (U U' V V' : State), U'.heap = U.heap → V.vm.Alike V'.vm → V'.heap = V.heap → Says01 q r U V → Says01 q r U' V' :=
  fun r U U' V V' h1 _ h2 ⟨v, a, b, c⟩ => ⟨v, a, by rw [h1, h2]; exact b, c⟩
namespace LEq
def yN : MethodName := ⟨"java/lang/StringLatin1", "equals", "([B[B)Z"⟩
abbrev yB : ByteArray := jdk_43_method_13_code
theorem d0 : decode yB 0 = .ok (.aload_n 0, 1) := by decide +kernel
theorem d1 : decode yB 1 = .ok (.arraylength, 1) := by decide +kernel
theorem d2 : decode yB 2 = .ok (.aload_n 1, 1) := by decide +kernel
theorem d3 : decode yB 3 = .ok (.arraylength, 1) := by decide +kernel
theorem d4 : decode yB 4 = .ok (.if_icmp (.ne) 30, 3) := by decide +kernel
theorem d7 : decode yB 7 = .ok (.iconst 0, 1) := by decide +kernel
theorem d8 : decode yB 8 = .ok (.istore_n 2, 1) := by decide +kernel
theorem d9 : decode yB 9 = .ok (.iload_n 2, 1) := by decide +kernel
theorem d10 : decode yB 10 = .ok (.aload_n 0, 1) := by decide +kernel
theorem d11 : decode yB 11 = .ok (.arraylength, 1) := by decide +kernel
theorem d12 : decode yB 12 = .ok (.if_icmp (.ge) 20, 3) := by decide +kernel
theorem d15 : decode yB 15 = .ok (.aload_n 0, 1) := by decide +kernel
theorem d16 : decode yB 16 = .ok (.iload_n 2, 1) := by decide +kernel
theorem d17 : decode yB 17 = .ok (.baload, 1) := by decide +kernel
theorem d18 : decode yB 18 = .ok (.aload_n 1, 1) := by decide +kernel
theorem d19 : decode yB 19 = .ok (.iload_n 2, 1) := by decide +kernel
theorem d20 : decode yB 20 = .ok (.baload, 1) := by decide +kernel
theorem d21 : decode yB 21 = .ok (.if_icmp (.eq) 5, 3) := by decide +kernel
theorem d24 : decode yB 24 = .ok (.iconst 0, 1) := by decide +kernel
theorem d25 : decode yB 25 = .ok (.ireturn, 1) := by decide +kernel
theorem d26 : decode yB 26 = .ok (.iinc 2 1, 3) := by decide +kernel
theorem d29 : decode yB 29 = .ok (.goto (-20), 3) := by decide +kernel
theorem d32 : decode yB 32 = .ok (.iconst 1, 1) := by decide +kernel
theorem d33 : decode yB 33 = .ok (.ireturn, 1) := by decide +kernel
theorem d34 : decode yB 34 = .ok (.iconst 0, 1) := by decide +kernel
theorem d35 : decode yB 35 = .ok (.ireturn, 1) := by decide +kernel
def site : List Cond := []
def tab : Cond := tabOf yN yB 3 (some .boolean) site
def P (a : Addr) (A : Cell) (b : Addr) (B : Cell) (args : Array Value) (s : State) : Prop := args = #[.ref a, .ref b] ∧ XT.Arr .byte a A s ∧ Typed .byte A ∧ XT.Arr .byte b B s ∧ Typed .byte B
/-- whether two byte[] are equal, place for place -/
theorem law (l : Launch) (a : Addr) (A : Cell) (b : Addr) (B : Cell) : Law l yN 2 2 0 0 yB 3 (some .boolean) site (P a A b B) (Says01 (EqC A B)) [] 0 0 := by
  refine Law.of_walk (plainFor_of_name (by decide +kernel)) (by decide +kernel) (by decide +kernel) (by decide) (fun _ _ h => by rw [h.1]; rfl) (fun _ U U' hal hh h => ⟨h.1, h.2.1.mv hal hh, h.2.2.1, h.2.2.2.1.mv hal hh, h.2.2.2.2⟩) (fun r U U' V V' h1 hal h2 h => Says01.mv r U U' V V' h1 hal h2 h) ?_
  intro p e s m args below meth c s₁ X0 hexec hbytes hml hret hlk hnm hown hh0 W hP
  obtain ⟨rfl, hA, tA, hB, tB⟩ := hP
  have a31 := hA.2.2.2
  have b31 := hB.2.2.2
  have hA0 := hA.mv X0.warmed.alike hh0
  have hB0 := hB.mv X0.warmed.alike hh0
  have c1 : Steps p.tables e below (s₁.setTop (entryFrame m #[.ref a, .ref b] 3)) (s₁.setTop (mkF m 0 #[.val (.ref a), .val (.ref b), .unset] [])) := entry rfl
  have c2 : Steps p.tables e below (s₁.setTop (entryFrame m #[.ref a, .ref b] 3)) (s₁.setTop (mkF m 4 #[.val (.ref a), .val (.ref b), .unset] [.int (Int32.ofNat B.slots.size), .int (Int32.ofNat A.slots.size)])) := c1.trans (by
    refine XS.aloadN X0.here hexec rfl (hb hbytes d0) rfl rfl ?_
    refine X0.alen hexec hA0 rfl rfl (hb hbytes d1) ?_
    refine XS.aloadN X0.here hexec rfl (hb hbytes d2) rfl rfl ?_
    refine X0.alen hexec hB0 rfl rfl (hb hbytes d3) ?_
    exact Steps.refl _)
  by_cases hs : A.slots.size = B.slots.size
  · have c3 : Steps p.tables e below (s₁.setTop (entryFrame m #[.ref a, .ref b] 3)) (s₁.setTop (mkF m 9 #[.val (.ref a), .val (.ref b), .val (.int 0)] [])) := c2.trans (by
      refine XS.icmpNo X0.here hexec rfl (hb hbytes d4) rfl (ii_ne_f (by rw [hs])) ?_
      refine iconstV X0.here hexec rfl 0 (hb hbytes d7) (by decide) ?_
      refine XS.istoreN X0.here hexec rfl (hb hbytes d8) rfl rfl ?_
      exact Steps.refl _)
    have loop : ∀ (r i : Nat), i + r = A.slots.size → (∀ j, j < i → yv A j = yv B j) → Steps p.tables e below (s₁.setTop (entryFrame m #[.ref a, .ref b] 3)) (s₁.setTop (mkF m 9 #[.val (.ref a), .val (.ref b), .val (.int (Int32.ofNat i))] [])) → ∃ (pc : Nat) (Ls : Array Slot) (v : Int32), (pc = 25 ∨ pc = 33) ∧ ((v = 1 ∧ EqC A B) ∨ (v = 0 ∧ ¬ EqC A B)) ∧ Steps p.tables e below (s₁.setTop (entryFrame m #[.ref a, .ref b] 3)) (s₁.setTop (mkF m pc Ls [.int v])) := by
      intro r
      induction r with
      | zero =>
        intro i hi he cl
        exact ⟨33, _, 1, Or.inr rfl, Or.inl ⟨rfl, hs, fun j hj => he j (by omega)⟩, cl.trans (by
          refine XS.iloadN X0.here hexec rfl (hb hbytes d9) rfl ?_
          refine XS.aloadN X0.here hexec rfl (hb hbytes d10) rfl rfl ?_
          refine X0.alen hexec hA0 rfl rfl (hb hbytes d11) ?_
          refine XS.icmpYes X0.here hexec rfl (pc0 := 12) rfl (hb hbytes d12) rfl (ii_ge_t (nlt32 (by omega) (by omega))) (by decide) rfl ?_
          refine iconstV X0.here hexec rfl 1 (hb hbytes d32) (by decide) ?_
          exact Steps.refl _)⟩
      | succ r ih =>
        intro i hi he cl
        have c4 : Steps p.tables e below (s₁.setTop (entryFrame m #[.ref a, .ref b] 3)) (s₁.setTop (mkF m 21 #[.val (.ref a), .val (.ref b), .val (.int (Int32.ofNat i))] [.int (yv B i), .int (yv A i)])) := cl.trans (by
          refine XS.iloadN X0.here hexec rfl (hb hbytes d9) rfl ?_
          refine XS.aloadN X0.here hexec rfl (hb hbytes d10) rfl rfl ?_
          refine X0.alen hexec hA0 rfl rfl (hb hbytes d11) ?_
          refine XS.icmpNo X0.here hexec rfl (hb hbytes d12) rfl (ii_ge_f (lt32 (by omega) (by omega))) ?_
          refine XS.aloadN X0.here hexec rfl (hb hbytes d15) rfl rfl ?_
          refine XS.iloadN X0.here hexec rfl (hb hbytes d16) rfl ?_
          refine X0.aget hexec hA0 rfl (yv_get hA tA (i := i) (by omega)) rfl rfl (hb hbytes d17) ?_
          refine XS.aloadN X0.here hexec rfl (hb hbytes d18) rfl rfl ?_
          refine XS.iloadN X0.here hexec rfl (hb hbytes d19) rfl ?_
          refine X0.aget hexec hB0 rfl (yv_get hB tB (i := i) (by omega)) rfl rfl (hb hbytes d20) ?_
          exact Steps.refl _)
        by_cases hv : yv A i = yv B i
        · have c5 : Steps p.tables e below (s₁.setTop (entryFrame m #[.ref a, .ref b] 3)) (s₁.setTop (mkF m 9 #[.val (.ref a), .val (.ref b), .val (.int (Int32.ofNat i + 1))] [])) := c4.trans (by
            refine XS.icmpYes X0.here hexec rfl (pc0 := 21) rfl (hb hbytes d21) rfl (ii_eq_t hv) (by decide) rfl ?_
            refine iincV X0.here hexec rfl 1 (hb hbytes d26) (by decide) rfl rfl ?_
            refine XS.goto X0.here hexec rfl (pc0 := 29) rfl (hb hbytes d29) (by decide) rfl ?_
            exact Steps.refl _)
          rw [succ32] at c5
          exact ih (i + 1) (by omega) (fun j hj => by
            by_cases e : j = i
            · rw [e]; exact hv
            · exact he j (by omega)) c5
        · exact ⟨25, _, 0, Or.inl rfl, Or.inr ⟨rfl, fun q => hv (q.2 i (by omega))⟩, c4.trans (by
            refine XS.icmpNo X0.here hexec rfl (hb hbytes d21) rfl (ii_eq_f hv) ?_
            refine iconstV X0.here hexec rfl 0 (hb hbytes d24) (by decide) ?_
            exact Steps.refl _)⟩
    obtain ⟨pc, Ls, v, hpc, hv, cz⟩ := loop A.slots.size 0 (by omega) (fun j hj => absurd hj (Nat.not_lt_zero j)) c3
    have nv : narrow .boolean (.int v) = .int v := by rcases hv with ⟨rfl, -⟩ | ⟨rfl, -⟩ <;> rfl
    rcases hpc with rfl | rfl
    · exact ⟨s₁, some (.int v), _, _, _, X0, rfl, rfl, rfl, (fun h => by cases h), ⟨v, rfl, hh0, hv⟩, fun fs hl => cz.trans (X0.ireturnOut hexec hret nv (Or.inr (Or.inl rfl)) (hb hbytes d25) hl)⟩
    · exact ⟨s₁, some (.int v), _, _, _, X0, rfl, rfl, rfl, (fun h => by cases h), ⟨v, rfl, hh0, hv⟩, fun fs hl => cz.trans (X0.ireturnOut hexec hret nv (Or.inr (Or.inl rfl)) (hb hbytes d33) hl)⟩
  · have c3 : Steps p.tables e below (s₁.setTop (entryFrame m #[.ref a, .ref b] 3)) (s₁.setTop (mkF m 35 #[.val (.ref a), .val (.ref b), .unset] [.int 0])) := c2.trans (by
      refine XS.icmpYes X0.here hexec rfl (pc0 := 4) rfl (hb hbytes d4) rfl (ii_ne_t (ne32 a31 b31 hs)) (by decide) rfl ?_
      refine iconstV X0.here hexec rfl 0 (hb hbytes d34) (by decide) ?_
      exact Steps.refl _)
    exact ⟨s₁, some (.int 0), _, _, _, X0, rfl, rfl, rfl, (fun h => by cases h), ⟨0, rfl, hh0, Or.inr ⟨rfl, fun q => hs q.1⟩⟩, fun fs hl => c3.trans (X0.ireturnOut hexec hret rfl (Or.inr (Or.inl rfl)) (hb hbytes d35) hl)⟩
end LEq
theorem Cod.ty {cd : Int32} {n : Nat} {f : Nat → Int32} {V : Cell} (h : Cod cd n f V) : Typed .byte V := fun i v hv => by
  have hi : i < V.slots.size := (Array.getElem?_eq_some_iff.mp hv).1
  rcases h with ⟨-, k1, k2⟩ | ⟨-, k1, k2, -⟩
  · rw [(k2 i (by omega)).1] at hv; cases hv; exact fits_lo8 _
  · rcases Nat.mod_two_eq_zero_or_one i with e | e
    · obtain ⟨j, rfl⟩ : ∃ j, i = 2 * j := ⟨i / 2, by omega⟩
      rw [(k2 j (by omega)).1] at hv; cases hv; exact fits_lo8 _
    · obtain ⟨j, rfl⟩ : ∃ j, i = 2 * j + 1 := ⟨i / 2, by omega⟩
      rw [(k2 j (by omega)).2] at hv; cases hv; exact fits_lo8 _
/-- the same text -/
def SameT (n : Nat) (f : Nat → Int32) (k : Nat) (g : Nat → Int32) : Prop := n = k ∧ ∀ j, j < n → f j = g j
theorem lo8_inj {x y : Int32} (h0 : ¬ x < 0) (h1 : ¬ 255 < x) (k0 : ¬ y < 0) (k1 : ¬ 255 < y) (h : lo8 x = lo8 y) : x = y := by
  rw [← lo8_mask h0 h1, ← lo8_mask k0 k1, h]
/-- arrays coded by one coder are equal just where the texts are -/
theorem Cod.eqv {cd : Int32} {n k : Nat} {f g : Nat → Int32} {V V' : Cell} (h : Cod cd n f V) (h' : Cod cd k g V') (hf : ∀ j, j < n → ¬ f j < 0 ∧ ¬ 65535 < f j) (hg : ∀ j, j < k → ¬ g j < 0 ∧ ¬ 65535 < g j) : EqC V V' ↔ SameT n f k g := by
  have yvv : ∀ {W : Cell} {i : Nat} {x : Int32}, W.slots[i]? = some (.int x) → yv W i = x := fun q => by unfold yv; rw [q]
  rcases h with ⟨rfl, k1, k2⟩ | ⟨rfl, k1, k2, -⟩
  · rcases h' with ⟨-, m1, m2⟩ | ⟨e, -⟩
    · constructor
      · rintro ⟨e1, e2⟩
        refine ⟨by omega, fun j hj => ?_⟩
        have q := e2 j (by omega)
        rw [yvv (k2 j hj).1, yvv (m2 j (by omega)).1] at q
        exact lo8_inj (hf j hj).1 (k2 j hj).2 (hg j (by omega)).1 (m2 j (by omega)).2 q
      · rintro ⟨rfl, e2⟩
        refine ⟨by omega, fun j hj => ?_⟩
        rw [yvv (k2 j (by omega)).1, yvv (m2 j (by omega)).1, e2 j (by omega)]
    · exact absurd e (by decide)
  · rcases h' with ⟨e, -⟩ | ⟨-, m1, m2, -⟩
    · exact absurd e (by decide)
    · constructor
      · rintro ⟨e1, e2⟩
        refine ⟨by omega, fun j hj => ?_⟩
        have q1 := e2 (2 * j) (by omega)
        have q2 := e2 (2 * j + 1) (by omega)
        rw [yvv (k2 j hj).1, yvv (m2 j (by omega)).1] at q1
        rw [yvv (k2 j hj).2, yvv (m2 j (by omega)).2] at q2
        rw [← pair_says (hf j hj).1 (hf j hj).2, ← pair_says (hg j (by omega)).1 (hg j (by omega)).2, q1, q2]
      · rintro ⟨rfl, e2⟩
        refine ⟨by omega, fun i hi => ?_⟩
        rcases Nat.mod_two_eq_zero_or_one i with e | e
        · obtain ⟨j, rfl⟩ : ∃ j, i = 2 * j := ⟨i / 2, by omega⟩
          rw [yvv (k2 j (by omega)).1, yvv (m2 j (by omega)).1, e2 j (by omega)]
        · obtain ⟨j, rfl⟩ : ∃ j, i = 2 * j + 1 := ⟨i / 2, by omega⟩
          rw [yvv (k2 j (by omega)).2, yvv (m2 j (by omega)).2, e2 j (by omega)]
/-- two codings differ: so do the texts -/
theorem Cod.dif {cd cd' : Int32} {n k : Nat} {f g : Nat → Int32} {V V' : Cell} (h : Cod cd n f V) (h' : Cod cd' k g V') (hne : ¬ cd = cd') : ¬ SameT n f k g := by
  rintro ⟨rfl, e⟩
  rcases h with ⟨rfl, -, k2⟩ | ⟨rfl, -, -, j, hj, hw⟩
  · rcases h' with ⟨rfl, -⟩ | ⟨-, -, -, j, hj, hw⟩
    · exact hne rfl
    · exact (k2 j hj).2 (by rw [e j hj]; exact hw)
  · rcases h' with ⟨-, -, m2⟩ | ⟨rfl, -⟩
    · exact (m2 j hj).2 (by rw [← e j hj]; exact hw)
    · exact hne rfl
/-- an object of exactly C is an instance of C -/
theorem cinst {p : Program} {l : Launch} {e : Env} {R : Room} {s : State} {m : MethodId} {args : Array Value} {below : List Frame} {meth : Method} {c : Code} {T : State} {locs : List Loc} {cells slots : Nat} (X : Stand p l e R s m args below meth c T locs cells slots) (hexec : p.tables.exec = Jvm.exec) {own C : String} {index : Nat} (hown : s.vm.findClass own = some m.cls) (hlink : (Cond.classLink own index C).before args s = true) {a : Addr} (hE : Exact C a T)
    {g : JFrame} (hg : g.method = m) {rest : List Value} (hstack : g.stack = .ref a :: rest) (hdg : decode c.code g.pc = .ok (.instanceof index, 3)) :
    ∃ T', Stand p l e R s m args below meth c T' locs cells slots ∧ T'.heap = T.heap ∧ ∀ target, Steps p.tables e below (T'.setTop { g with pc := g.pc + 3, stack := .int 1 :: rest }) target → Steps p.tables e below (T.setTop g) target := by
  obtain ⟨cB, h1, D, h2, h3, h4⟩ := hE
  have h1' : s.vm.findClass C = some cB := by rw [← X.warmed.alike.findClass]; exact h1
  obtain ⟨vm', X', st⟩ := X.instanceofYes hexec hown hlink h2 h4 h1' (by rw [h3]; exact Jvm.Free.SB.assignable_self _ _) hg hstack hdg
  exact ⟨_, X', rfl, st⟩
theorem cself {p : Program} {l : Launch} {e : Env} {R : Room} {s : State} {m : MethodId} {args : Array Value} {below : List Frame} {meth : Method} {c : Code} {T : State} {locs : List Loc} {cells slots : Nat} (X : Stand p l e R s m args below meth c T locs cells slots) (hexec : p.tables.exec = Jvm.exec) {own C : String} {index : Nat} (hown : s.vm.findClass own = some m.cls) (hlink : (Cond.classLink own index C).before args s = true) {a : Addr} (hE : Exact C a T)
    {g : JFrame} (hg : g.method = m) {rest : List Value} (hstack : g.stack = .ref a :: rest) (hdg : decode c.code g.pc = .ok (.checkcast index, 3)) :
    ∃ T', Stand p l e R s m args below meth c T' locs cells slots ∧ T'.heap = T.heap ∧ ∀ target, Steps p.tables e below (T'.setTop { g with pc := g.pc + 3, stack := .ref a :: rest }) target → Steps p.tables e below (T.setTop g) target := by
  obtain ⟨cB, h1, D, h2, h3, h4⟩ := hE
  have h1' : s.vm.findClass C = some cB := by rw [← X.warmed.alike.findClass]; exact h1
  obtain ⟨vm', X', st⟩ := X.checkcastYes hexec hown hlink h2 h4 h1' (by rw [h3]; exact Jvm.Free.SB.assignable_self _ _) hg hstack hdg
  exact ⟨_, X', rfl, fun t h => st t (by rw [← hstack] at h; exact h)⟩
namespace SEq
def yN : MethodName := ⟨"java/lang/String", "equals", "(Ljava/lang/Object;)Z"⟩
abbrev yB : ByteArray := jdk_42_method_66_code
theorem d0 : decode yB 0 = .ok (.aload_n 0, 1) := by decide +kernel
theorem d1 : decode yB 1 = .ok (.aload_n 1, 1) := by decide +kernel
theorem d2 : decode yB 2 = .ok (.if_acmp (.ne) 5, 3) := by decide +kernel
theorem d5 : decode yB 5 = .ok (.iconst 1, 1) := by decide +kernel
theorem d6 : decode yB 6 = .ok (.ireturn, 1) := by decide +kernel
theorem d7 : decode yB 7 = .ok (.aload_n 1, 1) := by decide +kernel
theorem d8 : decode yB 8 = .ok (.instanceof 10, 3) := by decide +kernel
theorem d11 : decode yB 11 = .ok (.ifCond (.eq) 43, 3) := by decide +kernel
theorem d14 : decode yB 14 = .ok (.aload_n 1, 1) := by decide +kernel
theorem d15 : decode yB 15 = .ok (.checkcast 10, 3) := by decide +kernel
theorem d18 : decode yB 18 = .ok (.astore_n 2, 1) := by decide +kernel
theorem d19 : decode yB 19 = .ok (.getstatic 38, 3) := by decide +kernel
theorem d22 : decode yB 22 = .ok (.ifCond (.eq) 14, 3) := by decide +kernel
theorem d25 : decode yB 25 = .ok (.aload_n 0, 1) := by decide +kernel
theorem d26 : decode yB 26 = .ok (.getfield 15, 3) := by decide +kernel
theorem d29 : decode yB 29 = .ok (.aload_n 2, 1) := by decide +kernel
theorem d30 : decode yB 30 = .ok (.getfield 15, 3) := by decide +kernel
theorem d33 : decode yB 33 = .ok (.if_icmp (.ne) 21, 3) := by decide +kernel
theorem d36 : decode yB 36 = .ok (.aload_n 0, 1) := by decide +kernel
theorem d37 : decode yB 37 = .ok (.getfield 9, 3) := by decide +kernel
theorem d40 : decode yB 40 = .ok (.aload_n 2, 1) := by decide +kernel
theorem d41 : decode yB 41 = .ok (.getfield 9, 3) := by decide +kernel
theorem d44 : decode yB 44 = .ok (.invokestatic 541, 3) := by decide +kernel
theorem d47 : decode yB 47 = .ok (.ifCond (.eq) 7, 3) := by decide +kernel
theorem d50 : decode yB 50 = .ok (.iconst 1, 1) := by decide +kernel
theorem d51 : decode yB 51 = .ok (.goto 4, 3) := by decide +kernel
theorem d54 : decode yB 54 = .ok (.iconst 0, 1) := by decide +kernel
theorem d55 : decode yB 55 = .ok (.ireturn, 1) := by decide +kernel
def site : List Cond := [.classLink "java/lang/String" 10 "java/lang/String", .fieldLink "java/lang/String" 38 "java/lang/String" "COMPACT_STRINGS" "Z", .fieldLink "java/lang/String" 15 "java/lang/String" "coder" "B", .fieldLink "java/lang/String" 9 "java/lang/String" "value" "[B", LEq.tab] ++ staticW "java/lang/String" 541 LEq.yN
def tab : Cond := tabOf yN yB 3 (some .boolean) site
def P (x t : Addr) (V : Cell) (cd : Int32) (n : Nat) (f : Nat → Int32) (y t' : Addr) (V' : Cell) (cd' : Int32) (k : Nat) (g : Nat → Int32) (z : Int32) (args : Array Value) (s : State) : Prop := args = #[.ref x, .ref y] ∧ Txt x t V cd n f s ∧ Txt y t' V' cd' k g s ∧ StaticIs s "java/lang/String" "COMPACT_STRINGS" "Z" (.int z) ∧ ¬ z = 0
/-- equals(Object) of two Strings: whether the texts are the same -/
theorem law (l : Launch) (x t : Addr) (V : Cell) (cd : Int32) (n : Nat) (f : Nat → Int32) (y t' : Addr) (V' : Cell) (cd' : Int32) (k : Nat) (g : Nat → Int32) (z : Int32) : Law l yN 2 1 1 14 yB 3 (some .boolean) site (P x t V cd n f y t' V' cd' k g z) (Says01 (SameT n f k g)) [] 0 0 := by
  refine Law.of_walk (plainFor_of_name (by decide +kernel)) (by decide +kernel) (by decide +kernel) (by decide) (fun _ _ h => by rw [h.1]; rfl) (fun _ U U' hal hh h => ⟨h.1, h.2.1.mv hal hh, h.2.2.1.mv hal hh, h.2.2.2.1.there hal hh, h.2.2.2.2⟩) (fun r U U' V V' h1 hal h2 h => Says01.mv r U U' V V' h1 hal h2 h) ?_
  intro p e s m args below meth c s₁ X0 hexec hbytes hml hret hlk hnm hown hh0 W hP
  obtain ⟨rfl, hx, hy, s1, hz⟩ := hP
  have c1 : Steps p.tables e below (s₁.setTop (entryFrame m #[.ref x, .ref y] 3)) (s₁.setTop (mkF m 2 #[.val (.ref x), .val (.ref y), .unset] [.ref y, .ref x])) := Steps.trans (entry rfl) (by
    show Steps p.tables e below (s₁.setTop (mkF m 0 #[.val (.ref x), .val (.ref y), .unset] [])) _
    refine XS.aloadN X0.here hexec rfl (hb hbytes d0) rfl rfl ?_
    refine XS.aloadN X0.here hexec rfl (hb hbytes d1) rfl rfl ?_
    exact Steps.refl _)
  by_cases hxy : x = y
  · have c2 : Steps p.tables e below (s₁.setTop (entryFrame m #[.ref x, .ref y] 3)) (s₁.setTop (mkF m 6 #[.val (.ref x), .val (.ref y), .unset] [.int 1])) := c1.trans (by
      refine acmpNo X0.here hexec rfl (hb hbytes d2) rfl rfl rfl (by simp [acmp, hxy]) ?_
      refine iconstV X0.here hexec rfl 1 (hb hbytes d5) (by decide) ?_
      exact Steps.refl _)
    subst hxy
    have ec : cd = cd' := by
      obtain ⟨D, fd, a1, a2, a3⟩ := hx.2.2.1
      obtain ⟨D', fd', b1, b2, b3⟩ := hy.2.2.1
      cases a1.symm.trans b1
      obtain ⟨q1, q2, q3, q4⟩ := a2.1
      obtain ⟨r1, r2, r3, r4⟩ := b2.1
      cases q4.symm.trans r4
      cases a3.symm.trans b3; rfl
    have et : t = t' := by
      obtain ⟨D, fd, a1, a2, a3⟩ := hx.2.1
      obtain ⟨D', fd', b1, b2, b3⟩ := hy.2.1
      cases a1.symm.trans b1
      obtain ⟨q1, q2, q3, q4⟩ := a2.1
      obtain ⟨r1, r2, r3, r4⟩ := b2.1
      cases q4.symm.trans r4
      cases a3.symm.trans b3; rfl
    subst ec et
    have ev : V = V' := by cases hx.2.2.2.1.1.symm.trans hy.2.2.2.1.1; rfl
    subst ev
    have hs : SameT n f k g := (Cod.eqv hx.2.2.2.2.1 hy.2.2.2.2.1 hx.2.2.2.2.2 hy.2.2.2.2.2).mp ⟨rfl, fun _ _ => rfl⟩
    exact ⟨s₁, some (.int 1), _, _, _, X0, rfl, rfl, rfl, (fun h => by cases h), ⟨1, rfl, hh0, Or.inl ⟨rfl, hs⟩⟩, fun fs hl => c2.trans (X0.ireturnOut hexec hret rfl (Or.inr (Or.inl rfl)) (hb hbytes d6) hl)⟩
  · have c2 : Steps p.tables e below (s₁.setTop (entryFrame m #[.ref x, .ref y] 3)) (s₁.setTop (mkF m 8 #[.val (.ref x), .val (.ref y), .unset] [.ref y])) := c1.trans (by
      refine acmpYes X0.here hexec rfl (pc0 := 2) rfl (hb hbytes d2) rfl rfl rfl (by simp [acmp, hxy]) (by decide) rfl ?_
      refine XS.aloadN X0.here hexec rfl (hb hbytes d7) rfl rfl ?_
      exact Steps.refl _)
    obtain ⟨T3, X3, q3, st3⟩ := cinst X0 hexec hown (wk W (.classLink "java/lang/String" 10 "java/lang/String")) (hy.mv X0.warmed.alike hh0).1 (g := (mkF m 8 #[.val (.ref x), .val (.ref y), .unset] [.ref y])) rfl (rest := []) rfl (hb hbytes d8)
    have hh3 := q3.trans hh0
    have c4 : Steps p.tables e below (s₁.setTop (entryFrame m #[.ref x, .ref y] 3)) (T3.setTop (mkF m 15 #[.val (.ref x), .val (.ref y), .unset] [.ref y])) := (c2.trans (st3 _ (Steps.refl _))).trans (by
      refine XS.ifNo X3.here hexec rfl (hb hbytes d11) rfl (i0_eq_f (by decide)) ?_
      refine XS.aloadN X3.here hexec rfl (hb hbytes d14) rfl rfl ?_
      exact Steps.refl _)
    obtain ⟨T5, X5, q5, st5⟩ := cself X3 hexec hown (wk W (.classLink "java/lang/String" 10 "java/lang/String")) (hy.mv X3.warmed.alike hh3).1 (g := (mkF m 15 #[.val (.ref x), .val (.ref y), .unset] [.ref y])) rfl (rest := []) rfl (hb hbytes d15)
    have hh5 := q5.trans hh3
    have c6 : Steps p.tables e below (s₁.setTop (entryFrame m #[.ref x, .ref y] 3)) (T5.setTop (mkF m 19 #[.val (.ref x), .val (.ref y), .val (.ref y)] [])) := (c4.trans (st5 _ (Steps.refl _))).trans (by
      refine XS.astoreN X5.here hexec rfl (hb hbytes d18) rfl rfl rfl ?_
      exact Steps.refl _)
    obtain ⟨T7, X7, q7, st7⟩ := X5.sget hexec hown (wk W (.fieldLink "java/lang/String" 38 "java/lang/String" "COMPACT_STRINGS" "Z")) s1 (fun _ _ h => by rw [hh5]; exact h) (g := (mkF m 19 #[.val (.ref x), .val (.ref y), .val (.ref y)] [])) rfl (hb hbytes d19)
    have hh7 := q7.trans hh5
    have c8 : Steps p.tables e below (s₁.setTop (entryFrame m #[.ref x, .ref y] 3)) (T7.setTop (mkF m 26 #[.val (.ref x), .val (.ref y), .val (.ref y)] [.ref x])) := (c6.trans (st7 _ (Steps.refl _))).trans (by
      refine XS.ifNo X7.here hexec rfl (hb hbytes d22) rfl (i0_eq_f hz) ?_
      refine XS.aloadN X7.here hexec rfl (hb hbytes d25) rfl rfl ?_
      exact Steps.refl _)
    obtain ⟨T9, X9, q9, st9⟩ := X7.hget hexec hown (wk W (.fieldLink "java/lang/String" 15 "java/lang/String" "coder" "B")) (hx.mv X7.warmed.alike hh7).2.2.1 (g := (mkF m 26 #[.val (.ref x), .val (.ref y), .val (.ref y)] [.ref x])) rfl (rest := []) rfl (hb hbytes d26)
    have hh9 := q9.trans hh7
    have c10 : Steps p.tables e below (s₁.setTop (entryFrame m #[.ref x, .ref y] 3)) (T9.setTop (mkF m 30 #[.val (.ref x), .val (.ref y), .val (.ref y)] [.ref y, .int cd])) := (c8.trans (st9 _ (Steps.refl _))).trans (by
      refine XS.aloadN X9.here hexec rfl (hb hbytes d29) rfl rfl ?_
      exact Steps.refl _)
    obtain ⟨T11, X11, q11, st11⟩ := X9.hget hexec hown (wk W (.fieldLink "java/lang/String" 15 "java/lang/String" "coder" "B")) (hy.mv X9.warmed.alike hh9).2.2.1 (g := (mkF m 30 #[.val (.ref x), .val (.ref y), .val (.ref y)] [.ref y, .int cd])) rfl (rest := [.int cd]) rfl (hb hbytes d30)
    have hh11 := q11.trans hh9
    have c12 : Steps p.tables e below (s₁.setTop (entryFrame m #[.ref x, .ref y] 3)) (T11.setTop (mkF m 33 #[.val (.ref x), .val (.ref y), .val (.ref y)] [.int cd', .int cd])) := c10.trans (st11 _ (Steps.refl _))
    by_cases hcd : cd = cd'
    · subst hcd
      have c13 : Steps p.tables e below (s₁.setTop (entryFrame m #[.ref x, .ref y] 3)) (T11.setTop (mkF m 37 #[.val (.ref x), .val (.ref y), .val (.ref y)] [.ref x])) := c12.trans (by
        refine XS.icmpNo X11.here hexec rfl (hb hbytes d33) rfl (ii_ne_f rfl) ?_
        refine XS.aloadN X11.here hexec rfl (hb hbytes d36) rfl rfl ?_
        exact Steps.refl _)
      obtain ⟨T14, X14, q14, st14⟩ := X11.hget hexec hown (wk W (.fieldLink "java/lang/String" 9 "java/lang/String" "value" "[B")) (hx.mv X11.warmed.alike hh11).2.1 (g := (mkF m 37 #[.val (.ref x), .val (.ref y), .val (.ref y)] [.ref x])) rfl (rest := []) rfl (hb hbytes d37)
      have hh14 := q14.trans hh11
      have c15 : Steps p.tables e below (s₁.setTop (entryFrame m #[.ref x, .ref y] 3)) (T14.setTop (mkF m 41 #[.val (.ref x), .val (.ref y), .val (.ref y)] [.ref y, .ref t])) := (c13.trans (st14 _ (Steps.refl _))).trans (by
        refine XS.aloadN X14.here hexec rfl (hb hbytes d40) rfl rfl ?_
        exact Steps.refl _)
      obtain ⟨T16, X16, q16, st16⟩ := X14.hget hexec hown (wk W (.fieldLink "java/lang/String" 9 "java/lang/String" "value" "[B")) (hy.mv X14.warmed.alike hh14).2.1 (g := (mkF m 41 #[.val (.ref x), .val (.ref y), .val (.ref y)] [.ref y, .ref t])) rfl (rest := [.ref t]) rfl (hb hbytes d41)
      have hh16 := q16.trans hh14
      have c17 : Steps p.tables e below (s₁.setTop (entryFrame m #[.ref x, .ref y] 3)) (T16.setTop (mkF m 44 #[.val (.ref x), .val (.ref y), .val (.ref y)] [.ref t', .ref t])) := c15.trans (st16 _ (Steps.refl _))
      obtain ⟨v18, T18, X18, E18, g18⟩ := X16.callS hexec (LEq.law l t V t' V') hown (wks W (staticW "java/lang/String" 541 LEq.yN)) (wk W LEq.tab) (W := 0) (Nat.le_of_ble_eq_true rfl) (Nat.le_of_ble_eq_true rfl) (Nat.le_refl _) (Nat.le_refl _) (g := (mkF m 44 #[.val (.ref x), .val (.ref y), .val (.ref y)] [.ref t', .ref t])) rfl (by rw [hml]; rfl) c17 (argsL := [.ref t, .ref t']) (rest := []) rfl rfl (by show 2 * 0 + 0 ≤ _; decide) (hb hbytes d44) (⟨rfl, hx.2.2.2.1.mv X16.warmed.alike hh16, hx.2.2.2.2.1.ty, hy.2.2.2.1.mv X16.warmed.alike hh16, hy.2.2.2.2.1.ty⟩)
      obtain ⟨v, rfl, q18, hv⟩ := E18
      have iff := Cod.eqv hx.2.2.2.2.1 hy.2.2.2.2.1 hx.2.2.2.2.2 hy.2.2.2.2.2
      rcases hv with ⟨rfl, he⟩ | ⟨rfl, he⟩
      · have c19 : Steps p.tables e below (s₁.setTop (entryFrame m #[.ref x, .ref y] 3)) (T18.setTop (mkF m 55 #[.val (.ref x), .val (.ref y), .val (.ref y)] [.int 1])) := Steps.trans g18 (by
          refine XS.ifNo X18.here hexec rfl (hb hbytes d47) rfl (i0_eq_f (by decide)) ?_
          refine iconstV X18.here hexec rfl 1 (hb hbytes d50) (by decide) ?_
          refine XS.goto X18.here hexec rfl (pc0 := 51) rfl (hb hbytes d51) (by decide) rfl ?_
          exact Steps.refl _)
        exact ⟨T18, some (.int 1), _, _, _, X18, rfl, rfl, rfl, (fun h => by cases h), ⟨1, rfl, q18.trans hh16, Or.inl ⟨rfl, iff.mp he⟩⟩, fun fs hl => c19.trans (X18.ireturnOut hexec hret rfl (Or.inr (Or.inl rfl)) (hb hbytes d55) hl)⟩
      · have c19 : Steps p.tables e below (s₁.setTop (entryFrame m #[.ref x, .ref y] 3)) (T18.setTop (mkF m 55 #[.val (.ref x), .val (.ref y), .val (.ref y)] [.int 0])) := Steps.trans g18 (by
          refine XS.ifYes X18.here hexec rfl (pc0 := 47) rfl (hb hbytes d47) rfl (i0_eq_t rfl) (by decide) rfl ?_
          refine iconstV X18.here hexec rfl 0 (hb hbytes d54) (by decide) ?_
          exact Steps.refl _)
        exact ⟨T18, some (.int 0), _, _, _, X18, rfl, rfl, rfl, (fun h => by cases h), ⟨0, rfl, q18.trans hh16, Or.inr ⟨rfl, fun q => he (iff.mpr q)⟩⟩, fun fs hl => c19.trans (X18.ireturnOut hexec hret rfl (Or.inr (Or.inl rfl)) (hb hbytes d55) hl)⟩
    · have c13 : Steps p.tables e below (s₁.setTop (entryFrame m #[.ref x, .ref y] 3)) (T11.setTop (mkF m 55 #[.val (.ref x), .val (.ref y), .val (.ref y)] [.int 0])) := c12.trans (by
        refine XS.icmpYes X11.here hexec rfl (pc0 := 33) rfl (hb hbytes d33) rfl (ii_ne_t hcd) (by decide) rfl ?_
        refine iconstV X11.here hexec rfl 0 (hb hbytes d54) (by decide) ?_
        exact Steps.refl _)
      exact ⟨T11, some (.int 0), _, _, _, X11, rfl, rfl, rfl, (fun h => by cases h), ⟨0, rfl, hh11, Or.inr ⟨rfl, Cod.dif hx.2.2.2.2.1 hy.2.2.2.2.1 hcd⟩⟩, fun fs hl => c13.trans (X11.ireturnOut hexec hret rfl (Or.inr (Or.inl rfl)) (hb hbytes d55) hl)⟩
theorem pays {l : Launch} {R : Room} {p : Program} {e : Env} {below : List Frame} {s : State} {sargs : Array Value} {len W : Nat} (x t : Addr) (V : Cell) (cd : Int32) (n : Nat) (f : Nat → Int32) (y t' : Addr) (V' : Cell) (cd' : Int32) (k : Nat) (g : Nat → Int32) (z : Int32) (htab : tab.before sargs s = true) (hfr : 2 ≤ R.frames) (hlo : W + 28 ≤ R.locals) :
    Back l R p e below s sargs yN len W (fun A₁ a₁ => A₁.cells + 0 ≤ R.cells ∧ A₁.slots + 0 ≤ R.slots ∧ P x t V cd n f y t' V' cd' k g z a₁ A₁.U) (fun A₁ _ v₁ B₁ => Says01 (SameT n f k g) v₁ A₁.U B₁.U ∧ B₁.locs = A₁.locs ++ [] ∧ B₁.cells = A₁.cells + 0 ∧ B₁.slots = A₁.slots + 0) :=
  (law l x t V cd n f y t' V' cd' k g z).pays htab hfr (by omega)
end SEq
end StrChars
namespace StrChars.Road
open Jvm Sem ClassFile Op Lib Jvm.Stand Jvm.Free Jvm.Free.XT
open Jvm.Lib.Cold (StaticIs)
/-- the words of String.equals(Object) -/
abbrev wordsEq : List Jvm.Cond := [.code SEq.yN SEq.yB 3 (some .boolean), .initialized ST, .classLink ST 10 ST, .fieldLink ST 38 ST "COMPACT_STRINGS" "Z", .fieldLink ST 15 ST "coder" "B", .fieldLink ST 9 ST "value" "[B", .methodLink ST 541 LEq.yN, .static LEq.yN, .code LEq.yN LEq.yB 3 (some .boolean), .initialized "java/lang/StringLatin1"]
theorem tabEq_of {a : Array Value} {s : State} (h : ∀ w ∈ wordsEq, w.before a s = true) : SEq.tab.before a s = true := by
  have hl : LEq.tab.before a s = true := unparts (wk h (.code LEq.yN LEq.yB 3 (some .boolean))) (wks h (.initialized LEq.yN.cls :: LEq.site))
  have q := consq hl h
  exact unparts (wk q (.code SEq.yN SEq.yB 3 (some .boolean))) (wks q (.initialized SEq.yN.cls :: SEq.site))
theorem movedEq {Z s : State} {a0 args : Array Value} (hZ : Z.Warmed39 s.vm) (hw : ∀ d ∈ wordsEq, d.before a0 Z = true) : ∀ d ∈ wordsEq, d.before args s = true := fun d hd => by
  have t : ∀ d ∈ wordsEq, (d.onTables && d.keepsFace) = true := by decide +kernel
  exact RoadKit.mv hZ (hw d hd) (t d hd)
/-- the road's facts of a String, as the laws ask it -/
theorem txt_of {Z U : State} {a0 : Array Value} {kI : Nat} (wi : (Jvm.Cond.instantiable ST kI).before a0 Z = true) (al : Z.vm.Alike U.vm) {x t : Addr} {kb : ClassId} {cs : List Int32} {cd N2 : Int32} {vs : List Value} (E : RoadKit.Exa Z U.heap x ST) (V : RoadKit.Fld Z U.heap x ST "value" "[B" (.ref t)) (C : RoadKit.Fld Z U.heap x ST "coder" "B" (.int cd)) (K : RoadKit.Arv Z U.heap t kb .byte N2 vs (.int 0)) (hc : CodA cs cd N2 vs) (hb : ∀ c ∈ cs, ¬ c < 0 ∧ ¬ (65535 : Int32) < c) (l2 : cs.length ≤ 4000) :
    ∃ A, Txt x t A cd cs.length (fun j => cs.getD j 0) U := by
  obtain ⟨A, K1, K2, K3, K4, K5, K6⟩ := K
  have hcod := hc.cod (by omega) K3 K5
  obtain ⟨D, fV, fC, hB, F1, F2, g1, g2, -, -⟩ := strObj wi al E V C
  exact ⟨A, ⟨_, hB.2.2.1, D, hB.1, rfl, by cases q : D.vm <;> first | rfl | exact absurd q (hB.2.1.2 _)⟩, Has.of hB F1 g1, Has.of hB F2 g2, ⟨K1.1, State.isArrayOf_alike al K1.2.1, K1.2.2, by rcases hcod with ⟨-, q, -⟩ | ⟨-, q, -⟩ <;> omega⟩, hcod, fun j hj => by
    have e : cs.getD j 0 = cs[j] := by simp [List.getD_eq_getElem?_getD, hj]
    show ¬ cs.getD j 0 < 0 ∧ ¬ 65535 < cs.getD j 0
    rw [e]; exact hb _ (List.getElem_mem _)⟩
theorem same_list (cs ds : List Int32) : SameT cs.length (fun j => cs.getD j 0) ds.length (fun j => ds.getD j 0) ↔ cs = ds := by
  constructor
  · rintro ⟨e, q⟩
    refine List.ext_getElem e fun j h1 h2 => ?_
    have := q j h1
    simpa [List.getD_eq_getElem?_getD, h1, h2] using this
  · rintro rfl
    exact ⟨rfl, fun _ _ => rfl⟩
/-- **equals(Object) OF TWO SUCH STRINGS**: 1 just where the chars are the same -/
theorem eqW {p : Program} {l : Launch} {e : Env} {R : Room} {s : State} {args : Array Value} {below : List Frame} {len W : Nat} {Z : State} {a0 : Array Value} {h : Heap} (hZ : Z.Warmed39 s.vm) (hw : ∀ d ∈ wordsEq, d.before a0 Z = true) {kI : Nat} (wi : (Jvm.Cond.instantiable ST kI).before a0 Z = true)
    {x t : Addr} {kb : ClassId} {cs : List Int32} {cd N2 : Int32} {vs : List Value} (E : RoadKit.Exa Z h x ST) (V : RoadKit.Fld Z h x ST "value" "[B" (.ref t)) (C : RoadKit.Fld Z h x ST "coder" "B" (.int cd)) (K : RoadKit.Arv Z h t kb .byte N2 vs (.int 0)) (hc : CodA cs cd N2 vs) (hb : ∀ c ∈ cs, ¬ c < 0 ∧ ¬ (65535 : Int32) < c) (l2 : cs.length ≤ 4000)
    {y t' : Addr} {kb' : ClassId} {ds : List Int32} {cd' N2' : Int32} {vs' : List Value} (E' : RoadKit.Exa Z h y ST) (V' : RoadKit.Fld Z h y ST "value" "[B" (.ref t')) (C' : RoadKit.Fld Z h y ST "coder" "B" (.int cd')) (K' : RoadKit.Arv Z h t' kb' .byte N2' vs' (.int 0)) (hc' : CodA ds cd' N2' vs') (hb' : ∀ c ∈ ds, ¬ c < 0 ∧ ¬ (65535 : Int32) < c) (l2' : ds.length ≤ 4000)
    {z : Int32} (S : RoadKit.Sta Z h ST "COMPACT_STRINGS" "Z" (.int z)) (hz : ¬ z = 0) (hfr : 2 ≤ R.frames) (hlo : W + 28 ≤ R.locals) :
    Back l R p e below s args (⟨"java/lang/String", "equals", "(Ljava/lang/Object;)Z"⟩ : MethodName) len W (fun P a => a = #[.ref x, .ref y] ∧ P.U.heap = h ∧ P.cells + 0 ≤ R.cells ∧ P.slots + 0 ≤ R.slots)
      (fun P _ v B => ∃ L, (((v = some (.int 1) ∧ cs = ds) ∨ (v = some (.int 0) ∧ ¬ cs = ds)) ∧ L = [] ∧ B.U.heap = h) ∧ B.locs = P.locs ++ L ∧ B.cells = P.cells + 0 ∧ B.slots = P.slots + 0) := by
  intro m meth c P g ig mk a X hg hsize hdg hW hn hp'
  obtain ⟨rfl, rfl, r1, r2⟩ := hp'
  have al : Z.vm.Alike P.U.vm := hZ.alike.trans X.warmed.alike
  obtain ⟨A, hx⟩ := txt_of wi al E V C K hc hb l2
  obtain ⟨A', hy⟩ := txt_of wi al E' V' C' K' hc' hb' l2'
  obtain ⟨v, B, X', ⟨⟨w, hv, hh, hq⟩, hl, hk, hs⟩, st⟩ := SEq.pays x t A cd cs.length (fun j => cs.getD j 0) y t' A' cd' ds.length (fun j => ds.getD j 0) z (tabEq_of (movedEq hZ hw)) hfr hlo m meth c P g ig mk _ X hg hsize hdg hW hn ⟨r1, r2, rfl, hx, hy, sta_is al S, hz⟩
  refine ⟨v, B, X', ⟨[], ⟨?_, rfl, hh⟩, hl, hk, hs⟩, st⟩
  rcases hq with ⟨rfl, q⟩ | ⟨rfl, q⟩
  · exact Or.inl ⟨hv, (same_list cs ds).mp q⟩
  · exact Or.inr ⟨hv, fun e => q ((same_list cs ds).mpr e)⟩
end StrChars.Road
namespace StrChars.Road
open Jvm Sem ClassFile Op Lib Jvm.Stand Jvm.Free Jvm.Free.XT
open Jvm.Lib.Cold (StaticIs)
/-- what backV says of its String, as the contracts of this text ask it: cs's low bytes, coder 0 -/
theorem codOf {cs : List Int32} {n : Nat} (hn : cs.length = n) (hb : ∀ c ∈ cs, ¬ 255 < c) : CodA cs 0 (Int32.ofNat n) ((cs.map lo8).map Value.int) := Or.inl ⟨rfl, by rw [hn], by simp [List.map_map, Function.comp_def], hb⟩
end StrChars.Road
end Jvm.Pilot.@@N@@

namespace Jvm.Pilot.@@N@@
open Jvm Jvm.ClassFile Sem Op Lib Jvm.Free Jvm.Stand Jvm.LawKit Jvm.RoadKit Bundle Jvm.Pilot.@@N@@.Jvm.D
theorem own_lt {x y : Int32} (h : x < y) : if_icmp.holds .lt x y = true ∧ if_icmp.holds .ge x y = false := by simp [if_icmp.holds, h, Int32.not_le.mpr h]
def own_Goes (p : Program) (e : Env) (below : List Frame) (s : State) (Q : Option Value → Heap → List Loc → Prop) (kc ks : Nat) (U : State) : Prop :=
  ∃ t o, Steps p.tables e below U t ∧ t.status = .running ∧ Ended t below o ∧ ∃ v L, o = .returned v ∧ Q v t.heap L ∧ FrameEnd s o t L kc ks
theorem own_go {p : Program} {e : Env} {below : List Frame} {s : State} {Q : Option Value → Heap → List Loc → Prop} {kc ks : Nat} {U V : State} (h : ∀ t, Steps p.tables e below V t → Steps p.tables e below U t) (g : own_Goes p e below s Q kc ks V) : own_Goes p e below s Q kc ks U := by
  obtain ⟨t, o, h1, r⟩ := g
  exact ⟨t, o, h t h1, r⟩
theorem own_out {p : Program} {l : Launch} {e : Env} {R : Room} {s : State} {m : MethodId} {args : Array Value} {below : List Frame} {meth : Method} {c : Code} {T : State} {locs : List Loc} {cells slots : Nat} {h : Heap} {Q : Option Value → Heap → List Loc → Prop} {kc ks : Nat} {U : State} {v : Option Value}
    (X : Stand p l e R s m args below meth c T locs cells slots) (hlk : meth.locks = false) (hv : meth.sig.returnType = none → v = none)
    (hs : ∀ fs, (∀ (f : JFrame) (acts : List Action), f.method = m → f.locked = none → f.entered = [] → (doReturn e (T.setTop f) acts v).1 = T.setFrames fs) → Steps p.tables e below U (T.setFrames fs))
    (eT : T.heap = h) (hQ : Q v h locs) (hc : cells ≤ kc) (hsl : slots ≤ ks) : own_Goes p e below s Q kc ks U := by
  obtain ⟨fs, hr, hrun, hended, hW, hsame⟩ := X.leave hv hlk
  subst eT
  exact ⟨_, _, hs fs hr, hrun, hended, _, _, rfl, hQ, ⟨_, rfl⟩, hW, hsame.mono hc hsl⟩
theorem own_ks {h0 h : Heap} {ws : List Addr} (K : Keep h0 h ws) : h0.size ≤ h.size := K.1
theorem own_cmpL (x : Int64) : XT.cmpL x x = 0 := by simp [XT.cmpL]
theorem own_vne {a b : Int32} (h : a ≠ b) : Value.int a ≠ .int b := fun q => h (Value.int.inj q)
theorem own_nn (x : Int32) : ¬ (x &&& 2147483647) < 0 := fun h => absurd ((XT.and_neg32 x 2147483647).mp h).2 (by decide)
theorem own_ns {Z : State} {n0 : Nat} {h : Heap} (O : Old Z n0 h) : n0 ≤ h.size := O.1 ▸ O.2.1
theorem own_lk {p : Program} {l : Launch} {x : MethodName} {S : Spec} {code : ByteArray} {maxLocals : Nat} {ret : Option FieldType} {e : Env} {s : State} {m : MethodId} {args : Array Value} {below : List Frame} {meth : Method} {c : Code} {s₁ : State} (B : BodyLoose p l x S code maxLocals ret e s m args below meth c s₁) : meth.locks = false := B.notSynchronized
theorem own_if (cd : ClassFile.Cond) {x : Int32} {b : Bool} (h : if_icmp.holds cd x 0 = b) : ifCond.holds cd x = b := by rw [if0]; exact h
theorem own_aeq {a b : Addr} (h : a = b) : XT.acmp .eq (.ref a) (.ref b) = true ∧ XT.acmp .ne (.ref a) (.ref b) = false := by subst h; exact ⟨XT.aa_eq_t rfl, XT.aa_ne_f rfl⟩
theorem own_ane {a b : Addr} (h : ¬ a = b) : XT.acmp .eq (.ref a) (.ref b) = false ∧ XT.acmp .ne (.ref a) (.ref b) = true := ⟨XT.aa_eq_f (fun q => h (Value.ref.inj q)), XT.aa_ne_t (fun q => h (Value.ref.inj q))⟩
theorem own_eqI {args : Array Value} {s : State} {u : Term} {k : Int32} (h : (Jvm.Cond.eq u (.int k)).value args s none s [] = some true) : u.eval args s none [] s = some (.int k) := by
  simp only [Jvm.Cond.value] at h
  cases hf : u.eval args s none [] s with
  | none => simp [hf] at h
  | some v => cases v <;> simp [hf, Term.eval] at h; subst h; rfl
theorem own_eqJ {args : Array Value} {s : State} {u : Term} {k : Int64} (h : (Jvm.Cond.eq u (.long k)).value args s none s [] = some true) : u.eval args s none [] s = some (.long k) := by
  simp only [Jvm.Cond.value] at h
  cases hf : u.eval args s none [] s with
  | none => simp [hf] at h
  | some v => cases v <;> simp [hf, Term.eval] at h; subst h; rfl
theorem own_cl_gt (x y : Int64) : 0 < XT.cmpL x y ↔ y < x := by
  unfold XT.cmpL
  by_cases h : y < x
  · simp [h]
  · by_cases g : x = y
    · subst g; simp [h]
    · simp [h, g]
theorem own_cl_lt (x y : Int64) : XT.cmpL x y < 0 ↔ x < y := by
  unfold XT.cmpL
  by_cases h : y < x
  · have : ¬ x < y := fun q => by rw [Int64.lt_iff_toInt_lt] at h q; omega
    simp [h, this]
  · by_cases g : x = y
    · subst g; simp [h]
    · have : x < y := by
        rw [Int64.lt_iff_toInt_lt] at h ⊢
        have ne : x.toInt ≠ y.toInt := fun q => g (Int64.toInt_inj.mp q)
        omega
      simp [h, g, this]
theorem own_privateBack {p : Program} {l : Launch} {e : Env} {R : Room} {s : State} {m : MethodId} {args : Array Value} {below : List Frame} {meth : Method} {c : Code} {T : State} {locs : List Loc} {cells slots : Nat}
    (X : Stand p l e R s m args below meth c T locs cells slots) (hexec : p.tables.exec = Jvm.exec) {own : String} {index k : Nat} {y : MethodName} {bytes : ByteArray} {maxL : Nat} {ret : Option FieldType}
    (hown : s.vm.findClass own = some m.cls) (hlink : (Jvm.Cond.methodLink own index y).before args s = true) (hinst : (Jvm.Cond.instanceMethod y).before args s = true) (hmk : (Jvm.Cond.instantiable y.cls k).before args s = true)
    (hpriv : s.PrivateAt y) (hcode : (Jvm.Cond.code y bytes maxL ret).before args s = true) (hy : y.cls ≠ "java/lang/invoke/MethodHandle" ∧ y.cls ≠ "java/lang/invoke/VarHandle")
    {W : Nat} {Pre : Free.Pt → Array Value → Prop} {Post : Free.Pt → Array Value → Option Value → Free.Pt → Prop} (hK : Free.Back l R p e below s args y 3 W Pre Post)
    {g : JFrame} (hg : g.method = m) (hsize : g.locals.size = c.maxLocals) {s₀ : State} (hcome : Steps p.tables e below s₀ (T.setTop g)) {a : Addr} {cell : Cell} (hcell : T.heap[a]? = some cell) (hobj : ∀ q, cell.vm ≠ .statics q)
    {argsL rest : List Value} (hlen : ∀ sig, parseMethodDescriptor y.desc = some sig → argsL.length = sig.parameters.length)
    (hstack : g.stack = argsL.reverse ++ .ref a :: rest) (hW : 2 * g.monitorRoom + (rest.map fun v => v.category).sum ≤ W) (hdg : decode c.code g.pc = .ok (.invokevirtual index, 3))
    (hpre : ∀ vm₁, s.WarmedH vm₁ → Pre ⟨T.setVm vm₁, locs, cells, slots⟩ (.ref a :: argsL).toArray) :
    ∃ (v : Option Value) (vm₁ : Vm) (B : Free.Pt), s.WarmedH vm₁ ∧ Stand p l e R s m args below meth c B.U B.locs B.cells B.slots ∧ Post ⟨T.setVm vm₁, locs, cells, slots⟩ (.ref a :: argsL).toArray v B ∧
      Steps p.tables e below s₀ (B.U.setTop { g with pc := g.pc + 3, stack := v.toList ++ rest }) := by
  obtain ⟨mk, r, named, found, inst, abs⟩ := Cond.instanceMethod_spec hinst
  obtain ⟨r', cM, found', -, -, -, -, -, -, sig⟩ := Cond.code_spec named hcode
  cases found.symm.trans found'
  obtain ⟨cC, kC, k1, k2, -, k4, -⟩ := Cond.instantiable_spec hmk
  cases (findClass_of_methodNamed named).symm.trans k1
  have face : kC.isInterface = false := (Bool.or_eq_false_iff.mp k4).1
  have sel : selectMethod e.platform s.vm cell.cls mk = .method mk := selectMethod_private found (hpriv mk r named found)
  obtain ⟨vm₁, X₁, go⟩ := X.invokevirtual hexec hown hlink named found inst k2 face hy (a := a) (cell := cell) hcell hobj sel found abs k2 face (g := g) hg (argsL := argsL) (rest := rest) (hlen _ sig) hstack hdg
  obtain ⟨v, B, X', post, back⟩ := hK m meth c ⟨T.setVm vm₁, locs, cells, slots⟩ { g with stack := rest } (.invokevirtual index) mk (.ref a :: argsL).toArray X₁ hg hsize hdg hW (X₁.named named) (hpre vm₁ X₁.warmed)
  exact ⟨v, vm₁, B, X₁.warmed, X', post, (hcome.trans (go _ fun acts => by rw [doInvoke_state]; exact Steps.refl _)).trans back⟩
theorem own_fitR {C : String} {v : Value} (h : v.isRef = true) : fits (.object C) v = true := by rcases ref_cases h with rfl | ⟨a, rfl⟩ <;> rfl
theorem own_fI {args : Array Value} {s : State} {t : Term} {a : Addr} {O n d : String} {k : Int32} (ev : t.eval args s none [] s = some (.ref a)) (h : (Jvm.Cond.eq (.field t O n d) (.int k)).value args s none s [] = some true) : Fld s s.heap a O n d (.int k) := by
  refine Fld.start ?_
  simp only [Jvm.Cond.value, fld_at ev] at h
  cases hf : s.fieldOf? a O n d with
  | none => simp [hf] at h
  | some v => cases v <;> simp [hf, Term.eval] at h; subst h; rfl
theorem own_fJ {args : Array Value} {s : State} {t : Term} {a : Addr} {O n d : String} {k : Int64} (ev : t.eval args s none [] s = some (.ref a)) (h : (Jvm.Cond.eq (.field t O n d) (.long k)).value args s none s [] = some true) : Fld s s.heap a O n d (.long k) := by
  refine Fld.start ?_
  simp only [Jvm.Cond.value, fld_at ev] at h
  cases hf : s.fieldOf? a O n d with
  | none => simp [hf] at h
  | some v => cases v <;> simp [hf, Term.eval] at h; subst h; rfl
theorem own_fN {args : Array Value} {s : State} {t : Term} {a : Addr} {O n d : String} (ev : t.eval args s none [] s = some (.ref a)) (h : (Jvm.Cond.eq (.field t O n d) .null).value args s none s [] = some true) : Fld s s.heap a O n d .null := Fld.start ((fld_at ev).symm.trans (null_v h))
def own_GoesW (p : Program) (e : Env) (below : List Frame) (s : State) (Q : Option Value → Heap → Vm → List Loc → Prop) (kc ks : Nat) (U : State) : Prop :=
  ∃ t o, Steps p.tables e below U t ∧ t.status = .running ∧ Ended t below o ∧ ∃ v L, o = .returned v ∧ Q v t.heap t.vm L ∧ ReturnedEndW s o t L kc ks
theorem own_goW {p : Program} {e : Env} {below : List Frame} {s : State} {Q : Option Value → Heap → Vm → List Loc → Prop} {kc ks : Nat} {U V : State} (h : ∀ t, Steps p.tables e below V t → Steps p.tables e below U t) (g : own_GoesW p e below s Q kc ks V) : own_GoesW p e below s Q kc ks U := by
  obtain ⟨t, o, h1, r⟩ := g
  exact ⟨t, o, h t h1, r⟩
theorem own_outW {p : Program} {l : Launch} {e : Env} {R : Room} {s : State} {m : MethodId} {args : Array Value} {below : List Frame} {meth : Method} {c : Code} {T : State} {locs : List Loc} {cells slots : Nat} {h : Heap} {Q : Option Value → Heap → Vm → List Loc → Prop} {kc ks : Nat} {U : State} {v : Option Value} {vm0 : Vm} {k0 : Nat}
    (X : Stand p l e R (s.setVm vm0) m args below meth c T locs cells slots) (hS : s.Since vm0 k0) (hk : k0 ≤ h.size) (hlk : meth.locks = false) (hv : meth.sig.returnType = none → v = none)
    (hs : ∀ fs, (∀ (f : JFrame) (acts : List Action), f.method = m → f.locked = none → f.entered = [] → (doReturn e (T.setTop f) acts v).1 = T.setFrames fs) → Steps p.tables e below U (T.setFrames fs))
    (eT : T.heap = h) (hQ : Q v h T.vm locs) (hc : cells ≤ kc) (hsl : slots ≤ ks) : own_GoesW p e below s Q kc ks U := by
  subst eT
  obtain ⟨fs, hr, hrun, hended, hE⟩ := X.leaveW hS hk hv hlk
  exact ⟨_, _, hs fs hr, hrun, hended, _, _, rfl, hQ, hE.1, hE.2.1, hE.2.2.1, hE.2.2.2.mono hc hsl⟩
theorem own_backV {p : Program} {l : Launch} {e : Env} {R : Room} {s : State} {args : Array Value} {below : List Frame} {Z : State} {a0 : Array Value} {h : Heap} {y : MethodName} {bytes : ByteArray} {maxL : Nat} {ret : Option FieldType} {rm : Room} {len W : Nat} {as' : Array Value} {VI : Vm → Prop} {Q : Option Value → Heap → Vm → List Loc → Prop}
    (hM : MetFree l y (head1 [Jvm.Cond.code y bytes maxL ret] rm) (fun a U => a = as' ∧ Z.Warmed39 U.vm ∧ U.heap = h ∧ VI U.vm) (fun _ _ _ _ _ => True) (fun _ U o U' => ∃ v L, o = .returned v ∧ Q v U'.heap U'.vm L ∧ ReturnedEndW U o U' L rm.cells rm.slots))
    (hZ : Z.Warmed39 s.vm) (hV : ∀ vm₁, s.WarmedH vm₁ → VI vm₁) (wc : (Jvm.Cond.code y bytes maxL ret).before a0 Z = true) (wz : (Jvm.Cond.initialized y.cls).before a0 Z = true) (hf : rm.frames + 1 ≤ R.frames) (hl : W + (maxL + 11) + rm.locals ≤ R.locals) :
    BackS l R p e below s args y len W (fun A a => a = as' ∧ A.U.heap = h ∧ A.cells + rm.cells ≤ R.cells ∧ A.slots + rm.slots ≤ R.slots)
      (fun A _ v B => ∃ L, Q v B.U.heap B.U.vm L ∧ B.locs = A.locs ++ L ∧ B.cells = A.cells + rm.cells ∧ B.slots = A.slots + rm.slots) :=
  BackS.of_freeW (bytes := bytes) (maxL := maxL) (ret := ret) (E := fun _ _ o t L k n => k = rm.cells ∧ n = rm.slots ∧ ∃ v, o = .returned v ∧ Q v t.heap t.vm L) hM hf hl
    (fun m meth c A a Y hp => ⟨by show (Jvm.Cond.and _ .tt).before a A.U = true; rw [Cond.before_and, mv (wtrans hZ Y.warmed) wc]; rfl, mv (wtrans hZ Y.warmed) wc, mv (wtrans hZ Y.warmed) wz, hp.2.2.1, hp.2.2.2⟩)
    (fun m meth c A a g mk Y hp => ⟨hp.1, wtrans hZ Y.warmed, hp.2.1, hV _ Y.warmed⟩) (fun _ _ _ _ _ _ _ _ _ => trivial)
    (fun _ _ _ _ ⟨v, L, h1, h2, h3⟩ => ⟨L, _, _, h3, rfl, rfl, v, h1, h2⟩)
    (fun m meth c A a g mk v t L k n Y hp _ _ ⟨e1, e2, v', e3, e4⟩ => by cases e3; subst e1 e2; exact ⟨L, e4, rfl, rfl, rfl⟩)
theorem own_IBw {Z b : State} {vm : Vm} {Ts : List String} (h : b.WarmedH vm) (I : IB Z b.vm Ts) : IB Z vm Ts := by
  obtain ⟨more, h1, h2⟩ := I
  exact ⟨more, by rw [h.interned_eq]; exact h1, h2⟩
theorem own_Litw {b : State} {vm0 vm : Vm} {own : String} {i : Nat} {a : Addr} (h : (b.setVm vm0).WarmedH vm) (L : Lit (b.setVm vm0) own i a) : Lit (b.setVm vm) own i a := Lit.stays L h.wide
theorem pn_0 : plainName "java/lang/String" = true := by first | (simp [plainName, overriddenIn]; done) | decide +kernel
theorem pn_1 : plainName "java/util/Objects" = true := by first | (simp [plainName, overriddenIn]; done) | decide +kernel
theorem pn_2 : plainName "java/util/Optional" = true := by first | (simp [plainName, overriddenIn]; done) | decide +kernel
theorem pn_3 : plainName "com/example/esfahan/esfahan/model/ComparisonOfSymbolPinLaw" = true := by first | (simp [plainName, overriddenIn]; done) | decide +kernel
theorem pn_4 : plainName "com/example/esfahan/esfahan/model/Comparison" = true := by first | (simp [plainName, overriddenIn]; done) | decide +kernel
theorem pd_0 : parseMethodDescriptor "([CIILjava/lang/Void;)V" = some ⟨[(.array .char), .int, .int, (.object "java/lang/Void")], none⟩ := by decide +kernel
theorem pd_1 : parseMethodDescriptor "(Ljava/lang/Object;)Ljava/lang/Object;" = some ⟨[(.object "java/lang/Object")], some (.object "java/lang/Object")⟩ := by decide +kernel
theorem pd_2 : parseMethodDescriptor "(Ljava/lang/Object;)V" = some ⟨[(.object "java/lang/Object")], none⟩ := by decide +kernel
theorem pd_3 : parseMethodDescriptor "()[Lcom/example/esfahan/esfahan/model/Comparison;" = some ⟨[], some (.array (.object "com/example/esfahan/esfahan/model/Comparison"))⟩ := by decide +kernel
theorem pd_4 : parseMethodDescriptor "(Ljava/lang/Object;)Z" = some ⟨[(.object "java/lang/Object")], some .boolean⟩ := by decide +kernel
theorem pd_5 : parseMethodDescriptor "(Ljava/lang/Object;)Ljava/util/Optional;" = some ⟨[(.object "java/lang/Object")], some (.object "java/util/Optional")⟩ := by decide +kernel
theorem pd_6 : parseMethodDescriptor "()Ljava/util/Optional;" = some ⟨[], some (.object "java/util/Optional")⟩ := by decide +kernel
theorem pd_7 : parseMethodDescriptor "(I)C" = some ⟨[.int], some .char⟩ := by decide +kernel
theorem pd_8 : parseMethodDescriptor "(Ljava/lang/String;)Ljava/util/Optional;" = some ⟨[(.object "java/lang/String")], some (.object "java/util/Optional")⟩ := by decide +kernel
theorem pd_9 : parseMethodDescriptor "([C)V" = some ⟨[(.array .char)], none⟩ := by decide +kernel
theorem pd_10 : parseMethodDescriptor "(ICC)Lcom/example/esfahan/esfahan/model/Comparison;" = some ⟨[.int, .char, .char], some (.object "com/example/esfahan/esfahan/model/Comparison")⟩ := by decide +kernel
theorem own_allc {P : Int32 → Prop} {y : Int32} {L : List Int32} (q : P y) (r : ∀ x ∈ L, P x) : ∀ x ∈ y :: L, P x := fun x z => (List.mem_cons.mp z).elim (fun u => u ▸ q) (r x)
theorem own_words {a0 : Array Value} {Z : State} (hw : ∀ d ∈ tables_1, d.before a0 Z = true) : ∀ d ∈ StrChars.Road.words, d.before a0 Z = true := fun d hd => hw d ((by decide +kernel : ∀ d ∈ StrChars.Road.words, d ∈ tables_1) d hd)
theorem own_wordsEq {a0 : Array Value} {Z : State} (hw : ∀ d ∈ tables_1, d.before a0 Z = true) : ∀ d ∈ StrChars.Road.wordsEq, d.before a0 Z = true := fun d hd => hw d ((by decide +kernel : ∀ d ∈ StrChars.Road.wordsEq, d ∈ tables_1) d hd)
theorem own_wS {a0 : Array Value} {Z : State} (hw : ∀ d ∈ tables_1, d.before a0 Z = true) : ∀ a ∈ Bundle.stringAtoms, a.before a0 Z = true := by
  intro a ha
  simp only [Bundle.stringAtoms, List.mem_cons, List.not_mem_nil, or_false] at ha
  rcases ha with rfl | rfl | rfl | rfl | rfl | rfl | rfl
  · exact (hw _ (List.mem_of_getElem? (i := 6) rfl))
  · exact (hw _ (List.mem_of_getElem? (i := 5) rfl))
  · exact (hw _ (List.mem_of_getElem? (i := 19) rfl))
  · exact (hw _ (List.mem_of_getElem? (i := 20) rfl))
  · exact (hw _ (List.mem_of_getElem? (i := 21) rfl))
  · exact (hw _ (List.mem_of_getElem? (i := 22) rfl))
  · exact (hw _ (List.mem_of_getElem? (i := 23) rfl))
theorem own_up {cs : List Int32} (h : ∀ c ∈ cs, ¬ c < 0 ∧ ¬ (255 : Int32) < c) : ∀ c ∈ cs, ¬ c < 0 ∧ ¬ (65535 : Int32) < c := fun c hc => ⟨(h c hc).1, fun q => (h c hc).2 (by rw [Int32.lt_iff_toInt_lt] at q ⊢; have e1 : (65535 : Int32).toInt = 65535 := rfl; have e2 : (255 : Int32).toInt = 255 := rfl; omega)⟩
theorem own_chr (x : Int32) : ¬ ((x &&& (255 : Int32)).toUInt32.toUInt16.toUInt32.toInt32) < 0 ∧ ¬ (255 : Int32) < ((x &&& (255 : Int32)).toUInt32.toUInt16.toUInt32.toInt32) := by
  have t : ∀ k : Fin 256, ¬ ((Int32.ofNat k.val).toUInt32.toUInt16.toUInt32.toInt32) < 0 ∧ ¬ (255 : Int32) < ((Int32.ofNat k.val).toUInt32.toUInt16.toUInt32.toInt32) := by decide +kernel
  have h : (x &&& 255).toBitVec.toNat < 256 := by
    simp only [Int32.toBitVec_and, BitVec.toNat_and]
    exact Nat.lt_succ_of_le Nat.and_le_right
  have e : (x &&& 255) = Int32.ofNat (x &&& 255).toBitVec.toNat := by
    apply Int32.toBitVec_inj.mp
    show _ = BitVec.ofNat 32 _
    rw [BitVec.ofNat_toNat]; simp
  rw [e]
  exact t ⟨_, h⟩
theorem own_narc {r : Int32} (h : ¬ r < 0 ∧ ¬ (255 : Int32) < r) : nar .char r = r := by
  have t : ∀ k : Fin 256, nar .char (Int32.ofNat k.val) = Int32.ofNat k.val := by decide +kernel
  have e255 : (255 : Int32).toInt = 255 := rfl
  have h1 := h.1
  have h2 := h.2
  rw [XT.negI32] at h1
  rw [Int32.lt_iff_toInt_lt, e255] at h2
  have e : r = Int32.ofNat r.toInt.toNat := by
    apply Int32.toInt_inj.mp
    rw [Int32.toInt_ofNat_of_lt (by omega)]
    omega
  rw [e]
  exact t ⟨r.toInt.toNat, by omega⟩
theorem own_compact {args : Array Value} {s : State} (h1 : (Jvm.Cond.isInt (.static "java/lang/String" "COMPACT_STRINGS" "Z")).value args s none s [] = some true) (h2 : (Jvm.Cond.not (.eq (.static "java/lang/String" "COMPACT_STRINGS" "Z") (.int 0))).value args s none s [] = some true) (h3 : (Jvm.Cond.initializedFor "java/lang/String" "COMPACT_STRINGS" "Z").before args s = true) :
    ∃ z : Int32, Sta s s.heap "java/lang/String" "COMPACT_STRINGS" "Z" (.int z) ∧ ¬ z = 0 := by
  obtain ⟨z, ev⟩ := is_v h1
  refine ⟨z, Sta.start ev (Or.inl h3), fun q => ?_⟩
  have h4 := not_v h2
  rw [eq_i ev (Term.int_eval (0)) (by rw [q])] at h4
  cases h4
theorem own_eqR {args : Array Value} {s : State} {u t : Term} {a : Addr} (ev : t.eval args s none [] s = some (.ref a)) (h : (Jvm.Cond.eq u t).value args s none s [] = some true) : u.eval args s none [] s = some (.ref a) := by
  simp only [Jvm.Cond.value, ev] at h
  cases hf : u.eval args s none [] s with
  | none => simp [hf] at h
  | some v => cases v <;> simp [hf] at h; subst h; rfl
theorem own_len {args : Array Value} {s : State} {t : Term} {a : Addr} {cl : Cell} {k : Int32} (ev : t.eval args s none [] s = some (.ref a)) (hc : s.heap[a]? = some cl) (h : (Term.length t).eval args s none [] s = some (.int k)) : cl.slots.size < 2 ^ 31 ∧ cl.slots.size.toInt32 = k := by
  simp only [Term.eval, Option.bind_eq_bind, ev, Option.bind_some] at h
  obtain ⟨c', ha, h⟩ := Option.bind_eq_some_iff.mp h
  cases hc.symm.trans (State.arrayAt?_spec ha).1
  by_cases hn : cl.slots.size < 2 ^ 31
  · rw [if_pos hn] at h
    exact ⟨hn, Value.int.inj (Option.some.inj h)⟩
  · rw [if_neg hn] at h; cases h
theorem own_and3 (x : Int32) : (x &&& 3) = 0 ∨ (x &&& 3) = 1 ∨ (x &&& 3) = 2 ∨ (x &&& 3) = 3 := by
  have t : ∀ k : Fin 4, (Int32.ofNat k.val) = 0 ∨ (Int32.ofNat k.val) = 1 ∨ (Int32.ofNat k.val) = 2 ∨ (Int32.ofNat k.val) = 3 := by decide
  have h : (x &&& 3).toBitVec.toNat < 4 := by
    simp only [Int32.toBitVec_and, BitVec.toNat_and]
    exact Nat.lt_succ_of_le Nat.and_le_right
  have e : (x &&& 3) = Int32.ofNat (x &&& 3).toBitVec.toNat := by
    apply Int32.toBitVec_inj.mp
    show _ = BitVec.ofNat 32 _
    rw [BitVec.ofNat_toNat]; simp
  rw [e]
  exact t ⟨_, h⟩
theorem own_Litv {b b2 : State} {vm : Vm} {own : String} {i : Nat} {a : Addr} (L : Lit (b.setVm vm) own i a) : Lit (b2.setVm vm) own i a := L
theorem d3_0 : decode jdk_42_method_149_code 0 = .ok (.aload_n 0, 1) := by decide +kernel
theorem d3_1 : decode jdk_42_method_149_code 1 = .ok (.invokespecial 1, 3) := by decide +kernel
theorem d3_4 : decode jdk_42_method_149_code 4 = .ok (.iload_n 3, 1) := by decide +kernel
theorem d3_5 : decode jdk_42_method_149_code 5 = .ok (.ifCond .ne 22, 3) := by decide +kernel
theorem d3_8 : decode jdk_42_method_149_code 8 = .ok (.aload_n 0, 1) := by decide +kernel
theorem d3_9 : decode jdk_42_method_149_code 9 = .ok (.ldc 7, 2) := by decide +kernel
theorem d3_11 : decode jdk_42_method_149_code 11 = .ok (.getfield 9, 3) := by decide +kernel
theorem d3_14 : decode jdk_42_method_149_code 14 = .ok (.putfield 9, 3) := by decide +kernel
theorem d3_17 : decode jdk_42_method_149_code 17 = .ok (.aload_n 0, 1) := by decide +kernel
theorem d3_18 : decode jdk_42_method_149_code 18 = .ok (.ldc 7, 2) := by decide +kernel
theorem d3_20 : decode jdk_42_method_149_code 20 = .ok (.getfield 15, 3) := by decide +kernel
theorem d3_23 : decode jdk_42_method_149_code 23 = .ok (.putfield 15, 3) := by decide +kernel
theorem d3_26 : decode jdk_42_method_149_code 26 = .ok (.return_, 1) := by decide +kernel
theorem ef_e4 (m : MethodId) (x : Addr) (b : Addr) : entryFrame m #[(.ref x), (.ref b), (.int (0 : Int32)), (.int (0 : Int32)), .null] 6 = mkF m 0 #[.val (.ref x), .val (.ref b), .val (.int (0 : Int32)), .val (.int (0 : Int32)), .val .null, .unset] [] := by
  first | (simp [entryFrame, mkF, argsToLocals, Value.category]; done) | rfl
def Q_e4 (Z : State) (x : Addr) (b : Addr) (h0 : Heap) (n0 : Nat) (v : Option Value) (h : Heap) (vm : Vm) (L : List Loc) : Prop := v = none ∧ Fr n0 L ∧ Keep h0 h [x] ∧ Fld Z h x "java/lang/String" "coder" "B" (.int (0 : Int32)) ∧ ∃ (t : Addr) (kb : ClassId) (le : Addr), Fld Z h x "java/lang/String" "value" "[B" (.ref t) ∧ Arv Z h t kb .byte (0 : Int32) [] (.int (0 : Int32)) ∧ x ≠ t ∧ IB Z vm [""] ∧ (∀ b : State, Lit (b.setVm vm) "java/lang/String" 7 le) ∧ Fld Z h le "java/lang/String" "coder" "B" (.int (0 : Int32)) ∧ Fld Z h le "java/lang/String" "value" "[B" (.ref t) ∧ Exa Z h le "java/lang/String" ∧ x ≠ le
set_option maxRecDepth 65536 in
set_option maxHeartbeats 40000000 in
theorem rm_e4 (l : Launch) (Z : State) (a0 : Array Value) (hw : ∀ d ∈ tables_1, d.before a0 Z = true) (ws : List Jvm.Cond) (x : Addr) (b : Addr) (h0 : Heap) (n0 : Nat) (O0 : Old Z n0 h0) (Fv : Fld Z h0 x "java/lang/String" "value" "[B" .null) (Fc : Fld Z h0 x "java/lang/String" "coder" "B" (.int (0 : Int32))) (Ex : Exa Z h0 x "java/lang/String") (g_x : n0 ≤ x) (hh7 : Jvm.Lit.constHeld Z "java/lang/String" 7) (hcw : Jvm.Lit.compactW.before a0 Z = true) :
    MetFree l (⟨"java/lang/String", "<init>", "([CIILjava/lang/Void;)V"⟩ : MethodName) (head1 (Jvm.Cond.code (⟨"java/lang/String", "<init>", "([CIILjava/lang/Void;)V"⟩ : MethodName) jdk_42_method_149_code 6 none :: ws) ({ frames := 1, cells := 2, slots := 4, locals := 12 } : Room)) (fun av_ U => av_ = #[(.ref x), (.ref b), (.int (0 : Int32)), (.int (0 : Int32)), .null] ∧ Z.Warmed39 U.vm ∧ U.heap = h0 ∧ (fun vm_ : Vm => IB Z vm_ []) U.vm) (fun _ _ _ _ _ => True) (fun _ U o_ U' => ∃ v L, o_ = .returned v ∧ Q_e4 Z x b h0 n0 v U'.heap U'.vm L ∧ ReturnedEndW U o_ U' L ({ frames := 1, cells := 2, slots := 4, locals := 12 } : Room).cells ({ frames := 1, cells := 2, slots := 4, locals := 12 } : Room).slots) := by
  refine MetFree.of_bodySF (plainFor_of_name pn_0) hisR ?_
  intro p e s m args below meth c s₁ Bd hml0 hP hK
  obtain ⟨rfl, hZ, hh, hVI⟩ := hP
  have hZ : Z.Warmed39 (s.setVm s.vm).vm := hZ
  have hx := Bd.exec
  have hby := Bd.bytes
  have hml : c.maxLocals = 6 := hml0
  have hown : (s.setVm s.vm).vm.findClass "java/lang/String" = some m.cls := findClass_of_methodNamed Bd.named
  have hnm := (name_of_methodNamed Bd.named Bd.method).1
  have hlk := own_lk Bd
  have hret := Bd.returns
  have X0 : Stand p l e ({ frames := 1, cells := 2, slots := 4, locals := 12 } : Room) (s.setVm s.vm) m #[(.ref x), (.ref b), (.int (0 : Int32)), (.int (0 : Int32)), .null] below meth c s₁ [] 0 0 := Stand.of_body Bd
  have e0 : s₁.heap = h0 := by rw [← hh, Bd.state]; rfl
  have N0 := Fr.nil n0
  have hS : s.Since s.vm h0.size := (State.WarmedH.refl s).since _
  have hk : h0.size ≤ h0.size := Nat.le_refl _
  have wS : ∀ a ∈ Bundle.stringAtoms, a.before a0 Z = true := own_wS hw
  show own_GoesW p e below s (Q_e4 Z x b h0 n0) ({ frames := 1, cells := 2, slots := 4, locals := 12 } : Room).cells ({ frames := 1, cells := 2, slots := 4, locals := 12 } : Room).slots (s₁.setTop (entryFrame m #[(.ref x), (.ref b), (.int (0 : Int32)), (.int (0 : Int32)), .null] 6))
  refine own_goW (fun _ ww => castTop (ef_e4 m x b) ww) ?_
  have hI : IB Z s.vm [] := hVI
  have hkp : ∀ (b : Addr) (cl : Cell), Z.heap[b]? = some cl → s.heap[b]? = some cl := by rw [hh]; exact O0.2.2
  show own_GoesW _ _ _ _ _ _ _ (s₁.setTop (mkF m 0 #[.val (.ref x), .val (.ref b), .val (.int (0 : Int32)), .val (.int (0 : Int32)), .val .null, .unset] []))
  refine own_goW (fun _ ww => XS.aloadN X0.here hx rfl (hb hby d3_0) rfl rfl ww) ?_
  show own_GoesW _ _ _ _ _ _ _ (s₁.setTop (mkF m 1 #[.val (.ref x), .val (.ref b), .val (.int (0 : Int32)), .val (.int (0 : Int32)), .val .null, .unset] [(.ref x)]))
  obtain ⟨T1, X1, e1, st1⟩ := initO X0 hx hZ hown (hw _ (List.mem_of_getElem? (i := 15) rfl)) (hw _ (List.mem_of_getElem? (i := 16) rfl)) (hw _ (List.mem_of_getElem? (i := 17) rfl)) e0 (g := (mkF m 1 #[.val (.ref x), .val (.ref b), .val (.int (0 : Int32)), .val (.int (0 : Int32)), .val .null, .unset] [(.ref x)])) rfl (by rw [hml]; rfl) rfl (hb hby d3_1) (by decide) (W := 0) (by show 2 * 0 + _ ≤ _; exact Nat.le_of_eq rfl) (by decide)
  refine own_goW st1 ?_
  show own_GoesW _ _ _ _ _ _ _ (T1.setTop (mkF m 4 #[.val (.ref x), .val (.ref b), .val (.int (0 : Int32)), .val (.int (0 : Int32)), .val .null, .unset] []))
  refine own_goW (fun _ ww => XS.iloadN X1.here hx rfl (hb hby d3_4) rfl  ww) ?_
  show own_GoesW _ _ _ _ _ _ _ (T1.setTop (mkF m 5 #[.val (.ref x), .val (.ref b), .val (.int (0 : Int32)), .val (.int (0 : Int32)), .val .null, .unset] [(.int (0 : Int32))]))
  refine own_goW (fun _ ww => XS.ifNo X1.here hx rfl (hb hby d3_5) rfl (own_if .ne (teq (by decide : (0 : Int32) = (0 : Int32))).2) ww) ?_
  show own_GoesW _ _ _ _ _ _ _ (T1.setTop (mkF m 8 #[.val (.ref x), .val (.ref b), .val (.int (0 : Int32)), .val (.int (0 : Int32)), .val .null, .unset] []))
  refine own_goW (fun _ ww => XS.aloadN X1.here hx rfl (hb hby d3_8) rfl rfl ww) ?_
  show own_GoesW _ _ _ _ _ _ _ (T1.setTop (mkF m 9 #[.val (.ref x), .val (.ref b), .val (.int (0 : Int32)), .val (.int (0 : Int32)), .val .null, .unset] [(.ref x)]))
  obtain ⟨a2, T2, h2, k2, t2, kb2, X2, e2, E2, hS, hk, hZ, hown, EA2, CA2, VA2, KA2, -, -, hI, hL2, st2⟩ := ldcSVL X1 hx hZ hown (hw _ (List.mem_of_getElem? (i := 18) rfl)) wS e1 hS hk (Fr.nil _) hkp hI (by simp) hh7 hcw (vs := []) (z := (0 : Int32)) ⟨by simp, rfl⟩ (by decide) rfl (g := (mkF m 9 #[.val (.ref x), .val (.ref b), .val (.int (0 : Int32)), .val (.int (0 : Int32)), .val .null, .unset] [(.ref x)])) rfl (hb hby d3_9) (n := 0) (by decide) (by decide) (by decide) (by decide)
  have f3 : Fld Z h2 x "java/lang/String" "value" "[B" .null := (Fv.ext E2)
  have f4 : Fld Z h2 x "java/lang/String" "coder" "B" (.int (0 : Int32)) := (Fc.ext E2)
  have f5 : Exa Z h2 x "java/lang/String" := (Ex.ext E2)
  have O2 := O0.ext E2
  have K2 := (Keep.refl h0 [x]).ext E2
  have ne_x_a2 : x ≠ a2 := Fld.ne f3 VA2 (by simp)
  have ne_x_t2 : x ≠ t2 := Exa.neArv f5 KA2 (hw _ (List.mem_of_getElem? (i := 5) rfl))
  refine own_goW st2 ?_
  show own_GoesW _ _ _ _ _ _ _ (T2.setTop (mkF m 11 #[.val (.ref x), .val (.ref b), .val (.int (0 : Int32)), .val (.int (0 : Int32)), .val .null, .unset] [(.ref a2), (.ref x)]))
  obtain ⟨T6, X6, e6, st6⟩ := getF X2 hx hZ hown (host := "") (Or.inl (hw _ (List.mem_of_getElem? (i := 24) rfl))) Via.refl e2 VA2 (g := (mkF m 11 #[.val (.ref x), .val (.ref b), .val (.int (0 : Int32)), .val (.int (0 : Int32)), .val .null, .unset] [(.ref a2), (.ref x)])) rfl rfl (hb hby d3_11)
  refine own_goW st6 ?_
  show own_GoesW _ _ _ _ _ _ _ (T6.setTop (mkF m 14 #[.val (.ref x), .val (.ref b), .val (.int (0 : Int32)), .val (.int (0 : Int32)), .val .null, .unset] [(.ref t2), (.ref x)]))
  obtain ⟨T7, h7, X7, e7, W7, st7⟩ := putF X6 hx hZ hown (host := "") (Or.inl (hw _ (List.mem_of_getElem? (i := 24) rfl))) Via.refl e6 f3 f5 (Or.inr ⟨(hw _ (List.mem_of_getElem? (i := 20) rfl)), rfl, hnm⟩) (hw _ (List.mem_of_getElem? (i := 5) rfl)) (ty := (.array .byte)) (by decide) rfl rfl (g := (mkF m 14 #[.val (.ref x), .val (.ref b), .val (.int (0 : Int32)), .val (.int (0 : Int32)), .val .null, .unset] [(.ref t2), (.ref x)])) rfl rfl (hb hby d3_14)
  have f8 : Fld Z h7 x "java/lang/String" "value" "[B" (.ref t2) := (f3.same W7)
  have f9 : Fld Z h7 x "java/lang/String" "coder" "B" (.int (0 : Int32)) := (f4.other W7 (Or.inr (slot_ne (Or.inr (hw _ (List.mem_of_getElem? (i := 21) rfl))) (Or.inr (hw _ (List.mem_of_getElem? (i := 20) rfl))) (by decide) (t := .byte) (t' := (.array .byte)) (by decide) (by decide))))
  have f10 : Exa Z h7 x "java/lang/String" := (f5.wr W7)
  have f11 : Exa Z h7 a2 "java/lang/String" := (EA2.wr W7)
  have f12 : Fld Z h7 a2 "java/lang/String" "coder" "B" (.int (0 : Int32)) := (CA2.other W7 (Or.inl (Ne.symm ne_x_a2)))
  have f13 : Fld Z h7 a2 "java/lang/String" "value" "[B" (.ref t2) := (VA2.other W7 (Or.inl (Ne.symm ne_x_a2)))
  have f14 : Arv Z h7 t2 kb2 .byte (0 : Int32) [] (.int (0 : Int32)) := (KA2.other W7 (Ne.symm ne_x_t2))
  have hk := Nat.le_trans hk (Keep.of_wr W7).1
  have N7 := Fr.snoc X7 N0 g_x
  have O7 := O2.wr W7 g_x
  have K7 := K2.wr W7 (Or.inl (List.mem_of_getElem? (i := 0) rfl))
  refine own_goW st7 ?_
  show own_GoesW _ _ _ _ _ _ _ (T7.setTop (mkF m 17 #[.val (.ref x), .val (.ref b), .val (.int (0 : Int32)), .val (.int (0 : Int32)), .val .null, .unset] []))
  refine own_goW (fun _ ww => XS.aloadN X7.here hx rfl (hb hby d3_17) rfl rfl ww) ?_
  show own_GoesW _ _ _ _ _ _ _ (T7.setTop (mkF m 18 #[.val (.ref x), .val (.ref b), .val (.int (0 : Int32)), .val (.int (0 : Int32)), .val .null, .unset] [(.ref x)]))
  refine own_goW (fun _ ww => ldcAgain X7 hx hZ hown (hw _ (List.mem_of_getElem? (i := 18) rfl)) hL2 (g := (mkF m 18 #[.val (.ref x), .val (.ref b), .val (.int (0 : Int32)), .val (.int (0 : Int32)), .val .null, .unset] [(.ref x)])) rfl (hb hby d3_18) _ ww) ?_
  show own_GoesW _ _ _ _ _ _ _ (T7.setTop (mkF m 20 #[.val (.ref x), .val (.ref b), .val (.int (0 : Int32)), .val (.int (0 : Int32)), .val .null, .unset] [(.ref a2), (.ref x)]))
  obtain ⟨T16, X16, e16, st16⟩ := getF X7 hx hZ hown (host := "") (Or.inl (hw _ (List.mem_of_getElem? (i := 25) rfl))) Via.refl e7 f12 (g := (mkF m 20 #[.val (.ref x), .val (.ref b), .val (.int (0 : Int32)), .val (.int (0 : Int32)), .val .null, .unset] [(.ref a2), (.ref x)])) rfl rfl (hb hby d3_20)
  refine own_goW st16 ?_
  show own_GoesW _ _ _ _ _ _ _ (T16.setTop (mkF m 23 #[.val (.ref x), .val (.ref b), .val (.int (0 : Int32)), .val (.int (0 : Int32)), .val .null, .unset] [(.int (0 : Int32)), (.ref x)]))
  obtain ⟨T17, h17, X17, e17, W17, st17⟩ := putFN X16 hx hZ hown (hw _ (List.mem_of_getElem? (i := 25) rfl)) Via.refl e16 f9 f10 (Or.inr ⟨(hw _ (List.mem_of_getElem? (i := 21) rfl)), rfl, hnm⟩) (hw _ (List.mem_of_getElem? (i := 5) rfl)) (ty := .byte) (v' := (.int (0 : Int32))) (by decide) (by decide) rfl (g := (mkF m 23 #[.val (.ref x), .val (.ref b), .val (.int (0 : Int32)), .val (.int (0 : Int32)), .val .null, .unset] [(.int (0 : Int32)), (.ref x)])) rfl rfl (hb hby d3_23)
  have f18 : Fld Z h17 x "java/lang/String" "value" "[B" (.ref t2) := (f8.other W17 (Or.inr (slot_ne (Or.inr (hw _ (List.mem_of_getElem? (i := 20) rfl))) (Or.inr (hw _ (List.mem_of_getElem? (i := 21) rfl))) (by decide) (t := (.array .byte)) (t' := .byte) (by decide) (by decide))))
  have f19 : Fld Z h17 x "java/lang/String" "coder" "B" (.int (0 : Int32)) := (f9.same W17)
  have f20 : Exa Z h17 x "java/lang/String" := (f10.wr W17)
  have f21 : Exa Z h17 a2 "java/lang/String" := (f11.wr W17)
  have f22 : Fld Z h17 a2 "java/lang/String" "coder" "B" (.int (0 : Int32)) := (f12.other W17 (Or.inl (Ne.symm ne_x_a2)))
  have f23 : Fld Z h17 a2 "java/lang/String" "value" "[B" (.ref t2) := (f13.other W17 (Or.inl (Ne.symm ne_x_a2)))
  have f24 : Arv Z h17 t2 kb2 .byte (0 : Int32) [] (.int (0 : Int32)) := (f14.other W17 (Ne.symm ne_x_t2))
  have hk := Nat.le_trans hk (Keep.of_wr W17).1
  have N17 := Fr.snoc X17 N7 g_x
  have O17 := O7.wr W17 g_x
  have K17 := K7.wr W17 (Or.inl (List.mem_of_getElem? (i := 0) rfl))
  refine own_goW st17 ?_
  show own_GoesW _ _ _ _ _ _ _ (T17.setTop (mkF m 26 #[.val (.ref x), .val (.ref b), .val (.int (0 : Int32)), .val (.int (0 : Int32)), .val .null, .unset] []))
  exact own_outW X17 hS hk hlk (v := none) (fun _ => rfl) (fun fs hr => X17.returnOut hx hret (hb hby d3_26) hr) e17 ⟨rfl, N17, K17, f19, t2, kb2, a2, f18, f24, ne_x_t2, own_IBw X17.warmed hI, (fun b => own_Litv (own_Litw X17.warmed hL2)), f22, f23, f21, ne_x_a2⟩ (by decide) (by decide)
theorem d2_0 : decode jdk_42_method_3_code 0 = .ok (.aload_n 0, 1) := by decide +kernel
theorem d2_1 : decode jdk_42_method_3_code 1 = .ok (.aload_n 1, 1) := by decide +kernel
theorem d2_2 : decode jdk_42_method_3_code 2 = .ok (.iconst 0, 1) := by decide +kernel
theorem d2_3 : decode jdk_42_method_3_code 3 = .ok (.aload_n 1, 1) := by decide +kernel
theorem d2_4 : decode jdk_42_method_3_code 4 = .ok (.arraylength, 1) := by decide +kernel
theorem d2_5 : decode jdk_42_method_3_code 5 = .ok (.aconst_null, 1) := by decide +kernel
theorem d2_6 : decode jdk_42_method_3_code 6 = .ok (.invokespecial 27, 3) := by decide +kernel
theorem d2_9 : decode jdk_42_method_3_code 9 = .ok (.return_, 1) := by decide +kernel
theorem ef_e1 (m : MethodId) (x : Addr) (b : Addr) (kc : ClassId) : entryFrame m #[(.ref x), (.ref b)] 2 = mkF m 0 #[.val (.ref x), .val (.ref b)] [] := by
  first | (simp [entryFrame, mkF, argsToLocals, Value.category]; done) | rfl
def Q_e1 (Z : State) (x : Addr) (b : Addr) (kc : ClassId) (h0 : Heap) (n0 : Nat) (v : Option Value) (h : Heap) (vm : Vm) (L : List Loc) : Prop := v = none ∧ Fr n0 L ∧ Keep h0 h [x] ∧ Fld Z h x "java/lang/String" "coder" "B" (.int (0 : Int32)) ∧ ∃ (t : Addr) (kb : ClassId) (le : Addr), Fld Z h x "java/lang/String" "value" "[B" (.ref t) ∧ Arv Z h t kb .byte (0 : Int32) [] (.int (0 : Int32)) ∧ x ≠ t ∧ IB Z vm [""] ∧ (∀ b : State, Lit (b.setVm vm) "java/lang/String" 7 le) ∧ Fld Z h le "java/lang/String" "coder" "B" (.int (0 : Int32)) ∧ Fld Z h le "java/lang/String" "value" "[B" (.ref t) ∧ Exa Z h le "java/lang/String" ∧ x ≠ le
set_option maxRecDepth 65536 in
set_option maxHeartbeats 40000000 in
theorem rm_e1 (l : Launch) (Z : State) (a0 : Array Value) (hw : ∀ d ∈ tables_1, d.before a0 Z = true) (ws : List Jvm.Cond) (x : Addr) (b : Addr) (kc : ClassId) (h0 : Heap) (n0 : Nat) (O0 : Old Z n0 h0) (Fv : Fld Z h0 x "java/lang/String" "value" "[B" .null) (Fc : Fld Z h0 x "java/lang/String" "coder" "B" (.int (0 : Int32))) (Ex : Exa Z h0 x "java/lang/String") (g_x : n0 ≤ x) (Kb : Arv Z h0 b kc .char (0 : Int32) [] (.int (0 : Int32))) (hh7 : Jvm.Lit.constHeld Z "java/lang/String" 7) (hcw : Jvm.Lit.compactW.before a0 Z = true) :
    MetFree l (⟨"java/lang/String", "<init>", "([C)V"⟩ : MethodName) (head1 (Jvm.Cond.code (⟨"java/lang/String", "<init>", "([C)V"⟩ : MethodName) jdk_42_method_3_code 2 none :: ws) ({ frames := 2, cells := 2, slots := 4, locals := 29 } : Room)) (fun av_ U => av_ = #[(.ref x), (.ref b)] ∧ Z.Warmed39 U.vm ∧ U.heap = h0 ∧ (fun vm_ : Vm => IB Z vm_ []) U.vm) (fun _ _ _ _ _ => True) (fun _ U o_ U' => ∃ v L, o_ = .returned v ∧ Q_e1 Z x b kc h0 n0 v U'.heap U'.vm L ∧ ReturnedEndW U o_ U' L ({ frames := 2, cells := 2, slots := 4, locals := 29 } : Room).cells ({ frames := 2, cells := 2, slots := 4, locals := 29 } : Room).slots) := by
  refine MetFree.of_bodySF (plainFor_of_name pn_0) hisR ?_
  intro p e s m args below meth c s₁ Bd hml0 hP hK
  obtain ⟨rfl, hZ, hh, hVI⟩ := hP
  have hZ : Z.Warmed39 (s.setVm s.vm).vm := hZ
  have hx := Bd.exec
  have hby := Bd.bytes
  have hml : c.maxLocals = 2 := hml0
  have hown : (s.setVm s.vm).vm.findClass "java/lang/String" = some m.cls := findClass_of_methodNamed Bd.named
  have hnm := (name_of_methodNamed Bd.named Bd.method).1
  have hlk := own_lk Bd
  have hret := Bd.returns
  have X0 : Stand p l e ({ frames := 2, cells := 2, slots := 4, locals := 29 } : Room) (s.setVm s.vm) m #[(.ref x), (.ref b)] below meth c s₁ [] 0 0 := Stand.of_body Bd
  have e0 : s₁.heap = h0 := by rw [← hh, Bd.state]; rfl
  have N0 := Fr.nil n0
  have hS : s.Since s.vm h0.size := (State.WarmedH.refl s).since _
  have hk : h0.size ≤ h0.size := Nat.le_refl _
  show own_GoesW p e below s (Q_e1 Z x b kc h0 n0) ({ frames := 2, cells := 2, slots := 4, locals := 29 } : Room).cells ({ frames := 2, cells := 2, slots := 4, locals := 29 } : Room).slots (s₁.setTop (entryFrame m #[(.ref x), (.ref b)] 2))
  refine own_goW (fun _ ww => castTop (ef_e1 m x b kc) ww) ?_
  have hI : IB Z s.vm [] := hVI
  show own_GoesW _ _ _ _ _ _ _ (s₁.setTop (mkF m 0 #[.val (.ref x), .val (.ref b)] []))
  refine own_goW (fun _ ww => XS.aloadN X0.here hx rfl (hb hby d2_0) rfl rfl ww) ?_
  show own_GoesW _ _ _ _ _ _ _ (s₁.setTop (mkF m 1 #[.val (.ref x), .val (.ref b)] [(.ref x)]))
  refine own_goW (fun _ ww => XS.aloadN X0.here hx rfl (hb hby d2_1) rfl rfl ww) ?_
  show own_GoesW _ _ _ _ _ _ _ (s₁.setTop (mkF m 2 #[.val (.ref x), .val (.ref b)] [(.ref b), (.ref x)]))
  refine own_goW (fun _ ww => XS.iconst X0.here hx rfl (hb hby d2_2) ww) ?_
  show own_GoesW _ _ _ _ _ _ _ (s₁.setTop (mkF m 3 #[.val (.ref x), .val (.ref b)] [(.int (0 : Int32)), (.ref b), (.ref x)]))
  refine own_goW (fun _ ww => XS.aloadN X0.here hx rfl (hb hby d2_3) rfl rfl ww) ?_
  show own_GoesW _ _ _ _ _ _ _ (s₁.setTop (mkF m 4 #[.val (.ref x), .val (.ref b)] [(.ref b), (.int (0 : Int32)), (.ref b), (.ref x)]))
  obtain ⟨cl25, Ar25, -, S25, Ng25, -, -⟩ := id Kb
  refine own_goW (fun _ ww => X0.arraylength hx (by rw [e0]; exact Ar25.1) (State.isArrayOf_alike hZ.alike Ar25.2.1) (g := (mkF m 4 #[.val (.ref x), .val (.ref b)] [(.ref b), (.int (0 : Int32)), (.ref b), (.ref x)])) rfl rfl (hb hby d2_4) _ ww) ?_
  rw [len_of S25 Ng25]
  show own_GoesW _ _ _ _ _ _ _ (s₁.setTop (mkF m 5 #[.val (.ref x), .val (.ref b)] [(.int (0 : Int32)), (.int (0 : Int32)), (.ref b), (.ref x)]))
  refine own_goW (fun _ ww => XS.aconstNull X0.here hx rfl (hb hby d2_5) ww) ?_
  show own_GoesW _ _ _ _ _ _ _ (s₁.setTop (mkF m 6 #[.val (.ref x), .val (.ref b)] [.null, (.int (0 : Int32)), (.int (0 : Int32)), (.ref b), (.ref x)]))
  obtain ⟨_, _, ⟨T26, L26, k26, n26⟩, -, X26, hS26, hg26, ⟨Lc26, hQ26, l26, y26, z26⟩, st26⟩ := X0.specialBackS hx (y := (⟨"java/lang/String", "<init>", "([CIILjava/lang/Void;)V"⟩ : MethodName)) rfl hown (mvT hZ (hw _ (List.mem_of_getElem? (i := 11) rfl))) (mvT hZ (hw _ (List.mem_of_getElem? (i := 12) rfl))) (mvT hZ (hw _ (List.mem_of_getElem? (i := 14) rfl))) (by decide) (own_backV (W := 0) (rm_e4 l Z a0 hw [] x b h0 n0 O0 Fv Fc Ex g_x hh7 hcw) hZ (fun _ q => own_IBw q hI) (hw _ (List.mem_of_getElem? (i := 14) rfl)) (hw _ (List.mem_of_getElem? (i := 6) rfl)) (by decide) (by decide)) (g := (mkF m 6 #[.val (.ref x), .val (.ref b)] [.null, (.int (0 : Int32)), (.int (0 : Int32)), (.ref b), (.ref x)])) rfl (by rw [hml]; rfl) (Steps.refl _) (a := x) (argsL := [(.ref b), (.int (0 : Int32)), (.int (0 : Int32)), .null]) (rest := []) (lenOf pd_0 rfl) rfl (by show 2 * 0 + _ ≤ _; exact Nat.le_of_eq rfl) (hb hby d2_6) (fun _ _ => ⟨rfl, e0, (by decide : 0 + 2 ≤ _), (by decide : 0 + 4 ≤ _)⟩)
  dsimp only [Pt.U, Pt.locs, Pt.cells, Pt.slots] at X26 l26 y26 z26 st26 hQ26 hS26 hg26
  subst l26 y26 z26
  obtain ⟨X26, hS, hZ, hown⟩ := rebS hS (show _ ≤ s₁.heap.size from (by rw [e0]; exact hk)) X26 hS26 hg26 hZ hown
  obtain ⟨rfl, N26q, K26q, C26q, t26, kb26, le26, V26q, A26q, nt26, I26q, L26q, LC26q, LV26q, LE26q, nl26⟩ := hQ26
  have N26 := Fr.app N0 N26q
  have hk : T26.heap.size ≤ T26.heap.size := Nat.le_refl _
  have f27 : Exa Z T26.heap x "java/lang/String" := (Ex.keep K26q)
  have f28 : Arv Z T26.heap b kc .char (0 : Int32) [] (.int (0 : Int32)) := (Kb.keep K26q (ninS (Ne.symm (Exa.neArv Ex Kb (hw _ (List.mem_of_getElem? (i := 5) rfl)))) nin0))
  have O26 := O0.keep K26q (allS g_x all0)
  have K26 := (Keep.refl h0 [x]).trans K26q (allS (Or.inl (List.mem_of_getElem? (i := 0) rfl)) all0)
  refine own_goW (fun _ ww => Steps.trans st26 ww) ?_
  show own_GoesW _ _ _ _ _ _ _ (T26.setTop (mkF m 9 #[.val (.ref x), .val (.ref b)] []))
  exact own_outW X26 hS hk hlk (v := none) (fun _ => rfl) (fun fs hr => X26.returnOut hx hret (hb hby d2_9) hr) rfl ⟨rfl, N26, K26, C26q, t26, kb26, le26, V26q, A26q, nt26, (own_IBw X26.warmed I26q), (fun b => own_Litv (own_Litw (b := b) X26.warmed (L26q _))), LC26q, LV26q, LE26q, nl26⟩ (by decide) (by decide)
theorem d16_0 : decode jdk_31_method_10_code 0 = .ok (.aload_n 0, 1) := by decide +kernel
theorem d16_1 : decode jdk_31_method_10_code 1 = .ok (.ifnonnull 11, 3) := by decide +kernel
theorem d16_12 : decode jdk_31_method_10_code 12 = .ok (.aload_n 0, 1) := by decide +kernel
theorem d16_13 : decode jdk_31_method_10_code 13 = .ok (.areturn, 1) := by decide +kernel
theorem ef_rnn (m : MethodId) (a : Addr) : entryFrame m #[(.ref a)] 1 = mkF m 0 #[.val (.ref a)] [] := by
  first | (simp [entryFrame, mkF, argsToLocals, Value.category]; done) | rfl
def Q_rnn (Z : State) (a : Addr) (h0 : Heap) (n0 : Nat) (v : Option Value) (h : Heap) (L : List Loc) : Prop := v = some (.ref a) ∧ Fr n0 L ∧ h = h0
set_option maxRecDepth 65536 in
set_option maxHeartbeats 40000000 in
theorem rm_rnn (l : Launch) (Z : State) (a0 : Array Value) (hw : ∀ d ∈ tables_1, d.before a0 Z = true) (ws : List Jvm.Cond) (a : Addr) (h0 : Heap) (n0 : Nat) (O0 : Old Z n0 h0) :
    MetFree l (⟨"java/util/Objects", "requireNonNull", "(Ljava/lang/Object;)Ljava/lang/Object;"⟩ : MethodName) (head1 (Jvm.Cond.code (⟨"java/util/Objects", "requireNonNull", "(Ljava/lang/Object;)Ljava/lang/Object;"⟩ : MethodName) jdk_31_method_10_code 1 (some (.object "java/lang/Object")) :: ws) ({ frames := 0, cells := 0, slots := 0, locals := 0 } : Room)) (fun av_ U => av_ = #[(.ref a)] ∧ Z.Warmed39 U.vm ∧ U.heap = h0) (fun _ _ _ _ _ => True) (fun _ U o_ U' => ∃ v L, o_ = .returned v ∧ Q_rnn Z a h0 n0 v U'.heap L ∧ FrameEnd U o_ U' L ({ frames := 0, cells := 0, slots := 0, locals := 0 } : Room).cells ({ frames := 0, cells := 0, slots := 0, locals := 0 } : Room).slots) := by
  refine MetFree.of_bodySF (plainFor_of_name pn_1) hisR ?_
  intro p e s m args below meth c s₁ Bd hml0 hP hK
  obtain ⟨rfl, hZ, hh⟩ := hP
  have hx := Bd.exec
  have hby := Bd.bytes
  have hml : c.maxLocals = 1 := hml0
  have hown : s.vm.findClass "java/util/Objects" = some m.cls := findClass_of_methodNamed Bd.named
  have hnm := (name_of_methodNamed Bd.named Bd.method).1
  have hlk := own_lk Bd
  have hret := Bd.returns
  have X0 : Stand p l e ({ frames := 0, cells := 0, slots := 0, locals := 0 } : Room) s m #[(.ref a)] below meth c s₁ [] 0 0 := Stand.of_body Bd
  have e0 : s₁.heap = h0 := by rw [← hh, Bd.state]; rfl
  have N0 := Fr.nil n0
  show own_Goes p e below s (Q_rnn Z a h0 n0) ({ frames := 0, cells := 0, slots := 0, locals := 0 } : Room).cells ({ frames := 0, cells := 0, slots := 0, locals := 0 } : Room).slots (s₁.setTop (entryFrame m #[(.ref a)] 1))
  refine own_go (fun _ ww => castTop (ef_rnn m a) ww) ?_
  show own_Goes _ _ _ _ _ _ _ (s₁.setTop (mkF m 0 #[.val (.ref a)] []))
  refine own_go (fun _ ww => XS.aloadN X0.here hx rfl (hb hby d16_0) rfl rfl ww) ?_
  show own_Goes _ _ _ _ _ _ _ (s₁.setTop (mkF m 1 #[.val (.ref a)] [(.ref a)]))
  refine own_go (fun _ ww => XT.ifnonnullYes X0.here hx rfl (pc0 := 1) (pc' := 12) rfl (hb hby d16_1) rfl (by decide) (by decide) ww) ?_
  show own_Goes _ _ _ _ _ _ _ (s₁.setTop (mkF m 12 #[.val (.ref a)] []))
  refine own_go (fun _ ww => XS.aloadN X0.here hx rfl (hb hby d16_12) rfl rfl ww) ?_
  show own_Goes _ _ _ _ _ _ _ (s₁.setTop (mkF m 13 #[.val (.ref a)] [(.ref a)]))
  exact own_out X0 hlk (v := some (.ref a)) (fun h => by rw [hret] at h; cases h) (fun fs hr => retOut X0 hx (t := (.object "java/lang/Object")) hret rfl (Or.inr (Or.inr (Or.inr (Or.inr ⟨rfl, rfl, rfl⟩)))) (hb hby d16_13) hr) e0 ⟨rfl, N0, rfl⟩ (by decide) (by decide)
theorem d17_0 : decode jdk_32_method_2_code 0 = .ok (.aload_n 0, 1) := by decide +kernel
theorem d17_1 : decode jdk_32_method_2_code 1 = .ok (.invokespecial 7, 3) := by decide +kernel
theorem d17_4 : decode jdk_32_method_2_code 4 = .ok (.aload_n 0, 1) := by decide +kernel
theorem d17_5 : decode jdk_32_method_2_code 5 = .ok (.aload_n 1, 1) := by decide +kernel
theorem d17_6 : decode jdk_32_method_2_code 6 = .ok (.putfield 13, 3) := by decide +kernel
theorem d17_9 : decode jdk_32_method_2_code 9 = .ok (.return_, 1) := by decide +kernel
theorem ef_oinit (m : MethodId) (x : Addr) (a : Addr) : entryFrame m #[(.ref x), (.ref a)] 2 = mkF m 0 #[.val (.ref x), .val (.ref a)] [] := by
  first | (simp [entryFrame, mkF, argsToLocals, Value.category]; done) | rfl
def Q_oinit (Z : State) (x : Addr) (a : Addr) (h0 : Heap) (n0 : Nat) (v : Option Value) (h : Heap) (L : List Loc) : Prop := v = none ∧ Fr n0 L ∧ Keep h0 h [x] ∧ Fld Z h x "java/util/Optional" "value" "Ljava/lang/Object;" (.ref a)
set_option maxRecDepth 65536 in
set_option maxHeartbeats 40000000 in
theorem rm_oinit (l : Launch) (Z : State) (a0 : Array Value) (hw : ∀ d ∈ tables_1, d.before a0 Z = true) (ws : List Jvm.Cond) (x : Addr) (a : Addr) (h0 : Heap) (n0 : Nat) (O0 : Old Z n0 h0) (Fx : Fld Z h0 x "java/util/Optional" "value" "Ljava/lang/Object;" .null) (Ex : Exa Z h0 x "java/util/Optional") (g_x : n0 ≤ x) :
    MetFree l (⟨"java/util/Optional", "<init>", "(Ljava/lang/Object;)V"⟩ : MethodName) (head1 (Jvm.Cond.code (⟨"java/util/Optional", "<init>", "(Ljava/lang/Object;)V"⟩ : MethodName) jdk_32_method_2_code 2 none :: ws) ({ frames := 1, cells := 0, slots := 0, locals := 12 } : Room)) (fun av_ U => av_ = #[(.ref x), (.ref a)] ∧ Z.Warmed39 U.vm ∧ U.heap = h0) (fun _ _ _ _ _ => True) (fun _ U o_ U' => ∃ v L, o_ = .returned v ∧ Q_oinit Z x a h0 n0 v U'.heap L ∧ FrameEnd U o_ U' L ({ frames := 1, cells := 0, slots := 0, locals := 12 } : Room).cells ({ frames := 1, cells := 0, slots := 0, locals := 12 } : Room).slots) := by
  refine MetFree.of_bodySF (plainFor_of_name pn_2) hisR ?_
  intro p e s m args below meth c s₁ Bd hml0 hP hK
  obtain ⟨rfl, hZ, hh⟩ := hP
  have hx := Bd.exec
  have hby := Bd.bytes
  have hml : c.maxLocals = 2 := hml0
  have hown : s.vm.findClass "java/util/Optional" = some m.cls := findClass_of_methodNamed Bd.named
  have hnm := (name_of_methodNamed Bd.named Bd.method).1
  have hlk := own_lk Bd
  have hret := Bd.returns
  have X0 : Stand p l e ({ frames := 1, cells := 0, slots := 0, locals := 12 } : Room) s m #[(.ref x), (.ref a)] below meth c s₁ [] 0 0 := Stand.of_body Bd
  have e0 : s₁.heap = h0 := by rw [← hh, Bd.state]; rfl
  have N0 := Fr.nil n0
  show own_Goes p e below s (Q_oinit Z x a h0 n0) ({ frames := 1, cells := 0, slots := 0, locals := 12 } : Room).cells ({ frames := 1, cells := 0, slots := 0, locals := 12 } : Room).slots (s₁.setTop (entryFrame m #[(.ref x), (.ref a)] 2))
  refine own_go (fun _ ww => castTop (ef_oinit m x a) ww) ?_
  show own_Goes _ _ _ _ _ _ _ (s₁.setTop (mkF m 0 #[.val (.ref x), .val (.ref a)] []))
  refine own_go (fun _ ww => XS.aloadN X0.here hx rfl (hb hby d17_0) rfl rfl ww) ?_
  show own_Goes _ _ _ _ _ _ _ (s₁.setTop (mkF m 1 #[.val (.ref x), .val (.ref a)] [(.ref x)]))
  obtain ⟨T29, X29, e29, st29⟩ := initO X0 hx hZ hown (hw _ (List.mem_of_getElem? (i := 103) rfl)) (hw _ (List.mem_of_getElem? (i := 16) rfl)) (hw _ (List.mem_of_getElem? (i := 17) rfl)) e0 (g := (mkF m 1 #[.val (.ref x), .val (.ref a)] [(.ref x)])) rfl (by rw [hml]; rfl) rfl (hb hby d17_1) (by decide) (W := 0) (by show 2 * 0 + _ ≤ _; exact Nat.le_of_eq rfl) (by decide)
  refine own_go st29 ?_
  show own_Goes _ _ _ _ _ _ _ (T29.setTop (mkF m 4 #[.val (.ref x), .val (.ref a)] []))
  refine own_go (fun _ ww => XS.aloadN X29.here hx rfl (hb hby d17_4) rfl rfl ww) ?_
  show own_Goes _ _ _ _ _ _ _ (T29.setTop (mkF m 5 #[.val (.ref x), .val (.ref a)] [(.ref x)]))
  refine own_go (fun _ ww => XS.aloadN X29.here hx rfl (hb hby d17_5) rfl rfl ww) ?_
  show own_Goes _ _ _ _ _ _ _ (T29.setTop (mkF m 6 #[.val (.ref x), .val (.ref a)] [(.ref a), (.ref x)]))
  obtain ⟨T30, h30, X30, e30, W30, st30⟩ := putF X29 hx hZ hown (host := "") (Or.inl (hw _ (List.mem_of_getElem? (i := 77) rfl))) Via.refl e29 Fx Ex (Or.inr ⟨(hw _ (List.mem_of_getElem? (i := 78) rfl)), rfl, hnm⟩) (hw _ (List.mem_of_getElem? (i := 94) rfl)) (ty := (.object "java/lang/Object")) (by decide) rfl rfl (g := (mkF m 6 #[.val (.ref x), .val (.ref a)] [(.ref a), (.ref x)])) rfl rfl (hb hby d17_6)
  have f31 : Fld Z h30 x "java/util/Optional" "value" "Ljava/lang/Object;" (.ref a) := (Fx.same W30)
  have f32 : Exa Z h30 x "java/util/Optional" := (Ex.wr W30)
  have N30 := Fr.snoc X30 N0 g_x
  have O30 := O0.wr W30 g_x
  have K30 := (Keep.refl h0 [x]).wr W30 (Or.inl (List.mem_of_getElem? (i := 0) rfl))
  refine own_go st30 ?_
  show own_Goes _ _ _ _ _ _ _ (T30.setTop (mkF m 9 #[.val (.ref x), .val (.ref a)] []))
  exact own_out X30 hlk (v := none) (fun _ => rfl) (fun fs hr => X30.returnOut hx hret (hb hby d17_9) hr) e30 ⟨rfl, N30, K30, f31⟩ (by decide) (by decide)
theorem d15_0 : decode jdk_32_method_3_code 0 = .ok (.new 2, 3) := by decide +kernel
theorem d15_3 : decode jdk_32_method_3_code 3 = .ok (.dup, 1) := by decide +kernel
theorem d15_4 : decode jdk_32_method_3_code 4 = .ok (.aload_n 0, 1) := by decide +kernel
theorem d15_5 : decode jdk_32_method_3_code 5 = .ok (.invokestatic 17, 3) := by decide +kernel
theorem d15_8 : decode jdk_32_method_3_code 8 = .ok (.invokespecial 23, 3) := by decide +kernel
theorem d15_11 : decode jdk_32_method_3_code 11 = .ok (.areturn, 1) := by decide +kernel
theorem ef_oof (m : MethodId) (a : Addr) : entryFrame m #[(.ref a)] 1 = mkF m 0 #[.val (.ref a)] [] := by
  first | (simp [entryFrame, mkF, argsToLocals, Value.category]; done) | rfl
def Q_oof (Z : State) (a : Addr) (h0 : Heap) (n0 : Nat) (v : Option Value) (h : Heap) (L : List Loc) : Prop := ∃ r, v = some (.ref r) ∧ Fr n0 L ∧ h0.size ≤ r ∧ Keep h0 h [] ∧ Exa Z h r "java/util/Optional" ∧ Fld Z h r "java/util/Optional" "value" "Ljava/lang/Object;" (.ref a)
set_option maxRecDepth 65536 in
set_option maxHeartbeats 40000000 in
theorem rm_oof (l : Launch) (Z : State) (a0 : Array Value) (hw : ∀ d ∈ tables_1, d.before a0 Z = true) (ws : List Jvm.Cond) (a : Addr) (h0 : Heap) (n0 : Nat) (O0 : Old Z n0 h0) :
    MetFree l (⟨"java/util/Optional", "of", "(Ljava/lang/Object;)Ljava/util/Optional;"⟩ : MethodName) (head1 (Jvm.Cond.code (⟨"java/util/Optional", "of", "(Ljava/lang/Object;)Ljava/util/Optional;"⟩ : MethodName) jdk_32_method_3_code 1 (some (.object "java/util/Optional")) :: ws) ({ frames := 2, cells := 1, slots := 1, locals := 26 } : Room)) (fun av_ U => av_ = #[(.ref a)] ∧ Z.Warmed39 U.vm ∧ U.heap = h0) (fun _ _ _ _ _ => True) (fun _ U o_ U' => ∃ v L, o_ = .returned v ∧ Q_oof Z a h0 n0 v U'.heap L ∧ FrameEnd U o_ U' L ({ frames := 2, cells := 1, slots := 1, locals := 26 } : Room).cells ({ frames := 2, cells := 1, slots := 1, locals := 26 } : Room).slots) := by
  refine MetFree.of_bodySF (plainFor_of_name pn_2) hisR ?_
  intro p e s m args below meth c s₁ Bd hml0 hP hK
  obtain ⟨rfl, hZ, hh⟩ := hP
  have hx := Bd.exec
  have hby := Bd.bytes
  have hml : c.maxLocals = 1 := hml0
  have hown : s.vm.findClass "java/util/Optional" = some m.cls := findClass_of_methodNamed Bd.named
  have hnm := (name_of_methodNamed Bd.named Bd.method).1
  have hlk := own_lk Bd
  have hret := Bd.returns
  have X0 : Stand p l e ({ frames := 2, cells := 1, slots := 1, locals := 26 } : Room) s m #[(.ref a)] below meth c s₁ [] 0 0 := Stand.of_body Bd
  have e0 : s₁.heap = h0 := by rw [← hh, Bd.state]; rfl
  have N0 := Fr.nil n0
  show own_Goes p e below s (Q_oof Z a h0 n0) ({ frames := 2, cells := 1, slots := 1, locals := 26 } : Room).cells ({ frames := 2, cells := 1, slots := 1, locals := 26 } : Room).slots (s₁.setTop (entryFrame m #[(.ref a)] 1))
  refine own_go (fun _ ww => castTop (ef_oof m a) ww) ?_
  show own_Goes _ _ _ _ _ _ _ (s₁.setTop (mkF m 0 #[.val (.ref a)] []))
  obtain ⟨T33, h33, X33, e33, E33, A33, D33, -, st33⟩ := newO X0 hx hZ hown (hw _ (List.mem_of_getElem? (i := 93) rfl)) (hw _ (List.mem_of_getElem? (i := 94) rfl)) (hw _ (List.mem_of_getElem? (i := 69) rfl)) e0 (g := (mkF m 0 #[.val (.ref a)] [])) rfl (hb hby d15_0) (by decide) (by decide)
  obtain ⟨b33, g33⟩ : ∃ z, z = h0.size := ⟨_, rfl⟩
  rw [← g33] at A33 D33 st33
  have g_b33 : n0 ≤ b33 := Nat.le_trans (O0.1 ▸ O0.2.1) (Nat.le_of_eq g33.symm)
  have O33 := O0.ext E33
  have sz_b33 : h0.size ≤ b33 := Nat.le_trans (own_ks (Keep.refl h0 [])) (Nat.le_of_eq g33.symm)
  have K33 := (Keep.refl h0 []).ext E33
  have f34 : Fld Z h33 b33 "java/util/Optional" "value" "Ljava/lang/Object;" .null := D33 (Or.inr (hw _ (List.mem_of_getElem? (i := 78) rfl))) (ty := (.object "java/lang/Object")) (by decide)
  refine own_go st33 ?_
  show own_Goes _ _ _ _ _ _ _ (T33.setTop (mkF m 3 #[.val (.ref a)] [(.ref b33)]))
  refine own_go (fun _ ww => XS.dup X33.here hx rfl (hb hby d15_3) rfl rfl ww) ?_
  show own_Goes _ _ _ _ _ _ _ (T33.setTop (mkF m 4 #[.val (.ref a)] [(.ref b33), (.ref b33)]))
  refine own_go (fun _ ww => XS.aloadN X33.here hx rfl (hb hby d15_4) rfl rfl ww) ?_
  show own_Goes _ _ _ _ _ _ _ (T33.setTop (mkF m 5 #[.val (.ref a)] [(.ref a), (.ref b33), (.ref b33)]))
  obtain ⟨_, _, ⟨T35, L35, k35, n35⟩, -, X35, ⟨Lc35, hQ35, l35, y35, z35⟩, st35⟩ := Jvm.LawKit.callS X33 hx (y := (⟨"java/util/Objects", "requireNonNull", "(Ljava/lang/Object;)Ljava/lang/Object;"⟩ : MethodName)) hown (mvT hZ (hw _ (List.mem_of_getElem? (i := 95) rfl))) (mvT hZ (hw _ (List.mem_of_getElem? (i := 96) rfl))) (mvT hZ (hw _ (List.mem_of_getElem? (i := 97) rfl))) (mvT hZ (hw _ (List.mem_of_getElem? (i := 98) rfl))) (by decide) (backOf (W := 2) (rm_rnn l Z a0 hw [] a h33 n0 O33 ) hZ (hw _ (List.mem_of_getElem? (i := 98) rfl)) (hw _ (List.mem_of_getElem? (i := 97) rfl)) (by decide) (by decide)) (g := (mkF m 5 #[.val (.ref a)] [(.ref a), (.ref b33), (.ref b33)])) rfl (by rw [hml]; rfl) (argsL := [(.ref a)]) (rest := [(.ref b33), (.ref b33)]) (lenOf pd_1 rfl) rfl (by show 2 * 0 + _ ≤ _; exact Nat.le_of_eq rfl) (hb hby d15_5) (fun _ _ => ⟨rfl, e33, (by decide : 1 + 0 ≤ _), (by decide : 1 + 0 ≤ _)⟩)
  dsimp only [Pt.U, Pt.locs, Pt.cells, Pt.slots] at X35 l35 y35 z35 st35 hQ35
  subst l35 y35 z35
  obtain ⟨rfl, N35q, e35⟩ := hQ35
  have N35 := Fr.app N0 N35q
  refine own_go st35 ?_
  show own_Goes _ _ _ _ _ _ _ (T35.setTop (mkF m 8 #[.val (.ref a)] [(.ref a), (.ref b33), (.ref b33)]))
  obtain ⟨_, _, ⟨T36, L36, k36, n36⟩, -, X36, ⟨Lc36, hQ36, l36, y36, z36⟩, st36⟩ := X35.specialBack hx (y := (⟨"java/util/Optional", "<init>", "(Ljava/lang/Object;)V"⟩ : MethodName)) rfl hown (mvT hZ (hw _ (List.mem_of_getElem? (i := 99) rfl))) (mvT hZ (hw _ (List.mem_of_getElem? (i := 100) rfl))) (mvT hZ (hw _ (List.mem_of_getElem? (i := 102) rfl))) (by decide) (backOf (W := 1) (rm_oinit l Z a0 hw [] b33 a h33 n0 O33 f34 A33 g_b33) hZ (hw _ (List.mem_of_getElem? (i := 102) rfl)) (hw _ (List.mem_of_getElem? (i := 69) rfl)) (by decide) (by decide)) (g := (mkF m 8 #[.val (.ref a)] [(.ref a), (.ref b33), (.ref b33)])) rfl (by rw [hml]; rfl) (Steps.refl _) (a := b33) (argsL := [(.ref a)]) (rest := [(.ref b33)]) (lenOf pd_2 rfl) rfl (by show 2 * 0 + _ ≤ _; exact Nat.le_of_eq rfl) (hb hby d15_8) (fun _ _ => ⟨rfl, e35, (by decide : 1 + 0 ≤ _), (by decide : 1 + 0 ≤ _)⟩)
  dsimp only [Pt.U, Pt.locs, Pt.cells, Pt.slots] at X36 l36 y36 z36 st36 hQ36
  subst l36 y36 z36
  obtain ⟨rfl, N36q, K36q, P36⟩ := hQ36
  have N36 := Fr.app N35 N36q
  have f37 : Exa Z T36.heap b33 "java/util/Optional" := (A33.keep K36q)
  have O36 := O33.keep K36q (allS g_b33 all0)
  have K36 := K33.trans K36q (allS (Or.inr sz_b33) all0)
  refine own_go (fun _ ww => Steps.trans st36 ww) ?_
  show own_Goes _ _ _ _ _ _ _ (T36.setTop (mkF m 11 #[.val (.ref a)] [(.ref b33)]))
  exact own_out X36 hlk (v := some (.ref b33)) (fun h => by rw [hret] at h; cases h) (fun fs hr => retOut X36 hx (t := (.object "java/util/Optional")) hret rfl (Or.inr (Or.inr (Or.inr (Or.inr ⟨rfl, rfl, rfl⟩)))) (hb hby d15_11) hr) rfl ⟨_, rfl, N36, sz_b33, K36, f37, P36⟩ (by decide) (by decide)
theorem d10_0 : decode jdk_32_method_1_code 0 = .ok (.getstatic 1, 3) := by decide +kernel
theorem d10_3 : decode jdk_32_method_1_code 3 = .ok (.astore_n 0, 1) := by decide +kernel
theorem d10_4 : decode jdk_32_method_1_code 4 = .ok (.aload_n 0, 1) := by decide +kernel
theorem d10_5 : decode jdk_32_method_1_code 5 = .ok (.areturn, 1) := by decide +kernel
theorem ef_oemp (m : MethodId) (aE : Addr) : entryFrame m #[] 1 = mkF m 0 #[.unset] [] := by
  first | (simp [entryFrame, mkF, argsToLocals, Value.category]; done) | rfl
def Q_oemp (Z : State) (aE : Addr) (h0 : Heap) (n0 : Nat) (v : Option Value) (h : Heap) (L : List Loc) : Prop := v = some (.ref aE) ∧ Fr n0 L ∧ h = h0
set_option maxRecDepth 65536 in
set_option maxHeartbeats 40000000 in
theorem rm_oemp (l : Launch) (Z : State) (a0 : Array Value) (hw : ∀ d ∈ tables_1, d.before a0 Z = true) (ws : List Jvm.Cond) (aE : Addr) (h0 : Heap) (n0 : Nat) (O0 : Old Z n0 h0) (SE : Sta Z Z.heap "java/util/Optional" "EMPTY" "Ljava/util/Optional;" (.ref aE)) :
    MetFree l (⟨"java/util/Optional", "empty", "()Ljava/util/Optional;"⟩ : MethodName) (head1 (Jvm.Cond.code (⟨"java/util/Optional", "empty", "()Ljava/util/Optional;"⟩ : MethodName) jdk_32_method_1_code 1 (some (.object "java/util/Optional")) :: ws) ({ frames := 0, cells := 0, slots := 0, locals := 0 } : Room)) (fun av_ U => av_ = #[] ∧ Z.Warmed39 U.vm ∧ U.heap = h0) (fun _ _ _ _ _ => True) (fun _ U o_ U' => ∃ v L, o_ = .returned v ∧ Q_oemp Z aE h0 n0 v U'.heap L ∧ FrameEnd U o_ U' L ({ frames := 0, cells := 0, slots := 0, locals := 0 } : Room).cells ({ frames := 0, cells := 0, slots := 0, locals := 0 } : Room).slots) := by
  refine MetFree.of_bodySF (plainFor_of_name pn_2) hisR ?_
  intro p e s m args below meth c s₁ Bd hml0 hP hK
  obtain ⟨rfl, hZ, hh⟩ := hP
  have hx := Bd.exec
  have hby := Bd.bytes
  have hml : c.maxLocals = 1 := hml0
  have hown : s.vm.findClass "java/util/Optional" = some m.cls := findClass_of_methodNamed Bd.named
  have hnm := (name_of_methodNamed Bd.named Bd.method).1
  have hlk := own_lk Bd
  have hret := Bd.returns
  have X0 : Stand p l e ({ frames := 0, cells := 0, slots := 0, locals := 0 } : Room) s m #[] below meth c s₁ [] 0 0 := Stand.of_body Bd
  have e0 : s₁.heap = h0 := by rw [← hh, Bd.state]; rfl
  have N0 := Fr.nil n0
  show own_Goes p e below s (Q_oemp Z aE h0 n0) ({ frames := 0, cells := 0, slots := 0, locals := 0 } : Room).cells ({ frames := 0, cells := 0, slots := 0, locals := 0 } : Room).slots (s₁.setTop (entryFrame m #[] 1))
  refine own_go (fun _ ww => castTop (ef_oemp m aE) ww) ?_
  show own_Goes _ _ _ _ _ _ _ (s₁.setTop (mkF m 0 #[.unset] []))
  obtain ⟨T38, X38, e38, st38⟩ := getS X0 hx hZ hown (host := "") (hw _ (List.mem_of_getElem? (i := 71) rfl)) Via.refl e0 (SE.ext O0.2) (g := (mkF m 0 #[.unset] [])) rfl (hb hby d10_0)
  refine own_go st38 ?_
  show own_Goes _ _ _ _ _ _ _ (T38.setTop (mkF m 3 #[.unset] [(.ref aE)]))
  refine own_go (fun _ ww => XS.astoreN X38.here hx rfl (hb hby d10_3) rfl rfl (l' := #[.val (.ref aE)]) rfl ww) ?_
  show own_Goes _ _ _ _ _ _ _ (T38.setTop (mkF m 4 #[.val (.ref aE)] []))
  refine own_go (fun _ ww => XS.aloadN X38.here hx rfl (hb hby d10_4) rfl rfl ww) ?_
  show own_Goes _ _ _ _ _ _ _ (T38.setTop (mkF m 5 #[.val (.ref aE)] [(.ref aE)]))
  exact own_out X38 hlk (v := some (.ref aE)) (fun h => by rw [hret] at h; cases h) (fun fs hr => retOut X38 hx (t := (.object "java/util/Optional")) hret rfl (Or.inr (Or.inr (Or.inr (Or.inr ⟨rfl, rfl, rfl⟩)))) (hb hby d10_5) hr) e38 ⟨rfl, N0, rfl⟩ (by decide) (by decide)
theorem d1_0 : decode method_2_code 0 = .ok (.iload_n 0, 1) := by decide +kernel
theorem d1_1 : decode method_2_code 1 = .ok (.bipush 15, 2) := by decide +kernel
theorem d1_3 : decode method_2_code 3 = .ok (.iand, 1) := by decide +kernel
theorem d1_4 : decode method_2_code 4 = .ok (.istore_n 1, 1) := by decide +kernel
theorem d1_5 : decode method_2_code 5 = .ok (.iload_n 1, 1) := by decide +kernel
theorem d1_6 : decode method_2_code 6 = .ok (.ifCond .ne 6, 3) := by decide +kernel
theorem d1_9 : decode method_2_code 9 = .ok (.bipush 61, 2) := by decide +kernel
theorem d1_11 : decode method_2_code 11 = .ok (.ireturn, 1) := by decide +kernel
theorem d1_12 : decode method_2_code 12 = .ok (.iload_n 1, 1) := by decide +kernel
theorem d1_13 : decode method_2_code 13 = .ok (.iconst 1, 1) := by decide +kernel
theorem d1_14 : decode method_2_code 14 = .ok (.if_icmp .ne 6, 3) := by decide +kernel
theorem d1_17 : decode method_2_code 17 = .ok (.bipush 33, 2) := by decide +kernel
theorem d1_19 : decode method_2_code 19 = .ok (.ireturn, 1) := by decide +kernel
theorem d1_20 : decode method_2_code 20 = .ok (.iload_n 1, 1) := by decide +kernel
theorem d1_21 : decode method_2_code 21 = .ok (.iconst 2, 1) := by decide +kernel
theorem d1_22 : decode method_2_code 22 = .ok (.if_icmp .ne 6, 3) := by decide +kernel
theorem d1_25 : decode method_2_code 25 = .ok (.bipush 60, 2) := by decide +kernel
theorem d1_27 : decode method_2_code 27 = .ok (.ireturn, 1) := by decide +kernel
theorem d1_28 : decode method_2_code 28 = .ok (.iload_n 1, 1) := by decide +kernel
theorem d1_29 : decode method_2_code 29 = .ok (.iconst 3, 1) := by decide +kernel
theorem d1_30 : decode method_2_code 30 = .ok (.if_icmp .ne 6, 3) := by decide +kernel
theorem d1_33 : decode method_2_code 33 = .ok (.bipush 62, 2) := by decide +kernel
theorem d1_35 : decode method_2_code 35 = .ok (.ireturn, 1) := by decide +kernel
theorem d1_36 : decode method_2_code 36 = .ok (.iload_n 0, 1) := by decide +kernel
theorem d1_37 : decode method_2_code 37 = .ok (.iconst 4, 1) := by decide +kernel
theorem d1_38 : decode method_2_code 38 = .ok (.iushr, 1) := by decide +kernel
theorem d1_39 : decode method_2_code 39 = .ok (.sipush 255, 3) := by decide +kernel
theorem d1_42 : decode method_2_code 42 = .ok (.iand, 1) := by decide +kernel
theorem d1_43 : decode method_2_code 43 = .ok (.i2c, 1) := by decide +kernel
theorem d1_44 : decode method_2_code 44 = .ok (.ireturn, 1) := by decide +kernel
theorem ef_pick (m : MethodId) (x1 : Int32) : entryFrame m #[(.int x1)] 2 = mkF m 0 #[.val (.int x1), .unset] [] := by
  first | (simp [entryFrame, mkF, argsToLocals, Value.category]; done) | rfl
def Q_pick (Z : State) (x1 : Int32) (h0 : Heap) (n0 : Nat) (v : Option Value) (h : Heap) (L : List Loc) : Prop := ∃ r : Int32, v = some (.int r) ∧ Fr n0 L ∧ h = h0 ∧ (¬ r < 0 ∧ ¬ (255 : Int32) < r)
set_option maxRecDepth 65536 in
set_option maxHeartbeats 40000000 in
theorem rm_pick (l : Launch) (Z : State) (a0 : Array Value) (hw : ∀ d ∈ tables_1, d.before a0 Z = true) (ws : List Jvm.Cond) (x1 : Int32) (h0 : Heap) (n0 : Nat) (O0 : Old Z n0 h0) :
    MetFree l (⟨"com/example/esfahan/esfahan/model/ComparisonOfSymbolPinLaw", "pick", "(I)C"⟩ : MethodName) (head1 (Jvm.Cond.code (⟨"com/example/esfahan/esfahan/model/ComparisonOfSymbolPinLaw", "pick", "(I)C"⟩ : MethodName) method_2_code 2 (some .char) :: ws) ({ frames := 0, cells := 0, slots := 0, locals := 0 } : Room)) (fun av_ U => av_ = #[(.int x1)] ∧ Z.Warmed39 U.vm ∧ U.heap = h0) (fun _ _ _ _ _ => True) (fun _ U o_ U' => ∃ v L, o_ = .returned v ∧ Q_pick Z x1 h0 n0 v U'.heap L ∧ FrameEnd U o_ U' L ({ frames := 0, cells := 0, slots := 0, locals := 0 } : Room).cells ({ frames := 0, cells := 0, slots := 0, locals := 0 } : Room).slots) := by
  refine MetFree.of_bodySF (plainFor_of_name pn_3) hisR ?_
  intro p e s m args below meth c s₁ Bd hml0 hP hK
  obtain ⟨rfl, hZ, hh⟩ := hP
  have hx := Bd.exec
  have hby := Bd.bytes
  have hml : c.maxLocals = 2 := hml0
  have hown : s.vm.findClass "com/example/esfahan/esfahan/model/ComparisonOfSymbolPinLaw" = some m.cls := findClass_of_methodNamed Bd.named
  have hnm := (name_of_methodNamed Bd.named Bd.method).1
  have hlk := own_lk Bd
  have hret := Bd.returns
  have X0 : Stand p l e ({ frames := 0, cells := 0, slots := 0, locals := 0 } : Room) s m #[(.int x1)] below meth c s₁ [] 0 0 := Stand.of_body Bd
  have e0 : s₁.heap = h0 := by rw [← hh, Bd.state]; rfl
  have N0 := Fr.nil n0
  show own_Goes p e below s (Q_pick Z x1 h0 n0) ({ frames := 0, cells := 0, slots := 0, locals := 0 } : Room).cells ({ frames := 0, cells := 0, slots := 0, locals := 0 } : Room).slots (s₁.setTop (entryFrame m #[(.int x1)] 2))
  refine own_go (fun _ ww => castTop (ef_pick m x1) ww) ?_
  show own_Goes _ _ _ _ _ _ _ (s₁.setTop (mkF m 0 #[.val (.int x1), .unset] []))
  refine own_go (fun _ ww => XS.iloadN X0.here hx rfl (hb hby d1_0) rfl  ww) ?_
  show own_Goes _ _ _ _ _ _ _ (s₁.setTop (mkF m 1 #[.val (.int x1), .unset] [(.int x1)]))
  refine own_go (fun _ ww => XS.bipush X0.here hx rfl (hb hby d1_1) ww) ?_
  show own_Goes _ _ _ _ _ _ _ (s₁.setTop (mkF m 3 #[.val (.int x1), .unset] [(.int (15 : Int32)), (.int x1)]))
  refine own_go (fun _ ww => XS.iand X0.here hx rfl (hb hby d1_3) rfl ww) ?_
  show own_Goes _ _ _ _ _ _ _ (s₁.setTop (mkF m 4 #[.val (.int x1), .unset] [(.int (x1 &&& (15 : Int32)))]))
  refine own_go (fun _ ww => XS.istoreN X0.here hx rfl (hb hby d1_4) rfl (l' := #[.val (.int x1), .val (.int (x1 &&& (15 : Int32)))]) rfl ww) ?_
  show own_Goes _ _ _ _ _ _ _ (s₁.setTop (mkF m 5 #[.val (.int x1), .val (.int (x1 &&& (15 : Int32)))] []))
  refine own_go (fun _ ww => XS.iloadN X0.here hx rfl (hb hby d1_5) rfl  ww) ?_
  show own_Goes _ _ _ _ _ _ _ (s₁.setTop (mkF m 6 #[.val (.int x1), .val (.int (x1 &&& (15 : Int32)))] [(.int (x1 &&& (15 : Int32)))]))
  by_cases hc39 : (x1 &&& (15 : Int32)) = (0 : Int32)
  ·
    refine own_go (fun _ ww => XS.ifNo X0.here hx rfl (hb hby d1_6) rfl (own_if .ne (teq hc39).2) ww) ?_
    show own_Goes _ _ _ _ _ _ _ (s₁.setTop (mkF m 9 #[.val (.int x1), .val (.int (x1 &&& (15 : Int32)))] []))
    refine own_go (fun _ ww => XS.bipush X0.here hx rfl (hb hby d1_9) ww) ?_
    show own_Goes _ _ _ _ _ _ _ (s₁.setTop (mkF m 11 #[.val (.int x1), .val (.int (x1 &&& (15 : Int32)))] [(.int (61 : Int32))]))
    exact own_out X0 hlk (v := some (.int (61 : Int32))) (fun h => by rw [hret] at h; cases h) (fun fs hr => retOut X0 hx (t := .char) hret (by decide) (Or.inl ⟨rfl, by simp, _, rfl⟩) (hb hby d1_11) hr) e0 ⟨_, rfl, N0, rfl, (by decide)⟩ (by decide) (by decide)
  ·
    refine own_go (fun _ ww => XS.ifYes X0.here hx rfl (pc0 := 6) (pc' := 12) rfl (hb hby d1_6) rfl (own_if .ne (feq hc39).2) (by decide) (by decide) ww) ?_
    show own_Goes _ _ _ _ _ _ _ (s₁.setTop (mkF m 12 #[.val (.int x1), .val (.int (x1 &&& (15 : Int32)))] []))
    refine own_go (fun _ ww => XS.iloadN X0.here hx rfl (hb hby d1_12) rfl  ww) ?_
    show own_Goes _ _ _ _ _ _ _ (s₁.setTop (mkF m 13 #[.val (.int x1), .val (.int (x1 &&& (15 : Int32)))] [(.int (x1 &&& (15 : Int32)))]))
    refine own_go (fun _ ww => XS.iconst X0.here hx rfl (hb hby d1_13) ww) ?_
    show own_Goes _ _ _ _ _ _ _ (s₁.setTop (mkF m 14 #[.val (.int x1), .val (.int (x1 &&& (15 : Int32)))] [(.int (1 : Int32)), (.int (x1 &&& (15 : Int32)))]))
    by_cases hc40 : (x1 &&& (15 : Int32)) = (1 : Int32)
    ·
      refine own_go (fun _ ww => XS.icmpNo X0.here hx rfl (hb hby d1_14) rfl (teq hc40).2 ww) ?_
      show own_Goes _ _ _ _ _ _ _ (s₁.setTop (mkF m 17 #[.val (.int x1), .val (.int (x1 &&& (15 : Int32)))] []))
      refine own_go (fun _ ww => XS.bipush X0.here hx rfl (hb hby d1_17) ww) ?_
      show own_Goes _ _ _ _ _ _ _ (s₁.setTop (mkF m 19 #[.val (.int x1), .val (.int (x1 &&& (15 : Int32)))] [(.int (33 : Int32))]))
      exact own_out X0 hlk (v := some (.int (33 : Int32))) (fun h => by rw [hret] at h; cases h) (fun fs hr => retOut X0 hx (t := .char) hret (by decide) (Or.inl ⟨rfl, by simp, _, rfl⟩) (hb hby d1_19) hr) e0 ⟨_, rfl, N0, rfl, (by decide)⟩ (by decide) (by decide)
    ·
      refine own_go (fun _ ww => XS.icmpYes X0.here hx rfl (pc0 := 14) (pc' := 20) rfl (hb hby d1_14) rfl (feq hc40).2 (by decide) (by decide) ww) ?_
      show own_Goes _ _ _ _ _ _ _ (s₁.setTop (mkF m 20 #[.val (.int x1), .val (.int (x1 &&& (15 : Int32)))] []))
      refine own_go (fun _ ww => XS.iloadN X0.here hx rfl (hb hby d1_20) rfl  ww) ?_
      show own_Goes _ _ _ _ _ _ _ (s₁.setTop (mkF m 21 #[.val (.int x1), .val (.int (x1 &&& (15 : Int32)))] [(.int (x1 &&& (15 : Int32)))]))
      refine own_go (fun _ ww => XS.iconst X0.here hx rfl (hb hby d1_21) ww) ?_
      show own_Goes _ _ _ _ _ _ _ (s₁.setTop (mkF m 22 #[.val (.int x1), .val (.int (x1 &&& (15 : Int32)))] [(.int (2 : Int32)), (.int (x1 &&& (15 : Int32)))]))
      by_cases hc41 : (x1 &&& (15 : Int32)) = (2 : Int32)
      ·
        refine own_go (fun _ ww => XS.icmpNo X0.here hx rfl (hb hby d1_22) rfl (teq hc41).2 ww) ?_
        show own_Goes _ _ _ _ _ _ _ (s₁.setTop (mkF m 25 #[.val (.int x1), .val (.int (x1 &&& (15 : Int32)))] []))
        refine own_go (fun _ ww => XS.bipush X0.here hx rfl (hb hby d1_25) ww) ?_
        show own_Goes _ _ _ _ _ _ _ (s₁.setTop (mkF m 27 #[.val (.int x1), .val (.int (x1 &&& (15 : Int32)))] [(.int (60 : Int32))]))
        exact own_out X0 hlk (v := some (.int (60 : Int32))) (fun h => by rw [hret] at h; cases h) (fun fs hr => retOut X0 hx (t := .char) hret (by decide) (Or.inl ⟨rfl, by simp, _, rfl⟩) (hb hby d1_27) hr) e0 ⟨_, rfl, N0, rfl, (by decide)⟩ (by decide) (by decide)
      ·
        refine own_go (fun _ ww => XS.icmpYes X0.here hx rfl (pc0 := 22) (pc' := 28) rfl (hb hby d1_22) rfl (feq hc41).2 (by decide) (by decide) ww) ?_
        show own_Goes _ _ _ _ _ _ _ (s₁.setTop (mkF m 28 #[.val (.int x1), .val (.int (x1 &&& (15 : Int32)))] []))
        refine own_go (fun _ ww => XS.iloadN X0.here hx rfl (hb hby d1_28) rfl  ww) ?_
        show own_Goes _ _ _ _ _ _ _ (s₁.setTop (mkF m 29 #[.val (.int x1), .val (.int (x1 &&& (15 : Int32)))] [(.int (x1 &&& (15 : Int32)))]))
        refine own_go (fun _ ww => XS.iconst X0.here hx rfl (hb hby d1_29) ww) ?_
        show own_Goes _ _ _ _ _ _ _ (s₁.setTop (mkF m 30 #[.val (.int x1), .val (.int (x1 &&& (15 : Int32)))] [(.int (3 : Int32)), (.int (x1 &&& (15 : Int32)))]))
        by_cases hc42 : (x1 &&& (15 : Int32)) = (3 : Int32)
        ·
          refine own_go (fun _ ww => XS.icmpNo X0.here hx rfl (hb hby d1_30) rfl (teq hc42).2 ww) ?_
          show own_Goes _ _ _ _ _ _ _ (s₁.setTop (mkF m 33 #[.val (.int x1), .val (.int (x1 &&& (15 : Int32)))] []))
          refine own_go (fun _ ww => XS.bipush X0.here hx rfl (hb hby d1_33) ww) ?_
          show own_Goes _ _ _ _ _ _ _ (s₁.setTop (mkF m 35 #[.val (.int x1), .val (.int (x1 &&& (15 : Int32)))] [(.int (62 : Int32))]))
          exact own_out X0 hlk (v := some (.int (62 : Int32))) (fun h => by rw [hret] at h; cases h) (fun fs hr => retOut X0 hx (t := .char) hret (by decide) (Or.inl ⟨rfl, by simp, _, rfl⟩) (hb hby d1_35) hr) e0 ⟨_, rfl, N0, rfl, (by decide)⟩ (by decide) (by decide)
        ·
          refine own_go (fun _ ww => XS.icmpYes X0.here hx rfl (pc0 := 30) (pc' := 36) rfl (hb hby d1_30) rfl (feq hc42).2 (by decide) (by decide) ww) ?_
          show own_Goes _ _ _ _ _ _ _ (s₁.setTop (mkF m 36 #[.val (.int x1), .val (.int (x1 &&& (15 : Int32)))] []))
          refine own_go (fun _ ww => XS.iloadN X0.here hx rfl (hb hby d1_36) rfl  ww) ?_
          show own_Goes _ _ _ _ _ _ _ (s₁.setTop (mkF m 37 #[.val (.int x1), .val (.int (x1 &&& (15 : Int32)))] [(.int x1)]))
          refine own_go (fun _ ww => XS.iconst X0.here hx rfl (hb hby d1_37) ww) ?_
          show own_Goes _ _ _ _ _ _ _ (s₁.setTop (mkF m 38 #[.val (.int x1), .val (.int (x1 &&& (15 : Int32)))] [(.int (4 : Int32)), (.int x1)]))
          refine own_go (fun _ ww => XT.iushr X0.here hx rfl (hb hby d1_38) rfl ww) ?_
          show own_Goes _ _ _ _ _ _ _ (s₁.setTop (mkF m 39 #[.val (.int x1), .val (.int (x1 &&& (15 : Int32)))] [(.int (XT.ushr x1 (4 : Int32)))]))
          refine own_go (fun _ ww => XS.sipush X0.here hx rfl (hb hby d1_39) ww) ?_
          show own_Goes _ _ _ _ _ _ _ (s₁.setTop (mkF m 42 #[.val (.int x1), .val (.int (x1 &&& (15 : Int32)))] [(.int (255 : Int32)), (.int (XT.ushr x1 (4 : Int32)))]))
          refine own_go (fun _ ww => XS.iand X0.here hx rfl (hb hby d1_42) rfl ww) ?_
          show own_Goes _ _ _ _ _ _ _ (s₁.setTop (mkF m 43 #[.val (.int x1), .val (.int (x1 &&& (15 : Int32)))] [(.int ((XT.ushr x1 (4 : Int32)) &&& (255 : Int32)))]))
          refine own_go (fun _ ww => XT.i2c X0.here hx rfl (hb hby d1_43) rfl ww) ?_
          show own_Goes _ _ _ _ _ _ _ (s₁.setTop (mkF m 44 #[.val (.int x1), .val (.int (x1 &&& (15 : Int32)))] [(.int (((XT.ushr x1 (4 : Int32)) &&& (255 : Int32)).toUInt32.toUInt16.toUInt32.toInt32))]))
          exact own_out X0 hlk (v := some (.int (((XT.ushr x1 (4 : Int32)) &&& (255 : Int32)).toUInt32.toUInt16.toUInt32.toInt32))) (fun h => by rw [hret] at h; cases h) (fun fs hr => retOut X0 hx (t := .char) hret (XT.narrow_c _) (Or.inl ⟨rfl, by simp, _, rfl⟩) (hb hby d1_44) hr) e0 ⟨_, rfl, N0, rfl, own_chr _⟩ (by decide) (by decide)
theorem d5_0 : decode method_3_code 0 = .ok (.iload_n 0, 1) := by decide +kernel
theorem d5_1 : decode method_3_code 1 = .ok (.iconst 1, 1) := by decide +kernel
theorem d5_2 : decode method_3_code 2 = .ok (.if_icmp .ne 25, 3) := by decide +kernel
theorem d5_27 : decode method_3_code 27 = .ok (.iload_n 0, 1) := by decide +kernel
theorem d5_28 : decode method_3_code 28 = .ok (.iconst 2, 1) := by decide +kernel
theorem d5_29 : decode method_3_code 29 = .ok (.if_icmp .ne 49, 3) := by decide +kernel
theorem d5_78 : decode method_3_code 78 = .ok (.aconst_null, 1) := by decide +kernel
theorem d5_79 : decode method_3_code 79 = .ok (.areturn, 1) := by decide +kernel
theorem ef_exp0 (m : MethodId) (x1 : Int32) (x2 : Int32) : entryFrame m #[(.int (0 : Int32)), (.int x1), (.int x2)] 3 = mkF m 0 #[.val (.int (0 : Int32)), .val (.int x1), .val (.int x2)] [] := by
  first | (simp [entryFrame, mkF, argsToLocals, Value.category]; done) | rfl
def Q_exp0 (Z : State) (x1 : Int32) (x2 : Int32) (h0 : Heap) (n0 : Nat) (v : Option Value) (h : Heap) (L : List Loc) : Prop := v = some .null ∧ Fr n0 L ∧ h = h0
set_option maxRecDepth 65536 in
set_option maxHeartbeats 40000000 in
theorem rm_exp0 (l : Launch) (Z : State) (a0 : Array Value) (hw : ∀ d ∈ tables_1, d.before a0 Z = true) (ws : List Jvm.Cond) (x1 : Int32) (x2 : Int32) (h0 : Heap) (n0 : Nat) (O0 : Old Z n0 h0) :
    MetFree l (⟨"com/example/esfahan/esfahan/model/ComparisonOfSymbolPinLaw", "expect", "(ICC)Lcom/example/esfahan/esfahan/model/Comparison;"⟩ : MethodName) (head1 (Jvm.Cond.code (⟨"com/example/esfahan/esfahan/model/ComparisonOfSymbolPinLaw", "expect", "(ICC)Lcom/example/esfahan/esfahan/model/Comparison;"⟩ : MethodName) method_3_code 3 (some (.object "com/example/esfahan/esfahan/model/Comparison")) :: ws) ({ frames := 0, cells := 0, slots := 0, locals := 0 } : Room)) (fun av_ U => av_ = #[(.int (0 : Int32)), (.int x1), (.int x2)] ∧ Z.Warmed39 U.vm ∧ U.heap = h0) (fun _ _ _ _ _ => True) (fun _ U o_ U' => ∃ v L, o_ = .returned v ∧ Q_exp0 Z x1 x2 h0 n0 v U'.heap L ∧ FrameEnd U o_ U' L ({ frames := 0, cells := 0, slots := 0, locals := 0 } : Room).cells ({ frames := 0, cells := 0, slots := 0, locals := 0 } : Room).slots) := by
  refine MetFree.of_bodySF (plainFor_of_name pn_3) hisR ?_
  intro p e s m args below meth c s₁ Bd hml0 hP hK
  obtain ⟨rfl, hZ, hh⟩ := hP
  have hx := Bd.exec
  have hby := Bd.bytes
  have hml : c.maxLocals = 3 := hml0
  have hown : s.vm.findClass "com/example/esfahan/esfahan/model/ComparisonOfSymbolPinLaw" = some m.cls := findClass_of_methodNamed Bd.named
  have hnm := (name_of_methodNamed Bd.named Bd.method).1
  have hlk := own_lk Bd
  have hret := Bd.returns
  have X0 : Stand p l e ({ frames := 0, cells := 0, slots := 0, locals := 0 } : Room) s m #[(.int (0 : Int32)), (.int x1), (.int x2)] below meth c s₁ [] 0 0 := Stand.of_body Bd
  have e0 : s₁.heap = h0 := by rw [← hh, Bd.state]; rfl
  have N0 := Fr.nil n0
  show own_Goes p e below s (Q_exp0 Z x1 x2 h0 n0) ({ frames := 0, cells := 0, slots := 0, locals := 0 } : Room).cells ({ frames := 0, cells := 0, slots := 0, locals := 0 } : Room).slots (s₁.setTop (entryFrame m #[(.int (0 : Int32)), (.int x1), (.int x2)] 3))
  refine own_go (fun _ ww => castTop (ef_exp0 m x1 x2) ww) ?_
  show own_Goes _ _ _ _ _ _ _ (s₁.setTop (mkF m 0 #[.val (.int (0 : Int32)), .val (.int x1), .val (.int x2)] []))
  refine own_go (fun _ ww => XS.iloadN X0.here hx rfl (hb hby d5_0) rfl  ww) ?_
  show own_Goes _ _ _ _ _ _ _ (s₁.setTop (mkF m 1 #[.val (.int (0 : Int32)), .val (.int x1), .val (.int x2)] [(.int (0 : Int32))]))
  refine own_go (fun _ ww => XS.iconst X0.here hx rfl (hb hby d5_1) ww) ?_
  show own_Goes _ _ _ _ _ _ _ (s₁.setTop (mkF m 2 #[.val (.int (0 : Int32)), .val (.int x1), .val (.int x2)] [(.int (1 : Int32)), (.int (0 : Int32))]))
  refine own_go (fun _ ww => XS.icmpYes X0.here hx rfl (pc0 := 2) (pc' := 27) rfl (hb hby d5_2) rfl (feq (by decide : ¬ ((0 : Int32) = (1 : Int32)))).2 (by decide) (by decide) ww) ?_
  show own_Goes _ _ _ _ _ _ _ (s₁.setTop (mkF m 27 #[.val (.int (0 : Int32)), .val (.int x1), .val (.int x2)] []))
  refine own_go (fun _ ww => XS.iloadN X0.here hx rfl (hb hby d5_27) rfl  ww) ?_
  show own_Goes _ _ _ _ _ _ _ (s₁.setTop (mkF m 28 #[.val (.int (0 : Int32)), .val (.int x1), .val (.int x2)] [(.int (0 : Int32))]))
  refine own_go (fun _ ww => XS.iconst X0.here hx rfl (hb hby d5_28) ww) ?_
  show own_Goes _ _ _ _ _ _ _ (s₁.setTop (mkF m 29 #[.val (.int (0 : Int32)), .val (.int x1), .val (.int x2)] [(.int (2 : Int32)), (.int (0 : Int32))]))
  refine own_go (fun _ ww => XS.icmpYes X0.here hx rfl (pc0 := 29) (pc' := 78) rfl (hb hby d5_29) rfl (feq (by decide : ¬ ((0 : Int32) = (2 : Int32)))).2 (by decide) (by decide) ww) ?_
  show own_Goes _ _ _ _ _ _ _ (s₁.setTop (mkF m 78 #[.val (.int (0 : Int32)), .val (.int x1), .val (.int x2)] []))
  refine own_go (fun _ ww => XS.aconstNull X0.here hx rfl (hb hby d5_78) ww) ?_
  show own_Goes _ _ _ _ _ _ _ (s₁.setTop (mkF m 79 #[.val (.int (0 : Int32)), .val (.int x1), .val (.int x2)] [.null]))
  exact own_out X0 hlk (v := some .null) (fun h => by rw [hret] at h; cases h) (fun fs hr => retOut X0 hx (t := (.object "com/example/esfahan/esfahan/model/Comparison")) hret rfl (Or.inr (Or.inr (Or.inr (Or.inr ⟨rfl, rfl, rfl⟩)))) (hb hby d5_79) hr) e0 ⟨rfl, N0, rfl⟩ (by decide) (by decide)
theorem ef_exp3 (m : MethodId) (x1 : Int32) (x2 : Int32) : entryFrame m #[(.int (3 : Int32)), (.int x1), (.int x2)] 3 = mkF m 0 #[.val (.int (3 : Int32)), .val (.int x1), .val (.int x2)] [] := by
  first | (simp [entryFrame, mkF, argsToLocals, Value.category]; done) | rfl
def Q_exp3 (Z : State) (x1 : Int32) (x2 : Int32) (h0 : Heap) (n0 : Nat) (v : Option Value) (h : Heap) (L : List Loc) : Prop := v = some .null ∧ Fr n0 L ∧ h = h0
set_option maxRecDepth 65536 in
set_option maxHeartbeats 40000000 in
theorem rm_exp3 (l : Launch) (Z : State) (a0 : Array Value) (hw : ∀ d ∈ tables_1, d.before a0 Z = true) (ws : List Jvm.Cond) (x1 : Int32) (x2 : Int32) (h0 : Heap) (n0 : Nat) (O0 : Old Z n0 h0) :
    MetFree l (⟨"com/example/esfahan/esfahan/model/ComparisonOfSymbolPinLaw", "expect", "(ICC)Lcom/example/esfahan/esfahan/model/Comparison;"⟩ : MethodName) (head1 (Jvm.Cond.code (⟨"com/example/esfahan/esfahan/model/ComparisonOfSymbolPinLaw", "expect", "(ICC)Lcom/example/esfahan/esfahan/model/Comparison;"⟩ : MethodName) method_3_code 3 (some (.object "com/example/esfahan/esfahan/model/Comparison")) :: ws) ({ frames := 0, cells := 0, slots := 0, locals := 0 } : Room)) (fun av_ U => av_ = #[(.int (3 : Int32)), (.int x1), (.int x2)] ∧ Z.Warmed39 U.vm ∧ U.heap = h0) (fun _ _ _ _ _ => True) (fun _ U o_ U' => ∃ v L, o_ = .returned v ∧ Q_exp3 Z x1 x2 h0 n0 v U'.heap L ∧ FrameEnd U o_ U' L ({ frames := 0, cells := 0, slots := 0, locals := 0 } : Room).cells ({ frames := 0, cells := 0, slots := 0, locals := 0 } : Room).slots) := by
  refine MetFree.of_bodySF (plainFor_of_name pn_3) hisR ?_
  intro p e s m args below meth c s₁ Bd hml0 hP hK
  obtain ⟨rfl, hZ, hh⟩ := hP
  have hx := Bd.exec
  have hby := Bd.bytes
  have hml : c.maxLocals = 3 := hml0
  have hown : s.vm.findClass "com/example/esfahan/esfahan/model/ComparisonOfSymbolPinLaw" = some m.cls := findClass_of_methodNamed Bd.named
  have hnm := (name_of_methodNamed Bd.named Bd.method).1
  have hlk := own_lk Bd
  have hret := Bd.returns
  have X0 : Stand p l e ({ frames := 0, cells := 0, slots := 0, locals := 0 } : Room) s m #[(.int (3 : Int32)), (.int x1), (.int x2)] below meth c s₁ [] 0 0 := Stand.of_body Bd
  have e0 : s₁.heap = h0 := by rw [← hh, Bd.state]; rfl
  have N0 := Fr.nil n0
  show own_Goes p e below s (Q_exp3 Z x1 x2 h0 n0) ({ frames := 0, cells := 0, slots := 0, locals := 0 } : Room).cells ({ frames := 0, cells := 0, slots := 0, locals := 0 } : Room).slots (s₁.setTop (entryFrame m #[(.int (3 : Int32)), (.int x1), (.int x2)] 3))
  refine own_go (fun _ ww => castTop (ef_exp3 m x1 x2) ww) ?_
  show own_Goes _ _ _ _ _ _ _ (s₁.setTop (mkF m 0 #[.val (.int (3 : Int32)), .val (.int x1), .val (.int x2)] []))
  refine own_go (fun _ ww => XS.iloadN X0.here hx rfl (hb hby d5_0) rfl  ww) ?_
  show own_Goes _ _ _ _ _ _ _ (s₁.setTop (mkF m 1 #[.val (.int (3 : Int32)), .val (.int x1), .val (.int x2)] [(.int (3 : Int32))]))
  refine own_go (fun _ ww => XS.iconst X0.here hx rfl (hb hby d5_1) ww) ?_
  show own_Goes _ _ _ _ _ _ _ (s₁.setTop (mkF m 2 #[.val (.int (3 : Int32)), .val (.int x1), .val (.int x2)] [(.int (1 : Int32)), (.int (3 : Int32))]))
  refine own_go (fun _ ww => XS.icmpYes X0.here hx rfl (pc0 := 2) (pc' := 27) rfl (hb hby d5_2) rfl (feq (by decide : ¬ ((3 : Int32) = (1 : Int32)))).2 (by decide) (by decide) ww) ?_
  show own_Goes _ _ _ _ _ _ _ (s₁.setTop (mkF m 27 #[.val (.int (3 : Int32)), .val (.int x1), .val (.int x2)] []))
  refine own_go (fun _ ww => XS.iloadN X0.here hx rfl (hb hby d5_27) rfl  ww) ?_
  show own_Goes _ _ _ _ _ _ _ (s₁.setTop (mkF m 28 #[.val (.int (3 : Int32)), .val (.int x1), .val (.int x2)] [(.int (3 : Int32))]))
  refine own_go (fun _ ww => XS.iconst X0.here hx rfl (hb hby d5_28) ww) ?_
  show own_Goes _ _ _ _ _ _ _ (s₁.setTop (mkF m 29 #[.val (.int (3 : Int32)), .val (.int x1), .val (.int x2)] [(.int (2 : Int32)), (.int (3 : Int32))]))
  refine own_go (fun _ ww => XS.icmpYes X0.here hx rfl (pc0 := 29) (pc' := 78) rfl (hb hby d5_29) rfl (feq (by decide : ¬ ((3 : Int32) = (2 : Int32)))).2 (by decide) (by decide) ww) ?_
  show own_Goes _ _ _ _ _ _ _ (s₁.setTop (mkF m 78 #[.val (.int (3 : Int32)), .val (.int x1), .val (.int x2)] []))
  refine own_go (fun _ ww => XS.aconstNull X0.here hx rfl (hb hby d5_78) ww) ?_
  show own_Goes _ _ _ _ _ _ _ (s₁.setTop (mkF m 79 #[.val (.int (3 : Int32)), .val (.int x1), .val (.int x2)] [.null]))
  exact own_out X0 hlk (v := some .null) (fun h => by rw [hret] at h; cases h) (fun fs hr => retOut X0 hx (t := (.object "com/example/esfahan/esfahan/model/Comparison")) hret rfl (Or.inr (Or.inr (Or.inr (Or.inr ⟨rfl, rfl, rfl⟩)))) (hb hby d5_79) hr) e0 ⟨rfl, N0, rfl⟩ (by decide) (by decide)
theorem d5_5 : decode method_3_code 5 = .ok (.iload_n 1, 1) := by decide +kernel
theorem d5_6 : decode method_3_code 6 = .ok (.bipush 60, 2) := by decide +kernel
theorem d5_8 : decode method_3_code 8 = .ok (.if_icmp .ne 7, 3) := by decide +kernel
theorem d5_11 : decode method_3_code 11 = .ok (.getstatic 7, 3) := by decide +kernel
theorem d5_14 : decode method_3_code 14 = .ok (.areturn, 1) := by decide +kernel
theorem d5_15 : decode method_3_code 15 = .ok (.iload_n 1, 1) := by decide +kernel
theorem d5_16 : decode method_3_code 16 = .ok (.bipush 62, 2) := by decide +kernel
theorem d5_18 : decode method_3_code 18 = .ok (.if_icmp .ne 7, 3) := by decide +kernel
theorem d5_21 : decode method_3_code 21 = .ok (.getstatic 13, 3) := by decide +kernel
theorem d5_24 : decode method_3_code 24 = .ok (.areturn, 1) := by decide +kernel
theorem d5_25 : decode method_3_code 25 = .ok (.aconst_null, 1) := by decide +kernel
theorem d5_26 : decode method_3_code 26 = .ok (.areturn, 1) := by decide +kernel
theorem ef_exp1 (m : MethodId) (x1 : Int32) (x2 : Int32) (an : Value) (k0 : Addr) (k1 : Addr) (k2 : Addr) (k3 : Addr) (k4 : Addr) (k5 : Addr) : entryFrame m #[(.int (1 : Int32)), (.int x1), (.int x2)] 3 = mkF m 0 #[.val (.int (1 : Int32)), .val (.int x1), .val (.int x2)] [] := by
  first | (simp [entryFrame, mkF, argsToLocals, Value.category]; done) | rfl
def Q_exp1 (Z : State) (x1 : Int32) (x2 : Int32) (an : Value) (k0 : Addr) (k1 : Addr) (k2 : Addr) (k3 : Addr) (k4 : Addr) (k5 : Addr) (h0 : Heap) (n0 : Nat) (v : Option Value) (h : Heap) (L : List Loc) : Prop := v = some an ∧ Fr n0 L ∧ h = h0
set_option maxRecDepth 65536 in
set_option maxHeartbeats 40000000 in
theorem rm_exp1 (l : Launch) (Z : State) (a0 : Array Value) (hw : ∀ d ∈ tables_1, d.before a0 Z = true) (ws : List Jvm.Cond) (x1 : Int32) (x2 : Int32) (an : Value) (k0 : Addr) (k1 : Addr) (k2 : Addr) (k3 : Addr) (k4 : Addr) (k5 : Addr) (h0 : Heap) (n0 : Nat) (O0 : Old Z n0 h0) (S2 : Sta Z Z.heap "com/example/esfahan/esfahan/model/Comparison" "LESS" "Lcom/example/esfahan/esfahan/model/Comparison;" (.ref k2)) (S4 : Sta Z Z.heap "com/example/esfahan/esfahan/model/Comparison" "GREATER" "Lcom/example/esfahan/esfahan/model/Comparison;" (.ref k4)) (hA2 : x1 = 60 → an = .ref k2) (hA4 : x1 = 62 → an = .ref k4) (hAn : ¬ x1 = 60 → ¬ x1 = 62 → an = .null) :
    MetFree l (⟨"com/example/esfahan/esfahan/model/ComparisonOfSymbolPinLaw", "expect", "(ICC)Lcom/example/esfahan/esfahan/model/Comparison;"⟩ : MethodName) (head1 (Jvm.Cond.code (⟨"com/example/esfahan/esfahan/model/ComparisonOfSymbolPinLaw", "expect", "(ICC)Lcom/example/esfahan/esfahan/model/Comparison;"⟩ : MethodName) method_3_code 3 (some (.object "com/example/esfahan/esfahan/model/Comparison")) :: ws) ({ frames := 0, cells := 0, slots := 0, locals := 0 } : Room)) (fun av_ U => av_ = #[(.int (1 : Int32)), (.int x1), (.int x2)] ∧ Z.Warmed39 U.vm ∧ U.heap = h0) (fun _ _ _ _ _ => True) (fun _ U o_ U' => ∃ v L, o_ = .returned v ∧ Q_exp1 Z x1 x2 an k0 k1 k2 k3 k4 k5 h0 n0 v U'.heap L ∧ FrameEnd U o_ U' L ({ frames := 0, cells := 0, slots := 0, locals := 0 } : Room).cells ({ frames := 0, cells := 0, slots := 0, locals := 0 } : Room).slots) := by
  refine MetFree.of_bodySF (plainFor_of_name pn_3) hisR ?_
  intro p e s m args below meth c s₁ Bd hml0 hP hK
  obtain ⟨rfl, hZ, hh⟩ := hP
  have hx := Bd.exec
  have hby := Bd.bytes
  have hml : c.maxLocals = 3 := hml0
  have hown : s.vm.findClass "com/example/esfahan/esfahan/model/ComparisonOfSymbolPinLaw" = some m.cls := findClass_of_methodNamed Bd.named
  have hnm := (name_of_methodNamed Bd.named Bd.method).1
  have hlk := own_lk Bd
  have hret := Bd.returns
  have X0 : Stand p l e ({ frames := 0, cells := 0, slots := 0, locals := 0 } : Room) s m #[(.int (1 : Int32)), (.int x1), (.int x2)] below meth c s₁ [] 0 0 := Stand.of_body Bd
  have e0 : s₁.heap = h0 := by rw [← hh, Bd.state]; rfl
  have N0 := Fr.nil n0
  show own_Goes p e below s (Q_exp1 Z x1 x2 an k0 k1 k2 k3 k4 k5 h0 n0) ({ frames := 0, cells := 0, slots := 0, locals := 0 } : Room).cells ({ frames := 0, cells := 0, slots := 0, locals := 0 } : Room).slots (s₁.setTop (entryFrame m #[(.int (1 : Int32)), (.int x1), (.int x2)] 3))
  refine own_go (fun _ ww => castTop (ef_exp1 m x1 x2 an k0 k1 k2 k3 k4 k5) ww) ?_
  show own_Goes _ _ _ _ _ _ _ (s₁.setTop (mkF m 0 #[.val (.int (1 : Int32)), .val (.int x1), .val (.int x2)] []))
  refine own_go (fun _ ww => XS.iloadN X0.here hx rfl (hb hby d5_0) rfl  ww) ?_
  show own_Goes _ _ _ _ _ _ _ (s₁.setTop (mkF m 1 #[.val (.int (1 : Int32)), .val (.int x1), .val (.int x2)] [(.int (1 : Int32))]))
  refine own_go (fun _ ww => XS.iconst X0.here hx rfl (hb hby d5_1) ww) ?_
  show own_Goes _ _ _ _ _ _ _ (s₁.setTop (mkF m 2 #[.val (.int (1 : Int32)), .val (.int x1), .val (.int x2)] [(.int (1 : Int32)), (.int (1 : Int32))]))
  refine own_go (fun _ ww => XS.icmpNo X0.here hx rfl (hb hby d5_2) rfl (teq (by decide : (1 : Int32) = (1 : Int32))).2 ww) ?_
  show own_Goes _ _ _ _ _ _ _ (s₁.setTop (mkF m 5 #[.val (.int (1 : Int32)), .val (.int x1), .val (.int x2)] []))
  refine own_go (fun _ ww => XS.iloadN X0.here hx rfl (hb hby d5_5) rfl  ww) ?_
  show own_Goes _ _ _ _ _ _ _ (s₁.setTop (mkF m 6 #[.val (.int (1 : Int32)), .val (.int x1), .val (.int x2)] [(.int x1)]))
  refine own_go (fun _ ww => XS.bipush X0.here hx rfl (hb hby d5_6) ww) ?_
  show own_Goes _ _ _ _ _ _ _ (s₁.setTop (mkF m 8 #[.val (.int (1 : Int32)), .val (.int x1), .val (.int x2)] [(.int (60 : Int32)), (.int x1)]))
  by_cases hc43 : x1 = (60 : Int32)
  ·
    refine own_go (fun _ ww => XS.icmpNo X0.here hx rfl (hb hby d5_8) rfl (teq hc43).2 ww) ?_
    show own_Goes _ _ _ _ _ _ _ (s₁.setTop (mkF m 11 #[.val (.int (1 : Int32)), .val (.int x1), .val (.int x2)] []))
    obtain ⟨T44, X44, e44, st44⟩ := getS X0 hx hZ hown (host := "") (hw _ (List.mem_of_getElem? (i := 104) rfl)) Via.refl e0 (S2.ext O0.2) (g := (mkF m 11 #[.val (.int (1 : Int32)), .val (.int x1), .val (.int x2)] [])) rfl (hb hby d5_11)
    refine own_go st44 ?_
    show own_Goes _ _ _ _ _ _ _ (T44.setTop (mkF m 14 #[.val (.int (1 : Int32)), .val (.int x1), .val (.int x2)] [(.ref k2)]))
    exact own_out X44 hlk (v := some (.ref k2)) (fun h => by rw [hret] at h; cases h) (fun fs hr => retOut X44 hx (t := (.object "com/example/esfahan/esfahan/model/Comparison")) hret rfl (Or.inr (Or.inr (Or.inr (Or.inr ⟨rfl, rfl, rfl⟩)))) (hb hby d5_14) hr) e44 ⟨by rw [hA2 hc43], N0, rfl⟩ (by decide) (by decide)
  ·
    refine own_go (fun _ ww => XS.icmpYes X0.here hx rfl (pc0 := 8) (pc' := 15) rfl (hb hby d5_8) rfl (feq hc43).2 (by decide) (by decide) ww) ?_
    show own_Goes _ _ _ _ _ _ _ (s₁.setTop (mkF m 15 #[.val (.int (1 : Int32)), .val (.int x1), .val (.int x2)] []))
    refine own_go (fun _ ww => XS.iloadN X0.here hx rfl (hb hby d5_15) rfl  ww) ?_
    show own_Goes _ _ _ _ _ _ _ (s₁.setTop (mkF m 16 #[.val (.int (1 : Int32)), .val (.int x1), .val (.int x2)] [(.int x1)]))
    refine own_go (fun _ ww => XS.bipush X0.here hx rfl (hb hby d5_16) ww) ?_
    show own_Goes _ _ _ _ _ _ _ (s₁.setTop (mkF m 18 #[.val (.int (1 : Int32)), .val (.int x1), .val (.int x2)] [(.int (62 : Int32)), (.int x1)]))
    by_cases hc45 : x1 = (62 : Int32)
    ·
      refine own_go (fun _ ww => XS.icmpNo X0.here hx rfl (hb hby d5_18) rfl (teq hc45).2 ww) ?_
      show own_Goes _ _ _ _ _ _ _ (s₁.setTop (mkF m 21 #[.val (.int (1 : Int32)), .val (.int x1), .val (.int x2)] []))
      obtain ⟨T46, X46, e46, st46⟩ := getS X0 hx hZ hown (host := "") (hw _ (List.mem_of_getElem? (i := 89) rfl)) Via.refl e0 (S4.ext O0.2) (g := (mkF m 21 #[.val (.int (1 : Int32)), .val (.int x1), .val (.int x2)] [])) rfl (hb hby d5_21)
      refine own_go st46 ?_
      show own_Goes _ _ _ _ _ _ _ (T46.setTop (mkF m 24 #[.val (.int (1 : Int32)), .val (.int x1), .val (.int x2)] [(.ref k4)]))
      exact own_out X46 hlk (v := some (.ref k4)) (fun h => by rw [hret] at h; cases h) (fun fs hr => retOut X46 hx (t := (.object "com/example/esfahan/esfahan/model/Comparison")) hret rfl (Or.inr (Or.inr (Or.inr (Or.inr ⟨rfl, rfl, rfl⟩)))) (hb hby d5_24) hr) e46 ⟨by rw [hA4 hc45], N0, rfl⟩ (by decide) (by decide)
    ·
      refine own_go (fun _ ww => XS.icmpYes X0.here hx rfl (pc0 := 18) (pc' := 25) rfl (hb hby d5_18) rfl (feq hc45).2 (by decide) (by decide) ww) ?_
      show own_Goes _ _ _ _ _ _ _ (s₁.setTop (mkF m 25 #[.val (.int (1 : Int32)), .val (.int x1), .val (.int x2)] []))
      refine own_go (fun _ ww => XS.aconstNull X0.here hx rfl (hb hby d5_25) ww) ?_
      show own_Goes _ _ _ _ _ _ _ (s₁.setTop (mkF m 26 #[.val (.int (1 : Int32)), .val (.int x1), .val (.int x2)] [.null]))
      exact own_out X0 hlk (v := some .null) (fun h => by rw [hret] at h; cases h) (fun fs hr => retOut X0 hx (t := (.object "com/example/esfahan/esfahan/model/Comparison")) hret rfl (Or.inr (Or.inr (Or.inr (Or.inr ⟨rfl, rfl, rfl⟩)))) (hb hby d5_26) hr) e0 ⟨by rw [hAn hc43 hc45], N0, rfl⟩ (by decide) (by decide)
theorem d5_32 : decode method_3_code 32 = .ok (.iload_n 2, 1) := by decide +kernel
theorem d5_33 : decode method_3_code 33 = .ok (.bipush 61, 2) := by decide +kernel
theorem d5_35 : decode method_3_code 35 = .ok (.if_icmp .ne 43, 3) := by decide +kernel
theorem d5_38 : decode method_3_code 38 = .ok (.iload_n 1, 1) := by decide +kernel
theorem d5_39 : decode method_3_code 39 = .ok (.bipush 61, 2) := by decide +kernel
theorem d5_41 : decode method_3_code 41 = .ok (.if_icmp .ne 7, 3) := by decide +kernel
theorem d5_44 : decode method_3_code 44 = .ok (.getstatic 16, 3) := by decide +kernel
theorem d5_47 : decode method_3_code 47 = .ok (.areturn, 1) := by decide +kernel
theorem d5_48 : decode method_3_code 48 = .ok (.iload_n 1, 1) := by decide +kernel
theorem d5_49 : decode method_3_code 49 = .ok (.bipush 33, 2) := by decide +kernel
theorem d5_51 : decode method_3_code 51 = .ok (.if_icmp .ne 7, 3) := by decide +kernel
theorem d5_54 : decode method_3_code 54 = .ok (.getstatic 19, 3) := by decide +kernel
theorem d5_57 : decode method_3_code 57 = .ok (.areturn, 1) := by decide +kernel
theorem d5_58 : decode method_3_code 58 = .ok (.iload_n 1, 1) := by decide +kernel
theorem d5_59 : decode method_3_code 59 = .ok (.bipush 60, 2) := by decide +kernel
theorem d5_61 : decode method_3_code 61 = .ok (.if_icmp .ne 7, 3) := by decide +kernel
theorem d5_64 : decode method_3_code 64 = .ok (.getstatic 22, 3) := by decide +kernel
theorem d5_67 : decode method_3_code 67 = .ok (.areturn, 1) := by decide +kernel
theorem d5_68 : decode method_3_code 68 = .ok (.iload_n 1, 1) := by decide +kernel
theorem d5_69 : decode method_3_code 69 = .ok (.bipush 62, 2) := by decide +kernel
theorem d5_71 : decode method_3_code 71 = .ok (.if_icmp .ne 7, 3) := by decide +kernel
theorem d5_74 : decode method_3_code 74 = .ok (.getstatic 25, 3) := by decide +kernel
theorem d5_77 : decode method_3_code 77 = .ok (.areturn, 1) := by decide +kernel
theorem ef_exp2 (m : MethodId) (x1 : Int32) (x2 : Int32) (an : Value) (k0 : Addr) (k1 : Addr) (k2 : Addr) (k3 : Addr) (k4 : Addr) (k5 : Addr) : entryFrame m #[(.int (2 : Int32)), (.int x1), (.int x2)] 3 = mkF m 0 #[.val (.int (2 : Int32)), .val (.int x1), .val (.int x2)] [] := by
  first | (simp [entryFrame, mkF, argsToLocals, Value.category]; done) | rfl
def Q_exp2 (Z : State) (x1 : Int32) (x2 : Int32) (an : Value) (k0 : Addr) (k1 : Addr) (k2 : Addr) (k3 : Addr) (k4 : Addr) (k5 : Addr) (h0 : Heap) (n0 : Nat) (v : Option Value) (h : Heap) (L : List Loc) : Prop := v = some an ∧ Fr n0 L ∧ h = h0
set_option maxRecDepth 65536 in
set_option maxHeartbeats 40000000 in
theorem rm_exp2 (l : Launch) (Z : State) (a0 : Array Value) (hw : ∀ d ∈ tables_1, d.before a0 Z = true) (ws : List Jvm.Cond) (x1 : Int32) (x2 : Int32) (an : Value) (k0 : Addr) (k1 : Addr) (k2 : Addr) (k3 : Addr) (k4 : Addr) (k5 : Addr) (h0 : Heap) (n0 : Nat) (O0 : Old Z n0 h0) (S0 : Sta Z Z.heap "com/example/esfahan/esfahan/model/Comparison" "EQUAL" "Lcom/example/esfahan/esfahan/model/Comparison;" (.ref k0)) (S1 : Sta Z Z.heap "com/example/esfahan/esfahan/model/Comparison" "NOT_EQUAL" "Lcom/example/esfahan/esfahan/model/Comparison;" (.ref k1)) (S3 : Sta Z Z.heap "com/example/esfahan/esfahan/model/Comparison" "AT_MOST" "Lcom/example/esfahan/esfahan/model/Comparison;" (.ref k3)) (S5 : Sta Z Z.heap "com/example/esfahan/esfahan/model/Comparison" "AT_LEAST" "Lcom/example/esfahan/esfahan/model/Comparison;" (.ref k5)) (hAn0 : ¬ x2 = 61 → an = .null) (hA0 : x2 = 61 → x1 = 61 → an = .ref k0) (hA1 : x2 = 61 → x1 = 33 → an = .ref k1) (hA3 : x2 = 61 → x1 = 60 → an = .ref k3) (hA5 : x2 = 61 → x1 = 62 → an = .ref k5) (hAn : ¬ x1 = 61 → ¬ x1 = 33 → ¬ x1 = 60 → ¬ x1 = 62 → an = .null) :
    MetFree l (⟨"com/example/esfahan/esfahan/model/ComparisonOfSymbolPinLaw", "expect", "(ICC)Lcom/example/esfahan/esfahan/model/Comparison;"⟩ : MethodName) (head1 (Jvm.Cond.code (⟨"com/example/esfahan/esfahan/model/ComparisonOfSymbolPinLaw", "expect", "(ICC)Lcom/example/esfahan/esfahan/model/Comparison;"⟩ : MethodName) method_3_code 3 (some (.object "com/example/esfahan/esfahan/model/Comparison")) :: ws) ({ frames := 0, cells := 0, slots := 0, locals := 0 } : Room)) (fun av_ U => av_ = #[(.int (2 : Int32)), (.int x1), (.int x2)] ∧ Z.Warmed39 U.vm ∧ U.heap = h0) (fun _ _ _ _ _ => True) (fun _ U o_ U' => ∃ v L, o_ = .returned v ∧ Q_exp2 Z x1 x2 an k0 k1 k2 k3 k4 k5 h0 n0 v U'.heap L ∧ FrameEnd U o_ U' L ({ frames := 0, cells := 0, slots := 0, locals := 0 } : Room).cells ({ frames := 0, cells := 0, slots := 0, locals := 0 } : Room).slots) := by
  refine MetFree.of_bodySF (plainFor_of_name pn_3) hisR ?_
  intro p e s m args below meth c s₁ Bd hml0 hP hK
  obtain ⟨rfl, hZ, hh⟩ := hP
  have hx := Bd.exec
  have hby := Bd.bytes
  have hml : c.maxLocals = 3 := hml0
  have hown : s.vm.findClass "com/example/esfahan/esfahan/model/ComparisonOfSymbolPinLaw" = some m.cls := findClass_of_methodNamed Bd.named
  have hnm := (name_of_methodNamed Bd.named Bd.method).1
  have hlk := own_lk Bd
  have hret := Bd.returns
  have X0 : Stand p l e ({ frames := 0, cells := 0, slots := 0, locals := 0 } : Room) s m #[(.int (2 : Int32)), (.int x1), (.int x2)] below meth c s₁ [] 0 0 := Stand.of_body Bd
  have e0 : s₁.heap = h0 := by rw [← hh, Bd.state]; rfl
  have N0 := Fr.nil n0
  show own_Goes p e below s (Q_exp2 Z x1 x2 an k0 k1 k2 k3 k4 k5 h0 n0) ({ frames := 0, cells := 0, slots := 0, locals := 0 } : Room).cells ({ frames := 0, cells := 0, slots := 0, locals := 0 } : Room).slots (s₁.setTop (entryFrame m #[(.int (2 : Int32)), (.int x1), (.int x2)] 3))
  refine own_go (fun _ ww => castTop (ef_exp2 m x1 x2 an k0 k1 k2 k3 k4 k5) ww) ?_
  show own_Goes _ _ _ _ _ _ _ (s₁.setTop (mkF m 0 #[.val (.int (2 : Int32)), .val (.int x1), .val (.int x2)] []))
  refine own_go (fun _ ww => XS.iloadN X0.here hx rfl (hb hby d5_0) rfl  ww) ?_
  show own_Goes _ _ _ _ _ _ _ (s₁.setTop (mkF m 1 #[.val (.int (2 : Int32)), .val (.int x1), .val (.int x2)] [(.int (2 : Int32))]))
  refine own_go (fun _ ww => XS.iconst X0.here hx rfl (hb hby d5_1) ww) ?_
  show own_Goes _ _ _ _ _ _ _ (s₁.setTop (mkF m 2 #[.val (.int (2 : Int32)), .val (.int x1), .val (.int x2)] [(.int (1 : Int32)), (.int (2 : Int32))]))
  refine own_go (fun _ ww => XS.icmpYes X0.here hx rfl (pc0 := 2) (pc' := 27) rfl (hb hby d5_2) rfl (feq (by decide : ¬ ((2 : Int32) = (1 : Int32)))).2 (by decide) (by decide) ww) ?_
  show own_Goes _ _ _ _ _ _ _ (s₁.setTop (mkF m 27 #[.val (.int (2 : Int32)), .val (.int x1), .val (.int x2)] []))
  refine own_go (fun _ ww => XS.iloadN X0.here hx rfl (hb hby d5_27) rfl  ww) ?_
  show own_Goes _ _ _ _ _ _ _ (s₁.setTop (mkF m 28 #[.val (.int (2 : Int32)), .val (.int x1), .val (.int x2)] [(.int (2 : Int32))]))
  refine own_go (fun _ ww => XS.iconst X0.here hx rfl (hb hby d5_28) ww) ?_
  show own_Goes _ _ _ _ _ _ _ (s₁.setTop (mkF m 29 #[.val (.int (2 : Int32)), .val (.int x1), .val (.int x2)] [(.int (2 : Int32)), (.int (2 : Int32))]))
  refine own_go (fun _ ww => XS.icmpNo X0.here hx rfl (hb hby d5_29) rfl (teq (by decide : (2 : Int32) = (2 : Int32))).2 ww) ?_
  show own_Goes _ _ _ _ _ _ _ (s₁.setTop (mkF m 32 #[.val (.int (2 : Int32)), .val (.int x1), .val (.int x2)] []))
  refine own_go (fun _ ww => XS.iloadN X0.here hx rfl (hb hby d5_32) rfl  ww) ?_
  show own_Goes _ _ _ _ _ _ _ (s₁.setTop (mkF m 33 #[.val (.int (2 : Int32)), .val (.int x1), .val (.int x2)] [(.int x2)]))
  refine own_go (fun _ ww => XS.bipush X0.here hx rfl (hb hby d5_33) ww) ?_
  show own_Goes _ _ _ _ _ _ _ (s₁.setTop (mkF m 35 #[.val (.int (2 : Int32)), .val (.int x1), .val (.int x2)] [(.int (61 : Int32)), (.int x2)]))
  by_cases hc47 : x2 = (61 : Int32)
  ·
    refine own_go (fun _ ww => XS.icmpNo X0.here hx rfl (hb hby d5_35) rfl (teq hc47).2 ww) ?_
    show own_Goes _ _ _ _ _ _ _ (s₁.setTop (mkF m 38 #[.val (.int (2 : Int32)), .val (.int x1), .val (.int x2)] []))
    refine own_go (fun _ ww => XS.iloadN X0.here hx rfl (hb hby d5_38) rfl  ww) ?_
    show own_Goes _ _ _ _ _ _ _ (s₁.setTop (mkF m 39 #[.val (.int (2 : Int32)), .val (.int x1), .val (.int x2)] [(.int x1)]))
    refine own_go (fun _ ww => XS.bipush X0.here hx rfl (hb hby d5_39) ww) ?_
    show own_Goes _ _ _ _ _ _ _ (s₁.setTop (mkF m 41 #[.val (.int (2 : Int32)), .val (.int x1), .val (.int x2)] [(.int (61 : Int32)), (.int x1)]))
    by_cases hc48 : x1 = (61 : Int32)
    ·
      refine own_go (fun _ ww => XS.icmpNo X0.here hx rfl (hb hby d5_41) rfl (teq hc48).2 ww) ?_
      show own_Goes _ _ _ _ _ _ _ (s₁.setTop (mkF m 44 #[.val (.int (2 : Int32)), .val (.int x1), .val (.int x2)] []))
      obtain ⟨T49, X49, e49, st49⟩ := getS X0 hx hZ hown (host := "") (hw _ (List.mem_of_getElem? (i := 105) rfl)) Via.refl e0 (S0.ext O0.2) (g := (mkF m 44 #[.val (.int (2 : Int32)), .val (.int x1), .val (.int x2)] [])) rfl (hb hby d5_44)
      refine own_go st49 ?_
      show own_Goes _ _ _ _ _ _ _ (T49.setTop (mkF m 47 #[.val (.int (2 : Int32)), .val (.int x1), .val (.int x2)] [(.ref k0)]))
      exact own_out X49 hlk (v := some (.ref k0)) (fun h => by rw [hret] at h; cases h) (fun fs hr => retOut X49 hx (t := (.object "com/example/esfahan/esfahan/model/Comparison")) hret rfl (Or.inr (Or.inr (Or.inr (Or.inr ⟨rfl, rfl, rfl⟩)))) (hb hby d5_47) hr) e49 ⟨by rw [hA0 hc47 hc48], N0, rfl⟩ (by decide) (by decide)
    ·
      refine own_go (fun _ ww => XS.icmpYes X0.here hx rfl (pc0 := 41) (pc' := 48) rfl (hb hby d5_41) rfl (feq hc48).2 (by decide) (by decide) ww) ?_
      show own_Goes _ _ _ _ _ _ _ (s₁.setTop (mkF m 48 #[.val (.int (2 : Int32)), .val (.int x1), .val (.int x2)] []))
      refine own_go (fun _ ww => XS.iloadN X0.here hx rfl (hb hby d5_48) rfl  ww) ?_
      show own_Goes _ _ _ _ _ _ _ (s₁.setTop (mkF m 49 #[.val (.int (2 : Int32)), .val (.int x1), .val (.int x2)] [(.int x1)]))
      refine own_go (fun _ ww => XS.bipush X0.here hx rfl (hb hby d5_49) ww) ?_
      show own_Goes _ _ _ _ _ _ _ (s₁.setTop (mkF m 51 #[.val (.int (2 : Int32)), .val (.int x1), .val (.int x2)] [(.int (33 : Int32)), (.int x1)]))
      by_cases hc50 : x1 = (33 : Int32)
      ·
        refine own_go (fun _ ww => XS.icmpNo X0.here hx rfl (hb hby d5_51) rfl (teq hc50).2 ww) ?_
        show own_Goes _ _ _ _ _ _ _ (s₁.setTop (mkF m 54 #[.val (.int (2 : Int32)), .val (.int x1), .val (.int x2)] []))
        obtain ⟨T51, X51, e51, st51⟩ := getS X0 hx hZ hown (host := "") (hw _ (List.mem_of_getElem? (i := 108) rfl)) Via.refl e0 (S1.ext O0.2) (g := (mkF m 54 #[.val (.int (2 : Int32)), .val (.int x1), .val (.int x2)] [])) rfl (hb hby d5_54)
        refine own_go st51 ?_
        show own_Goes _ _ _ _ _ _ _ (T51.setTop (mkF m 57 #[.val (.int (2 : Int32)), .val (.int x1), .val (.int x2)] [(.ref k1)]))
        exact own_out X51 hlk (v := some (.ref k1)) (fun h => by rw [hret] at h; cases h) (fun fs hr => retOut X51 hx (t := (.object "com/example/esfahan/esfahan/model/Comparison")) hret rfl (Or.inr (Or.inr (Or.inr (Or.inr ⟨rfl, rfl, rfl⟩)))) (hb hby d5_57) hr) e51 ⟨by rw [hA1 hc47 hc50], N0, rfl⟩ (by decide) (by decide)
      ·
        refine own_go (fun _ ww => XS.icmpYes X0.here hx rfl (pc0 := 51) (pc' := 58) rfl (hb hby d5_51) rfl (feq hc50).2 (by decide) (by decide) ww) ?_
        show own_Goes _ _ _ _ _ _ _ (s₁.setTop (mkF m 58 #[.val (.int (2 : Int32)), .val (.int x1), .val (.int x2)] []))
        refine own_go (fun _ ww => XS.iloadN X0.here hx rfl (hb hby d5_58) rfl  ww) ?_
        show own_Goes _ _ _ _ _ _ _ (s₁.setTop (mkF m 59 #[.val (.int (2 : Int32)), .val (.int x1), .val (.int x2)] [(.int x1)]))
        refine own_go (fun _ ww => XS.bipush X0.here hx rfl (hb hby d5_59) ww) ?_
        show own_Goes _ _ _ _ _ _ _ (s₁.setTop (mkF m 61 #[.val (.int (2 : Int32)), .val (.int x1), .val (.int x2)] [(.int (60 : Int32)), (.int x1)]))
        by_cases hc52 : x1 = (60 : Int32)
        ·
          refine own_go (fun _ ww => XS.icmpNo X0.here hx rfl (hb hby d5_61) rfl (teq hc52).2 ww) ?_
          show own_Goes _ _ _ _ _ _ _ (s₁.setTop (mkF m 64 #[.val (.int (2 : Int32)), .val (.int x1), .val (.int x2)] []))
          obtain ⟨T53, X53, e53, st53⟩ := getS X0 hx hZ hown (host := "") (hw _ (List.mem_of_getElem? (i := 107) rfl)) Via.refl e0 (S3.ext O0.2) (g := (mkF m 64 #[.val (.int (2 : Int32)), .val (.int x1), .val (.int x2)] [])) rfl (hb hby d5_64)
          refine own_go st53 ?_
          show own_Goes _ _ _ _ _ _ _ (T53.setTop (mkF m 67 #[.val (.int (2 : Int32)), .val (.int x1), .val (.int x2)] [(.ref k3)]))
          exact own_out X53 hlk (v := some (.ref k3)) (fun h => by rw [hret] at h; cases h) (fun fs hr => retOut X53 hx (t := (.object "com/example/esfahan/esfahan/model/Comparison")) hret rfl (Or.inr (Or.inr (Or.inr (Or.inr ⟨rfl, rfl, rfl⟩)))) (hb hby d5_67) hr) e53 ⟨by rw [hA3 hc47 hc52], N0, rfl⟩ (by decide) (by decide)
        ·
          refine own_go (fun _ ww => XS.icmpYes X0.here hx rfl (pc0 := 61) (pc' := 68) rfl (hb hby d5_61) rfl (feq hc52).2 (by decide) (by decide) ww) ?_
          show own_Goes _ _ _ _ _ _ _ (s₁.setTop (mkF m 68 #[.val (.int (2 : Int32)), .val (.int x1), .val (.int x2)] []))
          refine own_go (fun _ ww => XS.iloadN X0.here hx rfl (hb hby d5_68) rfl  ww) ?_
          show own_Goes _ _ _ _ _ _ _ (s₁.setTop (mkF m 69 #[.val (.int (2 : Int32)), .val (.int x1), .val (.int x2)] [(.int x1)]))
          refine own_go (fun _ ww => XS.bipush X0.here hx rfl (hb hby d5_69) ww) ?_
          show own_Goes _ _ _ _ _ _ _ (s₁.setTop (mkF m 71 #[.val (.int (2 : Int32)), .val (.int x1), .val (.int x2)] [(.int (62 : Int32)), (.int x1)]))
          by_cases hc54 : x1 = (62 : Int32)
          ·
            refine own_go (fun _ ww => XS.icmpNo X0.here hx rfl (hb hby d5_71) rfl (teq hc54).2 ww) ?_
            show own_Goes _ _ _ _ _ _ _ (s₁.setTop (mkF m 74 #[.val (.int (2 : Int32)), .val (.int x1), .val (.int x2)] []))
            obtain ⟨T55, X55, e55, st55⟩ := getS X0 hx hZ hown (host := "") (hw _ (List.mem_of_getElem? (i := 106) rfl)) Via.refl e0 (S5.ext O0.2) (g := (mkF m 74 #[.val (.int (2 : Int32)), .val (.int x1), .val (.int x2)] [])) rfl (hb hby d5_74)
            refine own_go st55 ?_
            show own_Goes _ _ _ _ _ _ _ (T55.setTop (mkF m 77 #[.val (.int (2 : Int32)), .val (.int x1), .val (.int x2)] [(.ref k5)]))
            exact own_out X55 hlk (v := some (.ref k5)) (fun h => by rw [hret] at h; cases h) (fun fs hr => retOut X55 hx (t := (.object "com/example/esfahan/esfahan/model/Comparison")) hret rfl (Or.inr (Or.inr (Or.inr (Or.inr ⟨rfl, rfl, rfl⟩)))) (hb hby d5_77) hr) e55 ⟨by rw [hA5 hc47 hc54], N0, rfl⟩ (by decide) (by decide)
          ·
            refine own_go (fun _ ww => XS.icmpYes X0.here hx rfl (pc0 := 71) (pc' := 78) rfl (hb hby d5_71) rfl (feq hc54).2 (by decide) (by decide) ww) ?_
            show own_Goes _ _ _ _ _ _ _ (s₁.setTop (mkF m 78 #[.val (.int (2 : Int32)), .val (.int x1), .val (.int x2)] []))
            refine own_go (fun _ ww => XS.aconstNull X0.here hx rfl (hb hby d5_78) ww) ?_
            show own_Goes _ _ _ _ _ _ _ (s₁.setTop (mkF m 79 #[.val (.int (2 : Int32)), .val (.int x1), .val (.int x2)] [.null]))
            exact own_out X0 hlk (v := some .null) (fun h => by rw [hret] at h; cases h) (fun fs hr => retOut X0 hx (t := (.object "com/example/esfahan/esfahan/model/Comparison")) hret rfl (Or.inr (Or.inr (Or.inr (Or.inr ⟨rfl, rfl, rfl⟩)))) (hb hby d5_79) hr) e0 ⟨by rw [hAn hc48 hc50 hc52 hc54], N0, rfl⟩ (by decide) (by decide)
  ·
    refine own_go (fun _ ww => XS.icmpYes X0.here hx rfl (pc0 := 35) (pc' := 78) rfl (hb hby d5_35) rfl (feq hc47).2 (by decide) (by decide) ww) ?_
    show own_Goes _ _ _ _ _ _ _ (s₁.setTop (mkF m 78 #[.val (.int (2 : Int32)), .val (.int x1), .val (.int x2)] []))
    refine own_go (fun _ ww => XS.aconstNull X0.here hx rfl (hb hby d5_78) ww) ?_
    show own_Goes _ _ _ _ _ _ _ (s₁.setTop (mkF m 79 #[.val (.int (2 : Int32)), .val (.int x1), .val (.int x2)] [.null]))
    exact own_out X0 hlk (v := some .null) (fun h => by rw [hret] at h; cases h) (fun fs hr => retOut X0 hx (t := (.object "com/example/esfahan/esfahan/model/Comparison")) hret rfl (Or.inr (Or.inr (Or.inr (Or.inr ⟨rfl, rfl, rfl⟩)))) (hb hby d5_79) hr) e0 ⟨by rw [hAn0 hc47], N0, rfl⟩ (by decide) (by decide)
theorem d7_0 : decode prog_47_method_1_code 0 = .ok (.getstatic 22, 3) := by decide +kernel
theorem d7_3 : decode prog_47_method_1_code 3 = .ok (.invokevirtual 26, 3) := by decide +kernel
theorem d7_6 : decode prog_47_method_1_code 6 = .ok (.checkcast 27, 3) := by decide +kernel
theorem d7_9 : decode prog_47_method_1_code 9 = .ok (.areturn, 1) := by decide +kernel
theorem ef_values (m : MethodId) (va : Addr) (kk : ClassId) (k0 : Addr) (k1 : Addr) (k2 : Addr) (k3 : Addr) (k4 : Addr) (k5 : Addr) : entryFrame m #[] 0 = mkF m 0 #[] [] := by
  first | (simp [entryFrame, mkF, argsToLocals, Value.category]; done) | rfl
def Q_values (Z : State) (va : Addr) (kk : ClassId) (k0 : Addr) (k1 : Addr) (k2 : Addr) (k3 : Addr) (k4 : Addr) (k5 : Addr) (h0 : Heap) (n0 : Nat) (v : Option Value) (h : Heap) (L : List Loc) : Prop := ∃ b, v = some (.ref b) ∧ Fr n0 L ∧ h0.size ≤ b ∧ Keep h0 h [] ∧ Arv Z h b kk (.object "com/example/esfahan/esfahan/model/Comparison") (6 : Int32) [(.ref k0), (.ref k1), (.ref k2), (.ref k3), (.ref k4), (.ref k5)] .null
set_option maxRecDepth 65536 in
set_option maxHeartbeats 40000000 in
theorem rm_values (l : Launch) (Z : State) (a0 : Array Value) (hw : ∀ d ∈ tables_1, d.before a0 Z = true) (ws : List Jvm.Cond) (va : Addr) (kk : ClassId) (k0 : Addr) (k1 : Addr) (k2 : Addr) (k3 : Addr) (k4 : Addr) (k5 : Addr) (h0 : Heap) (n0 : Nat) (O0 : Old Z n0 h0) (SV : Sta Z Z.heap "com/example/esfahan/esfahan/model/Comparison" "$VALUES" "[Lcom/example/esfahan/esfahan/model/Comparison;" (.ref va)) (AV : Arv Z Z.heap va kk (.object "com/example/esfahan/esfahan/model/Comparison") (6 : Int32) [(.ref k0), (.ref k1), (.ref k2), (.ref k3), (.ref k4), (.ref k5)] .null) (EV : Exa Z Z.heap va "[Lcom/example/esfahan/esfahan/model/Comparison;") :
    MetFree l (⟨"com/example/esfahan/esfahan/model/Comparison", "values", "()[Lcom/example/esfahan/esfahan/model/Comparison;"⟩ : MethodName) (head1 (Jvm.Cond.code (⟨"com/example/esfahan/esfahan/model/Comparison", "values", "()[Lcom/example/esfahan/esfahan/model/Comparison;"⟩ : MethodName) prog_47_method_1_code 0 (some (.array (.object "com/example/esfahan/esfahan/model/Comparison"))) :: ws) ({ frames := 1, cells := 1, slots := 6, locals := 14 } : Room)) (fun av_ U => av_ = #[] ∧ Z.Warmed39 U.vm ∧ U.heap = h0) (fun _ _ _ _ _ => True) (fun _ U o_ U' => ∃ v L, o_ = .returned v ∧ Q_values Z va kk k0 k1 k2 k3 k4 k5 h0 n0 v U'.heap L ∧ FrameEnd U o_ U' L ({ frames := 1, cells := 1, slots := 6, locals := 14 } : Room).cells ({ frames := 1, cells := 1, slots := 6, locals := 14 } : Room).slots) := by
  refine MetFree.of_bodySF (plainFor_of_name pn_4) hisR ?_
  intro p e s m args below meth c s₁ Bd hml0 hP hK
  obtain ⟨rfl, hZ, hh⟩ := hP
  have hx := Bd.exec
  have hby := Bd.bytes
  have hml : c.maxLocals = 0 := hml0
  have hown : s.vm.findClass "com/example/esfahan/esfahan/model/Comparison" = some m.cls := findClass_of_methodNamed Bd.named
  have hnm := (name_of_methodNamed Bd.named Bd.method).1
  have hlk := own_lk Bd
  have hret := Bd.returns
  have X0 : Stand p l e ({ frames := 1, cells := 1, slots := 6, locals := 14 } : Room) s m #[] below meth c s₁ [] 0 0 := Stand.of_body Bd
  have e0 : s₁.heap = h0 := by rw [← hh, Bd.state]; rfl
  have N0 := Fr.nil n0
  show own_Goes p e below s (Q_values Z va kk k0 k1 k2 k3 k4 k5 h0 n0) ({ frames := 1, cells := 1, slots := 6, locals := 14 } : Room).cells ({ frames := 1, cells := 1, slots := 6, locals := 14 } : Room).slots (s₁.setTop (entryFrame m #[] 0))
  refine own_go (fun _ ww => castTop (ef_values m va kk k0 k1 k2 k3 k4 k5) ww) ?_
  show own_Goes _ _ _ _ _ _ _ (s₁.setTop (mkF m 0 #[] []))
  obtain ⟨T56, X56, e56, st56⟩ := getS X0 hx hZ hown (host := "") (hw _ (List.mem_of_getElem? (i := 36) rfl)) Via.refl e0 (SV.ext O0.2) (g := (mkF m 0 #[] [])) rfl (hb hby d7_0)
  refine own_go st56 ?_
  show own_Goes _ _ _ _ _ _ _ (T56.setTop (mkF m 3 #[] [(.ref va)]))
  obtain ⟨T57, h57, X57, e57, E57, V57, A57, st57⟩ := cloneH X56 hx hZ hown (hw _ (List.mem_of_getElem? (i := 38) rfl)) (hw _ (List.mem_of_getElem? (i := 39) rfl)) (hw _ (List.mem_of_getElem? (i := 43) rfl)) (hw _ (List.mem_of_getElem? (i := 41) rfl)) (hw _ (List.mem_of_getElem? (i := 42) rfl)) (hw _ (List.mem_of_getElem? (i := 44) rfl)) e56 (Arv.arh (AV.ext O0.2)) (EV.ext O0.2) (g := (mkF m 3 #[] [(.ref va)])) rfl (by rw [hml]; rfl) rfl (hb hby d7_3) (by decide) (W := 0) (cap := 6) (by show 2 * 0 + _ ≤ _; exact Nat.le_of_eq rfl) (by decide) (by decide) (by decide) (by decide)
  obtain ⟨b57, g57⟩ : ∃ z, z = h0.size := ⟨_, rfl⟩
  rw [← g57] at A57 V57 st57
  have ne_va_b57 : va ≠ b57 := Nat.ne_of_lt (Nat.lt_of_lt_of_le (EV.ext O0.2).lt (Nat.le_of_eq g57.symm))
  have g_b57 : n0 ≤ b57 := Nat.le_trans (O0.1 ▸ O0.2.1) (Nat.le_of_eq g57.symm)
  have O57 := O0.ext E57
  have sz_b57 : h0.size ≤ b57 := Nat.le_trans (own_ks (Keep.refl h0 [])) (Nat.le_of_eq g57.symm)
  have K57 := (Keep.refl h0 []).ext E57
  refine own_go st57 ?_
  show own_Goes _ _ _ _ _ _ _ (T57.setTop (mkF m 6 #[] [(.ref b57)]))
  obtain ⟨T58, X58, e58, st58⟩ := castY X57 hx hZ hown (hw _ (List.mem_of_getElem? (i := 52) rfl)) e57 (Ins.self A57) (g := (mkF m 6 #[] [(.ref b57)])) rfl rfl (hb hby d7_6)
  refine own_go st58 ?_
  show own_Goes _ _ _ _ _ _ _ (T58.setTop (mkF m 9 #[] [(.ref b57)]))
  exact own_out X58 hlk (v := some (.ref b57)) (fun h => by rw [hret] at h; cases h) (fun fs hr => retOut X58 hx (t := (.array (.object "com/example/esfahan/esfahan/model/Comparison"))) hret rfl (Or.inr (Or.inr (Or.inr (Or.inr ⟨rfl, rfl, rfl⟩)))) (hb hby d7_9) hr) e58 ⟨_, rfl, N0, sz_b57, K57, V57⟩ (by decide) (by decide)
theorem d8_0 : decode jdk_42_method_66_code 0 = .ok (.aload_n 0, 1) := by decide +kernel
theorem d8_1 : decode jdk_42_method_66_code 1 = .ok (.aload_n 1, 1) := by decide +kernel
theorem d8_2 : decode jdk_42_method_66_code 2 = .ok (.if_acmp .ne 5, 3) := by decide +kernel
theorem d8_7 : decode jdk_42_method_66_code 7 = .ok (.aload_n 1, 1) := by decide +kernel
theorem d8_8 : decode jdk_42_method_66_code 8 = .ok (.instanceof 10, 3) := by decide +kernel
theorem d8_11 : decode jdk_42_method_66_code 11 = .ok (.ifCond .eq 43, 3) := by decide +kernel
theorem d8_54 : decode jdk_42_method_66_code 54 = .ok (.iconst 0, 1) := by decide +kernel
theorem d8_55 : decode jdk_42_method_66_code 55 = .ok (.ireturn, 1) := by decide +kernel
theorem ef_eqn (m : MethodId) (x : Addr) : entryFrame m #[(.ref x), .null] 3 = mkF m 0 #[.val (.ref x), .val .null, .unset] [] := by
  first | (simp [entryFrame, mkF, argsToLocals, Value.category]; done) | rfl
def Q_eqn (Z : State) (x : Addr) (h0 : Heap) (n0 : Nat) (v : Option Value) (h : Heap) (L : List Loc) : Prop := v = some (.int (0 : Int32)) ∧ Fr n0 L ∧ h = h0
set_option maxRecDepth 65536 in
set_option maxHeartbeats 40000000 in
theorem rm_eqn (l : Launch) (Z : State) (a0 : Array Value) (hw : ∀ d ∈ tables_1, d.before a0 Z = true) (ws : List Jvm.Cond) (x : Addr) (h0 : Heap) (n0 : Nat) (O0 : Old Z n0 h0) :
    MetFree l (⟨"java/lang/String", "equals", "(Ljava/lang/Object;)Z"⟩ : MethodName) (head1 (Jvm.Cond.code (⟨"java/lang/String", "equals", "(Ljava/lang/Object;)Z"⟩ : MethodName) jdk_42_method_66_code 3 (some .boolean) :: ws) ({ frames := 0, cells := 0, slots := 0, locals := 0 } : Room)) (fun av_ U => av_ = #[(.ref x), .null] ∧ Z.Warmed39 U.vm ∧ U.heap = h0) (fun _ _ _ _ _ => True) (fun _ U o_ U' => ∃ v L, o_ = .returned v ∧ Q_eqn Z x h0 n0 v U'.heap L ∧ FrameEnd U o_ U' L ({ frames := 0, cells := 0, slots := 0, locals := 0 } : Room).cells ({ frames := 0, cells := 0, slots := 0, locals := 0 } : Room).slots) := by
  refine MetFree.of_bodySF (plainFor_of_name pn_0) hisR ?_
  intro p e s m args below meth c s₁ Bd hml0 hP hK
  obtain ⟨rfl, hZ, hh⟩ := hP
  have hx := Bd.exec
  have hby := Bd.bytes
  have hml : c.maxLocals = 3 := hml0
  have hown : s.vm.findClass "java/lang/String" = some m.cls := findClass_of_methodNamed Bd.named
  have hnm := (name_of_methodNamed Bd.named Bd.method).1
  have hlk := own_lk Bd
  have hret := Bd.returns
  have X0 : Stand p l e ({ frames := 0, cells := 0, slots := 0, locals := 0 } : Room) s m #[(.ref x), .null] below meth c s₁ [] 0 0 := Stand.of_body Bd
  have e0 : s₁.heap = h0 := by rw [← hh, Bd.state]; rfl
  have N0 := Fr.nil n0
  show own_Goes p e below s (Q_eqn Z x h0 n0) ({ frames := 0, cells := 0, slots := 0, locals := 0 } : Room).cells ({ frames := 0, cells := 0, slots := 0, locals := 0 } : Room).slots (s₁.setTop (entryFrame m #[(.ref x), .null] 3))
  refine own_go (fun _ ww => castTop (ef_eqn m x) ww) ?_
  show own_Goes _ _ _ _ _ _ _ (s₁.setTop (mkF m 0 #[.val (.ref x), .val .null, .unset] []))
  refine own_go (fun _ ww => XS.aloadN X0.here hx rfl (hb hby d8_0) rfl rfl ww) ?_
  show own_Goes _ _ _ _ _ _ _ (s₁.setTop (mkF m 1 #[.val (.ref x), .val .null, .unset] [(.ref x)]))
  refine own_go (fun _ ww => XS.aloadN X0.here hx rfl (hb hby d8_1) rfl rfl ww) ?_
  show own_Goes _ _ _ _ _ _ _ (s₁.setTop (mkF m 2 #[.val (.ref x), .val .null, .unset] [.null, (.ref x)]))
  refine own_go (fun _ ww => XT.acmpYes X0.here hx rfl (pc0 := 2) (pc' := 7) rfl (hb hby d8_2) rfl rfl rfl (XT.aa_ne_t (by simp)) (by decide) (by decide) ww) ?_
  show own_Goes _ _ _ _ _ _ _ (s₁.setTop (mkF m 7 #[.val (.ref x), .val .null, .unset] []))
  refine own_go (fun _ ww => XS.aloadN X0.here hx rfl (hb hby d8_7) rfl rfl ww) ?_
  show own_Goes _ _ _ _ _ _ _ (s₁.setTop (mkF m 8 #[.val (.ref x), .val .null, .unset] [.null]))
  refine own_go (fun _ ww => X0.instanceofNull hx (g := (mkF m 8 #[.val (.ref x), .val .null, .unset] [.null])) rfl rfl (hb hby d8_8) _ ww) ?_
  show own_Goes _ _ _ _ _ _ _ (s₁.setTop (mkF m 11 #[.val (.ref x), .val .null, .unset] [(.int (0 : Int32))]))
  refine own_go (fun _ ww => XS.ifYes X0.here hx rfl (pc0 := 11) (pc' := 54) rfl (hb hby d8_11) rfl (own_if .eq (teq (by decide : (0 : Int32) = (0 : Int32))).1) (by decide) (by decide) ww) ?_
  show own_Goes _ _ _ _ _ _ _ (s₁.setTop (mkF m 54 #[.val (.ref x), .val .null, .unset] []))
  refine own_go (fun _ ww => XS.iconst X0.here hx rfl (hb hby d8_54) ww) ?_
  show own_Goes _ _ _ _ _ _ _ (s₁.setTop (mkF m 55 #[.val (.ref x), .val .null, .unset] [(.int (0 : Int32))]))
  exact own_out X0 hlk (v := some (.int (0 : Int32))) (fun h => by rw [hret] at h; cases h) (fun fs hr => retOut X0 hx (t := .boolean) hret (by decide) (Or.inl ⟨rfl, by simp, _, rfl⟩) (hb hby d8_55) hr) e0 ⟨rfl, N0, rfl⟩ (by decide) (by decide)
theorem own_cod0 : StrChars.Road.CodA ([61, 61] : List Int32) 0 (2 : Int32) [(.int (61 : Int32)), (.int (61 : Int32))] := Or.inl ⟨rfl, by decide, by decide, by decide⟩
theorem own_cod1 : StrChars.Road.CodA ([33, 61] : List Int32) 0 (2 : Int32) [(.int (33 : Int32)), (.int (61 : Int32))] := Or.inl ⟨rfl, by decide, by decide, by decide⟩
theorem own_cod2 : StrChars.Road.CodA ([60] : List Int32) 0 (1 : Int32) [(.int (60 : Int32))] := Or.inl ⟨rfl, by decide, by decide, by decide⟩
theorem own_cod3 : StrChars.Road.CodA ([60, 61] : List Int32) 0 (2 : Int32) [(.int (60 : Int32)), (.int (61 : Int32))] := Or.inl ⟨rfl, by decide, by decide, by decide⟩
theorem own_cod4 : StrChars.Road.CodA ([62] : List Int32) 0 (1 : Int32) [(.int (62 : Int32))] := Or.inl ⟨rfl, by decide, by decide, by decide⟩
theorem own_cod5 : StrChars.Road.CodA ([62, 61] : List Int32) 0 (2 : Int32) [(.int (62 : Int32)), (.int (61 : Int32))] := Or.inl ⟨rfl, by decide, by decide, by decide⟩
theorem d6_0 : decode prog_47_method_4_code 0 = .ok (.invokestatic 45, 3) := by decide +kernel
theorem d6_3 : decode prog_47_method_4_code 3 = .ok (.astore_n 1, 1) := by decide +kernel
theorem d6_4 : decode prog_47_method_4_code 4 = .ok (.aload_n 1, 1) := by decide +kernel
theorem d6_5 : decode prog_47_method_4_code 5 = .ok (.arraylength, 1) := by decide +kernel
theorem d6_6 : decode prog_47_method_4_code 6 = .ok (.istore_n 2, 1) := by decide +kernel
theorem d6_7 : decode prog_47_method_4_code 7 = .ok (.iconst 0, 1) := by decide +kernel
theorem d6_8 : decode prog_47_method_4_code 8 = .ok (.istore_n 3, 1) := by decide +kernel
theorem d6_9 : decode prog_47_method_4_code 9 = .ok (.iload_n 3, 1) := by decide +kernel
theorem d6_10 : decode prog_47_method_4_code 10 = .ok (.iload_n 2, 1) := by decide +kernel
theorem d6_11 : decode prog_47_method_4_code 11 = .ok (.if_icmp .ge 32, 3) := by decide +kernel
theorem d6_14 : decode prog_47_method_4_code 14 = .ok (.aload_n 1, 1) := by decide +kernel
theorem d6_15 : decode prog_47_method_4_code 15 = .ok (.iload_n 3, 1) := by decide +kernel
theorem d6_16 : decode prog_47_method_4_code 16 = .ok (.aaload, 1) := by decide +kernel
theorem d6_17 : decode prog_47_method_4_code 17 = .ok (.astore 4, 2) := by decide +kernel
theorem d6_19 : decode prog_47_method_4_code 19 = .ok (.aload 4, 2) := by decide +kernel
theorem d6_21 : decode prog_47_method_4_code 21 = .ok (.getfield 41, 3) := by decide +kernel
theorem d6_24 : decode prog_47_method_4_code 24 = .ok (.aload_n 0, 1) := by decide +kernel
theorem d6_25 : decode prog_47_method_4_code 25 = .ok (.invokevirtual 49, 3) := by decide +kernel
theorem d6_28 : decode prog_47_method_4_code 28 = .ok (.ifCond .eq 9, 3) := by decide +kernel
theorem d6_31 : decode prog_47_method_4_code 31 = .ok (.aload 4, 2) := by decide +kernel
theorem d6_33 : decode prog_47_method_4_code 33 = .ok (.invokestatic 55, 3) := by decide +kernel
theorem d6_36 : decode prog_47_method_4_code 36 = .ok (.areturn, 1) := by decide +kernel
theorem d6_37 : decode prog_47_method_4_code 37 = .ok (.iinc 3 1, 3) := by decide +kernel
theorem d6_40 : decode prog_47_method_4_code 40 = .ok (.goto (-31), 3) := by decide +kernel
theorem d6_43 : decode prog_47_method_4_code 43 = .ok (.invokestatic 61, 3) := by decide +kernel
theorem d6_46 : decode prog_47_method_4_code 46 = .ok (.areturn, 1) := by decide +kernel
theorem ef_ofs (m : MethodId) (va : Addr) (kk : ClassId) (k0 : Addr) (k1 : Addr) (k2 : Addr) (k3 : Addr) (k4 : Addr) (k5 : Addr) (aE : Addr) (y0 : Addr) (ty0 : Addr) (kb0 : ClassId) (y1 : Addr) (ty1 : Addr) (kb1 : ClassId) (y2 : Addr) (ty2 : Addr) (kb2 : ClassId) (y3 : Addr) (ty3 : Addr) (kb3 : ClassId) (y4 : Addr) (ty4 : Addr) (kb4 : ClassId) (y5 : Addr) (ty5 : Addr) (kb5 : ClassId) (zc : Int32) (sx : Addr) (tx : Addr) (kx : ClassId) (cs : List Int32) (Nx : Int32) (vx : List Value) (an : Value) : entryFrame m #[(.ref sx)] 5 = mkF m 0 #[.val (.ref sx), .unset, .unset, .unset, .unset] [] := by
  first | (simp [entryFrame, mkF, argsToLocals, Value.category]; done) | rfl
def Q_ofs (Z : State) (va : Addr) (kk : ClassId) (k0 : Addr) (k1 : Addr) (k2 : Addr) (k3 : Addr) (k4 : Addr) (k5 : Addr) (aE : Addr) (y0 : Addr) (ty0 : Addr) (kb0 : ClassId) (y1 : Addr) (ty1 : Addr) (kb1 : ClassId) (y2 : Addr) (ty2 : Addr) (kb2 : ClassId) (y3 : Addr) (ty3 : Addr) (kb3 : ClassId) (y4 : Addr) (ty4 : Addr) (kb4 : ClassId) (y5 : Addr) (ty5 : Addr) (kb5 : ClassId) (zc : Int32) (sx : Addr) (tx : Addr) (kx : ClassId) (cs : List Int32) (Nx : Int32) (vx : List Value) (an : Value) (h0 : Heap) (n0 : Nat) (v : Option Value) (h : Heap) (L : List Loc) : Prop := ∃ r, v = some (.ref r) ∧ Fr n0 L ∧ Keep h0 h [] ∧ Exa Z h r "java/util/Optional" ∧ Fld Z h r "java/util/Optional" "value" "Ljava/lang/Object;" an
set_option maxRecDepth 65536 in
set_option maxHeartbeats 40000000 in
theorem rm_ofs (l : Launch) (Z : State) (a0 : Array Value) (hw : ∀ d ∈ tables_1, d.before a0 Z = true) (ws : List Jvm.Cond) (va : Addr) (kk : ClassId) (k0 : Addr) (k1 : Addr) (k2 : Addr) (k3 : Addr) (k4 : Addr) (k5 : Addr) (aE : Addr) (y0 : Addr) (ty0 : Addr) (kb0 : ClassId) (y1 : Addr) (ty1 : Addr) (kb1 : ClassId) (y2 : Addr) (ty2 : Addr) (kb2 : ClassId) (y3 : Addr) (ty3 : Addr) (kb3 : ClassId) (y4 : Addr) (ty4 : Addr) (kb4 : ClassId) (y5 : Addr) (ty5 : Addr) (kb5 : ClassId) (zc : Int32) (sx : Addr) (tx : Addr) (kx : ClassId) (cs : List Int32) (Nx : Int32) (vx : List Value) (an : Value) (h0 : Heap) (n0 : Nat) (O0 : Old Z n0 h0) (SV : Sta Z Z.heap "com/example/esfahan/esfahan/model/Comparison" "$VALUES" "[Lcom/example/esfahan/esfahan/model/Comparison;" (.ref va)) (AV : Arv Z Z.heap va kk (.object "com/example/esfahan/esfahan/model/Comparison") (6 : Int32) [(.ref k0), (.ref k1), (.ref k2), (.ref k3), (.ref k4), (.ref k5)] .null) (EV : Exa Z Z.heap va "[Lcom/example/esfahan/esfahan/model/Comparison;") (SE : Sta Z Z.heap "java/util/Optional" "EMPTY" "Ljava/util/Optional;" (.ref aE)) (EE : Exa Z Z.heap aE "java/util/Optional") (FE : Fld Z Z.heap aE "java/util/Optional" "value" "Ljava/lang/Object;" .null) (F0 : Fld Z Z.heap k0 "com/example/esfahan/esfahan/model/Comparison" "symbol" "Ljava/lang/String;" (.ref y0)) (Ey0 : Exa Z Z.heap y0 "java/lang/String") (Cy0 : Fld Z Z.heap y0 "java/lang/String" "coder" "B" (.int (0 : Int32))) (Vy0 : Fld Z Z.heap y0 "java/lang/String" "value" "[B" (.ref ty0)) (Ky0 : Arv Z Z.heap ty0 kb0 .byte (2 : Int32) [(.int (61 : Int32)), (.int (61 : Int32))] (.int (0 : Int32))) (F1 : Fld Z Z.heap k1 "com/example/esfahan/esfahan/model/Comparison" "symbol" "Ljava/lang/String;" (.ref y1)) (Ey1 : Exa Z Z.heap y1 "java/lang/String") (Cy1 : Fld Z Z.heap y1 "java/lang/String" "coder" "B" (.int (0 : Int32))) (Vy1 : Fld Z Z.heap y1 "java/lang/String" "value" "[B" (.ref ty1)) (Ky1 : Arv Z Z.heap ty1 kb1 .byte (2 : Int32) [(.int (33 : Int32)), (.int (61 : Int32))] (.int (0 : Int32))) (F2 : Fld Z Z.heap k2 "com/example/esfahan/esfahan/model/Comparison" "symbol" "Ljava/lang/String;" (.ref y2)) (Ey2 : Exa Z Z.heap y2 "java/lang/String") (Cy2 : Fld Z Z.heap y2 "java/lang/String" "coder" "B" (.int (0 : Int32))) (Vy2 : Fld Z Z.heap y2 "java/lang/String" "value" "[B" (.ref ty2)) (Ky2 : Arv Z Z.heap ty2 kb2 .byte (1 : Int32) [(.int (60 : Int32))] (.int (0 : Int32))) (F3 : Fld Z Z.heap k3 "com/example/esfahan/esfahan/model/Comparison" "symbol" "Ljava/lang/String;" (.ref y3)) (Ey3 : Exa Z Z.heap y3 "java/lang/String") (Cy3 : Fld Z Z.heap y3 "java/lang/String" "coder" "B" (.int (0 : Int32))) (Vy3 : Fld Z Z.heap y3 "java/lang/String" "value" "[B" (.ref ty3)) (Ky3 : Arv Z Z.heap ty3 kb3 .byte (2 : Int32) [(.int (60 : Int32)), (.int (61 : Int32))] (.int (0 : Int32))) (F4 : Fld Z Z.heap k4 "com/example/esfahan/esfahan/model/Comparison" "symbol" "Ljava/lang/String;" (.ref y4)) (Ey4 : Exa Z Z.heap y4 "java/lang/String") (Cy4 : Fld Z Z.heap y4 "java/lang/String" "coder" "B" (.int (0 : Int32))) (Vy4 : Fld Z Z.heap y4 "java/lang/String" "value" "[B" (.ref ty4)) (Ky4 : Arv Z Z.heap ty4 kb4 .byte (1 : Int32) [(.int (62 : Int32))] (.int (0 : Int32))) (F5 : Fld Z Z.heap k5 "com/example/esfahan/esfahan/model/Comparison" "symbol" "Ljava/lang/String;" (.ref y5)) (Ey5 : Exa Z Z.heap y5 "java/lang/String") (Cy5 : Fld Z Z.heap y5 "java/lang/String" "coder" "B" (.int (0 : Int32))) (Vy5 : Fld Z Z.heap y5 "java/lang/String" "value" "[B" (.ref ty5)) (Ky5 : Arv Z Z.heap ty5 kb5 .byte (2 : Int32) [(.int (62 : Int32)), (.int (61 : Int32))] (.int (0 : Int32))) (SC : Sta Z Z.heap "java/lang/String" "COMPACT_STRINGS" "Z" (.int zc)) (hzc : ¬ zc = 0) (Es : Exa Z h0 sx "java/lang/String") (Vs : Fld Z h0 sx "java/lang/String" "value" "[B" (.ref tx)) (Cs : Fld Z h0 sx "java/lang/String" "coder" "B" (.int (0 : Int32))) (Ks : Arv Z h0 tx kx .byte Nx vx (.int (0 : Int32))) (hcs : StrChars.Road.CodA cs 0 Nx vx) (hbs : ∀ c ∈ cs, ¬ c < 0 ∧ ¬ (65535 : Int32) < c) (hls : cs.length ≤ 4000) (hA0 : ([61, 61] : List Int32) = cs → an = .ref k0) (hA1 : ([33, 61] : List Int32) = cs → an = .ref k1) (hA2 : ([60] : List Int32) = cs → an = .ref k2) (hA3 : ([60, 61] : List Int32) = cs → an = .ref k3) (hA4 : ([62] : List Int32) = cs → an = .ref k4) (hA5 : ([62, 61] : List Int32) = cs → an = .ref k5) (hAn : ¬ ([61, 61] : List Int32) = cs → ¬ ([33, 61] : List Int32) = cs → ¬ ([60] : List Int32) = cs → ¬ ([60, 61] : List Int32) = cs → ¬ ([62] : List Int32) = cs → ¬ ([62, 61] : List Int32) = cs → an = .null) :
    MetFree l (⟨"com/example/esfahan/esfahan/model/Comparison", "ofSymbol", "(Ljava/lang/String;)Ljava/util/Optional;"⟩ : MethodName) (head1 (Jvm.Cond.code (⟨"com/example/esfahan/esfahan/model/Comparison", "ofSymbol", "(Ljava/lang/String;)Ljava/util/Optional;"⟩ : MethodName) prog_47_method_4_code 5 (some (.object "java/util/Optional")) :: ws) ({ frames := 3, cells := 2, slots := 7, locals := 38 } : Room)) (fun av_ U => av_ = #[(.ref sx)] ∧ Z.Warmed39 U.vm ∧ U.heap = h0) (fun _ _ _ _ _ => True) (fun _ U o_ U' => ∃ v L, o_ = .returned v ∧ Q_ofs Z va kk k0 k1 k2 k3 k4 k5 aE y0 ty0 kb0 y1 ty1 kb1 y2 ty2 kb2 y3 ty3 kb3 y4 ty4 kb4 y5 ty5 kb5 zc sx tx kx cs Nx vx an h0 n0 v U'.heap L ∧ FrameEnd U o_ U' L ({ frames := 3, cells := 2, slots := 7, locals := 38 } : Room).cells ({ frames := 3, cells := 2, slots := 7, locals := 38 } : Room).slots) := by
  refine MetFree.of_bodySF (plainFor_of_name pn_4) hisR ?_
  intro p e s m args below meth c s₁ Bd hml0 hP hK
  obtain ⟨rfl, hZ, hh⟩ := hP
  have hx := Bd.exec
  have hby := Bd.bytes
  have hml : c.maxLocals = 5 := hml0
  have hown : s.vm.findClass "com/example/esfahan/esfahan/model/Comparison" = some m.cls := findClass_of_methodNamed Bd.named
  have hnm := (name_of_methodNamed Bd.named Bd.method).1
  have hlk := own_lk Bd
  have hret := Bd.returns
  have X0 : Stand p l e ({ frames := 3, cells := 2, slots := 7, locals := 38 } : Room) s m #[(.ref sx)] below meth c s₁ [] 0 0 := Stand.of_body Bd
  have e0 : s₁.heap = h0 := by rw [← hh, Bd.state]; rfl
  have N0 := Fr.nil n0
  show own_Goes p e below s (Q_ofs Z va kk k0 k1 k2 k3 k4 k5 aE y0 ty0 kb0 y1 ty1 kb1 y2 ty2 kb2 y3 ty3 kb3 y4 ty4 kb4 y5 ty5 kb5 zc sx tx kx cs Nx vx an h0 n0) ({ frames := 3, cells := 2, slots := 7, locals := 38 } : Room).cells ({ frames := 3, cells := 2, slots := 7, locals := 38 } : Room).slots (s₁.setTop (entryFrame m #[(.ref sx)] 5))
  refine own_go (fun _ ww => castTop (ef_ofs m va kk k0 k1 k2 k3 k4 k5 aE y0 ty0 kb0 y1 ty1 kb1 y2 ty2 kb2 y3 ty3 kb3 y4 ty4 kb4 y5 ty5 kb5 zc sx tx kx cs Nx vx an) ww) ?_
  show own_Goes _ _ _ _ _ _ _ (s₁.setTop (mkF m 0 #[.val (.ref sx), .unset, .unset, .unset, .unset] []))
  obtain ⟨_, _, ⟨T59, L59, k59, n59⟩, -, X59, ⟨Lc59, hQ59, l59, y59, z59⟩, st59⟩ := Jvm.LawKit.callS X0 hx (y := (⟨"com/example/esfahan/esfahan/model/Comparison", "values", "()[Lcom/example/esfahan/esfahan/model/Comparison;"⟩ : MethodName)) hown (mvT hZ (hw _ (List.mem_of_getElem? (i := 33) rfl))) (mvT hZ (hw _ (List.mem_of_getElem? (i := 34) rfl))) (mvT hZ (hw _ (List.mem_of_getElem? (i := 31) rfl))) (mvT hZ (hw _ (List.mem_of_getElem? (i := 35) rfl))) (by decide) (backOf (W := 0) (rm_values l Z a0 hw [] va kk k0 k1 k2 k3 k4 k5 h0 n0 O0 SV AV EV) hZ (hw _ (List.mem_of_getElem? (i := 35) rfl)) (hw _ (List.mem_of_getElem? (i := 31) rfl)) (by decide) (by decide)) (g := (mkF m 0 #[.val (.ref sx), .unset, .unset, .unset, .unset] [])) rfl (by rw [hml]; rfl) (argsL := []) (rest := []) (lenOf pd_3 rfl) rfl (by show 2 * 0 + _ ≤ _; exact Nat.le_of_eq rfl) (hb hby d6_0) (fun _ _ => ⟨rfl, e0, (by decide : 0 + 1 ≤ _), (by decide : 0 + 6 ≤ _)⟩)
  dsimp only [Pt.U, Pt.locs, Pt.cells, Pt.slots] at X59 l59 y59 z59 st59 hQ59
  subst l59 y59 z59
  obtain ⟨r59, rfl, N59q, B59, K59q, V59q⟩ := hQ59
  have N59 := Fr.app N0 N59q
  have ne_sx_r59 : sx ≠ r59 := Nat.ne_of_lt (Nat.lt_of_lt_of_le Es.lt B59)
  have ne_tx_r59 : tx ≠ r59 := Nat.ne_of_lt (Nat.lt_of_lt_of_le Ks.lt B59)
  have ne_k0_r59 : k0 ≠ r59 := Nat.ne_of_lt (Nat.lt_of_lt_of_le (F0.ext O0.2).lt B59)
  have ne_y0_r59 : y0 ≠ r59 := Nat.ne_of_lt (Nat.lt_of_lt_of_le (Ey0.ext O0.2).lt B59)
  have ne_k1_r59 : k1 ≠ r59 := Nat.ne_of_lt (Nat.lt_of_lt_of_le (F1.ext O0.2).lt B59)
  have ne_y1_r59 : y1 ≠ r59 := Nat.ne_of_lt (Nat.lt_of_lt_of_le (Ey1.ext O0.2).lt B59)
  have ne_k2_r59 : k2 ≠ r59 := Nat.ne_of_lt (Nat.lt_of_lt_of_le (F2.ext O0.2).lt B59)
  have ne_y2_r59 : y2 ≠ r59 := Nat.ne_of_lt (Nat.lt_of_lt_of_le (Ey2.ext O0.2).lt B59)
  have ne_k3_r59 : k3 ≠ r59 := Nat.ne_of_lt (Nat.lt_of_lt_of_le (F3.ext O0.2).lt B59)
  have ne_y3_r59 : y3 ≠ r59 := Nat.ne_of_lt (Nat.lt_of_lt_of_le (Ey3.ext O0.2).lt B59)
  have ne_k4_r59 : k4 ≠ r59 := Nat.ne_of_lt (Nat.lt_of_lt_of_le (F4.ext O0.2).lt B59)
  have ne_y4_r59 : y4 ≠ r59 := Nat.ne_of_lt (Nat.lt_of_lt_of_le (Ey4.ext O0.2).lt B59)
  have ne_k5_r59 : k5 ≠ r59 := Nat.ne_of_lt (Nat.lt_of_lt_of_le (F5.ext O0.2).lt B59)
  have ne_y5_r59 : y5 ≠ r59 := Nat.ne_of_lt (Nat.lt_of_lt_of_le (Ey5.ext O0.2).lt B59)
  have g_r59 : n0 ≤ r59 := Nat.le_trans (O0.1 ▸ O0.2.1) B59
  have sz_r59 : h0.size ≤ r59 := Nat.le_trans (own_ks (Keep.refl h0 [])) B59
  have f60 : Exa Z T59.heap sx "java/lang/String" := (Es.keep K59q)
  have f61 : Fld Z T59.heap sx "java/lang/String" "value" "[B" (.ref tx) := (Vs.keep K59q nin0)
  have f62 : Fld Z T59.heap sx "java/lang/String" "coder" "B" (.int (0 : Int32)) := (Cs.keep K59q nin0)
  have f63 : Arv Z T59.heap tx kx .byte Nx vx (.int (0 : Int32)) := (Ks.keep K59q nin0)
  have O59 := O0.keep K59q all0
  have K59 := (Keep.refl h0 []).trans K59q all0
  refine own_go st59 ?_
  show own_Goes _ _ _ _ _ _ _ (T59.setTop (mkF m 3 #[.val (.ref sx), .unset, .unset, .unset, .unset] [(.ref r59)]))
  refine own_go (fun _ ww => XS.astoreN X59.here hx rfl (hb hby d6_3) rfl rfl (l' := #[.val (.ref sx), .val (.ref r59), .unset, .unset, .unset]) rfl ww) ?_
  show own_Goes _ _ _ _ _ _ _ (T59.setTop (mkF m 4 #[.val (.ref sx), .val (.ref r59), .unset, .unset, .unset] []))
  refine own_go (fun _ ww => XS.aloadN X59.here hx rfl (hb hby d6_4) rfl rfl ww) ?_
  show own_Goes _ _ _ _ _ _ _ (T59.setTop (mkF m 5 #[.val (.ref sx), .val (.ref r59), .unset, .unset, .unset] [(.ref r59)]))
  obtain ⟨cl64, Ar64, -, S64, Ng64, -, -⟩ := id V59q
  refine own_go (fun _ ww => X59.arraylength hx Ar64.1 (State.isArrayOf_alike hZ.alike Ar64.2.1) (g := (mkF m 5 #[.val (.ref sx), .val (.ref r59), .unset, .unset, .unset] [(.ref r59)])) rfl rfl (hb hby d6_5) _ ww) ?_
  rw [len_of S64 Ng64]
  show own_Goes _ _ _ _ _ _ _ (T59.setTop (mkF m 6 #[.val (.ref sx), .val (.ref r59), .unset, .unset, .unset] [(.int (6 : Int32))]))
  refine own_go (fun _ ww => XS.istoreN X59.here hx rfl (hb hby d6_6) rfl (l' := #[.val (.ref sx), .val (.ref r59), .val (.int (6 : Int32)), .unset, .unset]) rfl ww) ?_
  show own_Goes _ _ _ _ _ _ _ (T59.setTop (mkF m 7 #[.val (.ref sx), .val (.ref r59), .val (.int (6 : Int32)), .unset, .unset] []))
  refine own_go (fun _ ww => XS.iconst X59.here hx rfl (hb hby d6_7) ww) ?_
  show own_Goes _ _ _ _ _ _ _ (T59.setTop (mkF m 8 #[.val (.ref sx), .val (.ref r59), .val (.int (6 : Int32)), .unset, .unset] [(.int (0 : Int32))]))
  refine own_go (fun _ ww => XS.istoreN X59.here hx rfl (hb hby d6_8) rfl (l' := #[.val (.ref sx), .val (.ref r59), .val (.int (6 : Int32)), .val (.int (0 : Int32)), .unset]) rfl ww) ?_
  show own_Goes _ _ _ _ _ _ _ (T59.setTop (mkF m 9 #[.val (.ref sx), .val (.ref r59), .val (.int (6 : Int32)), .val (.int (0 : Int32)), .unset] []))
  refine own_go (fun _ ww => XS.iloadN X59.here hx rfl (hb hby d6_9) rfl  ww) ?_
  show own_Goes _ _ _ _ _ _ _ (T59.setTop (mkF m 10 #[.val (.ref sx), .val (.ref r59), .val (.int (6 : Int32)), .val (.int (0 : Int32)), .unset] [(.int (0 : Int32))]))
  refine own_go (fun _ ww => XS.iloadN X59.here hx rfl (hb hby d6_10) rfl  ww) ?_
  show own_Goes _ _ _ _ _ _ _ (T59.setTop (mkF m 11 #[.val (.ref sx), .val (.ref r59), .val (.int (6 : Int32)), .val (.int (0 : Int32)), .unset] [(.int (6 : Int32)), (.int (0 : Int32))]))
  refine own_go (fun _ ww => XS.icmpNo X59.here hx rfl (hb hby d6_11) rfl (tlt (by decide : (0 : Int32) < (6 : Int32))).2.1 ww) ?_
  show own_Goes _ _ _ _ _ _ _ (T59.setTop (mkF m 14 #[.val (.ref sx), .val (.ref r59), .val (.int (6 : Int32)), .val (.int (0 : Int32)), .unset] []))
  refine own_go (fun _ ww => XS.aloadN X59.here hx rfl (hb hby d6_14) rfl rfl ww) ?_
  show own_Goes _ _ _ _ _ _ _ (T59.setTop (mkF m 15 #[.val (.ref sx), .val (.ref r59), .val (.int (6 : Int32)), .val (.int (0 : Int32)), .unset] [(.ref r59)]))
  refine own_go (fun _ ww => XS.iloadN X59.here hx rfl (hb hby d6_15) rfl  ww) ?_
  show own_Goes _ _ _ _ _ _ _ (T59.setTop (mkF m 16 #[.val (.ref sx), .val (.ref r59), .val (.int (6 : Int32)), .val (.int (0 : Int32)), .unset] [(.int (0 : Int32)), (.ref r59)]))
  obtain ⟨cl65, Ar65, -, S65, -, H65, -⟩ := id V59q
  have hin65 := inb_of (j := (0 : Int32)) S65 ⟨by decide, by decide⟩
  have hat65 : cl65.slots[((0 : Int32)).toNatClampNeg]? = some (.ref k0) := Has.at H65 hin65 rfl
  refine own_go (fun _ ww => X59.aaload hx (j := (0 : Int32)) (v := (.ref k0)) Ar65.1 (State.isArrayOf_alike hZ.alike Ar65.2.1) rfl Ar65.2.2 hin65 hat65 (g := (mkF m 16 #[.val (.ref sx), .val (.ref r59), .val (.int (6 : Int32)), .val (.int (0 : Int32)), .unset] [(.int (0 : Int32)), (.ref r59)])) rfl rfl (hb hby d6_16) _ ww) ?_
  show own_Goes _ _ _ _ _ _ _ (T59.setTop (mkF m 17 #[.val (.ref sx), .val (.ref r59), .val (.int (6 : Int32)), .val (.int (0 : Int32)), .unset] [(.ref k0)]))
  refine own_go (fun _ ww => XS.astore X59.here hx rfl (hb hby d6_17) rfl rfl (l' := #[.val (.ref sx), .val (.ref r59), .val (.int (6 : Int32)), .val (.int (0 : Int32)), .val (.ref k0)]) rfl ww) ?_
  show own_Goes _ _ _ _ _ _ _ (T59.setTop (mkF m 19 #[.val (.ref sx), .val (.ref r59), .val (.int (6 : Int32)), .val (.int (0 : Int32)), .val (.ref k0)] []))
  refine own_go (fun _ ww => XS.aload X59.here hx rfl (hb hby d6_19) rfl rfl ww) ?_
  show own_Goes _ _ _ _ _ _ _ (T59.setTop (mkF m 21 #[.val (.ref sx), .val (.ref r59), .val (.int (6 : Int32)), .val (.int (0 : Int32)), .val (.ref k0)] [(.ref k0)]))
  obtain ⟨T66, X66, e66, st66⟩ := getF X59 hx hZ hown (host := "") (Or.inl (hw _ (List.mem_of_getElem? (i := 54) rfl))) Via.refl rfl (F0.ext O59.2) (g := (mkF m 21 #[.val (.ref sx), .val (.ref r59), .val (.int (6 : Int32)), .val (.int (0 : Int32)), .val (.ref k0)] [(.ref k0)])) rfl rfl (hb hby d6_21)
  refine own_go st66 ?_
  show own_Goes _ _ _ _ _ _ _ (T66.setTop (mkF m 24 #[.val (.ref sx), .val (.ref r59), .val (.int (6 : Int32)), .val (.int (0 : Int32)), .val (.ref k0)] [(.ref y0)]))
  refine own_go (fun _ ww => XS.aloadN X66.here hx rfl (hb hby d6_24) rfl rfl ww) ?_
  show own_Goes _ _ _ _ _ _ _ (T66.setTop (mkF m 25 #[.val (.ref sx), .val (.ref r59), .val (.int (6 : Int32)), .val (.int (0 : Int32)), .val (.ref k0)] [(.ref sx), (.ref y0)]))
  obtain ⟨cq67, kq67, q67a, q67b, q67c⟩ := isOf hZ e66 (Ey0.ext O59.2)
  obtain ⟨_, _, ⟨T67, L67, k67, n67⟩, -, X67, ⟨Lc67, hQ67, l67, y67, z67⟩, st67⟩ := X66.virtualBack hx (y := (⟨"java/lang/String", "equals", "(Ljava/lang/Object;)Z"⟩ : MethodName)) (z := (⟨"java/lang/String", "equals", "(Ljava/lang/Object;)Z"⟩ : MethodName)) hown (mvT hZ (hw _ (List.mem_of_getElem? (i := 56) rfl))) (mvT hZ (hw _ (List.mem_of_getElem? (i := 57) rfl))) (notFace_of_selects (args := #[]) (mvT hZ (hw _ (List.mem_of_getElem? (i := 59) rfl)))) (mvT hZ (hw _ (List.mem_of_getElem? (i := 59) rfl))) (mvT hZ (hw _ (List.mem_of_getElem? (i := 58) rfl))) (by decide) (StrChars.Road.eqW (W := 0) hZ (own_wordsEq hw) (kI := 4) (hw _ (List.mem_of_getElem? (i := 5) rfl)) (Ey0.ext O59.2) (Vy0.ext O59.2) (Cy0.ext O59.2) (Ky0.ext O59.2) own_cod0 (by decide) (by decide) f60 f61 f62 f63 hcs hbs hls (SC.ext O59.2) hzc (by decide) (by decide)) q67a q67c (g := (mkF m 25 #[.val (.ref sx), .val (.ref r59), .val (.int (6 : Int32)), .val (.int (0 : Int32)), .val (.ref k0)] [(.ref sx), (.ref y0)])) rfl (by rw [hml]; rfl) (Steps.refl _) (argsL := [(.ref sx)]) (rest := []) (lenOf pd_4 rfl) rfl (by show 2 * 0 + _ ≤ _; exact Nat.le_of_eq rfl) (hb hby d6_25) (fun _ _ => ⟨rfl, e66, (by decide : 1 + 0 ≤ _), (by decide : 6 + 0 ≤ _)⟩)
  dsimp only [Pt.U, Pt.locs, Pt.cells, Pt.slots] at X67 l67 y67 z67 st67 hQ67
  subst l67 y67 z67
  obtain ⟨hd67, rfl, e67⟩ := hQ67
  have N67 := Fr.app N59 (Fr.nil n0)
  rcases hd67 with ⟨rfl, hc67⟩ | ⟨rfl, hc67⟩
  ·
    refine own_go (fun _ ww => Steps.trans st67 ww) ?_
    show own_Goes _ _ _ _ _ _ _ (T67.setTop (mkF m 28 #[.val (.ref sx), .val (.ref r59), .val (.int (6 : Int32)), .val (.int (0 : Int32)), .val (.ref k0)] [(.int (1 : Int32))]))
    refine own_go (fun _ ww => XS.ifNo X67.here hx rfl (hb hby d6_28) rfl (own_if .eq (feq (by decide : ¬ ((1 : Int32) = (0 : Int32)))).1) ww) ?_
    show own_Goes _ _ _ _ _ _ _ (T67.setTop (mkF m 31 #[.val (.ref sx), .val (.ref r59), .val (.int (6 : Int32)), .val (.int (0 : Int32)), .val (.ref k0)] []))
    refine own_go (fun _ ww => XS.aload X67.here hx rfl (hb hby d6_31) rfl rfl ww) ?_
    show own_Goes _ _ _ _ _ _ _ (T67.setTop (mkF m 33 #[.val (.ref sx), .val (.ref r59), .val (.int (6 : Int32)), .val (.int (0 : Int32)), .val (.ref k0)] [(.ref k0)]))
    obtain ⟨_, _, ⟨T68, L68, k68, n68⟩, -, X68, ⟨Lc68, hQ68, l68, y68, z68⟩, st68⟩ := Jvm.LawKit.callS X67 hx (y := (⟨"java/util/Optional", "of", "(Ljava/lang/Object;)Ljava/util/Optional;"⟩ : MethodName)) hown (mvT hZ (hw _ (List.mem_of_getElem? (i := 90) rfl))) (mvT hZ (hw _ (List.mem_of_getElem? (i := 91) rfl))) (mvT hZ (hw _ (List.mem_of_getElem? (i := 69) rfl))) (mvT hZ (hw _ (List.mem_of_getElem? (i := 92) rfl))) (by decide) (backOf (W := 0) (rm_oof l Z a0 hw [] k0 T59.heap n0 O59 ) hZ (hw _ (List.mem_of_getElem? (i := 92) rfl)) (hw _ (List.mem_of_getElem? (i := 69) rfl)) (by decide) (by decide)) (g := (mkF m 33 #[.val (.ref sx), .val (.ref r59), .val (.int (6 : Int32)), .val (.int (0 : Int32)), .val (.ref k0)] [(.ref k0)])) rfl (by rw [hml]; rfl) (argsL := [(.ref k0)]) (rest := []) (lenOf pd_5 rfl) rfl (by show 2 * 0 + _ ≤ _; exact Nat.le_of_eq rfl) (hb hby d6_33) (fun _ _ => ⟨rfl, e67, (by decide : 1 + 1 ≤ _), (by decide : 6 + 1 ≤ _)⟩)
    dsimp only [Pt.U, Pt.locs, Pt.cells, Pt.slots] at X68 l68 y68 z68 st68 hQ68
    subst l68 y68 z68
    obtain ⟨r68, rfl, N68q, B68, K68q, E68q, P68⟩ := hQ68
    have N68 := Fr.app N67 N68q
    have ne_sx_r68 : sx ≠ r68 := Nat.ne_of_lt (Nat.lt_of_lt_of_le f60.lt B68)
    have ne_tx_r68 : tx ≠ r68 := Nat.ne_of_lt (Nat.lt_of_lt_of_le f63.lt B68)
    have ne_r59_r68 : r59 ≠ r68 := Nat.ne_of_lt (Nat.lt_of_lt_of_le V59q.lt B68)
    have ne_k0_r68 : k0 ≠ r68 := Nat.ne_of_lt (Nat.lt_of_lt_of_le (F0.ext O59.2).lt B68)
    have ne_y0_r68 : y0 ≠ r68 := Nat.ne_of_lt (Nat.lt_of_lt_of_le (Ey0.ext O59.2).lt B68)
    have ne_k1_r68 : k1 ≠ r68 := Nat.ne_of_lt (Nat.lt_of_lt_of_le (F1.ext O59.2).lt B68)
    have ne_y1_r68 : y1 ≠ r68 := Nat.ne_of_lt (Nat.lt_of_lt_of_le (Ey1.ext O59.2).lt B68)
    have ne_k2_r68 : k2 ≠ r68 := Nat.ne_of_lt (Nat.lt_of_lt_of_le (F2.ext O59.2).lt B68)
    have ne_y2_r68 : y2 ≠ r68 := Nat.ne_of_lt (Nat.lt_of_lt_of_le (Ey2.ext O59.2).lt B68)
    have ne_k3_r68 : k3 ≠ r68 := Nat.ne_of_lt (Nat.lt_of_lt_of_le (F3.ext O59.2).lt B68)
    have ne_y3_r68 : y3 ≠ r68 := Nat.ne_of_lt (Nat.lt_of_lt_of_le (Ey3.ext O59.2).lt B68)
    have ne_k4_r68 : k4 ≠ r68 := Nat.ne_of_lt (Nat.lt_of_lt_of_le (F4.ext O59.2).lt B68)
    have ne_y4_r68 : y4 ≠ r68 := Nat.ne_of_lt (Nat.lt_of_lt_of_le (Ey4.ext O59.2).lt B68)
    have ne_k5_r68 : k5 ≠ r68 := Nat.ne_of_lt (Nat.lt_of_lt_of_le (F5.ext O59.2).lt B68)
    have ne_y5_r68 : y5 ≠ r68 := Nat.ne_of_lt (Nat.lt_of_lt_of_le (Ey5.ext O59.2).lt B68)
    have g_r68 : n0 ≤ r68 := Nat.le_trans (O59.1 ▸ O59.2.1) B68
    have sz_r68 : h0.size ≤ r68 := Nat.le_trans (own_ks K59) B68
    have f69 : Exa Z T68.heap sx "java/lang/String" := (f60.keep K68q)
    have f70 : Fld Z T68.heap sx "java/lang/String" "value" "[B" (.ref tx) := (f61.keep K68q nin0)
    have f71 : Fld Z T68.heap sx "java/lang/String" "coder" "B" (.int (0 : Int32)) := (f62.keep K68q nin0)
    have f72 : Arv Z T68.heap tx kx .byte Nx vx (.int (0 : Int32)) := (f63.keep K68q nin0)
    have f73 : Arv Z T68.heap r59 kk (.object "com/example/esfahan/esfahan/model/Comparison") (6 : Int32) [(.ref k0), (.ref k1), (.ref k2), (.ref k3), (.ref k4), (.ref k5)] .null := (V59q.keep K68q nin0)
    have O68 := O59.keep K68q all0
    have K68 := K59.trans K68q all0
    refine own_go st68 ?_
    show own_Goes _ _ _ _ _ _ _ (T68.setTop (mkF m 36 #[.val (.ref sx), .val (.ref r59), .val (.int (6 : Int32)), .val (.int (0 : Int32)), .val (.ref k0)] [(.ref r68)]))
    exact own_out X68 hlk (v := some (.ref r68)) (fun h => by rw [hret] at h; cases h) (fun fs hr => retOut X68 hx (t := (.object "java/util/Optional")) hret rfl (Or.inr (Or.inr (Or.inr (Or.inr ⟨rfl, rfl, rfl⟩)))) (hb hby d6_36) hr) rfl ⟨_, rfl, N68, K68, E68q, (by rw [hA0 hc67]; exact P68)⟩ (by decide) (by decide)
  ·
    refine own_go (fun _ ww => Steps.trans st67 ww) ?_
    show own_Goes _ _ _ _ _ _ _ (T67.setTop (mkF m 28 #[.val (.ref sx), .val (.ref r59), .val (.int (6 : Int32)), .val (.int (0 : Int32)), .val (.ref k0)] [(.int (0 : Int32))]))
    refine own_go (fun _ ww => XS.ifYes X67.here hx rfl (pc0 := 28) (pc' := 37) rfl (hb hby d6_28) rfl (own_if .eq (teq (by decide : (0 : Int32) = (0 : Int32))).1) (by decide) (by decide) ww) ?_
    show own_Goes _ _ _ _ _ _ _ (T67.setTop (mkF m 37 #[.val (.ref sx), .val (.ref r59), .val (.int (6 : Int32)), .val (.int (0 : Int32)), .val (.ref k0)] []))
    refine own_go (fun _ ww => XS.iinc X67.here hx rfl (hb hby d6_37) rfl (l' := #[.val (.ref sx), .val (.ref r59), .val (.int (6 : Int32)), .val (.int (1 : Int32)), .val (.ref k0)]) rfl ww) ?_
    show own_Goes _ _ _ _ _ _ _ (T67.setTop (mkF m 40 #[.val (.ref sx), .val (.ref r59), .val (.int (6 : Int32)), .val (.int (1 : Int32)), .val (.ref k0)] []))
    refine own_go (fun _ ww => XS.goto X67.here hx rfl (pc0 := 40) (pc' := 9) rfl (hb hby d6_40) (by decide) (by decide) ww) ?_
    show own_Goes _ _ _ _ _ _ _ (T67.setTop (mkF m 9 #[.val (.ref sx), .val (.ref r59), .val (.int (6 : Int32)), .val (.int (1 : Int32)), .val (.ref k0)] []))
    refine own_go (fun _ ww => XS.iloadN X67.here hx rfl (hb hby d6_9) rfl  ww) ?_
    show own_Goes _ _ _ _ _ _ _ (T67.setTop (mkF m 10 #[.val (.ref sx), .val (.ref r59), .val (.int (6 : Int32)), .val (.int (1 : Int32)), .val (.ref k0)] [(.int (1 : Int32))]))
    refine own_go (fun _ ww => XS.iloadN X67.here hx rfl (hb hby d6_10) rfl  ww) ?_
    show own_Goes _ _ _ _ _ _ _ (T67.setTop (mkF m 11 #[.val (.ref sx), .val (.ref r59), .val (.int (6 : Int32)), .val (.int (1 : Int32)), .val (.ref k0)] [(.int (6 : Int32)), (.int (1 : Int32))]))
    refine own_go (fun _ ww => XS.icmpNo X67.here hx rfl (hb hby d6_11) rfl (tlt (by decide : (1 : Int32) < (6 : Int32))).2.1 ww) ?_
    show own_Goes _ _ _ _ _ _ _ (T67.setTop (mkF m 14 #[.val (.ref sx), .val (.ref r59), .val (.int (6 : Int32)), .val (.int (1 : Int32)), .val (.ref k0)] []))
    refine own_go (fun _ ww => XS.aloadN X67.here hx rfl (hb hby d6_14) rfl rfl ww) ?_
    show own_Goes _ _ _ _ _ _ _ (T67.setTop (mkF m 15 #[.val (.ref sx), .val (.ref r59), .val (.int (6 : Int32)), .val (.int (1 : Int32)), .val (.ref k0)] [(.ref r59)]))
    refine own_go (fun _ ww => XS.iloadN X67.here hx rfl (hb hby d6_15) rfl  ww) ?_
    show own_Goes _ _ _ _ _ _ _ (T67.setTop (mkF m 16 #[.val (.ref sx), .val (.ref r59), .val (.int (6 : Int32)), .val (.int (1 : Int32)), .val (.ref k0)] [(.int (1 : Int32)), (.ref r59)]))
    obtain ⟨cl74, Ar74, -, S74, -, H74, -⟩ := id V59q
    have hin74 := inb_of (j := (1 : Int32)) S74 ⟨by decide, by decide⟩
    have hat74 : cl74.slots[((1 : Int32)).toNatClampNeg]? = some (.ref k1) := Has.at H74 hin74 rfl
    refine own_go (fun _ ww => X67.aaload hx (j := (1 : Int32)) (v := (.ref k1)) (by rw [e67]; exact Ar74.1) (State.isArrayOf_alike hZ.alike Ar74.2.1) rfl Ar74.2.2 hin74 hat74 (g := (mkF m 16 #[.val (.ref sx), .val (.ref r59), .val (.int (6 : Int32)), .val (.int (1 : Int32)), .val (.ref k0)] [(.int (1 : Int32)), (.ref r59)])) rfl rfl (hb hby d6_16) _ ww) ?_
    show own_Goes _ _ _ _ _ _ _ (T67.setTop (mkF m 17 #[.val (.ref sx), .val (.ref r59), .val (.int (6 : Int32)), .val (.int (1 : Int32)), .val (.ref k0)] [(.ref k1)]))
    refine own_go (fun _ ww => XS.astore X67.here hx rfl (hb hby d6_17) rfl rfl (l' := #[.val (.ref sx), .val (.ref r59), .val (.int (6 : Int32)), .val (.int (1 : Int32)), .val (.ref k1)]) rfl ww) ?_
    show own_Goes _ _ _ _ _ _ _ (T67.setTop (mkF m 19 #[.val (.ref sx), .val (.ref r59), .val (.int (6 : Int32)), .val (.int (1 : Int32)), .val (.ref k1)] []))
    refine own_go (fun _ ww => XS.aload X67.here hx rfl (hb hby d6_19) rfl rfl ww) ?_
    show own_Goes _ _ _ _ _ _ _ (T67.setTop (mkF m 21 #[.val (.ref sx), .val (.ref r59), .val (.int (6 : Int32)), .val (.int (1 : Int32)), .val (.ref k1)] [(.ref k1)]))
    obtain ⟨T75, X75, e75, st75⟩ := getF X67 hx hZ hown (host := "") (Or.inl (hw _ (List.mem_of_getElem? (i := 54) rfl))) Via.refl e67 (F1.ext O59.2) (g := (mkF m 21 #[.val (.ref sx), .val (.ref r59), .val (.int (6 : Int32)), .val (.int (1 : Int32)), .val (.ref k1)] [(.ref k1)])) rfl rfl (hb hby d6_21)
    refine own_go st75 ?_
    show own_Goes _ _ _ _ _ _ _ (T75.setTop (mkF m 24 #[.val (.ref sx), .val (.ref r59), .val (.int (6 : Int32)), .val (.int (1 : Int32)), .val (.ref k1)] [(.ref y1)]))
    refine own_go (fun _ ww => XS.aloadN X75.here hx rfl (hb hby d6_24) rfl rfl ww) ?_
    show own_Goes _ _ _ _ _ _ _ (T75.setTop (mkF m 25 #[.val (.ref sx), .val (.ref r59), .val (.int (6 : Int32)), .val (.int (1 : Int32)), .val (.ref k1)] [(.ref sx), (.ref y1)]))
    obtain ⟨cq76, kq76, q76a, q76b, q76c⟩ := isOf hZ e75 (Ey1.ext O59.2)
    obtain ⟨_, _, ⟨T76, L76, k76, n76⟩, -, X76, ⟨Lc76, hQ76, l76, y76, z76⟩, st76⟩ := X75.virtualBack hx (y := (⟨"java/lang/String", "equals", "(Ljava/lang/Object;)Z"⟩ : MethodName)) (z := (⟨"java/lang/String", "equals", "(Ljava/lang/Object;)Z"⟩ : MethodName)) hown (mvT hZ (hw _ (List.mem_of_getElem? (i := 56) rfl))) (mvT hZ (hw _ (List.mem_of_getElem? (i := 57) rfl))) (notFace_of_selects (args := #[]) (mvT hZ (hw _ (List.mem_of_getElem? (i := 59) rfl)))) (mvT hZ (hw _ (List.mem_of_getElem? (i := 59) rfl))) (mvT hZ (hw _ (List.mem_of_getElem? (i := 58) rfl))) (by decide) (StrChars.Road.eqW (W := 0) hZ (own_wordsEq hw) (kI := 4) (hw _ (List.mem_of_getElem? (i := 5) rfl)) (Ey1.ext O59.2) (Vy1.ext O59.2) (Cy1.ext O59.2) (Ky1.ext O59.2) own_cod1 (by decide) (by decide) f60 f61 f62 f63 hcs hbs hls (SC.ext O59.2) hzc (by decide) (by decide)) q76a q76c (g := (mkF m 25 #[.val (.ref sx), .val (.ref r59), .val (.int (6 : Int32)), .val (.int (1 : Int32)), .val (.ref k1)] [(.ref sx), (.ref y1)])) rfl (by rw [hml]; rfl) (Steps.refl _) (argsL := [(.ref sx)]) (rest := []) (lenOf pd_4 rfl) rfl (by show 2 * 0 + _ ≤ _; exact Nat.le_of_eq rfl) (hb hby d6_25) (fun _ _ => ⟨rfl, e75, (by decide : 1 + 0 ≤ _), (by decide : 6 + 0 ≤ _)⟩)
    dsimp only [Pt.U, Pt.locs, Pt.cells, Pt.slots] at X76 l76 y76 z76 st76 hQ76
    subst l76 y76 z76
    obtain ⟨hd76, rfl, e76⟩ := hQ76
    have N76 := Fr.app N67 (Fr.nil n0)
    rcases hd76 with ⟨rfl, hc76⟩ | ⟨rfl, hc76⟩
    ·
      refine own_go (fun _ ww => Steps.trans st76 ww) ?_
      show own_Goes _ _ _ _ _ _ _ (T76.setTop (mkF m 28 #[.val (.ref sx), .val (.ref r59), .val (.int (6 : Int32)), .val (.int (1 : Int32)), .val (.ref k1)] [(.int (1 : Int32))]))
      refine own_go (fun _ ww => XS.ifNo X76.here hx rfl (hb hby d6_28) rfl (own_if .eq (feq (by decide : ¬ ((1 : Int32) = (0 : Int32)))).1) ww) ?_
      show own_Goes _ _ _ _ _ _ _ (T76.setTop (mkF m 31 #[.val (.ref sx), .val (.ref r59), .val (.int (6 : Int32)), .val (.int (1 : Int32)), .val (.ref k1)] []))
      refine own_go (fun _ ww => XS.aload X76.here hx rfl (hb hby d6_31) rfl rfl ww) ?_
      show own_Goes _ _ _ _ _ _ _ (T76.setTop (mkF m 33 #[.val (.ref sx), .val (.ref r59), .val (.int (6 : Int32)), .val (.int (1 : Int32)), .val (.ref k1)] [(.ref k1)]))
      obtain ⟨_, _, ⟨T77, L77, k77, n77⟩, -, X77, ⟨Lc77, hQ77, l77, y77, z77⟩, st77⟩ := Jvm.LawKit.callS X76 hx (y := (⟨"java/util/Optional", "of", "(Ljava/lang/Object;)Ljava/util/Optional;"⟩ : MethodName)) hown (mvT hZ (hw _ (List.mem_of_getElem? (i := 90) rfl))) (mvT hZ (hw _ (List.mem_of_getElem? (i := 91) rfl))) (mvT hZ (hw _ (List.mem_of_getElem? (i := 69) rfl))) (mvT hZ (hw _ (List.mem_of_getElem? (i := 92) rfl))) (by decide) (backOf (W := 0) (rm_oof l Z a0 hw [] k1 T59.heap n0 O59 ) hZ (hw _ (List.mem_of_getElem? (i := 92) rfl)) (hw _ (List.mem_of_getElem? (i := 69) rfl)) (by decide) (by decide)) (g := (mkF m 33 #[.val (.ref sx), .val (.ref r59), .val (.int (6 : Int32)), .val (.int (1 : Int32)), .val (.ref k1)] [(.ref k1)])) rfl (by rw [hml]; rfl) (argsL := [(.ref k1)]) (rest := []) (lenOf pd_5 rfl) rfl (by show 2 * 0 + _ ≤ _; exact Nat.le_of_eq rfl) (hb hby d6_33) (fun _ _ => ⟨rfl, e76, (by decide : 1 + 1 ≤ _), (by decide : 6 + 1 ≤ _)⟩)
      dsimp only [Pt.U, Pt.locs, Pt.cells, Pt.slots] at X77 l77 y77 z77 st77 hQ77
      subst l77 y77 z77
      obtain ⟨r77, rfl, N77q, B77, K77q, E77q, P77⟩ := hQ77
      have N77 := Fr.app N76 N77q
      have ne_sx_r77 : sx ≠ r77 := Nat.ne_of_lt (Nat.lt_of_lt_of_le f60.lt B77)
      have ne_tx_r77 : tx ≠ r77 := Nat.ne_of_lt (Nat.lt_of_lt_of_le f63.lt B77)
      have ne_r59_r77 : r59 ≠ r77 := Nat.ne_of_lt (Nat.lt_of_lt_of_le V59q.lt B77)
      have ne_k0_r77 : k0 ≠ r77 := Nat.ne_of_lt (Nat.lt_of_lt_of_le (F0.ext O59.2).lt B77)
      have ne_y0_r77 : y0 ≠ r77 := Nat.ne_of_lt (Nat.lt_of_lt_of_le (Ey0.ext O59.2).lt B77)
      have ne_k1_r77 : k1 ≠ r77 := Nat.ne_of_lt (Nat.lt_of_lt_of_le (F1.ext O59.2).lt B77)
      have ne_y1_r77 : y1 ≠ r77 := Nat.ne_of_lt (Nat.lt_of_lt_of_le (Ey1.ext O59.2).lt B77)
      have ne_k2_r77 : k2 ≠ r77 := Nat.ne_of_lt (Nat.lt_of_lt_of_le (F2.ext O59.2).lt B77)
      have ne_y2_r77 : y2 ≠ r77 := Nat.ne_of_lt (Nat.lt_of_lt_of_le (Ey2.ext O59.2).lt B77)
      have ne_k3_r77 : k3 ≠ r77 := Nat.ne_of_lt (Nat.lt_of_lt_of_le (F3.ext O59.2).lt B77)
      have ne_y3_r77 : y3 ≠ r77 := Nat.ne_of_lt (Nat.lt_of_lt_of_le (Ey3.ext O59.2).lt B77)
      have ne_k4_r77 : k4 ≠ r77 := Nat.ne_of_lt (Nat.lt_of_lt_of_le (F4.ext O59.2).lt B77)
      have ne_y4_r77 : y4 ≠ r77 := Nat.ne_of_lt (Nat.lt_of_lt_of_le (Ey4.ext O59.2).lt B77)
      have ne_k5_r77 : k5 ≠ r77 := Nat.ne_of_lt (Nat.lt_of_lt_of_le (F5.ext O59.2).lt B77)
      have ne_y5_r77 : y5 ≠ r77 := Nat.ne_of_lt (Nat.lt_of_lt_of_le (Ey5.ext O59.2).lt B77)
      have g_r77 : n0 ≤ r77 := Nat.le_trans (O59.1 ▸ O59.2.1) B77
      have sz_r77 : h0.size ≤ r77 := Nat.le_trans (own_ks K59) B77
      have f78 : Exa Z T77.heap sx "java/lang/String" := (f60.keep K77q)
      have f79 : Fld Z T77.heap sx "java/lang/String" "value" "[B" (.ref tx) := (f61.keep K77q nin0)
      have f80 : Fld Z T77.heap sx "java/lang/String" "coder" "B" (.int (0 : Int32)) := (f62.keep K77q nin0)
      have f81 : Arv Z T77.heap tx kx .byte Nx vx (.int (0 : Int32)) := (f63.keep K77q nin0)
      have f82 : Arv Z T77.heap r59 kk (.object "com/example/esfahan/esfahan/model/Comparison") (6 : Int32) [(.ref k0), (.ref k1), (.ref k2), (.ref k3), (.ref k4), (.ref k5)] .null := (V59q.keep K77q nin0)
      have O77 := O59.keep K77q all0
      have K77 := K59.trans K77q all0
      refine own_go st77 ?_
      show own_Goes _ _ _ _ _ _ _ (T77.setTop (mkF m 36 #[.val (.ref sx), .val (.ref r59), .val (.int (6 : Int32)), .val (.int (1 : Int32)), .val (.ref k1)] [(.ref r77)]))
      exact own_out X77 hlk (v := some (.ref r77)) (fun h => by rw [hret] at h; cases h) (fun fs hr => retOut X77 hx (t := (.object "java/util/Optional")) hret rfl (Or.inr (Or.inr (Or.inr (Or.inr ⟨rfl, rfl, rfl⟩)))) (hb hby d6_36) hr) rfl ⟨_, rfl, N77, K77, E77q, (by rw [hA1 hc76]; exact P77)⟩ (by decide) (by decide)
    ·
      refine own_go (fun _ ww => Steps.trans st76 ww) ?_
      show own_Goes _ _ _ _ _ _ _ (T76.setTop (mkF m 28 #[.val (.ref sx), .val (.ref r59), .val (.int (6 : Int32)), .val (.int (1 : Int32)), .val (.ref k1)] [(.int (0 : Int32))]))
      refine own_go (fun _ ww => XS.ifYes X76.here hx rfl (pc0 := 28) (pc' := 37) rfl (hb hby d6_28) rfl (own_if .eq (teq (by decide : (0 : Int32) = (0 : Int32))).1) (by decide) (by decide) ww) ?_
      show own_Goes _ _ _ _ _ _ _ (T76.setTop (mkF m 37 #[.val (.ref sx), .val (.ref r59), .val (.int (6 : Int32)), .val (.int (1 : Int32)), .val (.ref k1)] []))
      refine own_go (fun _ ww => XS.iinc X76.here hx rfl (hb hby d6_37) rfl (l' := #[.val (.ref sx), .val (.ref r59), .val (.int (6 : Int32)), .val (.int (2 : Int32)), .val (.ref k1)]) rfl ww) ?_
      show own_Goes _ _ _ _ _ _ _ (T76.setTop (mkF m 40 #[.val (.ref sx), .val (.ref r59), .val (.int (6 : Int32)), .val (.int (2 : Int32)), .val (.ref k1)] []))
      refine own_go (fun _ ww => XS.goto X76.here hx rfl (pc0 := 40) (pc' := 9) rfl (hb hby d6_40) (by decide) (by decide) ww) ?_
      show own_Goes _ _ _ _ _ _ _ (T76.setTop (mkF m 9 #[.val (.ref sx), .val (.ref r59), .val (.int (6 : Int32)), .val (.int (2 : Int32)), .val (.ref k1)] []))
      refine own_go (fun _ ww => XS.iloadN X76.here hx rfl (hb hby d6_9) rfl  ww) ?_
      show own_Goes _ _ _ _ _ _ _ (T76.setTop (mkF m 10 #[.val (.ref sx), .val (.ref r59), .val (.int (6 : Int32)), .val (.int (2 : Int32)), .val (.ref k1)] [(.int (2 : Int32))]))
      refine own_go (fun _ ww => XS.iloadN X76.here hx rfl (hb hby d6_10) rfl  ww) ?_
      show own_Goes _ _ _ _ _ _ _ (T76.setTop (mkF m 11 #[.val (.ref sx), .val (.ref r59), .val (.int (6 : Int32)), .val (.int (2 : Int32)), .val (.ref k1)] [(.int (6 : Int32)), (.int (2 : Int32))]))
      refine own_go (fun _ ww => XS.icmpNo X76.here hx rfl (hb hby d6_11) rfl (tlt (by decide : (2 : Int32) < (6 : Int32))).2.1 ww) ?_
      show own_Goes _ _ _ _ _ _ _ (T76.setTop (mkF m 14 #[.val (.ref sx), .val (.ref r59), .val (.int (6 : Int32)), .val (.int (2 : Int32)), .val (.ref k1)] []))
      refine own_go (fun _ ww => XS.aloadN X76.here hx rfl (hb hby d6_14) rfl rfl ww) ?_
      show own_Goes _ _ _ _ _ _ _ (T76.setTop (mkF m 15 #[.val (.ref sx), .val (.ref r59), .val (.int (6 : Int32)), .val (.int (2 : Int32)), .val (.ref k1)] [(.ref r59)]))
      refine own_go (fun _ ww => XS.iloadN X76.here hx rfl (hb hby d6_15) rfl  ww) ?_
      show own_Goes _ _ _ _ _ _ _ (T76.setTop (mkF m 16 #[.val (.ref sx), .val (.ref r59), .val (.int (6 : Int32)), .val (.int (2 : Int32)), .val (.ref k1)] [(.int (2 : Int32)), (.ref r59)]))
      obtain ⟨cl83, Ar83, -, S83, -, H83, -⟩ := id V59q
      have hin83 := inb_of (j := (2 : Int32)) S83 ⟨by decide, by decide⟩
      have hat83 : cl83.slots[((2 : Int32)).toNatClampNeg]? = some (.ref k2) := Has.at H83 hin83 rfl
      refine own_go (fun _ ww => X76.aaload hx (j := (2 : Int32)) (v := (.ref k2)) (by rw [e76]; exact Ar83.1) (State.isArrayOf_alike hZ.alike Ar83.2.1) rfl Ar83.2.2 hin83 hat83 (g := (mkF m 16 #[.val (.ref sx), .val (.ref r59), .val (.int (6 : Int32)), .val (.int (2 : Int32)), .val (.ref k1)] [(.int (2 : Int32)), (.ref r59)])) rfl rfl (hb hby d6_16) _ ww) ?_
      show own_Goes _ _ _ _ _ _ _ (T76.setTop (mkF m 17 #[.val (.ref sx), .val (.ref r59), .val (.int (6 : Int32)), .val (.int (2 : Int32)), .val (.ref k1)] [(.ref k2)]))
      refine own_go (fun _ ww => XS.astore X76.here hx rfl (hb hby d6_17) rfl rfl (l' := #[.val (.ref sx), .val (.ref r59), .val (.int (6 : Int32)), .val (.int (2 : Int32)), .val (.ref k2)]) rfl ww) ?_
      show own_Goes _ _ _ _ _ _ _ (T76.setTop (mkF m 19 #[.val (.ref sx), .val (.ref r59), .val (.int (6 : Int32)), .val (.int (2 : Int32)), .val (.ref k2)] []))
      refine own_go (fun _ ww => XS.aload X76.here hx rfl (hb hby d6_19) rfl rfl ww) ?_
      show own_Goes _ _ _ _ _ _ _ (T76.setTop (mkF m 21 #[.val (.ref sx), .val (.ref r59), .val (.int (6 : Int32)), .val (.int (2 : Int32)), .val (.ref k2)] [(.ref k2)]))
      obtain ⟨T84, X84, e84, st84⟩ := getF X76 hx hZ hown (host := "") (Or.inl (hw _ (List.mem_of_getElem? (i := 54) rfl))) Via.refl e76 (F2.ext O59.2) (g := (mkF m 21 #[.val (.ref sx), .val (.ref r59), .val (.int (6 : Int32)), .val (.int (2 : Int32)), .val (.ref k2)] [(.ref k2)])) rfl rfl (hb hby d6_21)
      refine own_go st84 ?_
      show own_Goes _ _ _ _ _ _ _ (T84.setTop (mkF m 24 #[.val (.ref sx), .val (.ref r59), .val (.int (6 : Int32)), .val (.int (2 : Int32)), .val (.ref k2)] [(.ref y2)]))
      refine own_go (fun _ ww => XS.aloadN X84.here hx rfl (hb hby d6_24) rfl rfl ww) ?_
      show own_Goes _ _ _ _ _ _ _ (T84.setTop (mkF m 25 #[.val (.ref sx), .val (.ref r59), .val (.int (6 : Int32)), .val (.int (2 : Int32)), .val (.ref k2)] [(.ref sx), (.ref y2)]))
      obtain ⟨cq85, kq85, q85a, q85b, q85c⟩ := isOf hZ e84 (Ey2.ext O59.2)
      obtain ⟨_, _, ⟨T85, L85, k85, n85⟩, -, X85, ⟨Lc85, hQ85, l85, y85, z85⟩, st85⟩ := X84.virtualBack hx (y := (⟨"java/lang/String", "equals", "(Ljava/lang/Object;)Z"⟩ : MethodName)) (z := (⟨"java/lang/String", "equals", "(Ljava/lang/Object;)Z"⟩ : MethodName)) hown (mvT hZ (hw _ (List.mem_of_getElem? (i := 56) rfl))) (mvT hZ (hw _ (List.mem_of_getElem? (i := 57) rfl))) (notFace_of_selects (args := #[]) (mvT hZ (hw _ (List.mem_of_getElem? (i := 59) rfl)))) (mvT hZ (hw _ (List.mem_of_getElem? (i := 59) rfl))) (mvT hZ (hw _ (List.mem_of_getElem? (i := 58) rfl))) (by decide) (StrChars.Road.eqW (W := 0) hZ (own_wordsEq hw) (kI := 4) (hw _ (List.mem_of_getElem? (i := 5) rfl)) (Ey2.ext O59.2) (Vy2.ext O59.2) (Cy2.ext O59.2) (Ky2.ext O59.2) own_cod2 (by decide) (by decide) f60 f61 f62 f63 hcs hbs hls (SC.ext O59.2) hzc (by decide) (by decide)) q85a q85c (g := (mkF m 25 #[.val (.ref sx), .val (.ref r59), .val (.int (6 : Int32)), .val (.int (2 : Int32)), .val (.ref k2)] [(.ref sx), (.ref y2)])) rfl (by rw [hml]; rfl) (Steps.refl _) (argsL := [(.ref sx)]) (rest := []) (lenOf pd_4 rfl) rfl (by show 2 * 0 + _ ≤ _; exact Nat.le_of_eq rfl) (hb hby d6_25) (fun _ _ => ⟨rfl, e84, (by decide : 1 + 0 ≤ _), (by decide : 6 + 0 ≤ _)⟩)
      dsimp only [Pt.U, Pt.locs, Pt.cells, Pt.slots] at X85 l85 y85 z85 st85 hQ85
      subst l85 y85 z85
      obtain ⟨hd85, rfl, e85⟩ := hQ85
      have N85 := Fr.app N76 (Fr.nil n0)
      rcases hd85 with ⟨rfl, hc85⟩ | ⟨rfl, hc85⟩
      ·
        refine own_go (fun _ ww => Steps.trans st85 ww) ?_
        show own_Goes _ _ _ _ _ _ _ (T85.setTop (mkF m 28 #[.val (.ref sx), .val (.ref r59), .val (.int (6 : Int32)), .val (.int (2 : Int32)), .val (.ref k2)] [(.int (1 : Int32))]))
        refine own_go (fun _ ww => XS.ifNo X85.here hx rfl (hb hby d6_28) rfl (own_if .eq (feq (by decide : ¬ ((1 : Int32) = (0 : Int32)))).1) ww) ?_
        show own_Goes _ _ _ _ _ _ _ (T85.setTop (mkF m 31 #[.val (.ref sx), .val (.ref r59), .val (.int (6 : Int32)), .val (.int (2 : Int32)), .val (.ref k2)] []))
        refine own_go (fun _ ww => XS.aload X85.here hx rfl (hb hby d6_31) rfl rfl ww) ?_
        show own_Goes _ _ _ _ _ _ _ (T85.setTop (mkF m 33 #[.val (.ref sx), .val (.ref r59), .val (.int (6 : Int32)), .val (.int (2 : Int32)), .val (.ref k2)] [(.ref k2)]))
        obtain ⟨_, _, ⟨T86, L86, k86, n86⟩, -, X86, ⟨Lc86, hQ86, l86, y86, z86⟩, st86⟩ := Jvm.LawKit.callS X85 hx (y := (⟨"java/util/Optional", "of", "(Ljava/lang/Object;)Ljava/util/Optional;"⟩ : MethodName)) hown (mvT hZ (hw _ (List.mem_of_getElem? (i := 90) rfl))) (mvT hZ (hw _ (List.mem_of_getElem? (i := 91) rfl))) (mvT hZ (hw _ (List.mem_of_getElem? (i := 69) rfl))) (mvT hZ (hw _ (List.mem_of_getElem? (i := 92) rfl))) (by decide) (backOf (W := 0) (rm_oof l Z a0 hw [] k2 T59.heap n0 O59 ) hZ (hw _ (List.mem_of_getElem? (i := 92) rfl)) (hw _ (List.mem_of_getElem? (i := 69) rfl)) (by decide) (by decide)) (g := (mkF m 33 #[.val (.ref sx), .val (.ref r59), .val (.int (6 : Int32)), .val (.int (2 : Int32)), .val (.ref k2)] [(.ref k2)])) rfl (by rw [hml]; rfl) (argsL := [(.ref k2)]) (rest := []) (lenOf pd_5 rfl) rfl (by show 2 * 0 + _ ≤ _; exact Nat.le_of_eq rfl) (hb hby d6_33) (fun _ _ => ⟨rfl, e85, (by decide : 1 + 1 ≤ _), (by decide : 6 + 1 ≤ _)⟩)
        dsimp only [Pt.U, Pt.locs, Pt.cells, Pt.slots] at X86 l86 y86 z86 st86 hQ86
        subst l86 y86 z86
        obtain ⟨r86, rfl, N86q, B86, K86q, E86q, P86⟩ := hQ86
        have N86 := Fr.app N85 N86q
        have ne_sx_r86 : sx ≠ r86 := Nat.ne_of_lt (Nat.lt_of_lt_of_le f60.lt B86)
        have ne_tx_r86 : tx ≠ r86 := Nat.ne_of_lt (Nat.lt_of_lt_of_le f63.lt B86)
        have ne_r59_r86 : r59 ≠ r86 := Nat.ne_of_lt (Nat.lt_of_lt_of_le V59q.lt B86)
        have ne_k0_r86 : k0 ≠ r86 := Nat.ne_of_lt (Nat.lt_of_lt_of_le (F0.ext O59.2).lt B86)
        have ne_y0_r86 : y0 ≠ r86 := Nat.ne_of_lt (Nat.lt_of_lt_of_le (Ey0.ext O59.2).lt B86)
        have ne_k1_r86 : k1 ≠ r86 := Nat.ne_of_lt (Nat.lt_of_lt_of_le (F1.ext O59.2).lt B86)
        have ne_y1_r86 : y1 ≠ r86 := Nat.ne_of_lt (Nat.lt_of_lt_of_le (Ey1.ext O59.2).lt B86)
        have ne_k2_r86 : k2 ≠ r86 := Nat.ne_of_lt (Nat.lt_of_lt_of_le (F2.ext O59.2).lt B86)
        have ne_y2_r86 : y2 ≠ r86 := Nat.ne_of_lt (Nat.lt_of_lt_of_le (Ey2.ext O59.2).lt B86)
        have ne_k3_r86 : k3 ≠ r86 := Nat.ne_of_lt (Nat.lt_of_lt_of_le (F3.ext O59.2).lt B86)
        have ne_y3_r86 : y3 ≠ r86 := Nat.ne_of_lt (Nat.lt_of_lt_of_le (Ey3.ext O59.2).lt B86)
        have ne_k4_r86 : k4 ≠ r86 := Nat.ne_of_lt (Nat.lt_of_lt_of_le (F4.ext O59.2).lt B86)
        have ne_y4_r86 : y4 ≠ r86 := Nat.ne_of_lt (Nat.lt_of_lt_of_le (Ey4.ext O59.2).lt B86)
        have ne_k5_r86 : k5 ≠ r86 := Nat.ne_of_lt (Nat.lt_of_lt_of_le (F5.ext O59.2).lt B86)
        have ne_y5_r86 : y5 ≠ r86 := Nat.ne_of_lt (Nat.lt_of_lt_of_le (Ey5.ext O59.2).lt B86)
        have g_r86 : n0 ≤ r86 := Nat.le_trans (O59.1 ▸ O59.2.1) B86
        have sz_r86 : h0.size ≤ r86 := Nat.le_trans (own_ks K59) B86
        have f87 : Exa Z T86.heap sx "java/lang/String" := (f60.keep K86q)
        have f88 : Fld Z T86.heap sx "java/lang/String" "value" "[B" (.ref tx) := (f61.keep K86q nin0)
        have f89 : Fld Z T86.heap sx "java/lang/String" "coder" "B" (.int (0 : Int32)) := (f62.keep K86q nin0)
        have f90 : Arv Z T86.heap tx kx .byte Nx vx (.int (0 : Int32)) := (f63.keep K86q nin0)
        have f91 : Arv Z T86.heap r59 kk (.object "com/example/esfahan/esfahan/model/Comparison") (6 : Int32) [(.ref k0), (.ref k1), (.ref k2), (.ref k3), (.ref k4), (.ref k5)] .null := (V59q.keep K86q nin0)
        have O86 := O59.keep K86q all0
        have K86 := K59.trans K86q all0
        refine own_go st86 ?_
        show own_Goes _ _ _ _ _ _ _ (T86.setTop (mkF m 36 #[.val (.ref sx), .val (.ref r59), .val (.int (6 : Int32)), .val (.int (2 : Int32)), .val (.ref k2)] [(.ref r86)]))
        exact own_out X86 hlk (v := some (.ref r86)) (fun h => by rw [hret] at h; cases h) (fun fs hr => retOut X86 hx (t := (.object "java/util/Optional")) hret rfl (Or.inr (Or.inr (Or.inr (Or.inr ⟨rfl, rfl, rfl⟩)))) (hb hby d6_36) hr) rfl ⟨_, rfl, N86, K86, E86q, (by rw [hA2 hc85]; exact P86)⟩ (by decide) (by decide)
      ·
        refine own_go (fun _ ww => Steps.trans st85 ww) ?_
        show own_Goes _ _ _ _ _ _ _ (T85.setTop (mkF m 28 #[.val (.ref sx), .val (.ref r59), .val (.int (6 : Int32)), .val (.int (2 : Int32)), .val (.ref k2)] [(.int (0 : Int32))]))
        refine own_go (fun _ ww => XS.ifYes X85.here hx rfl (pc0 := 28) (pc' := 37) rfl (hb hby d6_28) rfl (own_if .eq (teq (by decide : (0 : Int32) = (0 : Int32))).1) (by decide) (by decide) ww) ?_
        show own_Goes _ _ _ _ _ _ _ (T85.setTop (mkF m 37 #[.val (.ref sx), .val (.ref r59), .val (.int (6 : Int32)), .val (.int (2 : Int32)), .val (.ref k2)] []))
        refine own_go (fun _ ww => XS.iinc X85.here hx rfl (hb hby d6_37) rfl (l' := #[.val (.ref sx), .val (.ref r59), .val (.int (6 : Int32)), .val (.int (3 : Int32)), .val (.ref k2)]) rfl ww) ?_
        show own_Goes _ _ _ _ _ _ _ (T85.setTop (mkF m 40 #[.val (.ref sx), .val (.ref r59), .val (.int (6 : Int32)), .val (.int (3 : Int32)), .val (.ref k2)] []))
        refine own_go (fun _ ww => XS.goto X85.here hx rfl (pc0 := 40) (pc' := 9) rfl (hb hby d6_40) (by decide) (by decide) ww) ?_
        show own_Goes _ _ _ _ _ _ _ (T85.setTop (mkF m 9 #[.val (.ref sx), .val (.ref r59), .val (.int (6 : Int32)), .val (.int (3 : Int32)), .val (.ref k2)] []))
        refine own_go (fun _ ww => XS.iloadN X85.here hx rfl (hb hby d6_9) rfl  ww) ?_
        show own_Goes _ _ _ _ _ _ _ (T85.setTop (mkF m 10 #[.val (.ref sx), .val (.ref r59), .val (.int (6 : Int32)), .val (.int (3 : Int32)), .val (.ref k2)] [(.int (3 : Int32))]))
        refine own_go (fun _ ww => XS.iloadN X85.here hx rfl (hb hby d6_10) rfl  ww) ?_
        show own_Goes _ _ _ _ _ _ _ (T85.setTop (mkF m 11 #[.val (.ref sx), .val (.ref r59), .val (.int (6 : Int32)), .val (.int (3 : Int32)), .val (.ref k2)] [(.int (6 : Int32)), (.int (3 : Int32))]))
        refine own_go (fun _ ww => XS.icmpNo X85.here hx rfl (hb hby d6_11) rfl (tlt (by decide : (3 : Int32) < (6 : Int32))).2.1 ww) ?_
        show own_Goes _ _ _ _ _ _ _ (T85.setTop (mkF m 14 #[.val (.ref sx), .val (.ref r59), .val (.int (6 : Int32)), .val (.int (3 : Int32)), .val (.ref k2)] []))
        refine own_go (fun _ ww => XS.aloadN X85.here hx rfl (hb hby d6_14) rfl rfl ww) ?_
        show own_Goes _ _ _ _ _ _ _ (T85.setTop (mkF m 15 #[.val (.ref sx), .val (.ref r59), .val (.int (6 : Int32)), .val (.int (3 : Int32)), .val (.ref k2)] [(.ref r59)]))
        refine own_go (fun _ ww => XS.iloadN X85.here hx rfl (hb hby d6_15) rfl  ww) ?_
        show own_Goes _ _ _ _ _ _ _ (T85.setTop (mkF m 16 #[.val (.ref sx), .val (.ref r59), .val (.int (6 : Int32)), .val (.int (3 : Int32)), .val (.ref k2)] [(.int (3 : Int32)), (.ref r59)]))
        obtain ⟨cl92, Ar92, -, S92, -, H92, -⟩ := id V59q
        have hin92 := inb_of (j := (3 : Int32)) S92 ⟨by decide, by decide⟩
        have hat92 : cl92.slots[((3 : Int32)).toNatClampNeg]? = some (.ref k3) := Has.at H92 hin92 rfl
        refine own_go (fun _ ww => X85.aaload hx (j := (3 : Int32)) (v := (.ref k3)) (by rw [e85]; exact Ar92.1) (State.isArrayOf_alike hZ.alike Ar92.2.1) rfl Ar92.2.2 hin92 hat92 (g := (mkF m 16 #[.val (.ref sx), .val (.ref r59), .val (.int (6 : Int32)), .val (.int (3 : Int32)), .val (.ref k2)] [(.int (3 : Int32)), (.ref r59)])) rfl rfl (hb hby d6_16) _ ww) ?_
        show own_Goes _ _ _ _ _ _ _ (T85.setTop (mkF m 17 #[.val (.ref sx), .val (.ref r59), .val (.int (6 : Int32)), .val (.int (3 : Int32)), .val (.ref k2)] [(.ref k3)]))
        refine own_go (fun _ ww => XS.astore X85.here hx rfl (hb hby d6_17) rfl rfl (l' := #[.val (.ref sx), .val (.ref r59), .val (.int (6 : Int32)), .val (.int (3 : Int32)), .val (.ref k3)]) rfl ww) ?_
        show own_Goes _ _ _ _ _ _ _ (T85.setTop (mkF m 19 #[.val (.ref sx), .val (.ref r59), .val (.int (6 : Int32)), .val (.int (3 : Int32)), .val (.ref k3)] []))
        refine own_go (fun _ ww => XS.aload X85.here hx rfl (hb hby d6_19) rfl rfl ww) ?_
        show own_Goes _ _ _ _ _ _ _ (T85.setTop (mkF m 21 #[.val (.ref sx), .val (.ref r59), .val (.int (6 : Int32)), .val (.int (3 : Int32)), .val (.ref k3)] [(.ref k3)]))
        obtain ⟨T93, X93, e93, st93⟩ := getF X85 hx hZ hown (host := "") (Or.inl (hw _ (List.mem_of_getElem? (i := 54) rfl))) Via.refl e85 (F3.ext O59.2) (g := (mkF m 21 #[.val (.ref sx), .val (.ref r59), .val (.int (6 : Int32)), .val (.int (3 : Int32)), .val (.ref k3)] [(.ref k3)])) rfl rfl (hb hby d6_21)
        refine own_go st93 ?_
        show own_Goes _ _ _ _ _ _ _ (T93.setTop (mkF m 24 #[.val (.ref sx), .val (.ref r59), .val (.int (6 : Int32)), .val (.int (3 : Int32)), .val (.ref k3)] [(.ref y3)]))
        refine own_go (fun _ ww => XS.aloadN X93.here hx rfl (hb hby d6_24) rfl rfl ww) ?_
        show own_Goes _ _ _ _ _ _ _ (T93.setTop (mkF m 25 #[.val (.ref sx), .val (.ref r59), .val (.int (6 : Int32)), .val (.int (3 : Int32)), .val (.ref k3)] [(.ref sx), (.ref y3)]))
        obtain ⟨cq94, kq94, q94a, q94b, q94c⟩ := isOf hZ e93 (Ey3.ext O59.2)
        obtain ⟨_, _, ⟨T94, L94, k94, n94⟩, -, X94, ⟨Lc94, hQ94, l94, y94, z94⟩, st94⟩ := X93.virtualBack hx (y := (⟨"java/lang/String", "equals", "(Ljava/lang/Object;)Z"⟩ : MethodName)) (z := (⟨"java/lang/String", "equals", "(Ljava/lang/Object;)Z"⟩ : MethodName)) hown (mvT hZ (hw _ (List.mem_of_getElem? (i := 56) rfl))) (mvT hZ (hw _ (List.mem_of_getElem? (i := 57) rfl))) (notFace_of_selects (args := #[]) (mvT hZ (hw _ (List.mem_of_getElem? (i := 59) rfl)))) (mvT hZ (hw _ (List.mem_of_getElem? (i := 59) rfl))) (mvT hZ (hw _ (List.mem_of_getElem? (i := 58) rfl))) (by decide) (StrChars.Road.eqW (W := 0) hZ (own_wordsEq hw) (kI := 4) (hw _ (List.mem_of_getElem? (i := 5) rfl)) (Ey3.ext O59.2) (Vy3.ext O59.2) (Cy3.ext O59.2) (Ky3.ext O59.2) own_cod3 (by decide) (by decide) f60 f61 f62 f63 hcs hbs hls (SC.ext O59.2) hzc (by decide) (by decide)) q94a q94c (g := (mkF m 25 #[.val (.ref sx), .val (.ref r59), .val (.int (6 : Int32)), .val (.int (3 : Int32)), .val (.ref k3)] [(.ref sx), (.ref y3)])) rfl (by rw [hml]; rfl) (Steps.refl _) (argsL := [(.ref sx)]) (rest := []) (lenOf pd_4 rfl) rfl (by show 2 * 0 + _ ≤ _; exact Nat.le_of_eq rfl) (hb hby d6_25) (fun _ _ => ⟨rfl, e93, (by decide : 1 + 0 ≤ _), (by decide : 6 + 0 ≤ _)⟩)
        dsimp only [Pt.U, Pt.locs, Pt.cells, Pt.slots] at X94 l94 y94 z94 st94 hQ94
        subst l94 y94 z94
        obtain ⟨hd94, rfl, e94⟩ := hQ94
        have N94 := Fr.app N85 (Fr.nil n0)
        rcases hd94 with ⟨rfl, hc94⟩ | ⟨rfl, hc94⟩
        ·
          refine own_go (fun _ ww => Steps.trans st94 ww) ?_
          show own_Goes _ _ _ _ _ _ _ (T94.setTop (mkF m 28 #[.val (.ref sx), .val (.ref r59), .val (.int (6 : Int32)), .val (.int (3 : Int32)), .val (.ref k3)] [(.int (1 : Int32))]))
          refine own_go (fun _ ww => XS.ifNo X94.here hx rfl (hb hby d6_28) rfl (own_if .eq (feq (by decide : ¬ ((1 : Int32) = (0 : Int32)))).1) ww) ?_
          show own_Goes _ _ _ _ _ _ _ (T94.setTop (mkF m 31 #[.val (.ref sx), .val (.ref r59), .val (.int (6 : Int32)), .val (.int (3 : Int32)), .val (.ref k3)] []))
          refine own_go (fun _ ww => XS.aload X94.here hx rfl (hb hby d6_31) rfl rfl ww) ?_
          show own_Goes _ _ _ _ _ _ _ (T94.setTop (mkF m 33 #[.val (.ref sx), .val (.ref r59), .val (.int (6 : Int32)), .val (.int (3 : Int32)), .val (.ref k3)] [(.ref k3)]))
          obtain ⟨_, _, ⟨T95, L95, k95, n95⟩, -, X95, ⟨Lc95, hQ95, l95, y95, z95⟩, st95⟩ := Jvm.LawKit.callS X94 hx (y := (⟨"java/util/Optional", "of", "(Ljava/lang/Object;)Ljava/util/Optional;"⟩ : MethodName)) hown (mvT hZ (hw _ (List.mem_of_getElem? (i := 90) rfl))) (mvT hZ (hw _ (List.mem_of_getElem? (i := 91) rfl))) (mvT hZ (hw _ (List.mem_of_getElem? (i := 69) rfl))) (mvT hZ (hw _ (List.mem_of_getElem? (i := 92) rfl))) (by decide) (backOf (W := 0) (rm_oof l Z a0 hw [] k3 T59.heap n0 O59 ) hZ (hw _ (List.mem_of_getElem? (i := 92) rfl)) (hw _ (List.mem_of_getElem? (i := 69) rfl)) (by decide) (by decide)) (g := (mkF m 33 #[.val (.ref sx), .val (.ref r59), .val (.int (6 : Int32)), .val (.int (3 : Int32)), .val (.ref k3)] [(.ref k3)])) rfl (by rw [hml]; rfl) (argsL := [(.ref k3)]) (rest := []) (lenOf pd_5 rfl) rfl (by show 2 * 0 + _ ≤ _; exact Nat.le_of_eq rfl) (hb hby d6_33) (fun _ _ => ⟨rfl, e94, (by decide : 1 + 1 ≤ _), (by decide : 6 + 1 ≤ _)⟩)
          dsimp only [Pt.U, Pt.locs, Pt.cells, Pt.slots] at X95 l95 y95 z95 st95 hQ95
          subst l95 y95 z95
          obtain ⟨r95, rfl, N95q, B95, K95q, E95q, P95⟩ := hQ95
          have N95 := Fr.app N94 N95q
          have ne_sx_r95 : sx ≠ r95 := Nat.ne_of_lt (Nat.lt_of_lt_of_le f60.lt B95)
          have ne_tx_r95 : tx ≠ r95 := Nat.ne_of_lt (Nat.lt_of_lt_of_le f63.lt B95)
          have ne_r59_r95 : r59 ≠ r95 := Nat.ne_of_lt (Nat.lt_of_lt_of_le V59q.lt B95)
          have ne_k0_r95 : k0 ≠ r95 := Nat.ne_of_lt (Nat.lt_of_lt_of_le (F0.ext O59.2).lt B95)
          have ne_y0_r95 : y0 ≠ r95 := Nat.ne_of_lt (Nat.lt_of_lt_of_le (Ey0.ext O59.2).lt B95)
          have ne_k1_r95 : k1 ≠ r95 := Nat.ne_of_lt (Nat.lt_of_lt_of_le (F1.ext O59.2).lt B95)
          have ne_y1_r95 : y1 ≠ r95 := Nat.ne_of_lt (Nat.lt_of_lt_of_le (Ey1.ext O59.2).lt B95)
          have ne_k2_r95 : k2 ≠ r95 := Nat.ne_of_lt (Nat.lt_of_lt_of_le (F2.ext O59.2).lt B95)
          have ne_y2_r95 : y2 ≠ r95 := Nat.ne_of_lt (Nat.lt_of_lt_of_le (Ey2.ext O59.2).lt B95)
          have ne_k3_r95 : k3 ≠ r95 := Nat.ne_of_lt (Nat.lt_of_lt_of_le (F3.ext O59.2).lt B95)
          have ne_y3_r95 : y3 ≠ r95 := Nat.ne_of_lt (Nat.lt_of_lt_of_le (Ey3.ext O59.2).lt B95)
          have ne_k4_r95 : k4 ≠ r95 := Nat.ne_of_lt (Nat.lt_of_lt_of_le (F4.ext O59.2).lt B95)
          have ne_y4_r95 : y4 ≠ r95 := Nat.ne_of_lt (Nat.lt_of_lt_of_le (Ey4.ext O59.2).lt B95)
          have ne_k5_r95 : k5 ≠ r95 := Nat.ne_of_lt (Nat.lt_of_lt_of_le (F5.ext O59.2).lt B95)
          have ne_y5_r95 : y5 ≠ r95 := Nat.ne_of_lt (Nat.lt_of_lt_of_le (Ey5.ext O59.2).lt B95)
          have g_r95 : n0 ≤ r95 := Nat.le_trans (O59.1 ▸ O59.2.1) B95
          have sz_r95 : h0.size ≤ r95 := Nat.le_trans (own_ks K59) B95
          have f96 : Exa Z T95.heap sx "java/lang/String" := (f60.keep K95q)
          have f97 : Fld Z T95.heap sx "java/lang/String" "value" "[B" (.ref tx) := (f61.keep K95q nin0)
          have f98 : Fld Z T95.heap sx "java/lang/String" "coder" "B" (.int (0 : Int32)) := (f62.keep K95q nin0)
          have f99 : Arv Z T95.heap tx kx .byte Nx vx (.int (0 : Int32)) := (f63.keep K95q nin0)
          have f100 : Arv Z T95.heap r59 kk (.object "com/example/esfahan/esfahan/model/Comparison") (6 : Int32) [(.ref k0), (.ref k1), (.ref k2), (.ref k3), (.ref k4), (.ref k5)] .null := (V59q.keep K95q nin0)
          have O95 := O59.keep K95q all0
          have K95 := K59.trans K95q all0
          refine own_go st95 ?_
          show own_Goes _ _ _ _ _ _ _ (T95.setTop (mkF m 36 #[.val (.ref sx), .val (.ref r59), .val (.int (6 : Int32)), .val (.int (3 : Int32)), .val (.ref k3)] [(.ref r95)]))
          exact own_out X95 hlk (v := some (.ref r95)) (fun h => by rw [hret] at h; cases h) (fun fs hr => retOut X95 hx (t := (.object "java/util/Optional")) hret rfl (Or.inr (Or.inr (Or.inr (Or.inr ⟨rfl, rfl, rfl⟩)))) (hb hby d6_36) hr) rfl ⟨_, rfl, N95, K95, E95q, (by rw [hA3 hc94]; exact P95)⟩ (by decide) (by decide)
        ·
          refine own_go (fun _ ww => Steps.trans st94 ww) ?_
          show own_Goes _ _ _ _ _ _ _ (T94.setTop (mkF m 28 #[.val (.ref sx), .val (.ref r59), .val (.int (6 : Int32)), .val (.int (3 : Int32)), .val (.ref k3)] [(.int (0 : Int32))]))
          refine own_go (fun _ ww => XS.ifYes X94.here hx rfl (pc0 := 28) (pc' := 37) rfl (hb hby d6_28) rfl (own_if .eq (teq (by decide : (0 : Int32) = (0 : Int32))).1) (by decide) (by decide) ww) ?_
          show own_Goes _ _ _ _ _ _ _ (T94.setTop (mkF m 37 #[.val (.ref sx), .val (.ref r59), .val (.int (6 : Int32)), .val (.int (3 : Int32)), .val (.ref k3)] []))
          refine own_go (fun _ ww => XS.iinc X94.here hx rfl (hb hby d6_37) rfl (l' := #[.val (.ref sx), .val (.ref r59), .val (.int (6 : Int32)), .val (.int (4 : Int32)), .val (.ref k3)]) rfl ww) ?_
          show own_Goes _ _ _ _ _ _ _ (T94.setTop (mkF m 40 #[.val (.ref sx), .val (.ref r59), .val (.int (6 : Int32)), .val (.int (4 : Int32)), .val (.ref k3)] []))
          refine own_go (fun _ ww => XS.goto X94.here hx rfl (pc0 := 40) (pc' := 9) rfl (hb hby d6_40) (by decide) (by decide) ww) ?_
          show own_Goes _ _ _ _ _ _ _ (T94.setTop (mkF m 9 #[.val (.ref sx), .val (.ref r59), .val (.int (6 : Int32)), .val (.int (4 : Int32)), .val (.ref k3)] []))
          refine own_go (fun _ ww => XS.iloadN X94.here hx rfl (hb hby d6_9) rfl  ww) ?_
          show own_Goes _ _ _ _ _ _ _ (T94.setTop (mkF m 10 #[.val (.ref sx), .val (.ref r59), .val (.int (6 : Int32)), .val (.int (4 : Int32)), .val (.ref k3)] [(.int (4 : Int32))]))
          refine own_go (fun _ ww => XS.iloadN X94.here hx rfl (hb hby d6_10) rfl  ww) ?_
          show own_Goes _ _ _ _ _ _ _ (T94.setTop (mkF m 11 #[.val (.ref sx), .val (.ref r59), .val (.int (6 : Int32)), .val (.int (4 : Int32)), .val (.ref k3)] [(.int (6 : Int32)), (.int (4 : Int32))]))
          refine own_go (fun _ ww => XS.icmpNo X94.here hx rfl (hb hby d6_11) rfl (tlt (by decide : (4 : Int32) < (6 : Int32))).2.1 ww) ?_
          show own_Goes _ _ _ _ _ _ _ (T94.setTop (mkF m 14 #[.val (.ref sx), .val (.ref r59), .val (.int (6 : Int32)), .val (.int (4 : Int32)), .val (.ref k3)] []))
          refine own_go (fun _ ww => XS.aloadN X94.here hx rfl (hb hby d6_14) rfl rfl ww) ?_
          show own_Goes _ _ _ _ _ _ _ (T94.setTop (mkF m 15 #[.val (.ref sx), .val (.ref r59), .val (.int (6 : Int32)), .val (.int (4 : Int32)), .val (.ref k3)] [(.ref r59)]))
          refine own_go (fun _ ww => XS.iloadN X94.here hx rfl (hb hby d6_15) rfl  ww) ?_
          show own_Goes _ _ _ _ _ _ _ (T94.setTop (mkF m 16 #[.val (.ref sx), .val (.ref r59), .val (.int (6 : Int32)), .val (.int (4 : Int32)), .val (.ref k3)] [(.int (4 : Int32)), (.ref r59)]))
          obtain ⟨cl101, Ar101, -, S101, -, H101, -⟩ := id V59q
          have hin101 := inb_of (j := (4 : Int32)) S101 ⟨by decide, by decide⟩
          have hat101 : cl101.slots[((4 : Int32)).toNatClampNeg]? = some (.ref k4) := Has.at H101 hin101 rfl
          refine own_go (fun _ ww => X94.aaload hx (j := (4 : Int32)) (v := (.ref k4)) (by rw [e94]; exact Ar101.1) (State.isArrayOf_alike hZ.alike Ar101.2.1) rfl Ar101.2.2 hin101 hat101 (g := (mkF m 16 #[.val (.ref sx), .val (.ref r59), .val (.int (6 : Int32)), .val (.int (4 : Int32)), .val (.ref k3)] [(.int (4 : Int32)), (.ref r59)])) rfl rfl (hb hby d6_16) _ ww) ?_
          show own_Goes _ _ _ _ _ _ _ (T94.setTop (mkF m 17 #[.val (.ref sx), .val (.ref r59), .val (.int (6 : Int32)), .val (.int (4 : Int32)), .val (.ref k3)] [(.ref k4)]))
          refine own_go (fun _ ww => XS.astore X94.here hx rfl (hb hby d6_17) rfl rfl (l' := #[.val (.ref sx), .val (.ref r59), .val (.int (6 : Int32)), .val (.int (4 : Int32)), .val (.ref k4)]) rfl ww) ?_
          show own_Goes _ _ _ _ _ _ _ (T94.setTop (mkF m 19 #[.val (.ref sx), .val (.ref r59), .val (.int (6 : Int32)), .val (.int (4 : Int32)), .val (.ref k4)] []))
          refine own_go (fun _ ww => XS.aload X94.here hx rfl (hb hby d6_19) rfl rfl ww) ?_
          show own_Goes _ _ _ _ _ _ _ (T94.setTop (mkF m 21 #[.val (.ref sx), .val (.ref r59), .val (.int (6 : Int32)), .val (.int (4 : Int32)), .val (.ref k4)] [(.ref k4)]))
          obtain ⟨T102, X102, e102, st102⟩ := getF X94 hx hZ hown (host := "") (Or.inl (hw _ (List.mem_of_getElem? (i := 54) rfl))) Via.refl e94 (F4.ext O59.2) (g := (mkF m 21 #[.val (.ref sx), .val (.ref r59), .val (.int (6 : Int32)), .val (.int (4 : Int32)), .val (.ref k4)] [(.ref k4)])) rfl rfl (hb hby d6_21)
          refine own_go st102 ?_
          show own_Goes _ _ _ _ _ _ _ (T102.setTop (mkF m 24 #[.val (.ref sx), .val (.ref r59), .val (.int (6 : Int32)), .val (.int (4 : Int32)), .val (.ref k4)] [(.ref y4)]))
          refine own_go (fun _ ww => XS.aloadN X102.here hx rfl (hb hby d6_24) rfl rfl ww) ?_
          show own_Goes _ _ _ _ _ _ _ (T102.setTop (mkF m 25 #[.val (.ref sx), .val (.ref r59), .val (.int (6 : Int32)), .val (.int (4 : Int32)), .val (.ref k4)] [(.ref sx), (.ref y4)]))
          obtain ⟨cq103, kq103, q103a, q103b, q103c⟩ := isOf hZ e102 (Ey4.ext O59.2)
          obtain ⟨_, _, ⟨T103, L103, k103, n103⟩, -, X103, ⟨Lc103, hQ103, l103, y103, z103⟩, st103⟩ := X102.virtualBack hx (y := (⟨"java/lang/String", "equals", "(Ljava/lang/Object;)Z"⟩ : MethodName)) (z := (⟨"java/lang/String", "equals", "(Ljava/lang/Object;)Z"⟩ : MethodName)) hown (mvT hZ (hw _ (List.mem_of_getElem? (i := 56) rfl))) (mvT hZ (hw _ (List.mem_of_getElem? (i := 57) rfl))) (notFace_of_selects (args := #[]) (mvT hZ (hw _ (List.mem_of_getElem? (i := 59) rfl)))) (mvT hZ (hw _ (List.mem_of_getElem? (i := 59) rfl))) (mvT hZ (hw _ (List.mem_of_getElem? (i := 58) rfl))) (by decide) (StrChars.Road.eqW (W := 0) hZ (own_wordsEq hw) (kI := 4) (hw _ (List.mem_of_getElem? (i := 5) rfl)) (Ey4.ext O59.2) (Vy4.ext O59.2) (Cy4.ext O59.2) (Ky4.ext O59.2) own_cod4 (by decide) (by decide) f60 f61 f62 f63 hcs hbs hls (SC.ext O59.2) hzc (by decide) (by decide)) q103a q103c (g := (mkF m 25 #[.val (.ref sx), .val (.ref r59), .val (.int (6 : Int32)), .val (.int (4 : Int32)), .val (.ref k4)] [(.ref sx), (.ref y4)])) rfl (by rw [hml]; rfl) (Steps.refl _) (argsL := [(.ref sx)]) (rest := []) (lenOf pd_4 rfl) rfl (by show 2 * 0 + _ ≤ _; exact Nat.le_of_eq rfl) (hb hby d6_25) (fun _ _ => ⟨rfl, e102, (by decide : 1 + 0 ≤ _), (by decide : 6 + 0 ≤ _)⟩)
          dsimp only [Pt.U, Pt.locs, Pt.cells, Pt.slots] at X103 l103 y103 z103 st103 hQ103
          subst l103 y103 z103
          obtain ⟨hd103, rfl, e103⟩ := hQ103
          have N103 := Fr.app N94 (Fr.nil n0)
          rcases hd103 with ⟨rfl, hc103⟩ | ⟨rfl, hc103⟩
          ·
            refine own_go (fun _ ww => Steps.trans st103 ww) ?_
            show own_Goes _ _ _ _ _ _ _ (T103.setTop (mkF m 28 #[.val (.ref sx), .val (.ref r59), .val (.int (6 : Int32)), .val (.int (4 : Int32)), .val (.ref k4)] [(.int (1 : Int32))]))
            refine own_go (fun _ ww => XS.ifNo X103.here hx rfl (hb hby d6_28) rfl (own_if .eq (feq (by decide : ¬ ((1 : Int32) = (0 : Int32)))).1) ww) ?_
            show own_Goes _ _ _ _ _ _ _ (T103.setTop (mkF m 31 #[.val (.ref sx), .val (.ref r59), .val (.int (6 : Int32)), .val (.int (4 : Int32)), .val (.ref k4)] []))
            refine own_go (fun _ ww => XS.aload X103.here hx rfl (hb hby d6_31) rfl rfl ww) ?_
            show own_Goes _ _ _ _ _ _ _ (T103.setTop (mkF m 33 #[.val (.ref sx), .val (.ref r59), .val (.int (6 : Int32)), .val (.int (4 : Int32)), .val (.ref k4)] [(.ref k4)]))
            obtain ⟨_, _, ⟨T104, L104, k104, n104⟩, -, X104, ⟨Lc104, hQ104, l104, y104, z104⟩, st104⟩ := Jvm.LawKit.callS X103 hx (y := (⟨"java/util/Optional", "of", "(Ljava/lang/Object;)Ljava/util/Optional;"⟩ : MethodName)) hown (mvT hZ (hw _ (List.mem_of_getElem? (i := 90) rfl))) (mvT hZ (hw _ (List.mem_of_getElem? (i := 91) rfl))) (mvT hZ (hw _ (List.mem_of_getElem? (i := 69) rfl))) (mvT hZ (hw _ (List.mem_of_getElem? (i := 92) rfl))) (by decide) (backOf (W := 0) (rm_oof l Z a0 hw [] k4 T59.heap n0 O59 ) hZ (hw _ (List.mem_of_getElem? (i := 92) rfl)) (hw _ (List.mem_of_getElem? (i := 69) rfl)) (by decide) (by decide)) (g := (mkF m 33 #[.val (.ref sx), .val (.ref r59), .val (.int (6 : Int32)), .val (.int (4 : Int32)), .val (.ref k4)] [(.ref k4)])) rfl (by rw [hml]; rfl) (argsL := [(.ref k4)]) (rest := []) (lenOf pd_5 rfl) rfl (by show 2 * 0 + _ ≤ _; exact Nat.le_of_eq rfl) (hb hby d6_33) (fun _ _ => ⟨rfl, e103, (by decide : 1 + 1 ≤ _), (by decide : 6 + 1 ≤ _)⟩)
            dsimp only [Pt.U, Pt.locs, Pt.cells, Pt.slots] at X104 l104 y104 z104 st104 hQ104
            subst l104 y104 z104
            obtain ⟨r104, rfl, N104q, B104, K104q, E104q, P104⟩ := hQ104
            have N104 := Fr.app N103 N104q
            have ne_sx_r104 : sx ≠ r104 := Nat.ne_of_lt (Nat.lt_of_lt_of_le f60.lt B104)
            have ne_tx_r104 : tx ≠ r104 := Nat.ne_of_lt (Nat.lt_of_lt_of_le f63.lt B104)
            have ne_r59_r104 : r59 ≠ r104 := Nat.ne_of_lt (Nat.lt_of_lt_of_le V59q.lt B104)
            have ne_k0_r104 : k0 ≠ r104 := Nat.ne_of_lt (Nat.lt_of_lt_of_le (F0.ext O59.2).lt B104)
            have ne_y0_r104 : y0 ≠ r104 := Nat.ne_of_lt (Nat.lt_of_lt_of_le (Ey0.ext O59.2).lt B104)
            have ne_k1_r104 : k1 ≠ r104 := Nat.ne_of_lt (Nat.lt_of_lt_of_le (F1.ext O59.2).lt B104)
            have ne_y1_r104 : y1 ≠ r104 := Nat.ne_of_lt (Nat.lt_of_lt_of_le (Ey1.ext O59.2).lt B104)
            have ne_k2_r104 : k2 ≠ r104 := Nat.ne_of_lt (Nat.lt_of_lt_of_le (F2.ext O59.2).lt B104)
            have ne_y2_r104 : y2 ≠ r104 := Nat.ne_of_lt (Nat.lt_of_lt_of_le (Ey2.ext O59.2).lt B104)
            have ne_k3_r104 : k3 ≠ r104 := Nat.ne_of_lt (Nat.lt_of_lt_of_le (F3.ext O59.2).lt B104)
            have ne_y3_r104 : y3 ≠ r104 := Nat.ne_of_lt (Nat.lt_of_lt_of_le (Ey3.ext O59.2).lt B104)
            have ne_k4_r104 : k4 ≠ r104 := Nat.ne_of_lt (Nat.lt_of_lt_of_le (F4.ext O59.2).lt B104)
            have ne_y4_r104 : y4 ≠ r104 := Nat.ne_of_lt (Nat.lt_of_lt_of_le (Ey4.ext O59.2).lt B104)
            have ne_k5_r104 : k5 ≠ r104 := Nat.ne_of_lt (Nat.lt_of_lt_of_le (F5.ext O59.2).lt B104)
            have ne_y5_r104 : y5 ≠ r104 := Nat.ne_of_lt (Nat.lt_of_lt_of_le (Ey5.ext O59.2).lt B104)
            have g_r104 : n0 ≤ r104 := Nat.le_trans (O59.1 ▸ O59.2.1) B104
            have sz_r104 : h0.size ≤ r104 := Nat.le_trans (own_ks K59) B104
            have f105 : Exa Z T104.heap sx "java/lang/String" := (f60.keep K104q)
            have f106 : Fld Z T104.heap sx "java/lang/String" "value" "[B" (.ref tx) := (f61.keep K104q nin0)
            have f107 : Fld Z T104.heap sx "java/lang/String" "coder" "B" (.int (0 : Int32)) := (f62.keep K104q nin0)
            have f108 : Arv Z T104.heap tx kx .byte Nx vx (.int (0 : Int32)) := (f63.keep K104q nin0)
            have f109 : Arv Z T104.heap r59 kk (.object "com/example/esfahan/esfahan/model/Comparison") (6 : Int32) [(.ref k0), (.ref k1), (.ref k2), (.ref k3), (.ref k4), (.ref k5)] .null := (V59q.keep K104q nin0)
            have O104 := O59.keep K104q all0
            have K104 := K59.trans K104q all0
            refine own_go st104 ?_
            show own_Goes _ _ _ _ _ _ _ (T104.setTop (mkF m 36 #[.val (.ref sx), .val (.ref r59), .val (.int (6 : Int32)), .val (.int (4 : Int32)), .val (.ref k4)] [(.ref r104)]))
            exact own_out X104 hlk (v := some (.ref r104)) (fun h => by rw [hret] at h; cases h) (fun fs hr => retOut X104 hx (t := (.object "java/util/Optional")) hret rfl (Or.inr (Or.inr (Or.inr (Or.inr ⟨rfl, rfl, rfl⟩)))) (hb hby d6_36) hr) rfl ⟨_, rfl, N104, K104, E104q, (by rw [hA4 hc103]; exact P104)⟩ (by decide) (by decide)
          ·
            refine own_go (fun _ ww => Steps.trans st103 ww) ?_
            show own_Goes _ _ _ _ _ _ _ (T103.setTop (mkF m 28 #[.val (.ref sx), .val (.ref r59), .val (.int (6 : Int32)), .val (.int (4 : Int32)), .val (.ref k4)] [(.int (0 : Int32))]))
            refine own_go (fun _ ww => XS.ifYes X103.here hx rfl (pc0 := 28) (pc' := 37) rfl (hb hby d6_28) rfl (own_if .eq (teq (by decide : (0 : Int32) = (0 : Int32))).1) (by decide) (by decide) ww) ?_
            show own_Goes _ _ _ _ _ _ _ (T103.setTop (mkF m 37 #[.val (.ref sx), .val (.ref r59), .val (.int (6 : Int32)), .val (.int (4 : Int32)), .val (.ref k4)] []))
            refine own_go (fun _ ww => XS.iinc X103.here hx rfl (hb hby d6_37) rfl (l' := #[.val (.ref sx), .val (.ref r59), .val (.int (6 : Int32)), .val (.int (5 : Int32)), .val (.ref k4)]) rfl ww) ?_
            show own_Goes _ _ _ _ _ _ _ (T103.setTop (mkF m 40 #[.val (.ref sx), .val (.ref r59), .val (.int (6 : Int32)), .val (.int (5 : Int32)), .val (.ref k4)] []))
            refine own_go (fun _ ww => XS.goto X103.here hx rfl (pc0 := 40) (pc' := 9) rfl (hb hby d6_40) (by decide) (by decide) ww) ?_
            show own_Goes _ _ _ _ _ _ _ (T103.setTop (mkF m 9 #[.val (.ref sx), .val (.ref r59), .val (.int (6 : Int32)), .val (.int (5 : Int32)), .val (.ref k4)] []))
            refine own_go (fun _ ww => XS.iloadN X103.here hx rfl (hb hby d6_9) rfl  ww) ?_
            show own_Goes _ _ _ _ _ _ _ (T103.setTop (mkF m 10 #[.val (.ref sx), .val (.ref r59), .val (.int (6 : Int32)), .val (.int (5 : Int32)), .val (.ref k4)] [(.int (5 : Int32))]))
            refine own_go (fun _ ww => XS.iloadN X103.here hx rfl (hb hby d6_10) rfl  ww) ?_
            show own_Goes _ _ _ _ _ _ _ (T103.setTop (mkF m 11 #[.val (.ref sx), .val (.ref r59), .val (.int (6 : Int32)), .val (.int (5 : Int32)), .val (.ref k4)] [(.int (6 : Int32)), (.int (5 : Int32))]))
            refine own_go (fun _ ww => XS.icmpNo X103.here hx rfl (hb hby d6_11) rfl (tlt (by decide : (5 : Int32) < (6 : Int32))).2.1 ww) ?_
            show own_Goes _ _ _ _ _ _ _ (T103.setTop (mkF m 14 #[.val (.ref sx), .val (.ref r59), .val (.int (6 : Int32)), .val (.int (5 : Int32)), .val (.ref k4)] []))
            refine own_go (fun _ ww => XS.aloadN X103.here hx rfl (hb hby d6_14) rfl rfl ww) ?_
            show own_Goes _ _ _ _ _ _ _ (T103.setTop (mkF m 15 #[.val (.ref sx), .val (.ref r59), .val (.int (6 : Int32)), .val (.int (5 : Int32)), .val (.ref k4)] [(.ref r59)]))
            refine own_go (fun _ ww => XS.iloadN X103.here hx rfl (hb hby d6_15) rfl  ww) ?_
            show own_Goes _ _ _ _ _ _ _ (T103.setTop (mkF m 16 #[.val (.ref sx), .val (.ref r59), .val (.int (6 : Int32)), .val (.int (5 : Int32)), .val (.ref k4)] [(.int (5 : Int32)), (.ref r59)]))
            obtain ⟨cl110, Ar110, -, S110, -, H110, -⟩ := id V59q
            have hin110 := inb_of (j := (5 : Int32)) S110 ⟨by decide, by decide⟩
            have hat110 : cl110.slots[((5 : Int32)).toNatClampNeg]? = some (.ref k5) := Has.at H110 hin110 rfl
            refine own_go (fun _ ww => X103.aaload hx (j := (5 : Int32)) (v := (.ref k5)) (by rw [e103]; exact Ar110.1) (State.isArrayOf_alike hZ.alike Ar110.2.1) rfl Ar110.2.2 hin110 hat110 (g := (mkF m 16 #[.val (.ref sx), .val (.ref r59), .val (.int (6 : Int32)), .val (.int (5 : Int32)), .val (.ref k4)] [(.int (5 : Int32)), (.ref r59)])) rfl rfl (hb hby d6_16) _ ww) ?_
            show own_Goes _ _ _ _ _ _ _ (T103.setTop (mkF m 17 #[.val (.ref sx), .val (.ref r59), .val (.int (6 : Int32)), .val (.int (5 : Int32)), .val (.ref k4)] [(.ref k5)]))
            refine own_go (fun _ ww => XS.astore X103.here hx rfl (hb hby d6_17) rfl rfl (l' := #[.val (.ref sx), .val (.ref r59), .val (.int (6 : Int32)), .val (.int (5 : Int32)), .val (.ref k5)]) rfl ww) ?_
            show own_Goes _ _ _ _ _ _ _ (T103.setTop (mkF m 19 #[.val (.ref sx), .val (.ref r59), .val (.int (6 : Int32)), .val (.int (5 : Int32)), .val (.ref k5)] []))
            refine own_go (fun _ ww => XS.aload X103.here hx rfl (hb hby d6_19) rfl rfl ww) ?_
            show own_Goes _ _ _ _ _ _ _ (T103.setTop (mkF m 21 #[.val (.ref sx), .val (.ref r59), .val (.int (6 : Int32)), .val (.int (5 : Int32)), .val (.ref k5)] [(.ref k5)]))
            obtain ⟨T111, X111, e111, st111⟩ := getF X103 hx hZ hown (host := "") (Or.inl (hw _ (List.mem_of_getElem? (i := 54) rfl))) Via.refl e103 (F5.ext O59.2) (g := (mkF m 21 #[.val (.ref sx), .val (.ref r59), .val (.int (6 : Int32)), .val (.int (5 : Int32)), .val (.ref k5)] [(.ref k5)])) rfl rfl (hb hby d6_21)
            refine own_go st111 ?_
            show own_Goes _ _ _ _ _ _ _ (T111.setTop (mkF m 24 #[.val (.ref sx), .val (.ref r59), .val (.int (6 : Int32)), .val (.int (5 : Int32)), .val (.ref k5)] [(.ref y5)]))
            refine own_go (fun _ ww => XS.aloadN X111.here hx rfl (hb hby d6_24) rfl rfl ww) ?_
            show own_Goes _ _ _ _ _ _ _ (T111.setTop (mkF m 25 #[.val (.ref sx), .val (.ref r59), .val (.int (6 : Int32)), .val (.int (5 : Int32)), .val (.ref k5)] [(.ref sx), (.ref y5)]))
            obtain ⟨cq112, kq112, q112a, q112b, q112c⟩ := isOf hZ e111 (Ey5.ext O59.2)
            obtain ⟨_, _, ⟨T112, L112, k112, n112⟩, -, X112, ⟨Lc112, hQ112, l112, y112, z112⟩, st112⟩ := X111.virtualBack hx (y := (⟨"java/lang/String", "equals", "(Ljava/lang/Object;)Z"⟩ : MethodName)) (z := (⟨"java/lang/String", "equals", "(Ljava/lang/Object;)Z"⟩ : MethodName)) hown (mvT hZ (hw _ (List.mem_of_getElem? (i := 56) rfl))) (mvT hZ (hw _ (List.mem_of_getElem? (i := 57) rfl))) (notFace_of_selects (args := #[]) (mvT hZ (hw _ (List.mem_of_getElem? (i := 59) rfl)))) (mvT hZ (hw _ (List.mem_of_getElem? (i := 59) rfl))) (mvT hZ (hw _ (List.mem_of_getElem? (i := 58) rfl))) (by decide) (StrChars.Road.eqW (W := 0) hZ (own_wordsEq hw) (kI := 4) (hw _ (List.mem_of_getElem? (i := 5) rfl)) (Ey5.ext O59.2) (Vy5.ext O59.2) (Cy5.ext O59.2) (Ky5.ext O59.2) own_cod5 (by decide) (by decide) f60 f61 f62 f63 hcs hbs hls (SC.ext O59.2) hzc (by decide) (by decide)) q112a q112c (g := (mkF m 25 #[.val (.ref sx), .val (.ref r59), .val (.int (6 : Int32)), .val (.int (5 : Int32)), .val (.ref k5)] [(.ref sx), (.ref y5)])) rfl (by rw [hml]; rfl) (Steps.refl _) (argsL := [(.ref sx)]) (rest := []) (lenOf pd_4 rfl) rfl (by show 2 * 0 + _ ≤ _; exact Nat.le_of_eq rfl) (hb hby d6_25) (fun _ _ => ⟨rfl, e111, (by decide : 1 + 0 ≤ _), (by decide : 6 + 0 ≤ _)⟩)
            dsimp only [Pt.U, Pt.locs, Pt.cells, Pt.slots] at X112 l112 y112 z112 st112 hQ112
            subst l112 y112 z112
            obtain ⟨hd112, rfl, e112⟩ := hQ112
            have N112 := Fr.app N103 (Fr.nil n0)
            rcases hd112 with ⟨rfl, hc112⟩ | ⟨rfl, hc112⟩
            ·
              refine own_go (fun _ ww => Steps.trans st112 ww) ?_
              show own_Goes _ _ _ _ _ _ _ (T112.setTop (mkF m 28 #[.val (.ref sx), .val (.ref r59), .val (.int (6 : Int32)), .val (.int (5 : Int32)), .val (.ref k5)] [(.int (1 : Int32))]))
              refine own_go (fun _ ww => XS.ifNo X112.here hx rfl (hb hby d6_28) rfl (own_if .eq (feq (by decide : ¬ ((1 : Int32) = (0 : Int32)))).1) ww) ?_
              show own_Goes _ _ _ _ _ _ _ (T112.setTop (mkF m 31 #[.val (.ref sx), .val (.ref r59), .val (.int (6 : Int32)), .val (.int (5 : Int32)), .val (.ref k5)] []))
              refine own_go (fun _ ww => XS.aload X112.here hx rfl (hb hby d6_31) rfl rfl ww) ?_
              show own_Goes _ _ _ _ _ _ _ (T112.setTop (mkF m 33 #[.val (.ref sx), .val (.ref r59), .val (.int (6 : Int32)), .val (.int (5 : Int32)), .val (.ref k5)] [(.ref k5)]))
              obtain ⟨_, _, ⟨T113, L113, k113, n113⟩, -, X113, ⟨Lc113, hQ113, l113, y113, z113⟩, st113⟩ := Jvm.LawKit.callS X112 hx (y := (⟨"java/util/Optional", "of", "(Ljava/lang/Object;)Ljava/util/Optional;"⟩ : MethodName)) hown (mvT hZ (hw _ (List.mem_of_getElem? (i := 90) rfl))) (mvT hZ (hw _ (List.mem_of_getElem? (i := 91) rfl))) (mvT hZ (hw _ (List.mem_of_getElem? (i := 69) rfl))) (mvT hZ (hw _ (List.mem_of_getElem? (i := 92) rfl))) (by decide) (backOf (W := 0) (rm_oof l Z a0 hw [] k5 T59.heap n0 O59 ) hZ (hw _ (List.mem_of_getElem? (i := 92) rfl)) (hw _ (List.mem_of_getElem? (i := 69) rfl)) (by decide) (by decide)) (g := (mkF m 33 #[.val (.ref sx), .val (.ref r59), .val (.int (6 : Int32)), .val (.int (5 : Int32)), .val (.ref k5)] [(.ref k5)])) rfl (by rw [hml]; rfl) (argsL := [(.ref k5)]) (rest := []) (lenOf pd_5 rfl) rfl (by show 2 * 0 + _ ≤ _; exact Nat.le_of_eq rfl) (hb hby d6_33) (fun _ _ => ⟨rfl, e112, (by decide : 1 + 1 ≤ _), (by decide : 6 + 1 ≤ _)⟩)
              dsimp only [Pt.U, Pt.locs, Pt.cells, Pt.slots] at X113 l113 y113 z113 st113 hQ113
              subst l113 y113 z113
              obtain ⟨r113, rfl, N113q, B113, K113q, E113q, P113⟩ := hQ113
              have N113 := Fr.app N112 N113q
              have ne_sx_r113 : sx ≠ r113 := Nat.ne_of_lt (Nat.lt_of_lt_of_le f60.lt B113)
              have ne_tx_r113 : tx ≠ r113 := Nat.ne_of_lt (Nat.lt_of_lt_of_le f63.lt B113)
              have ne_r59_r113 : r59 ≠ r113 := Nat.ne_of_lt (Nat.lt_of_lt_of_le V59q.lt B113)
              have ne_k0_r113 : k0 ≠ r113 := Nat.ne_of_lt (Nat.lt_of_lt_of_le (F0.ext O59.2).lt B113)
              have ne_y0_r113 : y0 ≠ r113 := Nat.ne_of_lt (Nat.lt_of_lt_of_le (Ey0.ext O59.2).lt B113)
              have ne_k1_r113 : k1 ≠ r113 := Nat.ne_of_lt (Nat.lt_of_lt_of_le (F1.ext O59.2).lt B113)
              have ne_y1_r113 : y1 ≠ r113 := Nat.ne_of_lt (Nat.lt_of_lt_of_le (Ey1.ext O59.2).lt B113)
              have ne_k2_r113 : k2 ≠ r113 := Nat.ne_of_lt (Nat.lt_of_lt_of_le (F2.ext O59.2).lt B113)
              have ne_y2_r113 : y2 ≠ r113 := Nat.ne_of_lt (Nat.lt_of_lt_of_le (Ey2.ext O59.2).lt B113)
              have ne_k3_r113 : k3 ≠ r113 := Nat.ne_of_lt (Nat.lt_of_lt_of_le (F3.ext O59.2).lt B113)
              have ne_y3_r113 : y3 ≠ r113 := Nat.ne_of_lt (Nat.lt_of_lt_of_le (Ey3.ext O59.2).lt B113)
              have ne_k4_r113 : k4 ≠ r113 := Nat.ne_of_lt (Nat.lt_of_lt_of_le (F4.ext O59.2).lt B113)
              have ne_y4_r113 : y4 ≠ r113 := Nat.ne_of_lt (Nat.lt_of_lt_of_le (Ey4.ext O59.2).lt B113)
              have ne_k5_r113 : k5 ≠ r113 := Nat.ne_of_lt (Nat.lt_of_lt_of_le (F5.ext O59.2).lt B113)
              have ne_y5_r113 : y5 ≠ r113 := Nat.ne_of_lt (Nat.lt_of_lt_of_le (Ey5.ext O59.2).lt B113)
              have g_r113 : n0 ≤ r113 := Nat.le_trans (O59.1 ▸ O59.2.1) B113
              have sz_r113 : h0.size ≤ r113 := Nat.le_trans (own_ks K59) B113
              have f114 : Exa Z T113.heap sx "java/lang/String" := (f60.keep K113q)
              have f115 : Fld Z T113.heap sx "java/lang/String" "value" "[B" (.ref tx) := (f61.keep K113q nin0)
              have f116 : Fld Z T113.heap sx "java/lang/String" "coder" "B" (.int (0 : Int32)) := (f62.keep K113q nin0)
              have f117 : Arv Z T113.heap tx kx .byte Nx vx (.int (0 : Int32)) := (f63.keep K113q nin0)
              have f118 : Arv Z T113.heap r59 kk (.object "com/example/esfahan/esfahan/model/Comparison") (6 : Int32) [(.ref k0), (.ref k1), (.ref k2), (.ref k3), (.ref k4), (.ref k5)] .null := (V59q.keep K113q nin0)
              have O113 := O59.keep K113q all0
              have K113 := K59.trans K113q all0
              refine own_go st113 ?_
              show own_Goes _ _ _ _ _ _ _ (T113.setTop (mkF m 36 #[.val (.ref sx), .val (.ref r59), .val (.int (6 : Int32)), .val (.int (5 : Int32)), .val (.ref k5)] [(.ref r113)]))
              exact own_out X113 hlk (v := some (.ref r113)) (fun h => by rw [hret] at h; cases h) (fun fs hr => retOut X113 hx (t := (.object "java/util/Optional")) hret rfl (Or.inr (Or.inr (Or.inr (Or.inr ⟨rfl, rfl, rfl⟩)))) (hb hby d6_36) hr) rfl ⟨_, rfl, N113, K113, E113q, (by rw [hA5 hc112]; exact P113)⟩ (by decide) (by decide)
            ·
              refine own_go (fun _ ww => Steps.trans st112 ww) ?_
              show own_Goes _ _ _ _ _ _ _ (T112.setTop (mkF m 28 #[.val (.ref sx), .val (.ref r59), .val (.int (6 : Int32)), .val (.int (5 : Int32)), .val (.ref k5)] [(.int (0 : Int32))]))
              refine own_go (fun _ ww => XS.ifYes X112.here hx rfl (pc0 := 28) (pc' := 37) rfl (hb hby d6_28) rfl (own_if .eq (teq (by decide : (0 : Int32) = (0 : Int32))).1) (by decide) (by decide) ww) ?_
              show own_Goes _ _ _ _ _ _ _ (T112.setTop (mkF m 37 #[.val (.ref sx), .val (.ref r59), .val (.int (6 : Int32)), .val (.int (5 : Int32)), .val (.ref k5)] []))
              refine own_go (fun _ ww => XS.iinc X112.here hx rfl (hb hby d6_37) rfl (l' := #[.val (.ref sx), .val (.ref r59), .val (.int (6 : Int32)), .val (.int (6 : Int32)), .val (.ref k5)]) rfl ww) ?_
              show own_Goes _ _ _ _ _ _ _ (T112.setTop (mkF m 40 #[.val (.ref sx), .val (.ref r59), .val (.int (6 : Int32)), .val (.int (6 : Int32)), .val (.ref k5)] []))
              refine own_go (fun _ ww => XS.goto X112.here hx rfl (pc0 := 40) (pc' := 9) rfl (hb hby d6_40) (by decide) (by decide) ww) ?_
              show own_Goes _ _ _ _ _ _ _ (T112.setTop (mkF m 9 #[.val (.ref sx), .val (.ref r59), .val (.int (6 : Int32)), .val (.int (6 : Int32)), .val (.ref k5)] []))
              refine own_go (fun _ ww => XS.iloadN X112.here hx rfl (hb hby d6_9) rfl  ww) ?_
              show own_Goes _ _ _ _ _ _ _ (T112.setTop (mkF m 10 #[.val (.ref sx), .val (.ref r59), .val (.int (6 : Int32)), .val (.int (6 : Int32)), .val (.ref k5)] [(.int (6 : Int32))]))
              refine own_go (fun _ ww => XS.iloadN X112.here hx rfl (hb hby d6_10) rfl  ww) ?_
              show own_Goes _ _ _ _ _ _ _ (T112.setTop (mkF m 11 #[.val (.ref sx), .val (.ref r59), .val (.int (6 : Int32)), .val (.int (6 : Int32)), .val (.ref k5)] [(.int (6 : Int32)), (.int (6 : Int32))]))
              refine own_go (fun _ ww => XS.icmpYes X112.here hx rfl (pc0 := 11) (pc' := 43) rfl (hb hby d6_11) rfl (flt (by decide : ¬ ((6 : Int32) < (6 : Int32)))).2.1 (by decide) (by decide) ww) ?_
              show own_Goes _ _ _ _ _ _ _ (T112.setTop (mkF m 43 #[.val (.ref sx), .val (.ref r59), .val (.int (6 : Int32)), .val (.int (6 : Int32)), .val (.ref k5)] []))
              obtain ⟨_, _, ⟨T119, L119, k119, n119⟩, -, X119, ⟨Lc119, hQ119, l119, y119, z119⟩, st119⟩ := Jvm.LawKit.callS X112 hx (y := (⟨"java/util/Optional", "empty", "()Ljava/util/Optional;"⟩ : MethodName)) hown (mvT hZ (hw _ (List.mem_of_getElem? (i := 67) rfl))) (mvT hZ (hw _ (List.mem_of_getElem? (i := 68) rfl))) (mvT hZ (hw _ (List.mem_of_getElem? (i := 69) rfl))) (mvT hZ (hw _ (List.mem_of_getElem? (i := 70) rfl))) (by decide) (backOf (W := 0) (rm_oemp l Z a0 hw [] aE T59.heap n0 O59 SE) hZ (hw _ (List.mem_of_getElem? (i := 70) rfl)) (hw _ (List.mem_of_getElem? (i := 69) rfl)) (by decide) (by decide)) (g := (mkF m 43 #[.val (.ref sx), .val (.ref r59), .val (.int (6 : Int32)), .val (.int (6 : Int32)), .val (.ref k5)] [])) rfl (by rw [hml]; rfl) (argsL := []) (rest := []) (lenOf pd_6 rfl) rfl (by show 2 * 0 + _ ≤ _; exact Nat.le_of_eq rfl) (hb hby d6_43) (fun _ _ => ⟨rfl, e112, (by decide : 1 + 0 ≤ _), (by decide : 6 + 0 ≤ _)⟩)
              dsimp only [Pt.U, Pt.locs, Pt.cells, Pt.slots] at X119 l119 y119 z119 st119 hQ119
              subst l119 y119 z119
              obtain ⟨rfl, N119q, e119⟩ := hQ119
              have N119 := Fr.app N112 N119q
              refine own_go st119 ?_
              show own_Goes _ _ _ _ _ _ _ (T119.setTop (mkF m 46 #[.val (.ref sx), .val (.ref r59), .val (.int (6 : Int32)), .val (.int (6 : Int32)), .val (.ref k5)] [(.ref aE)]))
              exact own_out X119 hlk (v := some (.ref aE)) (fun h => by rw [hret] at h; cases h) (fun fs hr => retOut X119 hx (t := (.object "java/util/Optional")) hret rfl (Or.inr (Or.inr (Or.inr (Or.inr ⟨rfl, rfl, rfl⟩)))) (hb hby d6_46) hr) e119 ⟨_, rfl, N119, K59, (EE.ext O59.2), (by rw [hAn hc67 hc76 hc85 hc94 hc103 hc112]; exact (FE.ext O59.2))⟩ (by decide) (by decide)
theorem ef_ofn (m : MethodId) (va : Addr) (kk : ClassId) (k0 : Addr) (k1 : Addr) (k2 : Addr) (k3 : Addr) (k4 : Addr) (k5 : Addr) (aE : Addr) (y0 : Addr) (ty0 : Addr) (kb0 : ClassId) (y1 : Addr) (ty1 : Addr) (kb1 : ClassId) (y2 : Addr) (ty2 : Addr) (kb2 : ClassId) (y3 : Addr) (ty3 : Addr) (kb3 : ClassId) (y4 : Addr) (ty4 : Addr) (kb4 : ClassId) (y5 : Addr) (ty5 : Addr) (kb5 : ClassId) (zc : Int32) : entryFrame m #[.null] 5 = mkF m 0 #[.val .null, .unset, .unset, .unset, .unset] [] := by
  first | (simp [entryFrame, mkF, argsToLocals, Value.category]; done) | rfl
def Q_ofn (Z : State) (va : Addr) (kk : ClassId) (k0 : Addr) (k1 : Addr) (k2 : Addr) (k3 : Addr) (k4 : Addr) (k5 : Addr) (aE : Addr) (y0 : Addr) (ty0 : Addr) (kb0 : ClassId) (y1 : Addr) (ty1 : Addr) (kb1 : ClassId) (y2 : Addr) (ty2 : Addr) (kb2 : ClassId) (y3 : Addr) (ty3 : Addr) (kb3 : ClassId) (y4 : Addr) (ty4 : Addr) (kb4 : ClassId) (y5 : Addr) (ty5 : Addr) (kb5 : ClassId) (zc : Int32) (h0 : Heap) (n0 : Nat) (v : Option Value) (h : Heap) (L : List Loc) : Prop := v = some (.ref aE) ∧ Fr n0 L ∧ Keep h0 h []
set_option maxRecDepth 65536 in
set_option maxHeartbeats 40000000 in
theorem rm_ofn (l : Launch) (Z : State) (a0 : Array Value) (hw : ∀ d ∈ tables_1, d.before a0 Z = true) (ws : List Jvm.Cond) (va : Addr) (kk : ClassId) (k0 : Addr) (k1 : Addr) (k2 : Addr) (k3 : Addr) (k4 : Addr) (k5 : Addr) (aE : Addr) (y0 : Addr) (ty0 : Addr) (kb0 : ClassId) (y1 : Addr) (ty1 : Addr) (kb1 : ClassId) (y2 : Addr) (ty2 : Addr) (kb2 : ClassId) (y3 : Addr) (ty3 : Addr) (kb3 : ClassId) (y4 : Addr) (ty4 : Addr) (kb4 : ClassId) (y5 : Addr) (ty5 : Addr) (kb5 : ClassId) (zc : Int32) (h0 : Heap) (n0 : Nat) (O0 : Old Z n0 h0) (SV : Sta Z Z.heap "com/example/esfahan/esfahan/model/Comparison" "$VALUES" "[Lcom/example/esfahan/esfahan/model/Comparison;" (.ref va)) (AV : Arv Z Z.heap va kk (.object "com/example/esfahan/esfahan/model/Comparison") (6 : Int32) [(.ref k0), (.ref k1), (.ref k2), (.ref k3), (.ref k4), (.ref k5)] .null) (EV : Exa Z Z.heap va "[Lcom/example/esfahan/esfahan/model/Comparison;") (SE : Sta Z Z.heap "java/util/Optional" "EMPTY" "Ljava/util/Optional;" (.ref aE)) (EE : Exa Z Z.heap aE "java/util/Optional") (FE : Fld Z Z.heap aE "java/util/Optional" "value" "Ljava/lang/Object;" .null) (F0 : Fld Z Z.heap k0 "com/example/esfahan/esfahan/model/Comparison" "symbol" "Ljava/lang/String;" (.ref y0)) (Ey0 : Exa Z Z.heap y0 "java/lang/String") (Cy0 : Fld Z Z.heap y0 "java/lang/String" "coder" "B" (.int (0 : Int32))) (Vy0 : Fld Z Z.heap y0 "java/lang/String" "value" "[B" (.ref ty0)) (Ky0 : Arv Z Z.heap ty0 kb0 .byte (2 : Int32) [(.int (61 : Int32)), (.int (61 : Int32))] (.int (0 : Int32))) (F1 : Fld Z Z.heap k1 "com/example/esfahan/esfahan/model/Comparison" "symbol" "Ljava/lang/String;" (.ref y1)) (Ey1 : Exa Z Z.heap y1 "java/lang/String") (Cy1 : Fld Z Z.heap y1 "java/lang/String" "coder" "B" (.int (0 : Int32))) (Vy1 : Fld Z Z.heap y1 "java/lang/String" "value" "[B" (.ref ty1)) (Ky1 : Arv Z Z.heap ty1 kb1 .byte (2 : Int32) [(.int (33 : Int32)), (.int (61 : Int32))] (.int (0 : Int32))) (F2 : Fld Z Z.heap k2 "com/example/esfahan/esfahan/model/Comparison" "symbol" "Ljava/lang/String;" (.ref y2)) (Ey2 : Exa Z Z.heap y2 "java/lang/String") (Cy2 : Fld Z Z.heap y2 "java/lang/String" "coder" "B" (.int (0 : Int32))) (Vy2 : Fld Z Z.heap y2 "java/lang/String" "value" "[B" (.ref ty2)) (Ky2 : Arv Z Z.heap ty2 kb2 .byte (1 : Int32) [(.int (60 : Int32))] (.int (0 : Int32))) (F3 : Fld Z Z.heap k3 "com/example/esfahan/esfahan/model/Comparison" "symbol" "Ljava/lang/String;" (.ref y3)) (Ey3 : Exa Z Z.heap y3 "java/lang/String") (Cy3 : Fld Z Z.heap y3 "java/lang/String" "coder" "B" (.int (0 : Int32))) (Vy3 : Fld Z Z.heap y3 "java/lang/String" "value" "[B" (.ref ty3)) (Ky3 : Arv Z Z.heap ty3 kb3 .byte (2 : Int32) [(.int (60 : Int32)), (.int (61 : Int32))] (.int (0 : Int32))) (F4 : Fld Z Z.heap k4 "com/example/esfahan/esfahan/model/Comparison" "symbol" "Ljava/lang/String;" (.ref y4)) (Ey4 : Exa Z Z.heap y4 "java/lang/String") (Cy4 : Fld Z Z.heap y4 "java/lang/String" "coder" "B" (.int (0 : Int32))) (Vy4 : Fld Z Z.heap y4 "java/lang/String" "value" "[B" (.ref ty4)) (Ky4 : Arv Z Z.heap ty4 kb4 .byte (1 : Int32) [(.int (62 : Int32))] (.int (0 : Int32))) (F5 : Fld Z Z.heap k5 "com/example/esfahan/esfahan/model/Comparison" "symbol" "Ljava/lang/String;" (.ref y5)) (Ey5 : Exa Z Z.heap y5 "java/lang/String") (Cy5 : Fld Z Z.heap y5 "java/lang/String" "coder" "B" (.int (0 : Int32))) (Vy5 : Fld Z Z.heap y5 "java/lang/String" "value" "[B" (.ref ty5)) (Ky5 : Arv Z Z.heap ty5 kb5 .byte (2 : Int32) [(.int (62 : Int32)), (.int (61 : Int32))] (.int (0 : Int32))) (SC : Sta Z Z.heap "java/lang/String" "COMPACT_STRINGS" "Z" (.int zc)) (hzc : ¬ zc = 0) :
    MetFree l (⟨"com/example/esfahan/esfahan/model/Comparison", "ofSymbol", "(Ljava/lang/String;)Ljava/util/Optional;"⟩ : MethodName) (head1 (Jvm.Cond.code (⟨"com/example/esfahan/esfahan/model/Comparison", "ofSymbol", "(Ljava/lang/String;)Ljava/util/Optional;"⟩ : MethodName) prog_47_method_4_code 5 (some (.object "java/util/Optional")) :: ws) ({ frames := 2, cells := 1, slots := 6, locals := 25 } : Room)) (fun av_ U => av_ = #[.null] ∧ Z.Warmed39 U.vm ∧ U.heap = h0) (fun _ _ _ _ _ => True) (fun _ U o_ U' => ∃ v L, o_ = .returned v ∧ Q_ofn Z va kk k0 k1 k2 k3 k4 k5 aE y0 ty0 kb0 y1 ty1 kb1 y2 ty2 kb2 y3 ty3 kb3 y4 ty4 kb4 y5 ty5 kb5 zc h0 n0 v U'.heap L ∧ FrameEnd U o_ U' L ({ frames := 2, cells := 1, slots := 6, locals := 25 } : Room).cells ({ frames := 2, cells := 1, slots := 6, locals := 25 } : Room).slots) := by
  refine MetFree.of_bodySF (plainFor_of_name pn_4) hisR ?_
  intro p e s m args below meth c s₁ Bd hml0 hP hK
  obtain ⟨rfl, hZ, hh⟩ := hP
  have hx := Bd.exec
  have hby := Bd.bytes
  have hml : c.maxLocals = 5 := hml0
  have hown : s.vm.findClass "com/example/esfahan/esfahan/model/Comparison" = some m.cls := findClass_of_methodNamed Bd.named
  have hnm := (name_of_methodNamed Bd.named Bd.method).1
  have hlk := own_lk Bd
  have hret := Bd.returns
  have X0 : Stand p l e ({ frames := 2, cells := 1, slots := 6, locals := 25 } : Room) s m #[.null] below meth c s₁ [] 0 0 := Stand.of_body Bd
  have e0 : s₁.heap = h0 := by rw [← hh, Bd.state]; rfl
  have N0 := Fr.nil n0
  show own_Goes p e below s (Q_ofn Z va kk k0 k1 k2 k3 k4 k5 aE y0 ty0 kb0 y1 ty1 kb1 y2 ty2 kb2 y3 ty3 kb3 y4 ty4 kb4 y5 ty5 kb5 zc h0 n0) ({ frames := 2, cells := 1, slots := 6, locals := 25 } : Room).cells ({ frames := 2, cells := 1, slots := 6, locals := 25 } : Room).slots (s₁.setTop (entryFrame m #[.null] 5))
  refine own_go (fun _ ww => castTop (ef_ofn m va kk k0 k1 k2 k3 k4 k5 aE y0 ty0 kb0 y1 ty1 kb1 y2 ty2 kb2 y3 ty3 kb3 y4 ty4 kb4 y5 ty5 kb5 zc) ww) ?_
  show own_Goes _ _ _ _ _ _ _ (s₁.setTop (mkF m 0 #[.val .null, .unset, .unset, .unset, .unset] []))
  obtain ⟨_, _, ⟨T120, L120, k120, n120⟩, -, X120, ⟨Lc120, hQ120, l120, y120, z120⟩, st120⟩ := Jvm.LawKit.callS X0 hx (y := (⟨"com/example/esfahan/esfahan/model/Comparison", "values", "()[Lcom/example/esfahan/esfahan/model/Comparison;"⟩ : MethodName)) hown (mvT hZ (hw _ (List.mem_of_getElem? (i := 33) rfl))) (mvT hZ (hw _ (List.mem_of_getElem? (i := 34) rfl))) (mvT hZ (hw _ (List.mem_of_getElem? (i := 31) rfl))) (mvT hZ (hw _ (List.mem_of_getElem? (i := 35) rfl))) (by decide) (backOf (W := 0) (rm_values l Z a0 hw [] va kk k0 k1 k2 k3 k4 k5 h0 n0 O0 SV AV EV) hZ (hw _ (List.mem_of_getElem? (i := 35) rfl)) (hw _ (List.mem_of_getElem? (i := 31) rfl)) (by decide) (by decide)) (g := (mkF m 0 #[.val .null, .unset, .unset, .unset, .unset] [])) rfl (by rw [hml]; rfl) (argsL := []) (rest := []) (lenOf pd_3 rfl) rfl (by show 2 * 0 + _ ≤ _; exact Nat.le_of_eq rfl) (hb hby d6_0) (fun _ _ => ⟨rfl, e0, (by decide : 0 + 1 ≤ _), (by decide : 0 + 6 ≤ _)⟩)
  dsimp only [Pt.U, Pt.locs, Pt.cells, Pt.slots] at X120 l120 y120 z120 st120 hQ120
  subst l120 y120 z120
  obtain ⟨r120, rfl, N120q, B120, K120q, V120q⟩ := hQ120
  have N120 := Fr.app N0 N120q
  have ne_k0_r120 : k0 ≠ r120 := Nat.ne_of_lt (Nat.lt_of_lt_of_le (F0.ext O0.2).lt B120)
  have ne_y0_r120 : y0 ≠ r120 := Nat.ne_of_lt (Nat.lt_of_lt_of_le (Ey0.ext O0.2).lt B120)
  have ne_k1_r120 : k1 ≠ r120 := Nat.ne_of_lt (Nat.lt_of_lt_of_le (F1.ext O0.2).lt B120)
  have ne_y1_r120 : y1 ≠ r120 := Nat.ne_of_lt (Nat.lt_of_lt_of_le (Ey1.ext O0.2).lt B120)
  have ne_k2_r120 : k2 ≠ r120 := Nat.ne_of_lt (Nat.lt_of_lt_of_le (F2.ext O0.2).lt B120)
  have ne_y2_r120 : y2 ≠ r120 := Nat.ne_of_lt (Nat.lt_of_lt_of_le (Ey2.ext O0.2).lt B120)
  have ne_k3_r120 : k3 ≠ r120 := Nat.ne_of_lt (Nat.lt_of_lt_of_le (F3.ext O0.2).lt B120)
  have ne_y3_r120 : y3 ≠ r120 := Nat.ne_of_lt (Nat.lt_of_lt_of_le (Ey3.ext O0.2).lt B120)
  have ne_k4_r120 : k4 ≠ r120 := Nat.ne_of_lt (Nat.lt_of_lt_of_le (F4.ext O0.2).lt B120)
  have ne_y4_r120 : y4 ≠ r120 := Nat.ne_of_lt (Nat.lt_of_lt_of_le (Ey4.ext O0.2).lt B120)
  have ne_k5_r120 : k5 ≠ r120 := Nat.ne_of_lt (Nat.lt_of_lt_of_le (F5.ext O0.2).lt B120)
  have ne_y5_r120 : y5 ≠ r120 := Nat.ne_of_lt (Nat.lt_of_lt_of_le (Ey5.ext O0.2).lt B120)
  have g_r120 : n0 ≤ r120 := Nat.le_trans (O0.1 ▸ O0.2.1) B120
  have sz_r120 : h0.size ≤ r120 := Nat.le_trans (own_ks (Keep.refl h0 [])) B120
  have O120 := O0.keep K120q all0
  have K120 := (Keep.refl h0 []).trans K120q all0
  refine own_go st120 ?_
  show own_Goes _ _ _ _ _ _ _ (T120.setTop (mkF m 3 #[.val .null, .unset, .unset, .unset, .unset] [(.ref r120)]))
  refine own_go (fun _ ww => XS.astoreN X120.here hx rfl (hb hby d6_3) rfl rfl (l' := #[.val .null, .val (.ref r120), .unset, .unset, .unset]) rfl ww) ?_
  show own_Goes _ _ _ _ _ _ _ (T120.setTop (mkF m 4 #[.val .null, .val (.ref r120), .unset, .unset, .unset] []))
  refine own_go (fun _ ww => XS.aloadN X120.here hx rfl (hb hby d6_4) rfl rfl ww) ?_
  show own_Goes _ _ _ _ _ _ _ (T120.setTop (mkF m 5 #[.val .null, .val (.ref r120), .unset, .unset, .unset] [(.ref r120)]))
  obtain ⟨cl121, Ar121, -, S121, Ng121, -, -⟩ := id V120q
  refine own_go (fun _ ww => X120.arraylength hx Ar121.1 (State.isArrayOf_alike hZ.alike Ar121.2.1) (g := (mkF m 5 #[.val .null, .val (.ref r120), .unset, .unset, .unset] [(.ref r120)])) rfl rfl (hb hby d6_5) _ ww) ?_
  rw [len_of S121 Ng121]
  show own_Goes _ _ _ _ _ _ _ (T120.setTop (mkF m 6 #[.val .null, .val (.ref r120), .unset, .unset, .unset] [(.int (6 : Int32))]))
  refine own_go (fun _ ww => XS.istoreN X120.here hx rfl (hb hby d6_6) rfl (l' := #[.val .null, .val (.ref r120), .val (.int (6 : Int32)), .unset, .unset]) rfl ww) ?_
  show own_Goes _ _ _ _ _ _ _ (T120.setTop (mkF m 7 #[.val .null, .val (.ref r120), .val (.int (6 : Int32)), .unset, .unset] []))
  refine own_go (fun _ ww => XS.iconst X120.here hx rfl (hb hby d6_7) ww) ?_
  show own_Goes _ _ _ _ _ _ _ (T120.setTop (mkF m 8 #[.val .null, .val (.ref r120), .val (.int (6 : Int32)), .unset, .unset] [(.int (0 : Int32))]))
  refine own_go (fun _ ww => XS.istoreN X120.here hx rfl (hb hby d6_8) rfl (l' := #[.val .null, .val (.ref r120), .val (.int (6 : Int32)), .val (.int (0 : Int32)), .unset]) rfl ww) ?_
  show own_Goes _ _ _ _ _ _ _ (T120.setTop (mkF m 9 #[.val .null, .val (.ref r120), .val (.int (6 : Int32)), .val (.int (0 : Int32)), .unset] []))
  refine own_go (fun _ ww => XS.iloadN X120.here hx rfl (hb hby d6_9) rfl  ww) ?_
  show own_Goes _ _ _ _ _ _ _ (T120.setTop (mkF m 10 #[.val .null, .val (.ref r120), .val (.int (6 : Int32)), .val (.int (0 : Int32)), .unset] [(.int (0 : Int32))]))
  refine own_go (fun _ ww => XS.iloadN X120.here hx rfl (hb hby d6_10) rfl  ww) ?_
  show own_Goes _ _ _ _ _ _ _ (T120.setTop (mkF m 11 #[.val .null, .val (.ref r120), .val (.int (6 : Int32)), .val (.int (0 : Int32)), .unset] [(.int (6 : Int32)), (.int (0 : Int32))]))
  refine own_go (fun _ ww => XS.icmpNo X120.here hx rfl (hb hby d6_11) rfl (tlt (by decide : (0 : Int32) < (6 : Int32))).2.1 ww) ?_
  show own_Goes _ _ _ _ _ _ _ (T120.setTop (mkF m 14 #[.val .null, .val (.ref r120), .val (.int (6 : Int32)), .val (.int (0 : Int32)), .unset] []))
  refine own_go (fun _ ww => XS.aloadN X120.here hx rfl (hb hby d6_14) rfl rfl ww) ?_
  show own_Goes _ _ _ _ _ _ _ (T120.setTop (mkF m 15 #[.val .null, .val (.ref r120), .val (.int (6 : Int32)), .val (.int (0 : Int32)), .unset] [(.ref r120)]))
  refine own_go (fun _ ww => XS.iloadN X120.here hx rfl (hb hby d6_15) rfl  ww) ?_
  show own_Goes _ _ _ _ _ _ _ (T120.setTop (mkF m 16 #[.val .null, .val (.ref r120), .val (.int (6 : Int32)), .val (.int (0 : Int32)), .unset] [(.int (0 : Int32)), (.ref r120)]))
  obtain ⟨cl122, Ar122, -, S122, -, H122, -⟩ := id V120q
  have hin122 := inb_of (j := (0 : Int32)) S122 ⟨by decide, by decide⟩
  have hat122 : cl122.slots[((0 : Int32)).toNatClampNeg]? = some (.ref k0) := Has.at H122 hin122 rfl
  refine own_go (fun _ ww => X120.aaload hx (j := (0 : Int32)) (v := (.ref k0)) Ar122.1 (State.isArrayOf_alike hZ.alike Ar122.2.1) rfl Ar122.2.2 hin122 hat122 (g := (mkF m 16 #[.val .null, .val (.ref r120), .val (.int (6 : Int32)), .val (.int (0 : Int32)), .unset] [(.int (0 : Int32)), (.ref r120)])) rfl rfl (hb hby d6_16) _ ww) ?_
  show own_Goes _ _ _ _ _ _ _ (T120.setTop (mkF m 17 #[.val .null, .val (.ref r120), .val (.int (6 : Int32)), .val (.int (0 : Int32)), .unset] [(.ref k0)]))
  refine own_go (fun _ ww => XS.astore X120.here hx rfl (hb hby d6_17) rfl rfl (l' := #[.val .null, .val (.ref r120), .val (.int (6 : Int32)), .val (.int (0 : Int32)), .val (.ref k0)]) rfl ww) ?_
  show own_Goes _ _ _ _ _ _ _ (T120.setTop (mkF m 19 #[.val .null, .val (.ref r120), .val (.int (6 : Int32)), .val (.int (0 : Int32)), .val (.ref k0)] []))
  refine own_go (fun _ ww => XS.aload X120.here hx rfl (hb hby d6_19) rfl rfl ww) ?_
  show own_Goes _ _ _ _ _ _ _ (T120.setTop (mkF m 21 #[.val .null, .val (.ref r120), .val (.int (6 : Int32)), .val (.int (0 : Int32)), .val (.ref k0)] [(.ref k0)]))
  obtain ⟨T123, X123, e123, st123⟩ := getF X120 hx hZ hown (host := "") (Or.inl (hw _ (List.mem_of_getElem? (i := 54) rfl))) Via.refl rfl (F0.ext O120.2) (g := (mkF m 21 #[.val .null, .val (.ref r120), .val (.int (6 : Int32)), .val (.int (0 : Int32)), .val (.ref k0)] [(.ref k0)])) rfl rfl (hb hby d6_21)
  refine own_go st123 ?_
  show own_Goes _ _ _ _ _ _ _ (T123.setTop (mkF m 24 #[.val .null, .val (.ref r120), .val (.int (6 : Int32)), .val (.int (0 : Int32)), .val (.ref k0)] [(.ref y0)]))
  refine own_go (fun _ ww => XS.aloadN X123.here hx rfl (hb hby d6_24) rfl rfl ww) ?_
  show own_Goes _ _ _ _ _ _ _ (T123.setTop (mkF m 25 #[.val .null, .val (.ref r120), .val (.int (6 : Int32)), .val (.int (0 : Int32)), .val (.ref k0)] [.null, (.ref y0)]))
  obtain ⟨cq124, kq124, q124a, q124b, q124c⟩ := isOf hZ e123 (Ey0.ext O120.2)
  obtain ⟨_, _, ⟨T124, L124, k124, n124⟩, -, X124, ⟨Lc124, hQ124, l124, y124, z124⟩, st124⟩ := X123.virtualBack hx (y := (⟨"java/lang/String", "equals", "(Ljava/lang/Object;)Z"⟩ : MethodName)) (z := (⟨"java/lang/String", "equals", "(Ljava/lang/Object;)Z"⟩ : MethodName)) hown (mvT hZ (hw _ (List.mem_of_getElem? (i := 56) rfl))) (mvT hZ (hw _ (List.mem_of_getElem? (i := 57) rfl))) (notFace_of_selects (args := #[]) (mvT hZ (hw _ (List.mem_of_getElem? (i := 59) rfl)))) (mvT hZ (hw _ (List.mem_of_getElem? (i := 59) rfl))) (mvT hZ (hw _ (List.mem_of_getElem? (i := 58) rfl))) (by decide) (backOf (W := 0) (rm_eqn l Z a0 hw [] y0 T120.heap n0 O120 ) hZ (hw _ (List.mem_of_getElem? (i := 60) rfl)) (hw _ (List.mem_of_getElem? (i := 6) rfl)) (by decide) (by decide)) q124a q124c (g := (mkF m 25 #[.val .null, .val (.ref r120), .val (.int (6 : Int32)), .val (.int (0 : Int32)), .val (.ref k0)] [.null, (.ref y0)])) rfl (by rw [hml]; rfl) (Steps.refl _) (argsL := [.null]) (rest := []) (lenOf pd_4 rfl) rfl (by show 2 * 0 + _ ≤ _; exact Nat.le_of_eq rfl) (hb hby d6_25) (fun _ _ => ⟨rfl, e123, (by decide : 1 + 0 ≤ _), (by decide : 6 + 0 ≤ _)⟩)
  dsimp only [Pt.U, Pt.locs, Pt.cells, Pt.slots] at X124 l124 y124 z124 st124 hQ124
  subst l124 y124 z124
  obtain ⟨rfl, N124q, e124⟩ := hQ124
  have N124 := Fr.app N120 N124q
  refine own_go (fun _ ww => Steps.trans st124 ww) ?_
  show own_Goes _ _ _ _ _ _ _ (T124.setTop (mkF m 28 #[.val .null, .val (.ref r120), .val (.int (6 : Int32)), .val (.int (0 : Int32)), .val (.ref k0)] [(.int (0 : Int32))]))
  refine own_go (fun _ ww => XS.ifYes X124.here hx rfl (pc0 := 28) (pc' := 37) rfl (hb hby d6_28) rfl (own_if .eq (teq (by decide : (0 : Int32) = (0 : Int32))).1) (by decide) (by decide) ww) ?_
  show own_Goes _ _ _ _ _ _ _ (T124.setTop (mkF m 37 #[.val .null, .val (.ref r120), .val (.int (6 : Int32)), .val (.int (0 : Int32)), .val (.ref k0)] []))
  refine own_go (fun _ ww => XS.iinc X124.here hx rfl (hb hby d6_37) rfl (l' := #[.val .null, .val (.ref r120), .val (.int (6 : Int32)), .val (.int (1 : Int32)), .val (.ref k0)]) rfl ww) ?_
  show own_Goes _ _ _ _ _ _ _ (T124.setTop (mkF m 40 #[.val .null, .val (.ref r120), .val (.int (6 : Int32)), .val (.int (1 : Int32)), .val (.ref k0)] []))
  refine own_go (fun _ ww => XS.goto X124.here hx rfl (pc0 := 40) (pc' := 9) rfl (hb hby d6_40) (by decide) (by decide) ww) ?_
  show own_Goes _ _ _ _ _ _ _ (T124.setTop (mkF m 9 #[.val .null, .val (.ref r120), .val (.int (6 : Int32)), .val (.int (1 : Int32)), .val (.ref k0)] []))
  refine own_go (fun _ ww => XS.iloadN X124.here hx rfl (hb hby d6_9) rfl  ww) ?_
  show own_Goes _ _ _ _ _ _ _ (T124.setTop (mkF m 10 #[.val .null, .val (.ref r120), .val (.int (6 : Int32)), .val (.int (1 : Int32)), .val (.ref k0)] [(.int (1 : Int32))]))
  refine own_go (fun _ ww => XS.iloadN X124.here hx rfl (hb hby d6_10) rfl  ww) ?_
  show own_Goes _ _ _ _ _ _ _ (T124.setTop (mkF m 11 #[.val .null, .val (.ref r120), .val (.int (6 : Int32)), .val (.int (1 : Int32)), .val (.ref k0)] [(.int (6 : Int32)), (.int (1 : Int32))]))
  refine own_go (fun _ ww => XS.icmpNo X124.here hx rfl (hb hby d6_11) rfl (tlt (by decide : (1 : Int32) < (6 : Int32))).2.1 ww) ?_
  show own_Goes _ _ _ _ _ _ _ (T124.setTop (mkF m 14 #[.val .null, .val (.ref r120), .val (.int (6 : Int32)), .val (.int (1 : Int32)), .val (.ref k0)] []))
  refine own_go (fun _ ww => XS.aloadN X124.here hx rfl (hb hby d6_14) rfl rfl ww) ?_
  show own_Goes _ _ _ _ _ _ _ (T124.setTop (mkF m 15 #[.val .null, .val (.ref r120), .val (.int (6 : Int32)), .val (.int (1 : Int32)), .val (.ref k0)] [(.ref r120)]))
  refine own_go (fun _ ww => XS.iloadN X124.here hx rfl (hb hby d6_15) rfl  ww) ?_
  show own_Goes _ _ _ _ _ _ _ (T124.setTop (mkF m 16 #[.val .null, .val (.ref r120), .val (.int (6 : Int32)), .val (.int (1 : Int32)), .val (.ref k0)] [(.int (1 : Int32)), (.ref r120)]))
  obtain ⟨cl125, Ar125, -, S125, -, H125, -⟩ := id V120q
  have hin125 := inb_of (j := (1 : Int32)) S125 ⟨by decide, by decide⟩
  have hat125 : cl125.slots[((1 : Int32)).toNatClampNeg]? = some (.ref k1) := Has.at H125 hin125 rfl
  refine own_go (fun _ ww => X124.aaload hx (j := (1 : Int32)) (v := (.ref k1)) (by rw [e124]; exact Ar125.1) (State.isArrayOf_alike hZ.alike Ar125.2.1) rfl Ar125.2.2 hin125 hat125 (g := (mkF m 16 #[.val .null, .val (.ref r120), .val (.int (6 : Int32)), .val (.int (1 : Int32)), .val (.ref k0)] [(.int (1 : Int32)), (.ref r120)])) rfl rfl (hb hby d6_16) _ ww) ?_
  show own_Goes _ _ _ _ _ _ _ (T124.setTop (mkF m 17 #[.val .null, .val (.ref r120), .val (.int (6 : Int32)), .val (.int (1 : Int32)), .val (.ref k0)] [(.ref k1)]))
  refine own_go (fun _ ww => XS.astore X124.here hx rfl (hb hby d6_17) rfl rfl (l' := #[.val .null, .val (.ref r120), .val (.int (6 : Int32)), .val (.int (1 : Int32)), .val (.ref k1)]) rfl ww) ?_
  show own_Goes _ _ _ _ _ _ _ (T124.setTop (mkF m 19 #[.val .null, .val (.ref r120), .val (.int (6 : Int32)), .val (.int (1 : Int32)), .val (.ref k1)] []))
  refine own_go (fun _ ww => XS.aload X124.here hx rfl (hb hby d6_19) rfl rfl ww) ?_
  show own_Goes _ _ _ _ _ _ _ (T124.setTop (mkF m 21 #[.val .null, .val (.ref r120), .val (.int (6 : Int32)), .val (.int (1 : Int32)), .val (.ref k1)] [(.ref k1)]))
  obtain ⟨T126, X126, e126, st126⟩ := getF X124 hx hZ hown (host := "") (Or.inl (hw _ (List.mem_of_getElem? (i := 54) rfl))) Via.refl e124 (F1.ext O120.2) (g := (mkF m 21 #[.val .null, .val (.ref r120), .val (.int (6 : Int32)), .val (.int (1 : Int32)), .val (.ref k1)] [(.ref k1)])) rfl rfl (hb hby d6_21)
  refine own_go st126 ?_
  show own_Goes _ _ _ _ _ _ _ (T126.setTop (mkF m 24 #[.val .null, .val (.ref r120), .val (.int (6 : Int32)), .val (.int (1 : Int32)), .val (.ref k1)] [(.ref y1)]))
  refine own_go (fun _ ww => XS.aloadN X126.here hx rfl (hb hby d6_24) rfl rfl ww) ?_
  show own_Goes _ _ _ _ _ _ _ (T126.setTop (mkF m 25 #[.val .null, .val (.ref r120), .val (.int (6 : Int32)), .val (.int (1 : Int32)), .val (.ref k1)] [.null, (.ref y1)]))
  obtain ⟨cq127, kq127, q127a, q127b, q127c⟩ := isOf hZ e126 (Ey1.ext O120.2)
  obtain ⟨_, _, ⟨T127, L127, k127, n127⟩, -, X127, ⟨Lc127, hQ127, l127, y127, z127⟩, st127⟩ := X126.virtualBack hx (y := (⟨"java/lang/String", "equals", "(Ljava/lang/Object;)Z"⟩ : MethodName)) (z := (⟨"java/lang/String", "equals", "(Ljava/lang/Object;)Z"⟩ : MethodName)) hown (mvT hZ (hw _ (List.mem_of_getElem? (i := 56) rfl))) (mvT hZ (hw _ (List.mem_of_getElem? (i := 57) rfl))) (notFace_of_selects (args := #[]) (mvT hZ (hw _ (List.mem_of_getElem? (i := 59) rfl)))) (mvT hZ (hw _ (List.mem_of_getElem? (i := 59) rfl))) (mvT hZ (hw _ (List.mem_of_getElem? (i := 58) rfl))) (by decide) (backOf (W := 0) (rm_eqn l Z a0 hw [] y1 T120.heap n0 O120 ) hZ (hw _ (List.mem_of_getElem? (i := 60) rfl)) (hw _ (List.mem_of_getElem? (i := 6) rfl)) (by decide) (by decide)) q127a q127c (g := (mkF m 25 #[.val .null, .val (.ref r120), .val (.int (6 : Int32)), .val (.int (1 : Int32)), .val (.ref k1)] [.null, (.ref y1)])) rfl (by rw [hml]; rfl) (Steps.refl _) (argsL := [.null]) (rest := []) (lenOf pd_4 rfl) rfl (by show 2 * 0 + _ ≤ _; exact Nat.le_of_eq rfl) (hb hby d6_25) (fun _ _ => ⟨rfl, e126, (by decide : 1 + 0 ≤ _), (by decide : 6 + 0 ≤ _)⟩)
  dsimp only [Pt.U, Pt.locs, Pt.cells, Pt.slots] at X127 l127 y127 z127 st127 hQ127
  subst l127 y127 z127
  obtain ⟨rfl, N127q, e127⟩ := hQ127
  have N127 := Fr.app N124 N127q
  refine own_go (fun _ ww => Steps.trans st127 ww) ?_
  show own_Goes _ _ _ _ _ _ _ (T127.setTop (mkF m 28 #[.val .null, .val (.ref r120), .val (.int (6 : Int32)), .val (.int (1 : Int32)), .val (.ref k1)] [(.int (0 : Int32))]))
  refine own_go (fun _ ww => XS.ifYes X127.here hx rfl (pc0 := 28) (pc' := 37) rfl (hb hby d6_28) rfl (own_if .eq (teq (by decide : (0 : Int32) = (0 : Int32))).1) (by decide) (by decide) ww) ?_
  show own_Goes _ _ _ _ _ _ _ (T127.setTop (mkF m 37 #[.val .null, .val (.ref r120), .val (.int (6 : Int32)), .val (.int (1 : Int32)), .val (.ref k1)] []))
  refine own_go (fun _ ww => XS.iinc X127.here hx rfl (hb hby d6_37) rfl (l' := #[.val .null, .val (.ref r120), .val (.int (6 : Int32)), .val (.int (2 : Int32)), .val (.ref k1)]) rfl ww) ?_
  show own_Goes _ _ _ _ _ _ _ (T127.setTop (mkF m 40 #[.val .null, .val (.ref r120), .val (.int (6 : Int32)), .val (.int (2 : Int32)), .val (.ref k1)] []))
  refine own_go (fun _ ww => XS.goto X127.here hx rfl (pc0 := 40) (pc' := 9) rfl (hb hby d6_40) (by decide) (by decide) ww) ?_
  show own_Goes _ _ _ _ _ _ _ (T127.setTop (mkF m 9 #[.val .null, .val (.ref r120), .val (.int (6 : Int32)), .val (.int (2 : Int32)), .val (.ref k1)] []))
  refine own_go (fun _ ww => XS.iloadN X127.here hx rfl (hb hby d6_9) rfl  ww) ?_
  show own_Goes _ _ _ _ _ _ _ (T127.setTop (mkF m 10 #[.val .null, .val (.ref r120), .val (.int (6 : Int32)), .val (.int (2 : Int32)), .val (.ref k1)] [(.int (2 : Int32))]))
  refine own_go (fun _ ww => XS.iloadN X127.here hx rfl (hb hby d6_10) rfl  ww) ?_
  show own_Goes _ _ _ _ _ _ _ (T127.setTop (mkF m 11 #[.val .null, .val (.ref r120), .val (.int (6 : Int32)), .val (.int (2 : Int32)), .val (.ref k1)] [(.int (6 : Int32)), (.int (2 : Int32))]))
  refine own_go (fun _ ww => XS.icmpNo X127.here hx rfl (hb hby d6_11) rfl (tlt (by decide : (2 : Int32) < (6 : Int32))).2.1 ww) ?_
  show own_Goes _ _ _ _ _ _ _ (T127.setTop (mkF m 14 #[.val .null, .val (.ref r120), .val (.int (6 : Int32)), .val (.int (2 : Int32)), .val (.ref k1)] []))
  refine own_go (fun _ ww => XS.aloadN X127.here hx rfl (hb hby d6_14) rfl rfl ww) ?_
  show own_Goes _ _ _ _ _ _ _ (T127.setTop (mkF m 15 #[.val .null, .val (.ref r120), .val (.int (6 : Int32)), .val (.int (2 : Int32)), .val (.ref k1)] [(.ref r120)]))
  refine own_go (fun _ ww => XS.iloadN X127.here hx rfl (hb hby d6_15) rfl  ww) ?_
  show own_Goes _ _ _ _ _ _ _ (T127.setTop (mkF m 16 #[.val .null, .val (.ref r120), .val (.int (6 : Int32)), .val (.int (2 : Int32)), .val (.ref k1)] [(.int (2 : Int32)), (.ref r120)]))
  obtain ⟨cl128, Ar128, -, S128, -, H128, -⟩ := id V120q
  have hin128 := inb_of (j := (2 : Int32)) S128 ⟨by decide, by decide⟩
  have hat128 : cl128.slots[((2 : Int32)).toNatClampNeg]? = some (.ref k2) := Has.at H128 hin128 rfl
  refine own_go (fun _ ww => X127.aaload hx (j := (2 : Int32)) (v := (.ref k2)) (by rw [e127]; exact Ar128.1) (State.isArrayOf_alike hZ.alike Ar128.2.1) rfl Ar128.2.2 hin128 hat128 (g := (mkF m 16 #[.val .null, .val (.ref r120), .val (.int (6 : Int32)), .val (.int (2 : Int32)), .val (.ref k1)] [(.int (2 : Int32)), (.ref r120)])) rfl rfl (hb hby d6_16) _ ww) ?_
  show own_Goes _ _ _ _ _ _ _ (T127.setTop (mkF m 17 #[.val .null, .val (.ref r120), .val (.int (6 : Int32)), .val (.int (2 : Int32)), .val (.ref k1)] [(.ref k2)]))
  refine own_go (fun _ ww => XS.astore X127.here hx rfl (hb hby d6_17) rfl rfl (l' := #[.val .null, .val (.ref r120), .val (.int (6 : Int32)), .val (.int (2 : Int32)), .val (.ref k2)]) rfl ww) ?_
  show own_Goes _ _ _ _ _ _ _ (T127.setTop (mkF m 19 #[.val .null, .val (.ref r120), .val (.int (6 : Int32)), .val (.int (2 : Int32)), .val (.ref k2)] []))
  refine own_go (fun _ ww => XS.aload X127.here hx rfl (hb hby d6_19) rfl rfl ww) ?_
  show own_Goes _ _ _ _ _ _ _ (T127.setTop (mkF m 21 #[.val .null, .val (.ref r120), .val (.int (6 : Int32)), .val (.int (2 : Int32)), .val (.ref k2)] [(.ref k2)]))
  obtain ⟨T129, X129, e129, st129⟩ := getF X127 hx hZ hown (host := "") (Or.inl (hw _ (List.mem_of_getElem? (i := 54) rfl))) Via.refl e127 (F2.ext O120.2) (g := (mkF m 21 #[.val .null, .val (.ref r120), .val (.int (6 : Int32)), .val (.int (2 : Int32)), .val (.ref k2)] [(.ref k2)])) rfl rfl (hb hby d6_21)
  refine own_go st129 ?_
  show own_Goes _ _ _ _ _ _ _ (T129.setTop (mkF m 24 #[.val .null, .val (.ref r120), .val (.int (6 : Int32)), .val (.int (2 : Int32)), .val (.ref k2)] [(.ref y2)]))
  refine own_go (fun _ ww => XS.aloadN X129.here hx rfl (hb hby d6_24) rfl rfl ww) ?_
  show own_Goes _ _ _ _ _ _ _ (T129.setTop (mkF m 25 #[.val .null, .val (.ref r120), .val (.int (6 : Int32)), .val (.int (2 : Int32)), .val (.ref k2)] [.null, (.ref y2)]))
  obtain ⟨cq130, kq130, q130a, q130b, q130c⟩ := isOf hZ e129 (Ey2.ext O120.2)
  obtain ⟨_, _, ⟨T130, L130, k130, n130⟩, -, X130, ⟨Lc130, hQ130, l130, y130, z130⟩, st130⟩ := X129.virtualBack hx (y := (⟨"java/lang/String", "equals", "(Ljava/lang/Object;)Z"⟩ : MethodName)) (z := (⟨"java/lang/String", "equals", "(Ljava/lang/Object;)Z"⟩ : MethodName)) hown (mvT hZ (hw _ (List.mem_of_getElem? (i := 56) rfl))) (mvT hZ (hw _ (List.mem_of_getElem? (i := 57) rfl))) (notFace_of_selects (args := #[]) (mvT hZ (hw _ (List.mem_of_getElem? (i := 59) rfl)))) (mvT hZ (hw _ (List.mem_of_getElem? (i := 59) rfl))) (mvT hZ (hw _ (List.mem_of_getElem? (i := 58) rfl))) (by decide) (backOf (W := 0) (rm_eqn l Z a0 hw [] y2 T120.heap n0 O120 ) hZ (hw _ (List.mem_of_getElem? (i := 60) rfl)) (hw _ (List.mem_of_getElem? (i := 6) rfl)) (by decide) (by decide)) q130a q130c (g := (mkF m 25 #[.val .null, .val (.ref r120), .val (.int (6 : Int32)), .val (.int (2 : Int32)), .val (.ref k2)] [.null, (.ref y2)])) rfl (by rw [hml]; rfl) (Steps.refl _) (argsL := [.null]) (rest := []) (lenOf pd_4 rfl) rfl (by show 2 * 0 + _ ≤ _; exact Nat.le_of_eq rfl) (hb hby d6_25) (fun _ _ => ⟨rfl, e129, (by decide : 1 + 0 ≤ _), (by decide : 6 + 0 ≤ _)⟩)
  dsimp only [Pt.U, Pt.locs, Pt.cells, Pt.slots] at X130 l130 y130 z130 st130 hQ130
  subst l130 y130 z130
  obtain ⟨rfl, N130q, e130⟩ := hQ130
  have N130 := Fr.app N127 N130q
  refine own_go (fun _ ww => Steps.trans st130 ww) ?_
  show own_Goes _ _ _ _ _ _ _ (T130.setTop (mkF m 28 #[.val .null, .val (.ref r120), .val (.int (6 : Int32)), .val (.int (2 : Int32)), .val (.ref k2)] [(.int (0 : Int32))]))
  refine own_go (fun _ ww => XS.ifYes X130.here hx rfl (pc0 := 28) (pc' := 37) rfl (hb hby d6_28) rfl (own_if .eq (teq (by decide : (0 : Int32) = (0 : Int32))).1) (by decide) (by decide) ww) ?_
  show own_Goes _ _ _ _ _ _ _ (T130.setTop (mkF m 37 #[.val .null, .val (.ref r120), .val (.int (6 : Int32)), .val (.int (2 : Int32)), .val (.ref k2)] []))
  refine own_go (fun _ ww => XS.iinc X130.here hx rfl (hb hby d6_37) rfl (l' := #[.val .null, .val (.ref r120), .val (.int (6 : Int32)), .val (.int (3 : Int32)), .val (.ref k2)]) rfl ww) ?_
  show own_Goes _ _ _ _ _ _ _ (T130.setTop (mkF m 40 #[.val .null, .val (.ref r120), .val (.int (6 : Int32)), .val (.int (3 : Int32)), .val (.ref k2)] []))
  refine own_go (fun _ ww => XS.goto X130.here hx rfl (pc0 := 40) (pc' := 9) rfl (hb hby d6_40) (by decide) (by decide) ww) ?_
  show own_Goes _ _ _ _ _ _ _ (T130.setTop (mkF m 9 #[.val .null, .val (.ref r120), .val (.int (6 : Int32)), .val (.int (3 : Int32)), .val (.ref k2)] []))
  refine own_go (fun _ ww => XS.iloadN X130.here hx rfl (hb hby d6_9) rfl  ww) ?_
  show own_Goes _ _ _ _ _ _ _ (T130.setTop (mkF m 10 #[.val .null, .val (.ref r120), .val (.int (6 : Int32)), .val (.int (3 : Int32)), .val (.ref k2)] [(.int (3 : Int32))]))
  refine own_go (fun _ ww => XS.iloadN X130.here hx rfl (hb hby d6_10) rfl  ww) ?_
  show own_Goes _ _ _ _ _ _ _ (T130.setTop (mkF m 11 #[.val .null, .val (.ref r120), .val (.int (6 : Int32)), .val (.int (3 : Int32)), .val (.ref k2)] [(.int (6 : Int32)), (.int (3 : Int32))]))
  refine own_go (fun _ ww => XS.icmpNo X130.here hx rfl (hb hby d6_11) rfl (tlt (by decide : (3 : Int32) < (6 : Int32))).2.1 ww) ?_
  show own_Goes _ _ _ _ _ _ _ (T130.setTop (mkF m 14 #[.val .null, .val (.ref r120), .val (.int (6 : Int32)), .val (.int (3 : Int32)), .val (.ref k2)] []))
  refine own_go (fun _ ww => XS.aloadN X130.here hx rfl (hb hby d6_14) rfl rfl ww) ?_
  show own_Goes _ _ _ _ _ _ _ (T130.setTop (mkF m 15 #[.val .null, .val (.ref r120), .val (.int (6 : Int32)), .val (.int (3 : Int32)), .val (.ref k2)] [(.ref r120)]))
  refine own_go (fun _ ww => XS.iloadN X130.here hx rfl (hb hby d6_15) rfl  ww) ?_
  show own_Goes _ _ _ _ _ _ _ (T130.setTop (mkF m 16 #[.val .null, .val (.ref r120), .val (.int (6 : Int32)), .val (.int (3 : Int32)), .val (.ref k2)] [(.int (3 : Int32)), (.ref r120)]))
  obtain ⟨cl131, Ar131, -, S131, -, H131, -⟩ := id V120q
  have hin131 := inb_of (j := (3 : Int32)) S131 ⟨by decide, by decide⟩
  have hat131 : cl131.slots[((3 : Int32)).toNatClampNeg]? = some (.ref k3) := Has.at H131 hin131 rfl
  refine own_go (fun _ ww => X130.aaload hx (j := (3 : Int32)) (v := (.ref k3)) (by rw [e130]; exact Ar131.1) (State.isArrayOf_alike hZ.alike Ar131.2.1) rfl Ar131.2.2 hin131 hat131 (g := (mkF m 16 #[.val .null, .val (.ref r120), .val (.int (6 : Int32)), .val (.int (3 : Int32)), .val (.ref k2)] [(.int (3 : Int32)), (.ref r120)])) rfl rfl (hb hby d6_16) _ ww) ?_
  show own_Goes _ _ _ _ _ _ _ (T130.setTop (mkF m 17 #[.val .null, .val (.ref r120), .val (.int (6 : Int32)), .val (.int (3 : Int32)), .val (.ref k2)] [(.ref k3)]))
  refine own_go (fun _ ww => XS.astore X130.here hx rfl (hb hby d6_17) rfl rfl (l' := #[.val .null, .val (.ref r120), .val (.int (6 : Int32)), .val (.int (3 : Int32)), .val (.ref k3)]) rfl ww) ?_
  show own_Goes _ _ _ _ _ _ _ (T130.setTop (mkF m 19 #[.val .null, .val (.ref r120), .val (.int (6 : Int32)), .val (.int (3 : Int32)), .val (.ref k3)] []))
  refine own_go (fun _ ww => XS.aload X130.here hx rfl (hb hby d6_19) rfl rfl ww) ?_
  show own_Goes _ _ _ _ _ _ _ (T130.setTop (mkF m 21 #[.val .null, .val (.ref r120), .val (.int (6 : Int32)), .val (.int (3 : Int32)), .val (.ref k3)] [(.ref k3)]))
  obtain ⟨T132, X132, e132, st132⟩ := getF X130 hx hZ hown (host := "") (Or.inl (hw _ (List.mem_of_getElem? (i := 54) rfl))) Via.refl e130 (F3.ext O120.2) (g := (mkF m 21 #[.val .null, .val (.ref r120), .val (.int (6 : Int32)), .val (.int (3 : Int32)), .val (.ref k3)] [(.ref k3)])) rfl rfl (hb hby d6_21)
  refine own_go st132 ?_
  show own_Goes _ _ _ _ _ _ _ (T132.setTop (mkF m 24 #[.val .null, .val (.ref r120), .val (.int (6 : Int32)), .val (.int (3 : Int32)), .val (.ref k3)] [(.ref y3)]))
  refine own_go (fun _ ww => XS.aloadN X132.here hx rfl (hb hby d6_24) rfl rfl ww) ?_
  show own_Goes _ _ _ _ _ _ _ (T132.setTop (mkF m 25 #[.val .null, .val (.ref r120), .val (.int (6 : Int32)), .val (.int (3 : Int32)), .val (.ref k3)] [.null, (.ref y3)]))
  obtain ⟨cq133, kq133, q133a, q133b, q133c⟩ := isOf hZ e132 (Ey3.ext O120.2)
  obtain ⟨_, _, ⟨T133, L133, k133, n133⟩, -, X133, ⟨Lc133, hQ133, l133, y133, z133⟩, st133⟩ := X132.virtualBack hx (y := (⟨"java/lang/String", "equals", "(Ljava/lang/Object;)Z"⟩ : MethodName)) (z := (⟨"java/lang/String", "equals", "(Ljava/lang/Object;)Z"⟩ : MethodName)) hown (mvT hZ (hw _ (List.mem_of_getElem? (i := 56) rfl))) (mvT hZ (hw _ (List.mem_of_getElem? (i := 57) rfl))) (notFace_of_selects (args := #[]) (mvT hZ (hw _ (List.mem_of_getElem? (i := 59) rfl)))) (mvT hZ (hw _ (List.mem_of_getElem? (i := 59) rfl))) (mvT hZ (hw _ (List.mem_of_getElem? (i := 58) rfl))) (by decide) (backOf (W := 0) (rm_eqn l Z a0 hw [] y3 T120.heap n0 O120 ) hZ (hw _ (List.mem_of_getElem? (i := 60) rfl)) (hw _ (List.mem_of_getElem? (i := 6) rfl)) (by decide) (by decide)) q133a q133c (g := (mkF m 25 #[.val .null, .val (.ref r120), .val (.int (6 : Int32)), .val (.int (3 : Int32)), .val (.ref k3)] [.null, (.ref y3)])) rfl (by rw [hml]; rfl) (Steps.refl _) (argsL := [.null]) (rest := []) (lenOf pd_4 rfl) rfl (by show 2 * 0 + _ ≤ _; exact Nat.le_of_eq rfl) (hb hby d6_25) (fun _ _ => ⟨rfl, e132, (by decide : 1 + 0 ≤ _), (by decide : 6 + 0 ≤ _)⟩)
  dsimp only [Pt.U, Pt.locs, Pt.cells, Pt.slots] at X133 l133 y133 z133 st133 hQ133
  subst l133 y133 z133
  obtain ⟨rfl, N133q, e133⟩ := hQ133
  have N133 := Fr.app N130 N133q
  refine own_go (fun _ ww => Steps.trans st133 ww) ?_
  show own_Goes _ _ _ _ _ _ _ (T133.setTop (mkF m 28 #[.val .null, .val (.ref r120), .val (.int (6 : Int32)), .val (.int (3 : Int32)), .val (.ref k3)] [(.int (0 : Int32))]))
  refine own_go (fun _ ww => XS.ifYes X133.here hx rfl (pc0 := 28) (pc' := 37) rfl (hb hby d6_28) rfl (own_if .eq (teq (by decide : (0 : Int32) = (0 : Int32))).1) (by decide) (by decide) ww) ?_
  show own_Goes _ _ _ _ _ _ _ (T133.setTop (mkF m 37 #[.val .null, .val (.ref r120), .val (.int (6 : Int32)), .val (.int (3 : Int32)), .val (.ref k3)] []))
  refine own_go (fun _ ww => XS.iinc X133.here hx rfl (hb hby d6_37) rfl (l' := #[.val .null, .val (.ref r120), .val (.int (6 : Int32)), .val (.int (4 : Int32)), .val (.ref k3)]) rfl ww) ?_
  show own_Goes _ _ _ _ _ _ _ (T133.setTop (mkF m 40 #[.val .null, .val (.ref r120), .val (.int (6 : Int32)), .val (.int (4 : Int32)), .val (.ref k3)] []))
  refine own_go (fun _ ww => XS.goto X133.here hx rfl (pc0 := 40) (pc' := 9) rfl (hb hby d6_40) (by decide) (by decide) ww) ?_
  show own_Goes _ _ _ _ _ _ _ (T133.setTop (mkF m 9 #[.val .null, .val (.ref r120), .val (.int (6 : Int32)), .val (.int (4 : Int32)), .val (.ref k3)] []))
  refine own_go (fun _ ww => XS.iloadN X133.here hx rfl (hb hby d6_9) rfl  ww) ?_
  show own_Goes _ _ _ _ _ _ _ (T133.setTop (mkF m 10 #[.val .null, .val (.ref r120), .val (.int (6 : Int32)), .val (.int (4 : Int32)), .val (.ref k3)] [(.int (4 : Int32))]))
  refine own_go (fun _ ww => XS.iloadN X133.here hx rfl (hb hby d6_10) rfl  ww) ?_
  show own_Goes _ _ _ _ _ _ _ (T133.setTop (mkF m 11 #[.val .null, .val (.ref r120), .val (.int (6 : Int32)), .val (.int (4 : Int32)), .val (.ref k3)] [(.int (6 : Int32)), (.int (4 : Int32))]))
  refine own_go (fun _ ww => XS.icmpNo X133.here hx rfl (hb hby d6_11) rfl (tlt (by decide : (4 : Int32) < (6 : Int32))).2.1 ww) ?_
  show own_Goes _ _ _ _ _ _ _ (T133.setTop (mkF m 14 #[.val .null, .val (.ref r120), .val (.int (6 : Int32)), .val (.int (4 : Int32)), .val (.ref k3)] []))
  refine own_go (fun _ ww => XS.aloadN X133.here hx rfl (hb hby d6_14) rfl rfl ww) ?_
  show own_Goes _ _ _ _ _ _ _ (T133.setTop (mkF m 15 #[.val .null, .val (.ref r120), .val (.int (6 : Int32)), .val (.int (4 : Int32)), .val (.ref k3)] [(.ref r120)]))
  refine own_go (fun _ ww => XS.iloadN X133.here hx rfl (hb hby d6_15) rfl  ww) ?_
  show own_Goes _ _ _ _ _ _ _ (T133.setTop (mkF m 16 #[.val .null, .val (.ref r120), .val (.int (6 : Int32)), .val (.int (4 : Int32)), .val (.ref k3)] [(.int (4 : Int32)), (.ref r120)]))
  obtain ⟨cl134, Ar134, -, S134, -, H134, -⟩ := id V120q
  have hin134 := inb_of (j := (4 : Int32)) S134 ⟨by decide, by decide⟩
  have hat134 : cl134.slots[((4 : Int32)).toNatClampNeg]? = some (.ref k4) := Has.at H134 hin134 rfl
  refine own_go (fun _ ww => X133.aaload hx (j := (4 : Int32)) (v := (.ref k4)) (by rw [e133]; exact Ar134.1) (State.isArrayOf_alike hZ.alike Ar134.2.1) rfl Ar134.2.2 hin134 hat134 (g := (mkF m 16 #[.val .null, .val (.ref r120), .val (.int (6 : Int32)), .val (.int (4 : Int32)), .val (.ref k3)] [(.int (4 : Int32)), (.ref r120)])) rfl rfl (hb hby d6_16) _ ww) ?_
  show own_Goes _ _ _ _ _ _ _ (T133.setTop (mkF m 17 #[.val .null, .val (.ref r120), .val (.int (6 : Int32)), .val (.int (4 : Int32)), .val (.ref k3)] [(.ref k4)]))
  refine own_go (fun _ ww => XS.astore X133.here hx rfl (hb hby d6_17) rfl rfl (l' := #[.val .null, .val (.ref r120), .val (.int (6 : Int32)), .val (.int (4 : Int32)), .val (.ref k4)]) rfl ww) ?_
  show own_Goes _ _ _ _ _ _ _ (T133.setTop (mkF m 19 #[.val .null, .val (.ref r120), .val (.int (6 : Int32)), .val (.int (4 : Int32)), .val (.ref k4)] []))
  refine own_go (fun _ ww => XS.aload X133.here hx rfl (hb hby d6_19) rfl rfl ww) ?_
  show own_Goes _ _ _ _ _ _ _ (T133.setTop (mkF m 21 #[.val .null, .val (.ref r120), .val (.int (6 : Int32)), .val (.int (4 : Int32)), .val (.ref k4)] [(.ref k4)]))
  obtain ⟨T135, X135, e135, st135⟩ := getF X133 hx hZ hown (host := "") (Or.inl (hw _ (List.mem_of_getElem? (i := 54) rfl))) Via.refl e133 (F4.ext O120.2) (g := (mkF m 21 #[.val .null, .val (.ref r120), .val (.int (6 : Int32)), .val (.int (4 : Int32)), .val (.ref k4)] [(.ref k4)])) rfl rfl (hb hby d6_21)
  refine own_go st135 ?_
  show own_Goes _ _ _ _ _ _ _ (T135.setTop (mkF m 24 #[.val .null, .val (.ref r120), .val (.int (6 : Int32)), .val (.int (4 : Int32)), .val (.ref k4)] [(.ref y4)]))
  refine own_go (fun _ ww => XS.aloadN X135.here hx rfl (hb hby d6_24) rfl rfl ww) ?_
  show own_Goes _ _ _ _ _ _ _ (T135.setTop (mkF m 25 #[.val .null, .val (.ref r120), .val (.int (6 : Int32)), .val (.int (4 : Int32)), .val (.ref k4)] [.null, (.ref y4)]))
  obtain ⟨cq136, kq136, q136a, q136b, q136c⟩ := isOf hZ e135 (Ey4.ext O120.2)
  obtain ⟨_, _, ⟨T136, L136, k136, n136⟩, -, X136, ⟨Lc136, hQ136, l136, y136, z136⟩, st136⟩ := X135.virtualBack hx (y := (⟨"java/lang/String", "equals", "(Ljava/lang/Object;)Z"⟩ : MethodName)) (z := (⟨"java/lang/String", "equals", "(Ljava/lang/Object;)Z"⟩ : MethodName)) hown (mvT hZ (hw _ (List.mem_of_getElem? (i := 56) rfl))) (mvT hZ (hw _ (List.mem_of_getElem? (i := 57) rfl))) (notFace_of_selects (args := #[]) (mvT hZ (hw _ (List.mem_of_getElem? (i := 59) rfl)))) (mvT hZ (hw _ (List.mem_of_getElem? (i := 59) rfl))) (mvT hZ (hw _ (List.mem_of_getElem? (i := 58) rfl))) (by decide) (backOf (W := 0) (rm_eqn l Z a0 hw [] y4 T120.heap n0 O120 ) hZ (hw _ (List.mem_of_getElem? (i := 60) rfl)) (hw _ (List.mem_of_getElem? (i := 6) rfl)) (by decide) (by decide)) q136a q136c (g := (mkF m 25 #[.val .null, .val (.ref r120), .val (.int (6 : Int32)), .val (.int (4 : Int32)), .val (.ref k4)] [.null, (.ref y4)])) rfl (by rw [hml]; rfl) (Steps.refl _) (argsL := [.null]) (rest := []) (lenOf pd_4 rfl) rfl (by show 2 * 0 + _ ≤ _; exact Nat.le_of_eq rfl) (hb hby d6_25) (fun _ _ => ⟨rfl, e135, (by decide : 1 + 0 ≤ _), (by decide : 6 + 0 ≤ _)⟩)
  dsimp only [Pt.U, Pt.locs, Pt.cells, Pt.slots] at X136 l136 y136 z136 st136 hQ136
  subst l136 y136 z136
  obtain ⟨rfl, N136q, e136⟩ := hQ136
  have N136 := Fr.app N133 N136q
  refine own_go (fun _ ww => Steps.trans st136 ww) ?_
  show own_Goes _ _ _ _ _ _ _ (T136.setTop (mkF m 28 #[.val .null, .val (.ref r120), .val (.int (6 : Int32)), .val (.int (4 : Int32)), .val (.ref k4)] [(.int (0 : Int32))]))
  refine own_go (fun _ ww => XS.ifYes X136.here hx rfl (pc0 := 28) (pc' := 37) rfl (hb hby d6_28) rfl (own_if .eq (teq (by decide : (0 : Int32) = (0 : Int32))).1) (by decide) (by decide) ww) ?_
  show own_Goes _ _ _ _ _ _ _ (T136.setTop (mkF m 37 #[.val .null, .val (.ref r120), .val (.int (6 : Int32)), .val (.int (4 : Int32)), .val (.ref k4)] []))
  refine own_go (fun _ ww => XS.iinc X136.here hx rfl (hb hby d6_37) rfl (l' := #[.val .null, .val (.ref r120), .val (.int (6 : Int32)), .val (.int (5 : Int32)), .val (.ref k4)]) rfl ww) ?_
  show own_Goes _ _ _ _ _ _ _ (T136.setTop (mkF m 40 #[.val .null, .val (.ref r120), .val (.int (6 : Int32)), .val (.int (5 : Int32)), .val (.ref k4)] []))
  refine own_go (fun _ ww => XS.goto X136.here hx rfl (pc0 := 40) (pc' := 9) rfl (hb hby d6_40) (by decide) (by decide) ww) ?_
  show own_Goes _ _ _ _ _ _ _ (T136.setTop (mkF m 9 #[.val .null, .val (.ref r120), .val (.int (6 : Int32)), .val (.int (5 : Int32)), .val (.ref k4)] []))
  refine own_go (fun _ ww => XS.iloadN X136.here hx rfl (hb hby d6_9) rfl  ww) ?_
  show own_Goes _ _ _ _ _ _ _ (T136.setTop (mkF m 10 #[.val .null, .val (.ref r120), .val (.int (6 : Int32)), .val (.int (5 : Int32)), .val (.ref k4)] [(.int (5 : Int32))]))
  refine own_go (fun _ ww => XS.iloadN X136.here hx rfl (hb hby d6_10) rfl  ww) ?_
  show own_Goes _ _ _ _ _ _ _ (T136.setTop (mkF m 11 #[.val .null, .val (.ref r120), .val (.int (6 : Int32)), .val (.int (5 : Int32)), .val (.ref k4)] [(.int (6 : Int32)), (.int (5 : Int32))]))
  refine own_go (fun _ ww => XS.icmpNo X136.here hx rfl (hb hby d6_11) rfl (tlt (by decide : (5 : Int32) < (6 : Int32))).2.1 ww) ?_
  show own_Goes _ _ _ _ _ _ _ (T136.setTop (mkF m 14 #[.val .null, .val (.ref r120), .val (.int (6 : Int32)), .val (.int (5 : Int32)), .val (.ref k4)] []))
  refine own_go (fun _ ww => XS.aloadN X136.here hx rfl (hb hby d6_14) rfl rfl ww) ?_
  show own_Goes _ _ _ _ _ _ _ (T136.setTop (mkF m 15 #[.val .null, .val (.ref r120), .val (.int (6 : Int32)), .val (.int (5 : Int32)), .val (.ref k4)] [(.ref r120)]))
  refine own_go (fun _ ww => XS.iloadN X136.here hx rfl (hb hby d6_15) rfl  ww) ?_
  show own_Goes _ _ _ _ _ _ _ (T136.setTop (mkF m 16 #[.val .null, .val (.ref r120), .val (.int (6 : Int32)), .val (.int (5 : Int32)), .val (.ref k4)] [(.int (5 : Int32)), (.ref r120)]))
  obtain ⟨cl137, Ar137, -, S137, -, H137, -⟩ := id V120q
  have hin137 := inb_of (j := (5 : Int32)) S137 ⟨by decide, by decide⟩
  have hat137 : cl137.slots[((5 : Int32)).toNatClampNeg]? = some (.ref k5) := Has.at H137 hin137 rfl
  refine own_go (fun _ ww => X136.aaload hx (j := (5 : Int32)) (v := (.ref k5)) (by rw [e136]; exact Ar137.1) (State.isArrayOf_alike hZ.alike Ar137.2.1) rfl Ar137.2.2 hin137 hat137 (g := (mkF m 16 #[.val .null, .val (.ref r120), .val (.int (6 : Int32)), .val (.int (5 : Int32)), .val (.ref k4)] [(.int (5 : Int32)), (.ref r120)])) rfl rfl (hb hby d6_16) _ ww) ?_
  show own_Goes _ _ _ _ _ _ _ (T136.setTop (mkF m 17 #[.val .null, .val (.ref r120), .val (.int (6 : Int32)), .val (.int (5 : Int32)), .val (.ref k4)] [(.ref k5)]))
  refine own_go (fun _ ww => XS.astore X136.here hx rfl (hb hby d6_17) rfl rfl (l' := #[.val .null, .val (.ref r120), .val (.int (6 : Int32)), .val (.int (5 : Int32)), .val (.ref k5)]) rfl ww) ?_
  show own_Goes _ _ _ _ _ _ _ (T136.setTop (mkF m 19 #[.val .null, .val (.ref r120), .val (.int (6 : Int32)), .val (.int (5 : Int32)), .val (.ref k5)] []))
  refine own_go (fun _ ww => XS.aload X136.here hx rfl (hb hby d6_19) rfl rfl ww) ?_
  show own_Goes _ _ _ _ _ _ _ (T136.setTop (mkF m 21 #[.val .null, .val (.ref r120), .val (.int (6 : Int32)), .val (.int (5 : Int32)), .val (.ref k5)] [(.ref k5)]))
  obtain ⟨T138, X138, e138, st138⟩ := getF X136 hx hZ hown (host := "") (Or.inl (hw _ (List.mem_of_getElem? (i := 54) rfl))) Via.refl e136 (F5.ext O120.2) (g := (mkF m 21 #[.val .null, .val (.ref r120), .val (.int (6 : Int32)), .val (.int (5 : Int32)), .val (.ref k5)] [(.ref k5)])) rfl rfl (hb hby d6_21)
  refine own_go st138 ?_
  show own_Goes _ _ _ _ _ _ _ (T138.setTop (mkF m 24 #[.val .null, .val (.ref r120), .val (.int (6 : Int32)), .val (.int (5 : Int32)), .val (.ref k5)] [(.ref y5)]))
  refine own_go (fun _ ww => XS.aloadN X138.here hx rfl (hb hby d6_24) rfl rfl ww) ?_
  show own_Goes _ _ _ _ _ _ _ (T138.setTop (mkF m 25 #[.val .null, .val (.ref r120), .val (.int (6 : Int32)), .val (.int (5 : Int32)), .val (.ref k5)] [.null, (.ref y5)]))
  obtain ⟨cq139, kq139, q139a, q139b, q139c⟩ := isOf hZ e138 (Ey5.ext O120.2)
  obtain ⟨_, _, ⟨T139, L139, k139, n139⟩, -, X139, ⟨Lc139, hQ139, l139, y139, z139⟩, st139⟩ := X138.virtualBack hx (y := (⟨"java/lang/String", "equals", "(Ljava/lang/Object;)Z"⟩ : MethodName)) (z := (⟨"java/lang/String", "equals", "(Ljava/lang/Object;)Z"⟩ : MethodName)) hown (mvT hZ (hw _ (List.mem_of_getElem? (i := 56) rfl))) (mvT hZ (hw _ (List.mem_of_getElem? (i := 57) rfl))) (notFace_of_selects (args := #[]) (mvT hZ (hw _ (List.mem_of_getElem? (i := 59) rfl)))) (mvT hZ (hw _ (List.mem_of_getElem? (i := 59) rfl))) (mvT hZ (hw _ (List.mem_of_getElem? (i := 58) rfl))) (by decide) (backOf (W := 0) (rm_eqn l Z a0 hw [] y5 T120.heap n0 O120 ) hZ (hw _ (List.mem_of_getElem? (i := 60) rfl)) (hw _ (List.mem_of_getElem? (i := 6) rfl)) (by decide) (by decide)) q139a q139c (g := (mkF m 25 #[.val .null, .val (.ref r120), .val (.int (6 : Int32)), .val (.int (5 : Int32)), .val (.ref k5)] [.null, (.ref y5)])) rfl (by rw [hml]; rfl) (Steps.refl _) (argsL := [.null]) (rest := []) (lenOf pd_4 rfl) rfl (by show 2 * 0 + _ ≤ _; exact Nat.le_of_eq rfl) (hb hby d6_25) (fun _ _ => ⟨rfl, e138, (by decide : 1 + 0 ≤ _), (by decide : 6 + 0 ≤ _)⟩)
  dsimp only [Pt.U, Pt.locs, Pt.cells, Pt.slots] at X139 l139 y139 z139 st139 hQ139
  subst l139 y139 z139
  obtain ⟨rfl, N139q, e139⟩ := hQ139
  have N139 := Fr.app N136 N139q
  refine own_go (fun _ ww => Steps.trans st139 ww) ?_
  show own_Goes _ _ _ _ _ _ _ (T139.setTop (mkF m 28 #[.val .null, .val (.ref r120), .val (.int (6 : Int32)), .val (.int (5 : Int32)), .val (.ref k5)] [(.int (0 : Int32))]))
  refine own_go (fun _ ww => XS.ifYes X139.here hx rfl (pc0 := 28) (pc' := 37) rfl (hb hby d6_28) rfl (own_if .eq (teq (by decide : (0 : Int32) = (0 : Int32))).1) (by decide) (by decide) ww) ?_
  show own_Goes _ _ _ _ _ _ _ (T139.setTop (mkF m 37 #[.val .null, .val (.ref r120), .val (.int (6 : Int32)), .val (.int (5 : Int32)), .val (.ref k5)] []))
  refine own_go (fun _ ww => XS.iinc X139.here hx rfl (hb hby d6_37) rfl (l' := #[.val .null, .val (.ref r120), .val (.int (6 : Int32)), .val (.int (6 : Int32)), .val (.ref k5)]) rfl ww) ?_
  show own_Goes _ _ _ _ _ _ _ (T139.setTop (mkF m 40 #[.val .null, .val (.ref r120), .val (.int (6 : Int32)), .val (.int (6 : Int32)), .val (.ref k5)] []))
  refine own_go (fun _ ww => XS.goto X139.here hx rfl (pc0 := 40) (pc' := 9) rfl (hb hby d6_40) (by decide) (by decide) ww) ?_
  show own_Goes _ _ _ _ _ _ _ (T139.setTop (mkF m 9 #[.val .null, .val (.ref r120), .val (.int (6 : Int32)), .val (.int (6 : Int32)), .val (.ref k5)] []))
  refine own_go (fun _ ww => XS.iloadN X139.here hx rfl (hb hby d6_9) rfl  ww) ?_
  show own_Goes _ _ _ _ _ _ _ (T139.setTop (mkF m 10 #[.val .null, .val (.ref r120), .val (.int (6 : Int32)), .val (.int (6 : Int32)), .val (.ref k5)] [(.int (6 : Int32))]))
  refine own_go (fun _ ww => XS.iloadN X139.here hx rfl (hb hby d6_10) rfl  ww) ?_
  show own_Goes _ _ _ _ _ _ _ (T139.setTop (mkF m 11 #[.val .null, .val (.ref r120), .val (.int (6 : Int32)), .val (.int (6 : Int32)), .val (.ref k5)] [(.int (6 : Int32)), (.int (6 : Int32))]))
  refine own_go (fun _ ww => XS.icmpYes X139.here hx rfl (pc0 := 11) (pc' := 43) rfl (hb hby d6_11) rfl (flt (by decide : ¬ ((6 : Int32) < (6 : Int32)))).2.1 (by decide) (by decide) ww) ?_
  show own_Goes _ _ _ _ _ _ _ (T139.setTop (mkF m 43 #[.val .null, .val (.ref r120), .val (.int (6 : Int32)), .val (.int (6 : Int32)), .val (.ref k5)] []))
  obtain ⟨_, _, ⟨T140, L140, k140, n140⟩, -, X140, ⟨Lc140, hQ140, l140, y140, z140⟩, st140⟩ := Jvm.LawKit.callS X139 hx (y := (⟨"java/util/Optional", "empty", "()Ljava/util/Optional;"⟩ : MethodName)) hown (mvT hZ (hw _ (List.mem_of_getElem? (i := 67) rfl))) (mvT hZ (hw _ (List.mem_of_getElem? (i := 68) rfl))) (mvT hZ (hw _ (List.mem_of_getElem? (i := 69) rfl))) (mvT hZ (hw _ (List.mem_of_getElem? (i := 70) rfl))) (by decide) (backOf (W := 0) (rm_oemp l Z a0 hw [] aE T120.heap n0 O120 SE) hZ (hw _ (List.mem_of_getElem? (i := 70) rfl)) (hw _ (List.mem_of_getElem? (i := 69) rfl)) (by decide) (by decide)) (g := (mkF m 43 #[.val .null, .val (.ref r120), .val (.int (6 : Int32)), .val (.int (6 : Int32)), .val (.ref k5)] [])) rfl (by rw [hml]; rfl) (argsL := []) (rest := []) (lenOf pd_6 rfl) rfl (by show 2 * 0 + _ ≤ _; exact Nat.le_of_eq rfl) (hb hby d6_43) (fun _ _ => ⟨rfl, e139, (by decide : 1 + 0 ≤ _), (by decide : 6 + 0 ≤ _)⟩)
  dsimp only [Pt.U, Pt.locs, Pt.cells, Pt.slots] at X140 l140 y140 z140 st140 hQ140
  subst l140 y140 z140
  obtain ⟨rfl, N140q, e140⟩ := hQ140
  have N140 := Fr.app N139 N140q
  refine own_go st140 ?_
  show own_Goes _ _ _ _ _ _ _ (T140.setTop (mkF m 46 #[.val .null, .val (.ref r120), .val (.int (6 : Int32)), .val (.int (6 : Int32)), .val (.ref k5)] [(.ref aE)]))
  exact own_out X140 hlk (v := some (.ref aE)) (fun h => by rw [hret] at h; cases h) (fun fs hr => retOut X140 hx (t := (.object "java/util/Optional")) hret rfl (Or.inr (Or.inr (Or.inr (Or.inr ⟨rfl, rfl, rfl⟩)))) (hb hby d6_46) hr) e140 ⟨rfl, N140, K120⟩ (by decide) (by decide)
theorem d11_0 : decode jdk_32_method_15_code 0 = .ok (.aload_n 0, 1) := by decide +kernel
theorem d11_1 : decode jdk_32_method_15_code 1 = .ok (.getfield 13, 3) := by decide +kernel
theorem d11_4 : decode jdk_32_method_15_code 4 = .ok (.ifnull 10, 3) := by decide +kernel
theorem d11_14 : decode jdk_32_method_15_code 14 = .ok (.aload_n 1, 1) := by decide +kernel
theorem d11_15 : decode jdk_32_method_15_code 15 = .ok (.areturn, 1) := by decide +kernel
theorem ef_orn (m : MethodId) (r : Addr) : entryFrame m #[(.ref r), .null] 2 = mkF m 0 #[.val (.ref r), .val .null] [] := by
  first | (simp [entryFrame, mkF, argsToLocals, Value.category]; done) | rfl
def Q_orn (Z : State) (r : Addr) (h0 : Heap) (n0 : Nat) (v : Option Value) (h : Heap) (L : List Loc) : Prop := v = some .null ∧ Fr n0 L ∧ h = h0
set_option maxRecDepth 65536 in
set_option maxHeartbeats 40000000 in
theorem rm_orn (l : Launch) (Z : State) (a0 : Array Value) (hw : ∀ d ∈ tables_1, d.before a0 Z = true) (ws : List Jvm.Cond) (r : Addr) (h0 : Heap) (n0 : Nat) (O0 : Old Z n0 h0) (Fr_ : Fld Z h0 r "java/util/Optional" "value" "Ljava/lang/Object;" .null) :
    MetFree l (⟨"java/util/Optional", "orElse", "(Ljava/lang/Object;)Ljava/lang/Object;"⟩ : MethodName) (head1 (Jvm.Cond.code (⟨"java/util/Optional", "orElse", "(Ljava/lang/Object;)Ljava/lang/Object;"⟩ : MethodName) jdk_32_method_15_code 2 (some (.object "java/lang/Object")) :: ws) ({ frames := 0, cells := 0, slots := 0, locals := 0 } : Room)) (fun av_ U => av_ = #[(.ref r), .null] ∧ Z.Warmed39 U.vm ∧ U.heap = h0) (fun _ _ _ _ _ => True) (fun _ U o_ U' => ∃ v L, o_ = .returned v ∧ Q_orn Z r h0 n0 v U'.heap L ∧ FrameEnd U o_ U' L ({ frames := 0, cells := 0, slots := 0, locals := 0 } : Room).cells ({ frames := 0, cells := 0, slots := 0, locals := 0 } : Room).slots) := by
  refine MetFree.of_bodySF (plainFor_of_name pn_2) hisR ?_
  intro p e s m args below meth c s₁ Bd hml0 hP hK
  obtain ⟨rfl, hZ, hh⟩ := hP
  have hx := Bd.exec
  have hby := Bd.bytes
  have hml : c.maxLocals = 2 := hml0
  have hown : s.vm.findClass "java/util/Optional" = some m.cls := findClass_of_methodNamed Bd.named
  have hnm := (name_of_methodNamed Bd.named Bd.method).1
  have hlk := own_lk Bd
  have hret := Bd.returns
  have X0 : Stand p l e ({ frames := 0, cells := 0, slots := 0, locals := 0 } : Room) s m #[(.ref r), .null] below meth c s₁ [] 0 0 := Stand.of_body Bd
  have e0 : s₁.heap = h0 := by rw [← hh, Bd.state]; rfl
  have N0 := Fr.nil n0
  show own_Goes p e below s (Q_orn Z r h0 n0) ({ frames := 0, cells := 0, slots := 0, locals := 0 } : Room).cells ({ frames := 0, cells := 0, slots := 0, locals := 0 } : Room).slots (s₁.setTop (entryFrame m #[(.ref r), .null] 2))
  refine own_go (fun _ ww => castTop (ef_orn m r) ww) ?_
  show own_Goes _ _ _ _ _ _ _ (s₁.setTop (mkF m 0 #[.val (.ref r), .val .null] []))
  refine own_go (fun _ ww => XS.aloadN X0.here hx rfl (hb hby d11_0) rfl rfl ww) ?_
  show own_Goes _ _ _ _ _ _ _ (s₁.setTop (mkF m 1 #[.val (.ref r), .val .null] [(.ref r)]))
  obtain ⟨T141, X141, e141, st141⟩ := getF X0 hx hZ hown (host := "") (Or.inl (hw _ (List.mem_of_getElem? (i := 77) rfl))) Via.refl e0 Fr_ (g := (mkF m 1 #[.val (.ref r), .val .null] [(.ref r)])) rfl rfl (hb hby d11_1)
  refine own_go st141 ?_
  show own_Goes _ _ _ _ _ _ _ (T141.setTop (mkF m 4 #[.val (.ref r), .val .null] [.null]))
  refine own_go (fun _ ww => XS.ifnullYes X141.here hx rfl (pc0 := 4) (pc' := 14) rfl (hb hby d11_4) rfl (by decide) (by decide) ww) ?_
  show own_Goes _ _ _ _ _ _ _ (T141.setTop (mkF m 14 #[.val (.ref r), .val .null] []))
  refine own_go (fun _ ww => XS.aloadN X141.here hx rfl (hb hby d11_14) rfl rfl ww) ?_
  show own_Goes _ _ _ _ _ _ _ (T141.setTop (mkF m 15 #[.val (.ref r), .val .null] [.null]))
  exact own_out X141 hlk (v := some .null) (fun h => by rw [hret] at h; cases h) (fun fs hr => retOut X141 hx (t := (.object "java/lang/Object")) hret rfl (Or.inr (Or.inr (Or.inr (Or.inr ⟨rfl, rfl, rfl⟩)))) (hb hby d11_15) hr) e141 ⟨rfl, N0, rfl⟩ (by decide) (by decide)
theorem d11_7 : decode jdk_32_method_15_code 7 = .ok (.aload_n 0, 1) := by decide +kernel
theorem d11_8 : decode jdk_32_method_15_code 8 = .ok (.getfield 13, 3) := by decide +kernel
theorem d11_11 : decode jdk_32_method_15_code 11 = .ok (.goto 4, 3) := by decide +kernel
theorem ef_orr (m : MethodId) (r : Addr) (o : Addr) : entryFrame m #[(.ref r), .null] 2 = mkF m 0 #[.val (.ref r), .val .null] [] := by
  first | (simp [entryFrame, mkF, argsToLocals, Value.category]; done) | rfl
def Q_orr (Z : State) (r : Addr) (o : Addr) (h0 : Heap) (n0 : Nat) (v : Option Value) (h : Heap) (L : List Loc) : Prop := v = some (.ref o) ∧ Fr n0 L ∧ h = h0
set_option maxRecDepth 65536 in
set_option maxHeartbeats 40000000 in
theorem rm_orr (l : Launch) (Z : State) (a0 : Array Value) (hw : ∀ d ∈ tables_1, d.before a0 Z = true) (ws : List Jvm.Cond) (r : Addr) (o : Addr) (h0 : Heap) (n0 : Nat) (O0 : Old Z n0 h0) (Fr_ : Fld Z h0 r "java/util/Optional" "value" "Ljava/lang/Object;" (.ref o)) :
    MetFree l (⟨"java/util/Optional", "orElse", "(Ljava/lang/Object;)Ljava/lang/Object;"⟩ : MethodName) (head1 (Jvm.Cond.code (⟨"java/util/Optional", "orElse", "(Ljava/lang/Object;)Ljava/lang/Object;"⟩ : MethodName) jdk_32_method_15_code 2 (some (.object "java/lang/Object")) :: ws) ({ frames := 0, cells := 0, slots := 0, locals := 0 } : Room)) (fun av_ U => av_ = #[(.ref r), .null] ∧ Z.Warmed39 U.vm ∧ U.heap = h0) (fun _ _ _ _ _ => True) (fun _ U o_ U' => ∃ v L, o_ = .returned v ∧ Q_orr Z r o h0 n0 v U'.heap L ∧ FrameEnd U o_ U' L ({ frames := 0, cells := 0, slots := 0, locals := 0 } : Room).cells ({ frames := 0, cells := 0, slots := 0, locals := 0 } : Room).slots) := by
  refine MetFree.of_bodySF (plainFor_of_name pn_2) hisR ?_
  intro p e s m args below meth c s₁ Bd hml0 hP hK
  obtain ⟨rfl, hZ, hh⟩ := hP
  have hx := Bd.exec
  have hby := Bd.bytes
  have hml : c.maxLocals = 2 := hml0
  have hown : s.vm.findClass "java/util/Optional" = some m.cls := findClass_of_methodNamed Bd.named
  have hnm := (name_of_methodNamed Bd.named Bd.method).1
  have hlk := own_lk Bd
  have hret := Bd.returns
  have X0 : Stand p l e ({ frames := 0, cells := 0, slots := 0, locals := 0 } : Room) s m #[(.ref r), .null] below meth c s₁ [] 0 0 := Stand.of_body Bd
  have e0 : s₁.heap = h0 := by rw [← hh, Bd.state]; rfl
  have N0 := Fr.nil n0
  show own_Goes p e below s (Q_orr Z r o h0 n0) ({ frames := 0, cells := 0, slots := 0, locals := 0 } : Room).cells ({ frames := 0, cells := 0, slots := 0, locals := 0 } : Room).slots (s₁.setTop (entryFrame m #[(.ref r), .null] 2))
  refine own_go (fun _ ww => castTop (ef_orr m r o) ww) ?_
  show own_Goes _ _ _ _ _ _ _ (s₁.setTop (mkF m 0 #[.val (.ref r), .val .null] []))
  refine own_go (fun _ ww => XS.aloadN X0.here hx rfl (hb hby d11_0) rfl rfl ww) ?_
  show own_Goes _ _ _ _ _ _ _ (s₁.setTop (mkF m 1 #[.val (.ref r), .val .null] [(.ref r)]))
  obtain ⟨T142, X142, e142, st142⟩ := getF X0 hx hZ hown (host := "") (Or.inl (hw _ (List.mem_of_getElem? (i := 77) rfl))) Via.refl e0 Fr_ (g := (mkF m 1 #[.val (.ref r), .val .null] [(.ref r)])) rfl rfl (hb hby d11_1)
  refine own_go st142 ?_
  show own_Goes _ _ _ _ _ _ _ (T142.setTop (mkF m 4 #[.val (.ref r), .val .null] [(.ref o)]))
  refine own_go (fun _ ww => XS.ifnullNo X142.here hx rfl (hb hby d11_4) rfl ww) ?_
  show own_Goes _ _ _ _ _ _ _ (T142.setTop (mkF m 7 #[.val (.ref r), .val .null] []))
  refine own_go (fun _ ww => XS.aloadN X142.here hx rfl (hb hby d11_7) rfl rfl ww) ?_
  show own_Goes _ _ _ _ _ _ _ (T142.setTop (mkF m 8 #[.val (.ref r), .val .null] [(.ref r)]))
  obtain ⟨T143, X143, e143, st143⟩ := getF X142 hx hZ hown (host := "") (Or.inl (hw _ (List.mem_of_getElem? (i := 77) rfl))) Via.refl e142 Fr_ (g := (mkF m 8 #[.val (.ref r), .val .null] [(.ref r)])) rfl rfl (hb hby d11_8)
  refine own_go st143 ?_
  show own_Goes _ _ _ _ _ _ _ (T143.setTop (mkF m 11 #[.val (.ref r), .val .null] [(.ref o)]))
  refine own_go (fun _ ww => XS.goto X143.here hx rfl (pc0 := 11) (pc' := 15) rfl (hb hby d11_11) (by decide) (by decide) ww) ?_
  show own_Goes _ _ _ _ _ _ _ (T143.setTop (mkF m 15 #[.val (.ref r), .val .null] [(.ref o)]))
  exact own_out X143 hlk (v := some (.ref o)) (fun h => by rw [hret] at h; cases h) (fun fs hr => retOut X143 hx (t := (.object "java/lang/Object")) hret rfl (Or.inr (Or.inr (Or.inr (Or.inr ⟨rfl, rfl, rfl⟩)))) (hb hby d11_15) hr) e143 ⟨rfl, N0, rfl⟩ (by decide) (by decide)
theorem ef_law (m : MethodId) (x0 : Int32) (x1 : Int32) (x2 : Int32) (x3 : Int32) (va : Addr) (kk : ClassId) (k0 : Addr) (k1 : Addr) (k2 : Addr) (k3 : Addr) (k4 : Addr) (k5 : Addr) (aE : Addr) (y0 : Addr) (ty0 : Addr) (kb0 : ClassId) (y1 : Addr) (ty1 : Addr) (kb1 : ClassId) (y2 : Addr) (ty2 : Addr) (kb2 : ClassId) (y3 : Addr) (ty3 : Addr) (kb3 : ClassId) (y4 : Addr) (ty4 : Addr) (kb4 : ClassId) (y5 : Addr) (ty5 : Addr) (kb5 : ClassId) (zc : Int32) : entryFrame m #[(.int x0), (.int x1), (.int x2), (.int x3)] maxLocals = mkF m 0 #[.val (.int x0), .val (.int x1), .val (.int x2), .val (.int x3), .unset, .unset, .unset, .unset, .unset, .unset, .unset] [] := by
  first | (simp [entryFrame, mkF, argsToLocals, Value.category, maxLocals]; done) | rfl
def Q_law (Z : State) (x0 : Int32) (x1 : Int32) (x2 : Int32) (x3 : Int32) (va : Addr) (kk : ClassId) (k0 : Addr) (k1 : Addr) (k2 : Addr) (k3 : Addr) (k4 : Addr) (k5 : Addr) (aE : Addr) (y0 : Addr) (ty0 : Addr) (kb0 : ClassId) (y1 : Addr) (ty1 : Addr) (kb1 : ClassId) (y2 : Addr) (ty2 : Addr) (kb2 : ClassId) (y3 : Addr) (ty3 : Addr) (kb3 : ClassId) (y4 : Addr) (ty4 : Addr) (kb4 : ClassId) (y5 : Addr) (ty5 : Addr) (kb5 : ClassId) (zc : Int32) (h0 : Heap) (n0 : Nat) (v : Option Value) (h : Heap) (vm : Vm) (L : List Loc) : Prop := v = some (.int 1) ∧ Fr n0 L
set_option maxRecDepth 65536 in
set_option maxHeartbeats 40000000 in
theorem rm_law (l : Launch) (Z : State) (a0 : Array Value) (hw : ∀ d ∈ tables_1, d.before a0 Z = true) (ws : List Jvm.Cond) (x0 : Int32) (x1 : Int32) (x2 : Int32) (x3 : Int32) (va : Addr) (kk : ClassId) (k0 : Addr) (k1 : Addr) (k2 : Addr) (k3 : Addr) (k4 : Addr) (k5 : Addr) (aE : Addr) (y0 : Addr) (ty0 : Addr) (kb0 : ClassId) (y1 : Addr) (ty1 : Addr) (kb1 : ClassId) (y2 : Addr) (ty2 : Addr) (kb2 : ClassId) (y3 : Addr) (ty3 : Addr) (kb3 : ClassId) (y4 : Addr) (ty4 : Addr) (kb4 : ClassId) (y5 : Addr) (ty5 : Addr) (kb5 : ClassId) (zc : Int32) (h0 : Heap) (n0 : Nat) (O0 : Old Z n0 h0) (SV : Sta Z Z.heap "com/example/esfahan/esfahan/model/Comparison" "$VALUES" "[Lcom/example/esfahan/esfahan/model/Comparison;" (.ref va)) (AV : Arv Z Z.heap va kk (.object "com/example/esfahan/esfahan/model/Comparison") (6 : Int32) [(.ref k0), (.ref k1), (.ref k2), (.ref k3), (.ref k4), (.ref k5)] .null) (EV : Exa Z Z.heap va "[Lcom/example/esfahan/esfahan/model/Comparison;") (SE : Sta Z Z.heap "java/util/Optional" "EMPTY" "Ljava/util/Optional;" (.ref aE)) (EE : Exa Z Z.heap aE "java/util/Optional") (FE : Fld Z Z.heap aE "java/util/Optional" "value" "Ljava/lang/Object;" .null) (F0 : Fld Z Z.heap k0 "com/example/esfahan/esfahan/model/Comparison" "symbol" "Ljava/lang/String;" (.ref y0)) (Ey0 : Exa Z Z.heap y0 "java/lang/String") (Cy0 : Fld Z Z.heap y0 "java/lang/String" "coder" "B" (.int (0 : Int32))) (Vy0 : Fld Z Z.heap y0 "java/lang/String" "value" "[B" (.ref ty0)) (Ky0 : Arv Z Z.heap ty0 kb0 .byte (2 : Int32) [(.int (61 : Int32)), (.int (61 : Int32))] (.int (0 : Int32))) (F1 : Fld Z Z.heap k1 "com/example/esfahan/esfahan/model/Comparison" "symbol" "Ljava/lang/String;" (.ref y1)) (Ey1 : Exa Z Z.heap y1 "java/lang/String") (Cy1 : Fld Z Z.heap y1 "java/lang/String" "coder" "B" (.int (0 : Int32))) (Vy1 : Fld Z Z.heap y1 "java/lang/String" "value" "[B" (.ref ty1)) (Ky1 : Arv Z Z.heap ty1 kb1 .byte (2 : Int32) [(.int (33 : Int32)), (.int (61 : Int32))] (.int (0 : Int32))) (F2 : Fld Z Z.heap k2 "com/example/esfahan/esfahan/model/Comparison" "symbol" "Ljava/lang/String;" (.ref y2)) (Ey2 : Exa Z Z.heap y2 "java/lang/String") (Cy2 : Fld Z Z.heap y2 "java/lang/String" "coder" "B" (.int (0 : Int32))) (Vy2 : Fld Z Z.heap y2 "java/lang/String" "value" "[B" (.ref ty2)) (Ky2 : Arv Z Z.heap ty2 kb2 .byte (1 : Int32) [(.int (60 : Int32))] (.int (0 : Int32))) (F3 : Fld Z Z.heap k3 "com/example/esfahan/esfahan/model/Comparison" "symbol" "Ljava/lang/String;" (.ref y3)) (Ey3 : Exa Z Z.heap y3 "java/lang/String") (Cy3 : Fld Z Z.heap y3 "java/lang/String" "coder" "B" (.int (0 : Int32))) (Vy3 : Fld Z Z.heap y3 "java/lang/String" "value" "[B" (.ref ty3)) (Ky3 : Arv Z Z.heap ty3 kb3 .byte (2 : Int32) [(.int (60 : Int32)), (.int (61 : Int32))] (.int (0 : Int32))) (F4 : Fld Z Z.heap k4 "com/example/esfahan/esfahan/model/Comparison" "symbol" "Ljava/lang/String;" (.ref y4)) (Ey4 : Exa Z Z.heap y4 "java/lang/String") (Cy4 : Fld Z Z.heap y4 "java/lang/String" "coder" "B" (.int (0 : Int32))) (Vy4 : Fld Z Z.heap y4 "java/lang/String" "value" "[B" (.ref ty4)) (Ky4 : Arv Z Z.heap ty4 kb4 .byte (1 : Int32) [(.int (62 : Int32))] (.int (0 : Int32))) (F5 : Fld Z Z.heap k5 "com/example/esfahan/esfahan/model/Comparison" "symbol" "Ljava/lang/String;" (.ref y5)) (Ey5 : Exa Z Z.heap y5 "java/lang/String") (Cy5 : Fld Z Z.heap y5 "java/lang/String" "coder" "B" (.int (0 : Int32))) (Vy5 : Fld Z Z.heap y5 "java/lang/String" "value" "[B" (.ref ty5)) (Ky5 : Arv Z Z.heap ty5 kb5 .byte (2 : Int32) [(.int (62 : Int32)), (.int (61 : Int32))] (.int (0 : Int32))) (SC : Sta Z Z.heap "java/lang/String" "COMPACT_STRINGS" "Z" (.int zc)) (hzc : ¬ zc = 0) (S0 : Sta Z Z.heap "com/example/esfahan/esfahan/model/Comparison" "EQUAL" "Lcom/example/esfahan/esfahan/model/Comparison;" (.ref k0)) (S1 : Sta Z Z.heap "com/example/esfahan/esfahan/model/Comparison" "NOT_EQUAL" "Lcom/example/esfahan/esfahan/model/Comparison;" (.ref k1)) (S2 : Sta Z Z.heap "com/example/esfahan/esfahan/model/Comparison" "LESS" "Lcom/example/esfahan/esfahan/model/Comparison;" (.ref k2)) (S3 : Sta Z Z.heap "com/example/esfahan/esfahan/model/Comparison" "AT_MOST" "Lcom/example/esfahan/esfahan/model/Comparison;" (.ref k3)) (S4 : Sta Z Z.heap "com/example/esfahan/esfahan/model/Comparison" "GREATER" "Lcom/example/esfahan/esfahan/model/Comparison;" (.ref k4)) (S5 : Sta Z Z.heap "com/example/esfahan/esfahan/model/Comparison" "AT_LEAST" "Lcom/example/esfahan/esfahan/model/Comparison;" (.ref k5)) (hh7 : Jvm.Lit.constHeld Z "java/lang/String" 7) (hcw : Jvm.Lit.compactW.before a0 Z = true) :
    MetFree l x (head1 (Jvm.Cond.code x code maxLocals ret :: ws) room_1) (fun av_ U => av_ = #[(.int x0), (.int x1), (.int x2), (.int x3)] ∧ Z.Warmed39 U.vm ∧ U.heap = h0 ∧ (fun vm_ : Vm => IB Z vm_ []) U.vm) (fun _ _ _ _ _ => True) (fun _ U o_ U' => ∃ v L, o_ = .returned v ∧ Q_law Z x0 x1 x2 x3 va kk k0 k1 k2 k3 k4 k5 aE y0 ty0 kb0 y1 ty1 kb1 y2 ty2 kb2 y3 ty3 kb3 y4 ty4 kb4 y5 ty5 kb5 zc h0 n0 v U'.heap U'.vm L ∧ ReturnedEndW U o_ U' L room_1.cells room_1.slots) := by
  refine MetFree.of_bodySF (plainFor_of_name pn_3) hisR ?_
  intro p e s m args below meth c s₁ Bd hml0 hP hK
  obtain ⟨rfl, hZ, hh, hVI⟩ := hP
  have hZ : Z.Warmed39 (s.setVm s.vm).vm := hZ
  have hx := Bd.exec
  have hby := Bd.bytes
  have hml : c.maxLocals = 11 := hml0
  have hown : (s.setVm s.vm).vm.findClass "com/example/esfahan/esfahan/model/ComparisonOfSymbolPinLaw" = some m.cls := findClass_of_methodNamed Bd.named
  have hnm := (name_of_methodNamed Bd.named Bd.method).1
  have hlk := own_lk Bd
  have hret := Bd.returns
  have X0 : Stand p l e room_1 (s.setVm s.vm) m #[(.int x0), (.int x1), (.int x2), (.int x3)] below meth c s₁ [] 0 0 := Stand.of_body Bd
  have e0 : s₁.heap = h0 := by rw [← hh, Bd.state]; rfl
  have N0 := Fr.nil n0
  have hS : s.Since s.vm h0.size := (State.WarmedH.refl s).since _
  have hk : h0.size ≤ h0.size := Nat.le_refl _
  show own_GoesW p e below s (Q_law Z x0 x1 x2 x3 va kk k0 k1 k2 k3 k4 k5 aE y0 ty0 kb0 y1 ty1 kb1 y2 ty2 kb2 y3 ty3 kb3 y4 ty4 kb4 y5 ty5 kb5 zc h0 n0) room_1.cells room_1.slots (s₁.setTop (entryFrame m #[(.int x0), (.int x1), (.int x2), (.int x3)] maxLocals))
  refine own_goW (fun _ ww => castTop (ef_law m x0 x1 x2 x3 va kk k0 k1 k2 k3 k4 k5 aE y0 ty0 kb0 y1 ty1 kb1 y2 ty2 kb2 y3 ty3 kb3 y4 ty4 kb4 y5 ty5 kb5 zc) ww) ?_
  have hI : IB Z s.vm [] := hVI
  show own_GoesW _ _ _ _ _ _ _ (s₁.setTop (mkF m 0 #[.val (.int x0), .val (.int x1), .val (.int x2), .val (.int x3), .unset, .unset, .unset, .unset, .unset, .unset, .unset] []))
  refine own_goW (fun _ ww => XS.iloadN X0.here hx rfl (hb hby at_0) rfl  ww) ?_
  show own_GoesW _ _ _ _ _ _ _ (s₁.setTop (mkF m 1 #[.val (.int x0), .val (.int x1), .val (.int x2), .val (.int x3), .unset, .unset, .unset, .unset, .unset, .unset, .unset] [(.int x1)]))
  obtain ⟨_, _, ⟨T144, L144, k144, n144⟩, -, X144, ⟨Lc144, hQ144, l144, y144, z144⟩, st144⟩ := Jvm.LawKit.callS X0 hx (y := (⟨"com/example/esfahan/esfahan/model/ComparisonOfSymbolPinLaw", "pick", "(I)C"⟩ : MethodName)) hown (mvT hZ (hw _ (List.mem_of_getElem? (i := 0) rfl))) (mvT hZ (hw _ (List.mem_of_getElem? (i := 1) rfl))) (mvT hZ (hw _ (List.mem_of_getElem? (i := 2) rfl))) (mvT hZ (hw _ (List.mem_of_getElem? (i := 3) rfl))) (by decide) (backOf (W := 0) (rm_pick l Z a0 hw [] x1 h0 n0 O0 ) hZ (hw _ (List.mem_of_getElem? (i := 3) rfl)) (hw _ (List.mem_of_getElem? (i := 2) rfl)) (by decide) (by decide)) (g := (mkF m 1 #[.val (.int x0), .val (.int x1), .val (.int x2), .val (.int x3), .unset, .unset, .unset, .unset, .unset, .unset, .unset] [(.int x1)])) rfl (by rw [hml]; rfl) (argsL := [(.int x1)]) (rest := []) (lenOf pd_7 rfl) rfl (by show 2 * 0 + _ ≤ _; exact Nat.le_of_eq rfl) (hb hby at_1) (fun _ _ => ⟨rfl, e0, (by decide : 0 + 0 ≤ _), (by decide : 0 + 0 ≤ _)⟩)
  dsimp only [Pt.U, Pt.locs, Pt.cells, Pt.slots] at X144 l144 y144 z144 st144 hQ144
  subst l144 y144 z144
  obtain ⟨c0, rfl, N144q, e144, bc0⟩ := hQ144
  have N144 := Fr.app N0 N144q
  refine own_goW st144 ?_
  show own_GoesW _ _ _ _ _ _ _ (T144.setTop (mkF m 4 #[.val (.int x0), .val (.int x1), .val (.int x2), .val (.int x3), .unset, .unset, .unset, .unset, .unset, .unset, .unset] [(.int c0)]))
  refine own_goW (fun _ ww => XS.istore X144.here hx rfl (hb hby at_4) rfl (l' := #[.val (.int x0), .val (.int x1), .val (.int x2), .val (.int x3), .val (.int c0), .unset, .unset, .unset, .unset, .unset, .unset]) rfl ww) ?_
  show own_GoesW _ _ _ _ _ _ _ (T144.setTop (mkF m 6 #[.val (.int x0), .val (.int x1), .val (.int x2), .val (.int x3), .val (.int c0), .unset, .unset, .unset, .unset, .unset, .unset] []))
  refine own_goW (fun _ ww => XS.iloadN X144.here hx rfl (hb hby at_6) rfl  ww) ?_
  show own_GoesW _ _ _ _ _ _ _ (T144.setTop (mkF m 7 #[.val (.int x0), .val (.int x1), .val (.int x2), .val (.int x3), .val (.int c0), .unset, .unset, .unset, .unset, .unset, .unset] [(.int x2)]))
  obtain ⟨_, _, ⟨T145, L145, k145, n145⟩, -, X145, ⟨Lc145, hQ145, l145, y145, z145⟩, st145⟩ := Jvm.LawKit.callS X144 hx (y := (⟨"com/example/esfahan/esfahan/model/ComparisonOfSymbolPinLaw", "pick", "(I)C"⟩ : MethodName)) hown (mvT hZ (hw _ (List.mem_of_getElem? (i := 0) rfl))) (mvT hZ (hw _ (List.mem_of_getElem? (i := 1) rfl))) (mvT hZ (hw _ (List.mem_of_getElem? (i := 2) rfl))) (mvT hZ (hw _ (List.mem_of_getElem? (i := 3) rfl))) (by decide) (backOf (W := 0) (rm_pick l Z a0 hw [] x2 h0 n0 O0 ) hZ (hw _ (List.mem_of_getElem? (i := 3) rfl)) (hw _ (List.mem_of_getElem? (i := 2) rfl)) (by decide) (by decide)) (g := (mkF m 7 #[.val (.int x0), .val (.int x1), .val (.int x2), .val (.int x3), .val (.int c0), .unset, .unset, .unset, .unset, .unset, .unset] [(.int x2)])) rfl (by rw [hml]; rfl) (argsL := [(.int x2)]) (rest := []) (lenOf pd_7 rfl) rfl (by show 2 * 0 + _ ≤ _; exact Nat.le_of_eq rfl) (hb hby at_7) (fun _ _ => ⟨rfl, e144, (by decide : 0 + 0 ≤ _), (by decide : 0 + 0 ≤ _)⟩)
  dsimp only [Pt.U, Pt.locs, Pt.cells, Pt.slots] at X145 l145 y145 z145 st145 hQ145
  subst l145 y145 z145
  obtain ⟨c1, rfl, N145q, e145, bc1⟩ := hQ145
  have N145 := Fr.app N144 N145q
  refine own_goW st145 ?_
  show own_GoesW _ _ _ _ _ _ _ (T145.setTop (mkF m 10 #[.val (.int x0), .val (.int x1), .val (.int x2), .val (.int x3), .val (.int c0), .unset, .unset, .unset, .unset, .unset, .unset] [(.int c1)]))
  refine own_goW (fun _ ww => XS.istore X145.here hx rfl (hb hby at_10) rfl (l' := #[.val (.int x0), .val (.int x1), .val (.int x2), .val (.int x3), .val (.int c0), .val (.int c1), .unset, .unset, .unset, .unset, .unset]) rfl ww) ?_
  show own_GoesW _ _ _ _ _ _ _ (T145.setTop (mkF m 12 #[.val (.int x0), .val (.int x1), .val (.int x2), .val (.int x3), .val (.int c0), .val (.int c1), .unset, .unset, .unset, .unset, .unset] []))
  refine own_goW (fun _ ww => XS.iloadN X145.here hx rfl (hb hby at_12) rfl  ww) ?_
  show own_GoesW _ _ _ _ _ _ _ (T145.setTop (mkF m 13 #[.val (.int x0), .val (.int x1), .val (.int x2), .val (.int x3), .val (.int c0), .val (.int c1), .unset, .unset, .unset, .unset, .unset] [(.int x3)]))
  obtain ⟨_, _, ⟨T146, L146, k146, n146⟩, -, X146, ⟨Lc146, hQ146, l146, y146, z146⟩, st146⟩ := Jvm.LawKit.callS X145 hx (y := (⟨"com/example/esfahan/esfahan/model/ComparisonOfSymbolPinLaw", "pick", "(I)C"⟩ : MethodName)) hown (mvT hZ (hw _ (List.mem_of_getElem? (i := 0) rfl))) (mvT hZ (hw _ (List.mem_of_getElem? (i := 1) rfl))) (mvT hZ (hw _ (List.mem_of_getElem? (i := 2) rfl))) (mvT hZ (hw _ (List.mem_of_getElem? (i := 3) rfl))) (by decide) (backOf (W := 0) (rm_pick l Z a0 hw [] x3 h0 n0 O0 ) hZ (hw _ (List.mem_of_getElem? (i := 3) rfl)) (hw _ (List.mem_of_getElem? (i := 2) rfl)) (by decide) (by decide)) (g := (mkF m 13 #[.val (.int x0), .val (.int x1), .val (.int x2), .val (.int x3), .val (.int c0), .val (.int c1), .unset, .unset, .unset, .unset, .unset] [(.int x3)])) rfl (by rw [hml]; rfl) (argsL := [(.int x3)]) (rest := []) (lenOf pd_7 rfl) rfl (by show 2 * 0 + _ ≤ _; exact Nat.le_of_eq rfl) (hb hby at_13) (fun _ _ => ⟨rfl, e145, (by decide : 0 + 0 ≤ _), (by decide : 0 + 0 ≤ _)⟩)
  dsimp only [Pt.U, Pt.locs, Pt.cells, Pt.slots] at X146 l146 y146 z146 st146 hQ146
  subst l146 y146 z146
  obtain ⟨c2, rfl, N146q, e146, bc2⟩ := hQ146
  have N146 := Fr.app N145 N146q
  refine own_goW st146 ?_
  show own_GoesW _ _ _ _ _ _ _ (T146.setTop (mkF m 16 #[.val (.int x0), .val (.int x1), .val (.int x2), .val (.int x3), .val (.int c0), .val (.int c1), .unset, .unset, .unset, .unset, .unset] [(.int c2)]))
  refine own_goW (fun _ ww => XS.istore X146.here hx rfl (hb hby at_16) rfl (l' := #[.val (.int x0), .val (.int x1), .val (.int x2), .val (.int x3), .val (.int c0), .val (.int c1), .val (.int c2), .unset, .unset, .unset, .unset]) rfl ww) ?_
  show own_GoesW _ _ _ _ _ _ _ (T146.setTop (mkF m 18 #[.val (.int x0), .val (.int x1), .val (.int x2), .val (.int x3), .val (.int c0), .val (.int c1), .val (.int c2), .unset, .unset, .unset, .unset] []))
  refine own_goW (fun _ ww => XS.iloadN X146.here hx rfl (hb hby at_18) rfl  ww) ?_
  show own_GoesW _ _ _ _ _ _ _ (T146.setTop (mkF m 19 #[.val (.int x0), .val (.int x1), .val (.int x2), .val (.int x3), .val (.int c0), .val (.int c1), .val (.int c2), .unset, .unset, .unset, .unset] [(.int x0)]))
  refine own_goW (fun _ ww => XS.bipush X146.here hx rfl (hb hby at_19) ww) ?_
  show own_GoesW _ _ _ _ _ _ _ (T146.setTop (mkF m 21 #[.val (.int x0), .val (.int x1), .val (.int x2), .val (.int x3), .val (.int c0), .val (.int c1), .val (.int c2), .unset, .unset, .unset, .unset] [(.int (7 : Int32)), (.int x0)]))
  refine own_goW (fun _ ww => XS.iand X146.here hx rfl (hb hby at_21) rfl ww) ?_
  show own_GoesW _ _ _ _ _ _ _ (T146.setTop (mkF m 22 #[.val (.int x0), .val (.int x1), .val (.int x2), .val (.int x3), .val (.int c0), .val (.int c1), .val (.int c2), .unset, .unset, .unset, .unset] [(.int (x0 &&& (7 : Int32)))]))
  generalize (x0 &&& (7 : Int32)) = sel
  show own_GoesW _ _ _ _ _ _ _ (T146.setTop (mkF m 22 #[.val (.int x0), .val (.int x1), .val (.int x2), .val (.int x3), .val (.int c0), .val (.int c1), .val (.int c2), .unset, .unset, .unset, .unset] [(.int sel)]))
  refine own_goW (fun _ ww => XS.istore X146.here hx rfl (hb hby at_22) rfl (l' := #[.val (.int x0), .val (.int x1), .val (.int x2), .val (.int x3), .val (.int c0), .val (.int c1), .val (.int c2), .val (.int sel), .unset, .unset, .unset]) rfl ww) ?_
  show own_GoesW _ _ _ _ _ _ _ (T146.setTop (mkF m 24 #[.val (.int x0), .val (.int x1), .val (.int x2), .val (.int x3), .val (.int c0), .val (.int c1), .val (.int c2), .val (.int sel), .unset, .unset, .unset] []))
  refine own_goW (fun _ ww => XS.iload X146.here hx rfl (hb hby at_24) rfl  ww) ?_
  show own_GoesW _ _ _ _ _ _ _ (T146.setTop (mkF m 26 #[.val (.int x0), .val (.int x1), .val (.int x2), .val (.int x3), .val (.int c0), .val (.int c1), .val (.int c2), .val (.int sel), .unset, .unset, .unset] [(.int sel)]))
  refine own_goW (fun _ ww => XS.bipush X146.here hx rfl (hb hby at_26) ww) ?_
  show own_GoesW _ _ _ _ _ _ _ (T146.setTop (mkF m 28 #[.val (.int x0), .val (.int x1), .val (.int x2), .val (.int x3), .val (.int c0), .val (.int c1), .val (.int c2), .val (.int sel), .unset, .unset, .unset] [(.int (7 : Int32)), (.int sel)]))
  by_cases hc147 : sel = (7 : Int32)
  ·
    refine own_goW (fun _ ww => XS.icmpNo X146.here hx rfl (hb hby at_28) rfl (teq hc147).2 ww) ?_
    show own_GoesW _ _ _ _ _ _ _ (T146.setTop (mkF m 31 #[.val (.int x0), .val (.int x1), .val (.int x2), .val (.int x3), .val (.int c0), .val (.int c1), .val (.int c2), .val (.int sel), .unset, .unset, .unset] []))
    refine own_goW (fun _ ww => XS.aconstNull X146.here hx rfl (hb hby at_31) ww) ?_
    show own_GoesW _ _ _ _ _ _ _ (T146.setTop (mkF m 32 #[.val (.int x0), .val (.int x1), .val (.int x2), .val (.int x3), .val (.int c0), .val (.int c1), .val (.int c2), .val (.int sel), .unset, .unset, .unset] [.null]))
    refine own_goW (fun _ ww => XS.astore X146.here hx rfl (hb hby at_32) rfl rfl (l' := #[.val (.int x0), .val (.int x1), .val (.int x2), .val (.int x3), .val (.int c0), .val (.int c1), .val (.int c2), .val (.int sel), .val .null, .unset, .unset]) rfl ww) ?_
    show own_GoesW _ _ _ _ _ _ _ (T146.setTop (mkF m 34 #[.val (.int x0), .val (.int x1), .val (.int x2), .val (.int x3), .val (.int c0), .val (.int c1), .val (.int c2), .val (.int sel), .val .null, .unset, .unset] []))
    refine own_goW (fun _ ww => XS.aconstNull X146.here hx rfl (hb hby at_34) ww) ?_
    show own_GoesW _ _ _ _ _ _ _ (T146.setTop (mkF m 35 #[.val (.int x0), .val (.int x1), .val (.int x2), .val (.int x3), .val (.int c0), .val (.int c1), .val (.int c2), .val (.int sel), .val .null, .unset, .unset] [.null]))
    refine own_goW (fun _ ww => XS.astore X146.here hx rfl (hb hby at_35) rfl rfl (l' := #[.val (.int x0), .val (.int x1), .val (.int x2), .val (.int x3), .val (.int c0), .val (.int c1), .val (.int c2), .val (.int sel), .val .null, .val .null, .unset]) rfl ww) ?_
    show own_GoesW _ _ _ _ _ _ _ (T146.setTop (mkF m 37 #[.val (.int x0), .val (.int x1), .val (.int x2), .val (.int x3), .val (.int c0), .val (.int c1), .val (.int c2), .val (.int sel), .val .null, .val .null, .unset] []))
    refine own_goW (fun _ ww => XS.goto X146.here hx rfl (pc0 := 37) (pc' := 161) rfl (hb hby at_37) (by decide) (by decide) ww) ?_
    show own_GoesW _ _ _ _ _ _ _ (T146.setTop (mkF m 161 #[.val (.int x0), .val (.int x1), .val (.int x2), .val (.int x3), .val (.int c0), .val (.int c1), .val (.int c2), .val (.int sel), .val .null, .val .null, .unset] []))
    refine own_goW (fun _ ww => XS.aload X146.here hx rfl (hb hby at_161) rfl rfl ww) ?_
    show own_GoesW _ _ _ _ _ _ _ (T146.setTop (mkF m 163 #[.val (.int x0), .val (.int x1), .val (.int x2), .val (.int x3), .val (.int c0), .val (.int c1), .val (.int c2), .val (.int sel), .val .null, .val .null, .unset] [.null]))
    obtain ⟨_, _, ⟨T148, L148, k148, n148⟩, -, X148, ⟨Lc148, hQ148, l148, y148, z148⟩, st148⟩ := Jvm.LawKit.callS X146 hx (y := (⟨"com/example/esfahan/esfahan/model/Comparison", "ofSymbol", "(Ljava/lang/String;)Ljava/util/Optional;"⟩ : MethodName)) hown (mvT hZ (hw _ (List.mem_of_getElem? (i := 29) rfl))) (mvT hZ (hw _ (List.mem_of_getElem? (i := 30) rfl))) (mvT hZ (hw _ (List.mem_of_getElem? (i := 31) rfl))) (mvT hZ (hw _ (List.mem_of_getElem? (i := 32) rfl))) (by decide) (backOf (W := 0) (rm_ofn l Z a0 hw [] va kk k0 k1 k2 k3 k4 k5 aE y0 ty0 kb0 y1 ty1 kb1 y2 ty2 kb2 y3 ty3 kb3 y4 ty4 kb4 y5 ty5 kb5 zc h0 n0 O0 SV AV EV SE EE FE F0 Ey0 Cy0 Vy0 Ky0 F1 Ey1 Cy1 Vy1 Ky1 F2 Ey2 Cy2 Vy2 Ky2 F3 Ey3 Cy3 Vy3 Ky3 F4 Ey4 Cy4 Vy4 Ky4 F5 Ey5 Cy5 Vy5 Ky5 SC hzc) hZ (hw _ (List.mem_of_getElem? (i := 32) rfl)) (hw _ (List.mem_of_getElem? (i := 31) rfl)) (by decide) (by decide)) (g := (mkF m 163 #[.val (.int x0), .val (.int x1), .val (.int x2), .val (.int x3), .val (.int c0), .val (.int c1), .val (.int c2), .val (.int sel), .val .null, .val .null, .unset] [.null])) rfl (by rw [hml]; rfl) (argsL := [.null]) (rest := []) (lenOf pd_8 rfl) rfl (by show 2 * 0 + _ ≤ _; exact Nat.le_of_eq rfl) (hb hby at_163) (fun _ _ => ⟨rfl, e146, (by decide : 0 + 1 ≤ _), (by decide : 0 + 6 ≤ _)⟩)
    dsimp only [Pt.U, Pt.locs, Pt.cells, Pt.slots] at X148 l148 y148 z148 st148 hQ148
    subst l148 y148 z148
    obtain ⟨rfl, N148q, K148q⟩ := hQ148
    have N148 := Fr.app N146 N148q
    have hk := Nat.le_trans hk (own_ks K148q)
    have O148 := O0.keep K148q all0
    refine own_goW st148 ?_
    show own_GoesW _ _ _ _ _ _ _ (T148.setTop (mkF m 166 #[.val (.int x0), .val (.int x1), .val (.int x2), .val (.int x3), .val (.int c0), .val (.int c1), .val (.int c2), .val (.int sel), .val .null, .val .null, .unset] [(.ref aE)]))
    refine own_goW (fun _ ww => XS.astore X148.here hx rfl (hb hby at_166) rfl rfl (l' := #[.val (.int x0), .val (.int x1), .val (.int x2), .val (.int x3), .val (.int c0), .val (.int c1), .val (.int c2), .val (.int sel), .val .null, .val .null, .val (.ref aE)]) rfl ww) ?_
    show own_GoesW _ _ _ _ _ _ _ (T148.setTop (mkF m 168 #[.val (.int x0), .val (.int x1), .val (.int x2), .val (.int x3), .val (.int c0), .val (.int c1), .val (.int c2), .val (.int sel), .val .null, .val .null, .val (.ref aE)] []))
    refine own_goW (fun _ ww => XS.aload X148.here hx rfl (hb hby at_168) rfl rfl ww) ?_
    show own_GoesW _ _ _ _ _ _ _ (T148.setTop (mkF m 170 #[.val (.int x0), .val (.int x1), .val (.int x2), .val (.int x3), .val (.int c0), .val (.int c1), .val (.int c2), .val (.int sel), .val .null, .val .null, .val (.ref aE)] [(.ref aE)]))
    refine own_goW (fun _ ww => XS.ifnullNo X148.here hx rfl (hb hby at_170) rfl ww) ?_
    show own_GoesW _ _ _ _ _ _ _ (T148.setTop (mkF m 173 #[.val (.int x0), .val (.int x1), .val (.int x2), .val (.int x3), .val (.int c0), .val (.int c1), .val (.int c2), .val (.int sel), .val .null, .val .null, .val (.ref aE)] []))
    refine own_goW (fun _ ww => XS.aload X148.here hx rfl (hb hby at_173) rfl rfl ww) ?_
    show own_GoesW _ _ _ _ _ _ _ (T148.setTop (mkF m 175 #[.val (.int x0), .val (.int x1), .val (.int x2), .val (.int x3), .val (.int c0), .val (.int c1), .val (.int c2), .val (.int sel), .val .null, .val .null, .val (.ref aE)] [(.ref aE)]))
    refine own_goW (fun _ ww => XS.aconstNull X148.here hx rfl (hb hby at_175) ww) ?_
    show own_GoesW _ _ _ _ _ _ _ (T148.setTop (mkF m 176 #[.val (.int x0), .val (.int x1), .val (.int x2), .val (.int x3), .val (.int c0), .val (.int c1), .val (.int c2), .val (.int sel), .val .null, .val .null, .val (.ref aE)] [.null, (.ref aE)]))
    obtain ⟨cq149, kq149, q149a, q149b, q149c⟩ := isOf hZ rfl (EE.ext O148.2)
    obtain ⟨_, _, ⟨T149, L149, k149, n149⟩, -, X149, ⟨Lc149, hQ149, l149, y149, z149⟩, st149⟩ := X148.virtualBack hx (y := (⟨"java/util/Optional", "orElse", "(Ljava/lang/Object;)Ljava/lang/Object;"⟩ : MethodName)) (z := (⟨"java/util/Optional", "orElse", "(Ljava/lang/Object;)Ljava/lang/Object;"⟩ : MethodName)) hown (mvT hZ (hw _ (List.mem_of_getElem? (i := 72) rfl))) (mvT hZ (hw _ (List.mem_of_getElem? (i := 73) rfl))) (notFace_of_selects (args := #[]) (mvT hZ (hw _ (List.mem_of_getElem? (i := 75) rfl)))) (mvT hZ (hw _ (List.mem_of_getElem? (i := 75) rfl))) (mvT hZ (hw _ (List.mem_of_getElem? (i := 74) rfl))) (by decide) (backOf (W := 0) (rm_orn l Z a0 hw [] aE T148.heap n0 O148 (FE.ext O148.2)) hZ (hw _ (List.mem_of_getElem? (i := 76) rfl)) (hw _ (List.mem_of_getElem? (i := 69) rfl)) (by decide) (by decide)) q149a q149c (g := (mkF m 176 #[.val (.int x0), .val (.int x1), .val (.int x2), .val (.int x3), .val (.int c0), .val (.int c1), .val (.int c2), .val (.int sel), .val .null, .val .null, .val (.ref aE)] [.null, (.ref aE)])) rfl (by rw [hml]; rfl) (Steps.refl _) (argsL := [.null]) (rest := []) (lenOf pd_1 rfl) rfl (by show 2 * 0 + _ ≤ _; exact Nat.le_of_eq rfl) (hb hby at_176) (fun _ _ => ⟨rfl, rfl, (by decide : 1 + 0 ≤ _), (by decide : 6 + 0 ≤ _)⟩)
    dsimp only [Pt.U, Pt.locs, Pt.cells, Pt.slots] at X149 l149 y149 z149 st149 hQ149
    subst l149 y149 z149
    obtain ⟨rfl, N149q, e149⟩ := hQ149
    have N149 := Fr.app N148 N149q
    refine own_goW (fun _ ww => Steps.trans st149 ww) ?_
    show own_GoesW _ _ _ _ _ _ _ (T149.setTop (mkF m 179 #[.val (.int x0), .val (.int x1), .val (.int x2), .val (.int x3), .val (.int c0), .val (.int c1), .val (.int c2), .val (.int sel), .val .null, .val .null, .val (.ref aE)] [.null]))
    refine own_goW (fun _ ww => XS.aload X149.here hx rfl (hb hby at_179) rfl rfl ww) ?_
    show own_GoesW _ _ _ _ _ _ _ (T149.setTop (mkF m 181 #[.val (.int x0), .val (.int x1), .val (.int x2), .val (.int x3), .val (.int c0), .val (.int c1), .val (.int c2), .val (.int sel), .val .null, .val .null, .val (.ref aE)] [.null, .null]))
    refine own_goW (fun _ ww => XT.acmpNo X149.here hx rfl (hb hby at_181) rfl rfl rfl (XT.aa_ne_f rfl) ww) ?_
    show own_GoesW _ _ _ _ _ _ _ (T149.setTop (mkF m 184 #[.val (.int x0), .val (.int x1), .val (.int x2), .val (.int x3), .val (.int c0), .val (.int c1), .val (.int c2), .val (.int sel), .val .null, .val .null, .val (.ref aE)] []))
    refine own_goW (fun _ ww => XS.iconst X149.here hx rfl (hb hby at_184) ww) ?_
    show own_GoesW _ _ _ _ _ _ _ (T149.setTop (mkF m 185 #[.val (.int x0), .val (.int x1), .val (.int x2), .val (.int x3), .val (.int c0), .val (.int c1), .val (.int c2), .val (.int sel), .val .null, .val .null, .val (.ref aE)] [(.int (1 : Int32))]))
    refine own_goW (fun _ ww => XS.goto X149.here hx rfl (pc0 := 185) (pc' := 189) rfl (hb hby at_185) (by decide) (by decide) ww) ?_
    show own_GoesW _ _ _ _ _ _ _ (T149.setTop (mkF m 189 #[.val (.int x0), .val (.int x1), .val (.int x2), .val (.int x3), .val (.int c0), .val (.int c1), .val (.int c2), .val (.int sel), .val .null, .val .null, .val (.ref aE)] [(.int (1 : Int32))]))
    exact own_outW X149 hS hk hlk (v := some (.int (1 : Int32))) (fun h => by rw [hret] at h; cases h) (fun fs hr => retOut X149 hx (t := .boolean) hret (by decide) (Or.inl ⟨rfl, by simp, _, rfl⟩) (hb hby at_189) hr) e149 ⟨rfl, N149⟩ (by decide) (by decide)
  ·
    refine own_goW (fun _ ww => XS.icmpYes X146.here hx rfl (pc0 := 28) (pc' := 40) rfl (hb hby at_28) rfl (feq hc147).2 (by decide) (by decide) ww) ?_
    show own_GoesW _ _ _ _ _ _ _ (T146.setTop (mkF m 40 #[.val (.int x0), .val (.int x1), .val (.int x2), .val (.int x3), .val (.int c0), .val (.int c1), .val (.int c2), .val (.int sel), .unset, .unset, .unset] []))
    refine own_goW (fun _ ww => XS.iload X146.here hx rfl (hb hby at_40) rfl  ww) ?_
    show own_GoesW _ _ _ _ _ _ _ (T146.setTop (mkF m 42 #[.val (.int x0), .val (.int x1), .val (.int x2), .val (.int x3), .val (.int c0), .val (.int c1), .val (.int c2), .val (.int sel), .unset, .unset, .unset] [(.int sel)]))
    refine own_goW (fun _ ww => XS.iconst X146.here hx rfl (hb hby at_42) ww) ?_
    show own_GoesW _ _ _ _ _ _ _ (T146.setTop (mkF m 43 #[.val (.int x0), .val (.int x1), .val (.int x2), .val (.int x3), .val (.int c0), .val (.int c1), .val (.int c2), .val (.int sel), .unset, .unset, .unset] [(.int (3 : Int32)), (.int sel)]))
    refine own_goW (fun _ ww => XS.iand X146.here hx rfl (hb hby at_43) rfl ww) ?_
    show own_GoesW _ _ _ _ _ _ _ (T146.setTop (mkF m 44 #[.val (.int x0), .val (.int x1), .val (.int x2), .val (.int x3), .val (.int c0), .val (.int c1), .val (.int c2), .val (.int sel), .unset, .unset, .unset] [(.int (sel &&& (3 : Int32)))]))
    rcases own_and3 sel with hk3 | hk3 | hk3 | hk3
    ·
      rw [hk3]
      show own_GoesW _ _ _ _ _ _ _ (T146.setTop (mkF m 44 #[.val (.int x0), .val (.int x1), .val (.int x2), .val (.int x3), .val (.int c0), .val (.int c1), .val (.int c2), .val (.int sel), .unset, .unset, .unset] [(.int (0 : Int32))]))
      refine own_goW (fun _ ww => XS.istore X146.here hx rfl (hb hby at_44) rfl (l' := #[.val (.int x0), .val (.int x1), .val (.int x2), .val (.int x3), .val (.int c0), .val (.int c1), .val (.int c2), .val (.int sel), .unset, .unset, .val (.int (0 : Int32))]) rfl ww) ?_
      show own_GoesW _ _ _ _ _ _ _ (T146.setTop (mkF m 46 #[.val (.int x0), .val (.int x1), .val (.int x2), .val (.int x3), .val (.int c0), .val (.int c1), .val (.int c2), .val (.int sel), .unset, .unset, .val (.int (0 : Int32))] []))
      refine own_goW (fun _ ww => XS.iload X146.here hx rfl (hb hby at_46) rfl  ww) ?_
      show own_GoesW _ _ _ _ _ _ _ (T146.setTop (mkF m 48 #[.val (.int x0), .val (.int x1), .val (.int x2), .val (.int x3), .val (.int c0), .val (.int c1), .val (.int c2), .val (.int sel), .unset, .unset, .val (.int (0 : Int32))] [(.int (0 : Int32))]))
      refine own_goW (fun _ ww => XS.ifNo X146.here hx rfl (hb hby at_48) rfl (own_if .ne (teq (by decide : (0 : Int32) = (0 : Int32))).2) ww) ?_
      show own_GoesW _ _ _ _ _ _ _ (T146.setTop (mkF m 51 #[.val (.int x0), .val (.int x1), .val (.int x2), .val (.int x3), .val (.int c0), .val (.int c1), .val (.int c2), .val (.int sel), .unset, .unset, .val (.int (0 : Int32))] []))
      obtain ⟨T150, h150, X150, e150, E150, A150, D150, -, st150⟩ := newO X146 hx hZ hown (hw _ (List.mem_of_getElem? (i := 4) rfl)) (hw _ (List.mem_of_getElem? (i := 5) rfl)) (hw _ (List.mem_of_getElem? (i := 6) rfl)) e146 (g := (mkF m 51 #[.val (.int x0), .val (.int x1), .val (.int x2), .val (.int x3), .val (.int c0), .val (.int c1), .val (.int c2), .val (.int sel), .unset, .unset, .val (.int (0 : Int32))] [])) rfl (hb hby at_51) (by decide) (by decide)
      obtain ⟨b150, g150⟩ : ∃ z, z = h0.size := ⟨_, rfl⟩
      rw [← g150] at A150 D150 st150
      have ne_k0_b150 : k0 ≠ b150 := Nat.ne_of_lt (Nat.lt_of_lt_of_le (F0.ext O0.2).lt (Nat.le_of_eq g150.symm))
      have ne_y0_b150 : y0 ≠ b150 := Nat.ne_of_lt (Nat.lt_of_lt_of_le (Ey0.ext O0.2).lt (Nat.le_of_eq g150.symm))
      have ne_k1_b150 : k1 ≠ b150 := Nat.ne_of_lt (Nat.lt_of_lt_of_le (F1.ext O0.2).lt (Nat.le_of_eq g150.symm))
      have ne_y1_b150 : y1 ≠ b150 := Nat.ne_of_lt (Nat.lt_of_lt_of_le (Ey1.ext O0.2).lt (Nat.le_of_eq g150.symm))
      have ne_k2_b150 : k2 ≠ b150 := Nat.ne_of_lt (Nat.lt_of_lt_of_le (F2.ext O0.2).lt (Nat.le_of_eq g150.symm))
      have ne_y2_b150 : y2 ≠ b150 := Nat.ne_of_lt (Nat.lt_of_lt_of_le (Ey2.ext O0.2).lt (Nat.le_of_eq g150.symm))
      have ne_k3_b150 : k3 ≠ b150 := Nat.ne_of_lt (Nat.lt_of_lt_of_le (F3.ext O0.2).lt (Nat.le_of_eq g150.symm))
      have ne_y3_b150 : y3 ≠ b150 := Nat.ne_of_lt (Nat.lt_of_lt_of_le (Ey3.ext O0.2).lt (Nat.le_of_eq g150.symm))
      have ne_k4_b150 : k4 ≠ b150 := Nat.ne_of_lt (Nat.lt_of_lt_of_le (F4.ext O0.2).lt (Nat.le_of_eq g150.symm))
      have ne_y4_b150 : y4 ≠ b150 := Nat.ne_of_lt (Nat.lt_of_lt_of_le (Ey4.ext O0.2).lt (Nat.le_of_eq g150.symm))
      have ne_k5_b150 : k5 ≠ b150 := Nat.ne_of_lt (Nat.lt_of_lt_of_le (F5.ext O0.2).lt (Nat.le_of_eq g150.symm))
      have ne_y5_b150 : y5 ≠ b150 := Nat.ne_of_lt (Nat.lt_of_lt_of_le (Ey5.ext O0.2).lt (Nat.le_of_eq g150.symm))
      have ne_aE_b150 : aE ≠ b150 := Nat.ne_of_lt (Nat.lt_of_lt_of_le (EE.ext O0.2).lt (Nat.le_of_eq g150.symm))
      have g_b150 : n0 ≤ b150 := Nat.le_trans (O0.1 ▸ O0.2.1) (Nat.le_of_eq g150.symm)
      have O150 := O0.ext E150
      have hk := Nat.le_trans hk E150.1
      have f151 : Fld Z h150 b150 "java/lang/String" "value" "[B" .null := D150 (Or.inr (hw _ (List.mem_of_getElem? (i := 20) rfl))) (ty := (.array .byte)) (by decide)
      have f152 : Fld Z h150 b150 "java/lang/String" "coder" "B" (.int (0 : Int32)) := D150 (Or.inr (hw _ (List.mem_of_getElem? (i := 21) rfl))) (ty := .byte) (by decide)
      refine own_goW st150 ?_
      show own_GoesW _ _ _ _ _ _ _ (T150.setTop (mkF m 54 #[.val (.int x0), .val (.int x1), .val (.int x2), .val (.int x3), .val (.int c0), .val (.int c1), .val (.int c2), .val (.int sel), .unset, .unset, .val (.int (0 : Int32))] [(.ref b150)]))
      refine own_goW (fun _ ww => XS.dup X150.here hx rfl (hb hby at_54) rfl rfl ww) ?_
      show own_GoesW _ _ _ _ _ _ _ (T150.setTop (mkF m 55 #[.val (.int x0), .val (.int x1), .val (.int x2), .val (.int x3), .val (.int c0), .val (.int c1), .val (.int c2), .val (.int sel), .unset, .unset, .val (.int (0 : Int32))] [(.ref b150), (.ref b150)]))
      refine own_goW (fun _ ww => XS.iconst X150.here hx rfl (hb hby at_55) ww) ?_
      show own_GoesW _ _ _ _ _ _ _ (T150.setTop (mkF m 56 #[.val (.int x0), .val (.int x1), .val (.int x2), .val (.int x3), .val (.int c0), .val (.int c1), .val (.int c2), .val (.int sel), .unset, .unset, .val (.int (0 : Int32))] [(.int (0 : Int32)), (.ref b150), (.ref b150)]))
      obtain ⟨T153, h153, k153, X153, e153, E153, A153, st153⟩ := newP X150 hx hZ (hw _ (List.mem_of_getElem? (i := 7) rfl)) e150 (g := (mkF m 56 #[.val (.int x0), .val (.int x1), .val (.int x2), .val (.int x3), .val (.int c0), .val (.int c1), .val (.int c2), .val (.int sel), .unset, .unset, .val (.int (0 : Int32))] [(.int (0 : Int32)), (.ref b150), (.ref b150)])) rfl (hb hby at_56) rfl (by decide) (cap := 0) (by decide) (by decide) (by decide) (by decide)
      obtain ⟨b153, g153⟩ : ∃ z, z = h150.size := ⟨_, rfl⟩
      rw [← g153] at A153 st153
      have ne_b150_b153 : b150 ≠ b153 := Nat.ne_of_lt (Nat.lt_of_lt_of_le f151.lt (Nat.le_of_eq g153.symm))
      have ne_k0_b153 : k0 ≠ b153 := Nat.ne_of_lt (Nat.lt_of_lt_of_le (F0.ext O150.2).lt (Nat.le_of_eq g153.symm))
      have ne_y0_b153 : y0 ≠ b153 := Nat.ne_of_lt (Nat.lt_of_lt_of_le (Ey0.ext O150.2).lt (Nat.le_of_eq g153.symm))
      have ne_k1_b153 : k1 ≠ b153 := Nat.ne_of_lt (Nat.lt_of_lt_of_le (F1.ext O150.2).lt (Nat.le_of_eq g153.symm))
      have ne_y1_b153 : y1 ≠ b153 := Nat.ne_of_lt (Nat.lt_of_lt_of_le (Ey1.ext O150.2).lt (Nat.le_of_eq g153.symm))
      have ne_k2_b153 : k2 ≠ b153 := Nat.ne_of_lt (Nat.lt_of_lt_of_le (F2.ext O150.2).lt (Nat.le_of_eq g153.symm))
      have ne_y2_b153 : y2 ≠ b153 := Nat.ne_of_lt (Nat.lt_of_lt_of_le (Ey2.ext O150.2).lt (Nat.le_of_eq g153.symm))
      have ne_k3_b153 : k3 ≠ b153 := Nat.ne_of_lt (Nat.lt_of_lt_of_le (F3.ext O150.2).lt (Nat.le_of_eq g153.symm))
      have ne_y3_b153 : y3 ≠ b153 := Nat.ne_of_lt (Nat.lt_of_lt_of_le (Ey3.ext O150.2).lt (Nat.le_of_eq g153.symm))
      have ne_k4_b153 : k4 ≠ b153 := Nat.ne_of_lt (Nat.lt_of_lt_of_le (F4.ext O150.2).lt (Nat.le_of_eq g153.symm))
      have ne_y4_b153 : y4 ≠ b153 := Nat.ne_of_lt (Nat.lt_of_lt_of_le (Ey4.ext O150.2).lt (Nat.le_of_eq g153.symm))
      have ne_k5_b153 : k5 ≠ b153 := Nat.ne_of_lt (Nat.lt_of_lt_of_le (F5.ext O150.2).lt (Nat.le_of_eq g153.symm))
      have ne_y5_b153 : y5 ≠ b153 := Nat.ne_of_lt (Nat.lt_of_lt_of_le (Ey5.ext O150.2).lt (Nat.le_of_eq g153.symm))
      have ne_aE_b153 : aE ≠ b153 := Nat.ne_of_lt (Nat.lt_of_lt_of_le (EE.ext O150.2).lt (Nat.le_of_eq g153.symm))
      have g_b153 : n0 ≤ b153 := Nat.le_trans (O150.1 ▸ O150.2.1) (Nat.le_of_eq g153.symm)
      have f154 : Fld Z h153 b150 "java/lang/String" "value" "[B" .null := (f151.ext E153)
      have f155 : Fld Z h153 b150 "java/lang/String" "coder" "B" (.int (0 : Int32)) := (f152.ext E153)
      have f156 : Exa Z h153 b150 "java/lang/String" := (A150.ext E153)
      have O153 := O150.ext E153
      have hk := Nat.le_trans hk E153.1
      have V153 : Arv Z h153 b153 k153 .char (0 : Int32) [] (.int (0 : Int32)) := Arv.new A153 (by decide)
      refine own_goW st153 ?_
      show own_GoesW _ _ _ _ _ _ _ (T153.setTop (mkF m 58 #[.val (.int x0), .val (.int x1), .val (.int x2), .val (.int x3), .val (.int c0), .val (.int c1), .val (.int c2), .val (.int sel), .unset, .unset, .val (.int (0 : Int32))] [(.ref b153), (.ref b150), (.ref b150)]))
      obtain ⟨_, _, ⟨T157, L157, k157, n157⟩, -, X157, hS157, hg157, ⟨Lc157, hQ157, l157, y157, z157⟩, st157⟩ := X153.specialBackS hx (y := (⟨"java/lang/String", "<init>", "([C)V"⟩ : MethodName)) rfl hown (mvT hZ (hw _ (List.mem_of_getElem? (i := 8) rfl))) (mvT hZ (hw _ (List.mem_of_getElem? (i := 9) rfl))) (mvT hZ (hw _ (List.mem_of_getElem? (i := 10) rfl))) (by decide) (own_backV (W := 1) (rm_e1 l Z a0 hw [] b150 b153 k153 h153 n0 O153 f154 f155 f156 g_b150 V153 hh7 hcw) hZ (fun _ q => own_IBw q hI) (hw _ (List.mem_of_getElem? (i := 10) rfl)) (hw _ (List.mem_of_getElem? (i := 6) rfl)) (by decide) (by decide)) (g := (mkF m 58 #[.val (.int x0), .val (.int x1), .val (.int x2), .val (.int x3), .val (.int c0), .val (.int c1), .val (.int c2), .val (.int sel), .unset, .unset, .val (.int (0 : Int32))] [(.ref b153), (.ref b150), (.ref b150)])) rfl (by rw [hml]; rfl) (Steps.refl _) (a := b150) (argsL := [(.ref b153)]) (rest := [(.ref b150)]) (lenOf pd_9 rfl) rfl (by show 2 * 0 + _ ≤ _; exact Nat.le_of_eq rfl) (hb hby at_58) (fun _ _ => ⟨rfl, e153, (by decide : 2 + 2 ≤ _), (by decide : 4 + 4 ≤ _)⟩)
      dsimp only [Pt.U, Pt.locs, Pt.cells, Pt.slots] at X157 l157 y157 z157 st157 hQ157 hS157 hg157
      subst l157 y157 z157
      obtain ⟨X157, hS, hZ, hown⟩ := rebS hS (show _ ≤ T153.heap.size from (by rw [e153]; exact hk)) X157 hS157 hg157 hZ hown
      obtain ⟨rfl, N157q, K157q, C157q, t157, kb157, le157, V157q, A157q, nt157, I157q, L157q, LC157q, LV157q, LE157q, nl157⟩ := hQ157
      have N157 := Fr.app N146 N157q
      have hk : T157.heap.size ≤ T157.heap.size := Nat.le_refl _
      have f158 : Exa Z T157.heap b150 "java/lang/String" := (f156.keep K157q)
      have f159 : Arv Z T157.heap b153 k153 .char (0 : Int32) [] (.int (0 : Int32)) := (V153.keep K157q (ninS (Ne.symm ne_b150_b153) nin0))
      have O157 := O153.keep K157q (allS g_b150 all0)
      refine own_goW (fun _ ww => Steps.trans st157 ww) ?_
      show own_GoesW _ _ _ _ _ _ _ (T157.setTop (mkF m 61 #[.val (.int x0), .val (.int x1), .val (.int x2), .val (.int x3), .val (.int c0), .val (.int c1), .val (.int c2), .val (.int sel), .unset, .unset, .val (.int (0 : Int32))] [(.ref b150)]))
      refine own_goW (fun _ ww => XS.astore X157.here hx rfl (hb hby at_61) rfl rfl (l' := #[.val (.int x0), .val (.int x1), .val (.int x2), .val (.int x3), .val (.int c0), .val (.int c1), .val (.int c2), .val (.int sel), .val (.ref b150), .unset, .val (.int (0 : Int32))]) rfl ww) ?_
      show own_GoesW _ _ _ _ _ _ _ (T157.setTop (mkF m 63 #[.val (.int x0), .val (.int x1), .val (.int x2), .val (.int x3), .val (.int c0), .val (.int c1), .val (.int c2), .val (.int sel), .val (.ref b150), .unset, .val (.int (0 : Int32))] []))
      refine own_goW (fun _ ww => XS.goto X157.here hx rfl (pc0 := 63) (pc' := 150) rfl (hb hby at_63) (by decide) (by decide) ww) ?_
      show own_GoesW _ _ _ _ _ _ _ (T157.setTop (mkF m 150 #[.val (.int x0), .val (.int x1), .val (.int x2), .val (.int x3), .val (.int c0), .val (.int c1), .val (.int c2), .val (.int sel), .val (.ref b150), .unset, .val (.int (0 : Int32))] []))
      refine own_goW (fun _ ww => XS.iload X157.here hx rfl (hb hby at_150) rfl  ww) ?_
      show own_GoesW _ _ _ _ _ _ _ (T157.setTop (mkF m 152 #[.val (.int x0), .val (.int x1), .val (.int x2), .val (.int x3), .val (.int c0), .val (.int c1), .val (.int c2), .val (.int sel), .val (.ref b150), .unset, .val (.int (0 : Int32))] [(.int (0 : Int32))]))
      refine own_goW (fun _ ww => XS.iload X157.here hx rfl (hb hby at_152) rfl  ww) ?_
      show own_GoesW _ _ _ _ _ _ _ (T157.setTop (mkF m 154 #[.val (.int x0), .val (.int x1), .val (.int x2), .val (.int x3), .val (.int c0), .val (.int c1), .val (.int c2), .val (.int sel), .val (.ref b150), .unset, .val (.int (0 : Int32))] [(.int c0), (.int (0 : Int32))]))
      refine own_goW (fun _ ww => XS.iload X157.here hx rfl (hb hby at_154) rfl  ww) ?_
      show own_GoesW _ _ _ _ _ _ _ (T157.setTop (mkF m 156 #[.val (.int x0), .val (.int x1), .val (.int x2), .val (.int x3), .val (.int c0), .val (.int c1), .val (.int c2), .val (.int sel), .val (.ref b150), .unset, .val (.int (0 : Int32))] [(.int c1), (.int c0), (.int (0 : Int32))]))
      show own_GoesW _ _ _ _ _ _ _ (T157.setTop (mkF m 156 #[.val (.int x0), .val (.int x1), .val (.int x2), .val (.int x3), .val (.int c0), .val (.int c1), .val (.int c2), .val (.int sel), .val (.ref b150), .unset, .val (.int (0 : Int32))] [(.int c1), (.int c0), (.int (0 : Int32))]))
      obtain ⟨_, _, ⟨T160, L160, k160, n160⟩, -, X160, ⟨Lc160, hQ160, l160, y160, z160⟩, st160⟩ := Jvm.LawKit.callS X157 hx (y := (⟨"com/example/esfahan/esfahan/model/ComparisonOfSymbolPinLaw", "expect", "(ICC)Lcom/example/esfahan/esfahan/model/Comparison;"⟩ : MethodName)) hown (mvT hZ (hw _ (List.mem_of_getElem? (i := 26) rfl))) (mvT hZ (hw _ (List.mem_of_getElem? (i := 27) rfl))) (mvT hZ (hw _ (List.mem_of_getElem? (i := 2) rfl))) (mvT hZ (hw _ (List.mem_of_getElem? (i := 28) rfl))) (by decide) (backOf (W := 0) (rm_exp0 l Z a0 hw [] c0 c1 T157.heap n0 O157 ) hZ (hw _ (List.mem_of_getElem? (i := 28) rfl)) (hw _ (List.mem_of_getElem? (i := 2) rfl)) (by decide) (by decide)) (g := (mkF m 156 #[.val (.int x0), .val (.int x1), .val (.int x2), .val (.int x3), .val (.int c0), .val (.int c1), .val (.int c2), .val (.int sel), .val (.ref b150), .unset, .val (.int (0 : Int32))] [(.int c1), (.int c0), (.int (0 : Int32))])) rfl (by rw [hml]; rfl) (argsL := [(.int (0 : Int32)), (.int c0), (.int c1)]) (rest := []) (lenOf pd_10 rfl) rfl (by show 2 * 0 + _ ≤ _; exact Nat.le_of_eq rfl) (hb hby at_156) (fun _ _ => ⟨rfl, rfl, (by decide : 4 + 0 ≤ _), (by decide : 8 + 0 ≤ _)⟩)
      dsimp only [Pt.U, Pt.locs, Pt.cells, Pt.slots] at X160 l160 y160 z160 st160 hQ160
      subst l160 y160 z160
      obtain ⟨rfl, N160q, e160⟩ := hQ160
      have N160 := Fr.app N157 N160q
      refine own_goW st160 ?_
      show own_GoesW _ _ _ _ _ _ _ (T160.setTop (mkF m 159 #[.val (.int x0), .val (.int x1), .val (.int x2), .val (.int x3), .val (.int c0), .val (.int c1), .val (.int c2), .val (.int sel), .val (.ref b150), .unset, .val (.int (0 : Int32))] [.null]))
      refine own_goW (fun _ ww => XS.astore X160.here hx rfl (hb hby at_159) rfl rfl (l' := #[.val (.int x0), .val (.int x1), .val (.int x2), .val (.int x3), .val (.int c0), .val (.int c1), .val (.int c2), .val (.int sel), .val (.ref b150), .val .null, .val (.int (0 : Int32))]) rfl ww) ?_
      show own_GoesW _ _ _ _ _ _ _ (T160.setTop (mkF m 161 #[.val (.int x0), .val (.int x1), .val (.int x2), .val (.int x3), .val (.int c0), .val (.int c1), .val (.int c2), .val (.int sel), .val (.ref b150), .val .null, .val (.int (0 : Int32))] []))
      refine own_goW (fun _ ww => XS.aload X160.here hx rfl (hb hby at_161) rfl rfl ww) ?_
      show own_GoesW _ _ _ _ _ _ _ (T160.setTop (mkF m 163 #[.val (.int x0), .val (.int x1), .val (.int x2), .val (.int x3), .val (.int c0), .val (.int c1), .val (.int c2), .val (.int sel), .val (.ref b150), .val .null, .val (.int (0 : Int32))] [(.ref b150)]))
      have hp_b150 : ∀ c ∈ ([] : List Int32), ¬ c < 0 ∧ ¬ (255 : Int32) < c := fun _ q => nomatch q
      obtain ⟨_, _, ⟨T161, L161, k161, n161⟩, -, X161, ⟨Lc161, hQ161, l161, y161, z161⟩, st161⟩ := Jvm.LawKit.callS X160 hx (y := (⟨"com/example/esfahan/esfahan/model/Comparison", "ofSymbol", "(Ljava/lang/String;)Ljava/util/Optional;"⟩ : MethodName)) hown (mvT hZ (hw _ (List.mem_of_getElem? (i := 29) rfl))) (mvT hZ (hw _ (List.mem_of_getElem? (i := 30) rfl))) (mvT hZ (hw _ (List.mem_of_getElem? (i := 31) rfl))) (mvT hZ (hw _ (List.mem_of_getElem? (i := 32) rfl))) (by decide) (backOf (W := 0) (rm_ofs l Z a0 hw [] va kk k0 k1 k2 k3 k4 k5 aE y0 ty0 kb0 y1 ty1 kb1 y2 ty2 kb2 y3 ty3 kb3 y4 ty4 kb4 y5 ty5 kb5 zc b150 t157 kb157 ([] : List Int32) (0 : Int32) [] .null T157.heap n0 O157 SV AV EV SE EE FE F0 Ey0 Cy0 Vy0 Ky0 F1 Ey1 Cy1 Vy1 Ky1 F2 Ey2 Cy2 Vy2 Ky2 F3 Ey3 Cy3 Vy3 Ky3 F4 Ey4 Cy4 Vy4 Ky4 F5 Ey5 Cy5 Vy5 Ky5 SC hzc f158 V157q C157q A157q (StrChars.Road.codOf (cs := ([] : List Int32)) (n := 0) rfl (fun c hc => (hp_b150 c hc).2)) (own_up hp_b150) (Nat.le_of_ble_eq_true rfl) (by first | (intros; simp_all; done) | (intro h; simp only [List.cons.injEq] at h; obtain ⟨h1, h2, h3⟩ := h; subst h1 h2; simp_all; done) | (intro h; simp only [List.cons.injEq] at h; obtain ⟨h1, h2⟩ := h; subst h1; simp_all; done)) (by first | (intros; simp_all; done) | (intro h; simp only [List.cons.injEq] at h; obtain ⟨h1, h2, h3⟩ := h; subst h1 h2; simp_all; done) | (intro h; simp only [List.cons.injEq] at h; obtain ⟨h1, h2⟩ := h; subst h1; simp_all; done)) (by first | (intros; simp_all; done) | (intro h; simp only [List.cons.injEq] at h; obtain ⟨h1, h2, h3⟩ := h; subst h1 h2; simp_all; done) | (intro h; simp only [List.cons.injEq] at h; obtain ⟨h1, h2⟩ := h; subst h1; simp_all; done)) (by first | (intros; simp_all; done) | (intro h; simp only [List.cons.injEq] at h; obtain ⟨h1, h2, h3⟩ := h; subst h1 h2; simp_all; done) | (intro h; simp only [List.cons.injEq] at h; obtain ⟨h1, h2⟩ := h; subst h1; simp_all; done)) (by first | (intros; simp_all; done) | (intro h; simp only [List.cons.injEq] at h; obtain ⟨h1, h2, h3⟩ := h; subst h1 h2; simp_all; done) | (intro h; simp only [List.cons.injEq] at h; obtain ⟨h1, h2⟩ := h; subst h1; simp_all; done)) (by first | (intros; simp_all; done) | (intro h; simp only [List.cons.injEq] at h; obtain ⟨h1, h2, h3⟩ := h; subst h1 h2; simp_all; done) | (intro h; simp only [List.cons.injEq] at h; obtain ⟨h1, h2⟩ := h; subst h1; simp_all; done)) (by first | (intros; simp_all; done) | (intro h; simp only [List.cons.injEq] at h; obtain ⟨h1, h2, h3⟩ := h; subst h1 h2; simp_all; done) | (intro h; simp only [List.cons.injEq] at h; obtain ⟨h1, h2⟩ := h; subst h1; simp_all; done))) hZ (hw _ (List.mem_of_getElem? (i := 32) rfl)) (hw _ (List.mem_of_getElem? (i := 31) rfl)) (by decide) (by decide)) (g := (mkF m 163 #[.val (.int x0), .val (.int x1), .val (.int x2), .val (.int x3), .val (.int c0), .val (.int c1), .val (.int c2), .val (.int sel), .val (.ref b150), .val .null, .val (.int (0 : Int32))] [(.ref b150)])) rfl (by rw [hml]; rfl) (argsL := [(.ref b150)]) (rest := []) (lenOf pd_8 rfl) rfl (by show 2 * 0 + _ ≤ _; exact Nat.le_of_eq rfl) (hb hby at_163) (fun _ _ => ⟨rfl, e160, (by decide : 4 + 2 ≤ _), (by decide : 8 + 7 ≤ _)⟩)
      dsimp only [Pt.U, Pt.locs, Pt.cells, Pt.slots] at X161 l161 y161 z161 st161 hQ161
      subst l161 y161 z161
      obtain ⟨r161, rfl, N161q, K161q, E161q, P161⟩ := hQ161
      have N161 := Fr.app N160 N161q
      have hk := Nat.le_trans hk (own_ks K161q)
      have f162 : Exa Z T161.heap b150 "java/lang/String" := (f158.keep K161q)
      have f163 : Arv Z T161.heap b153 k153 .char (0 : Int32) [] (.int (0 : Int32)) := (f159.keep K161q nin0)
      have f164 : Fld Z T161.heap b150 "java/lang/String" "coder" "B" (.int (0 : Int32)) := (C157q.keep K161q nin0)
      have f165 : Fld Z T161.heap b150 "java/lang/String" "value" "[B" (.ref t157) := (V157q.keep K161q nin0)
      have f166 : Arv Z T161.heap t157 kb157 .byte (0 : Int32) [] (.int (0 : Int32)) := (A157q.keep K161q nin0)
      have O161 := O157.keep K161q all0
      refine own_goW st161 ?_
      show own_GoesW _ _ _ _ _ _ _ (T161.setTop (mkF m 166 #[.val (.int x0), .val (.int x1), .val (.int x2), .val (.int x3), .val (.int c0), .val (.int c1), .val (.int c2), .val (.int sel), .val (.ref b150), .val .null, .val (.int (0 : Int32))] [(.ref r161)]))
      refine own_goW (fun _ ww => XS.astore X161.here hx rfl (hb hby at_166) rfl rfl (l' := #[.val (.int x0), .val (.int x1), .val (.int x2), .val (.int x3), .val (.int c0), .val (.int c1), .val (.int c2), .val (.int sel), .val (.ref b150), .val .null, .val (.ref r161)]) rfl ww) ?_
      show own_GoesW _ _ _ _ _ _ _ (T161.setTop (mkF m 168 #[.val (.int x0), .val (.int x1), .val (.int x2), .val (.int x3), .val (.int c0), .val (.int c1), .val (.int c2), .val (.int sel), .val (.ref b150), .val .null, .val (.ref r161)] []))
      refine own_goW (fun _ ww => XS.aload X161.here hx rfl (hb hby at_168) rfl rfl ww) ?_
      show own_GoesW _ _ _ _ _ _ _ (T161.setTop (mkF m 170 #[.val (.int x0), .val (.int x1), .val (.int x2), .val (.int x3), .val (.int c0), .val (.int c1), .val (.int c2), .val (.int sel), .val (.ref b150), .val .null, .val (.ref r161)] [(.ref r161)]))
      refine own_goW (fun _ ww => XS.ifnullNo X161.here hx rfl (hb hby at_170) rfl ww) ?_
      show own_GoesW _ _ _ _ _ _ _ (T161.setTop (mkF m 173 #[.val (.int x0), .val (.int x1), .val (.int x2), .val (.int x3), .val (.int c0), .val (.int c1), .val (.int c2), .val (.int sel), .val (.ref b150), .val .null, .val (.ref r161)] []))
      refine own_goW (fun _ ww => XS.aload X161.here hx rfl (hb hby at_173) rfl rfl ww) ?_
      show own_GoesW _ _ _ _ _ _ _ (T161.setTop (mkF m 175 #[.val (.int x0), .val (.int x1), .val (.int x2), .val (.int x3), .val (.int c0), .val (.int c1), .val (.int c2), .val (.int sel), .val (.ref b150), .val .null, .val (.ref r161)] [(.ref r161)]))
      refine own_goW (fun _ ww => XS.aconstNull X161.here hx rfl (hb hby at_175) ww) ?_
      show own_GoesW _ _ _ _ _ _ _ (T161.setTop (mkF m 176 #[.val (.int x0), .val (.int x1), .val (.int x2), .val (.int x3), .val (.int c0), .val (.int c1), .val (.int c2), .val (.int sel), .val (.ref b150), .val .null, .val (.ref r161)] [.null, (.ref r161)]))
      obtain ⟨cq167, kq167, q167a, q167b, q167c⟩ := isOf hZ rfl E161q
      obtain ⟨_, _, ⟨T167, L167, k167, n167⟩, -, X167, ⟨Lc167, hQ167, l167, y167, z167⟩, st167⟩ := X161.virtualBack hx (y := (⟨"java/util/Optional", "orElse", "(Ljava/lang/Object;)Ljava/lang/Object;"⟩ : MethodName)) (z := (⟨"java/util/Optional", "orElse", "(Ljava/lang/Object;)Ljava/lang/Object;"⟩ : MethodName)) hown (mvT hZ (hw _ (List.mem_of_getElem? (i := 72) rfl))) (mvT hZ (hw _ (List.mem_of_getElem? (i := 73) rfl))) (notFace_of_selects (args := #[]) (mvT hZ (hw _ (List.mem_of_getElem? (i := 75) rfl)))) (mvT hZ (hw _ (List.mem_of_getElem? (i := 75) rfl))) (mvT hZ (hw _ (List.mem_of_getElem? (i := 74) rfl))) (by decide) (backOf (W := 0) (rm_orn l Z a0 hw [] r161 T161.heap n0 O161 P161) hZ (hw _ (List.mem_of_getElem? (i := 76) rfl)) (hw _ (List.mem_of_getElem? (i := 69) rfl)) (by decide) (by decide)) q167a q167c (g := (mkF m 176 #[.val (.int x0), .val (.int x1), .val (.int x2), .val (.int x3), .val (.int c0), .val (.int c1), .val (.int c2), .val (.int sel), .val (.ref b150), .val .null, .val (.ref r161)] [.null, (.ref r161)])) rfl (by rw [hml]; rfl) (Steps.refl _) (argsL := [.null]) (rest := []) (lenOf pd_1 rfl) rfl (by show 2 * 0 + _ ≤ _; exact Nat.le_of_eq rfl) (hb hby at_176) (fun _ _ => ⟨rfl, rfl, (by decide : 6 + 0 ≤ _), (by decide : 15 + 0 ≤ _)⟩)
      dsimp only [Pt.U, Pt.locs, Pt.cells, Pt.slots] at X167 l167 y167 z167 st167 hQ167
      subst l167 y167 z167
      obtain ⟨rfl, N167q, e167⟩ := hQ167
      have N167 := Fr.app N161 N167q
      refine own_goW (fun _ ww => Steps.trans st167 ww) ?_
      show own_GoesW _ _ _ _ _ _ _ (T167.setTop (mkF m 179 #[.val (.int x0), .val (.int x1), .val (.int x2), .val (.int x3), .val (.int c0), .val (.int c1), .val (.int c2), .val (.int sel), .val (.ref b150), .val .null, .val (.ref r161)] [.null]))
      refine own_goW (fun _ ww => XS.aload X167.here hx rfl (hb hby at_179) rfl rfl ww) ?_
      show own_GoesW _ _ _ _ _ _ _ (T167.setTop (mkF m 181 #[.val (.int x0), .val (.int x1), .val (.int x2), .val (.int x3), .val (.int c0), .val (.int c1), .val (.int c2), .val (.int sel), .val (.ref b150), .val .null, .val (.ref r161)] [.null, .null]))
      refine own_goW (fun _ ww => XT.acmpNo X167.here hx rfl (hb hby at_181) rfl rfl rfl (XT.aa_ne_f rfl) ww) ?_
      show own_GoesW _ _ _ _ _ _ _ (T167.setTop (mkF m 184 #[.val (.int x0), .val (.int x1), .val (.int x2), .val (.int x3), .val (.int c0), .val (.int c1), .val (.int c2), .val (.int sel), .val (.ref b150), .val .null, .val (.ref r161)] []))
      refine own_goW (fun _ ww => XS.iconst X167.here hx rfl (hb hby at_184) ww) ?_
      show own_GoesW _ _ _ _ _ _ _ (T167.setTop (mkF m 185 #[.val (.int x0), .val (.int x1), .val (.int x2), .val (.int x3), .val (.int c0), .val (.int c1), .val (.int c2), .val (.int sel), .val (.ref b150), .val .null, .val (.ref r161)] [(.int (1 : Int32))]))
      refine own_goW (fun _ ww => XS.goto X167.here hx rfl (pc0 := 185) (pc' := 189) rfl (hb hby at_185) (by decide) (by decide) ww) ?_
      show own_GoesW _ _ _ _ _ _ _ (T167.setTop (mkF m 189 #[.val (.int x0), .val (.int x1), .val (.int x2), .val (.int x3), .val (.int c0), .val (.int c1), .val (.int c2), .val (.int sel), .val (.ref b150), .val .null, .val (.ref r161)] [(.int (1 : Int32))]))
      exact own_outW X167 hS hk hlk (v := some (.int (1 : Int32))) (fun h => by rw [hret] at h; cases h) (fun fs hr => retOut X167 hx (t := .boolean) hret (by decide) (Or.inl ⟨rfl, by simp, _, rfl⟩) (hb hby at_189) hr) e167 ⟨rfl, N167⟩ (by decide) (by decide)
    ·
      rw [hk3]
      show own_GoesW _ _ _ _ _ _ _ (T146.setTop (mkF m 44 #[.val (.int x0), .val (.int x1), .val (.int x2), .val (.int x3), .val (.int c0), .val (.int c1), .val (.int c2), .val (.int sel), .unset, .unset, .unset] [(.int (1 : Int32))]))
      refine own_goW (fun _ ww => XS.istore X146.here hx rfl (hb hby at_44) rfl (l' := #[.val (.int x0), .val (.int x1), .val (.int x2), .val (.int x3), .val (.int c0), .val (.int c1), .val (.int c2), .val (.int sel), .unset, .unset, .val (.int (1 : Int32))]) rfl ww) ?_
      show own_GoesW _ _ _ _ _ _ _ (T146.setTop (mkF m 46 #[.val (.int x0), .val (.int x1), .val (.int x2), .val (.int x3), .val (.int c0), .val (.int c1), .val (.int c2), .val (.int sel), .unset, .unset, .val (.int (1 : Int32))] []))
      refine own_goW (fun _ ww => XS.iload X146.here hx rfl (hb hby at_46) rfl  ww) ?_
      show own_GoesW _ _ _ _ _ _ _ (T146.setTop (mkF m 48 #[.val (.int x0), .val (.int x1), .val (.int x2), .val (.int x3), .val (.int c0), .val (.int c1), .val (.int c2), .val (.int sel), .unset, .unset, .val (.int (1 : Int32))] [(.int (1 : Int32))]))
      refine own_goW (fun _ ww => XS.ifYes X146.here hx rfl (pc0 := 48) (pc' := 66) rfl (hb hby at_48) rfl (own_if .ne (feq (by decide : ¬ ((1 : Int32) = (0 : Int32)))).2) (by decide) (by decide) ww) ?_
      show own_GoesW _ _ _ _ _ _ _ (T146.setTop (mkF m 66 #[.val (.int x0), .val (.int x1), .val (.int x2), .val (.int x3), .val (.int c0), .val (.int c1), .val (.int c2), .val (.int sel), .unset, .unset, .val (.int (1 : Int32))] []))
      refine own_goW (fun _ ww => XS.iload X146.here hx rfl (hb hby at_66) rfl  ww) ?_
      show own_GoesW _ _ _ _ _ _ _ (T146.setTop (mkF m 68 #[.val (.int x0), .val (.int x1), .val (.int x2), .val (.int x3), .val (.int c0), .val (.int c1), .val (.int c2), .val (.int sel), .unset, .unset, .val (.int (1 : Int32))] [(.int (1 : Int32))]))
      refine own_goW (fun _ ww => XS.iconst X146.here hx rfl (hb hby at_68) ww) ?_
      show own_GoesW _ _ _ _ _ _ _ (T146.setTop (mkF m 69 #[.val (.int x0), .val (.int x1), .val (.int x2), .val (.int x3), .val (.int c0), .val (.int c1), .val (.int c2), .val (.int sel), .unset, .unset, .val (.int (1 : Int32))] [(.int (1 : Int32)), (.int (1 : Int32))]))
      refine own_goW (fun _ ww => XS.icmpNo X146.here hx rfl (hb hby at_69) rfl (teq (by decide : (1 : Int32) = (1 : Int32))).2 ww) ?_
      show own_GoesW _ _ _ _ _ _ _ (T146.setTop (mkF m 72 #[.val (.int x0), .val (.int x1), .val (.int x2), .val (.int x3), .val (.int c0), .val (.int c1), .val (.int c2), .val (.int sel), .unset, .unset, .val (.int (1 : Int32))] []))
      obtain ⟨T168, h168, X168, e168, E168, A168, D168, -, st168⟩ := newO X146 hx hZ hown (hw _ (List.mem_of_getElem? (i := 4) rfl)) (hw _ (List.mem_of_getElem? (i := 5) rfl)) (hw _ (List.mem_of_getElem? (i := 6) rfl)) e146 (g := (mkF m 72 #[.val (.int x0), .val (.int x1), .val (.int x2), .val (.int x3), .val (.int c0), .val (.int c1), .val (.int c2), .val (.int sel), .unset, .unset, .val (.int (1 : Int32))] [])) rfl (hb hby at_72) (by decide) (by decide)
      obtain ⟨b168, g168⟩ : ∃ z, z = h0.size := ⟨_, rfl⟩
      rw [← g168] at A168 D168 st168
      have ne_k0_b168 : k0 ≠ b168 := Nat.ne_of_lt (Nat.lt_of_lt_of_le (F0.ext O0.2).lt (Nat.le_of_eq g168.symm))
      have ne_y0_b168 : y0 ≠ b168 := Nat.ne_of_lt (Nat.lt_of_lt_of_le (Ey0.ext O0.2).lt (Nat.le_of_eq g168.symm))
      have ne_k1_b168 : k1 ≠ b168 := Nat.ne_of_lt (Nat.lt_of_lt_of_le (F1.ext O0.2).lt (Nat.le_of_eq g168.symm))
      have ne_y1_b168 : y1 ≠ b168 := Nat.ne_of_lt (Nat.lt_of_lt_of_le (Ey1.ext O0.2).lt (Nat.le_of_eq g168.symm))
      have ne_k2_b168 : k2 ≠ b168 := Nat.ne_of_lt (Nat.lt_of_lt_of_le (F2.ext O0.2).lt (Nat.le_of_eq g168.symm))
      have ne_y2_b168 : y2 ≠ b168 := Nat.ne_of_lt (Nat.lt_of_lt_of_le (Ey2.ext O0.2).lt (Nat.le_of_eq g168.symm))
      have ne_k3_b168 : k3 ≠ b168 := Nat.ne_of_lt (Nat.lt_of_lt_of_le (F3.ext O0.2).lt (Nat.le_of_eq g168.symm))
      have ne_y3_b168 : y3 ≠ b168 := Nat.ne_of_lt (Nat.lt_of_lt_of_le (Ey3.ext O0.2).lt (Nat.le_of_eq g168.symm))
      have ne_k4_b168 : k4 ≠ b168 := Nat.ne_of_lt (Nat.lt_of_lt_of_le (F4.ext O0.2).lt (Nat.le_of_eq g168.symm))
      have ne_y4_b168 : y4 ≠ b168 := Nat.ne_of_lt (Nat.lt_of_lt_of_le (Ey4.ext O0.2).lt (Nat.le_of_eq g168.symm))
      have ne_k5_b168 : k5 ≠ b168 := Nat.ne_of_lt (Nat.lt_of_lt_of_le (F5.ext O0.2).lt (Nat.le_of_eq g168.symm))
      have ne_y5_b168 : y5 ≠ b168 := Nat.ne_of_lt (Nat.lt_of_lt_of_le (Ey5.ext O0.2).lt (Nat.le_of_eq g168.symm))
      have ne_aE_b168 : aE ≠ b168 := Nat.ne_of_lt (Nat.lt_of_lt_of_le (EE.ext O0.2).lt (Nat.le_of_eq g168.symm))
      have g_b168 : n0 ≤ b168 := Nat.le_trans (O0.1 ▸ O0.2.1) (Nat.le_of_eq g168.symm)
      have O168 := O0.ext E168
      have hk := Nat.le_trans hk E168.1
      have f169 : Fld Z h168 b168 "java/lang/String" "value" "[B" .null := D168 (Or.inr (hw _ (List.mem_of_getElem? (i := 20) rfl))) (ty := (.array .byte)) (by decide)
      have f170 : Fld Z h168 b168 "java/lang/String" "coder" "B" (.int (0 : Int32)) := D168 (Or.inr (hw _ (List.mem_of_getElem? (i := 21) rfl))) (ty := .byte) (by decide)
      refine own_goW st168 ?_
      show own_GoesW _ _ _ _ _ _ _ (T168.setTop (mkF m 75 #[.val (.int x0), .val (.int x1), .val (.int x2), .val (.int x3), .val (.int c0), .val (.int c1), .val (.int c2), .val (.int sel), .unset, .unset, .val (.int (1 : Int32))] [(.ref b168)]))
      refine own_goW (fun _ ww => XS.dup X168.here hx rfl (hb hby at_75) rfl rfl ww) ?_
      show own_GoesW _ _ _ _ _ _ _ (T168.setTop (mkF m 76 #[.val (.int x0), .val (.int x1), .val (.int x2), .val (.int x3), .val (.int c0), .val (.int c1), .val (.int c2), .val (.int sel), .unset, .unset, .val (.int (1 : Int32))] [(.ref b168), (.ref b168)]))
      refine own_goW (fun _ ww => XS.iconst X168.here hx rfl (hb hby at_76) ww) ?_
      show own_GoesW _ _ _ _ _ _ _ (T168.setTop (mkF m 77 #[.val (.int x0), .val (.int x1), .val (.int x2), .val (.int x3), .val (.int c0), .val (.int c1), .val (.int c2), .val (.int sel), .unset, .unset, .val (.int (1 : Int32))] [(.int (1 : Int32)), (.ref b168), (.ref b168)]))
      obtain ⟨T171, h171, k171, X171, e171, E171, A171, st171⟩ := newP X168 hx hZ (hw _ (List.mem_of_getElem? (i := 7) rfl)) e168 (g := (mkF m 77 #[.val (.int x0), .val (.int x1), .val (.int x2), .val (.int x3), .val (.int c0), .val (.int c1), .val (.int c2), .val (.int sel), .unset, .unset, .val (.int (1 : Int32))] [(.int (1 : Int32)), (.ref b168), (.ref b168)])) rfl (hb hby at_77) rfl (by decide) (cap := 1) (by decide) (by decide) (by decide) (by decide)
      obtain ⟨b171, g171⟩ : ∃ z, z = h168.size := ⟨_, rfl⟩
      rw [← g171] at A171 st171
      have ne_b168_b171 : b168 ≠ b171 := Nat.ne_of_lt (Nat.lt_of_lt_of_le f169.lt (Nat.le_of_eq g171.symm))
      have ne_k0_b171 : k0 ≠ b171 := Nat.ne_of_lt (Nat.lt_of_lt_of_le (F0.ext O168.2).lt (Nat.le_of_eq g171.symm))
      have ne_y0_b171 : y0 ≠ b171 := Nat.ne_of_lt (Nat.lt_of_lt_of_le (Ey0.ext O168.2).lt (Nat.le_of_eq g171.symm))
      have ne_k1_b171 : k1 ≠ b171 := Nat.ne_of_lt (Nat.lt_of_lt_of_le (F1.ext O168.2).lt (Nat.le_of_eq g171.symm))
      have ne_y1_b171 : y1 ≠ b171 := Nat.ne_of_lt (Nat.lt_of_lt_of_le (Ey1.ext O168.2).lt (Nat.le_of_eq g171.symm))
      have ne_k2_b171 : k2 ≠ b171 := Nat.ne_of_lt (Nat.lt_of_lt_of_le (F2.ext O168.2).lt (Nat.le_of_eq g171.symm))
      have ne_y2_b171 : y2 ≠ b171 := Nat.ne_of_lt (Nat.lt_of_lt_of_le (Ey2.ext O168.2).lt (Nat.le_of_eq g171.symm))
      have ne_k3_b171 : k3 ≠ b171 := Nat.ne_of_lt (Nat.lt_of_lt_of_le (F3.ext O168.2).lt (Nat.le_of_eq g171.symm))
      have ne_y3_b171 : y3 ≠ b171 := Nat.ne_of_lt (Nat.lt_of_lt_of_le (Ey3.ext O168.2).lt (Nat.le_of_eq g171.symm))
      have ne_k4_b171 : k4 ≠ b171 := Nat.ne_of_lt (Nat.lt_of_lt_of_le (F4.ext O168.2).lt (Nat.le_of_eq g171.symm))
      have ne_y4_b171 : y4 ≠ b171 := Nat.ne_of_lt (Nat.lt_of_lt_of_le (Ey4.ext O168.2).lt (Nat.le_of_eq g171.symm))
      have ne_k5_b171 : k5 ≠ b171 := Nat.ne_of_lt (Nat.lt_of_lt_of_le (F5.ext O168.2).lt (Nat.le_of_eq g171.symm))
      have ne_y5_b171 : y5 ≠ b171 := Nat.ne_of_lt (Nat.lt_of_lt_of_le (Ey5.ext O168.2).lt (Nat.le_of_eq g171.symm))
      have ne_aE_b171 : aE ≠ b171 := Nat.ne_of_lt (Nat.lt_of_lt_of_le (EE.ext O168.2).lt (Nat.le_of_eq g171.symm))
      have g_b171 : n0 ≤ b171 := Nat.le_trans (O168.1 ▸ O168.2.1) (Nat.le_of_eq g171.symm)
      have f172 : Fld Z h171 b168 "java/lang/String" "value" "[B" .null := (f169.ext E171)
      have f173 : Fld Z h171 b168 "java/lang/String" "coder" "B" (.int (0 : Int32)) := (f170.ext E171)
      have f174 : Exa Z h171 b168 "java/lang/String" := (A168.ext E171)
      have O171 := O168.ext E171
      have hk := Nat.le_trans hk E171.1
      have V171 : Arv Z h171 b171 k171 .char (1 : Int32) [(.int (0 : Int32))] (.int (0 : Int32)) := (Arv.new A171 (by decide)).pad (pad_rep [] (.int (0 : Int32)) 1)
      refine own_goW st171 ?_
      show own_GoesW _ _ _ _ _ _ _ (T171.setTop (mkF m 79 #[.val (.int x0), .val (.int x1), .val (.int x2), .val (.int x3), .val (.int c0), .val (.int c1), .val (.int c2), .val (.int sel), .unset, .unset, .val (.int (1 : Int32))] [(.ref b171), (.ref b168), (.ref b168)]))
      refine own_goW (fun _ ww => XS.dup X171.here hx rfl (hb hby at_79) rfl rfl ww) ?_
      show own_GoesW _ _ _ _ _ _ _ (T171.setTop (mkF m 80 #[.val (.int x0), .val (.int x1), .val (.int x2), .val (.int x3), .val (.int c0), .val (.int c1), .val (.int c2), .val (.int sel), .unset, .unset, .val (.int (1 : Int32))] [(.ref b171), (.ref b171), (.ref b168), (.ref b168)]))
      refine own_goW (fun _ ww => XS.iconst X171.here hx rfl (hb hby at_80) ww) ?_
      show own_GoesW _ _ _ _ _ _ _ (T171.setTop (mkF m 81 #[.val (.int x0), .val (.int x1), .val (.int x2), .val (.int x3), .val (.int c0), .val (.int c1), .val (.int c2), .val (.int sel), .unset, .unset, .val (.int (1 : Int32))] [(.int (0 : Int32)), (.ref b171), (.ref b171), (.ref b168), (.ref b168)]))
      refine own_goW (fun _ ww => XS.iload X171.here hx rfl (hb hby at_81) rfl  ww) ?_
      show own_GoesW _ _ _ _ _ _ _ (T171.setTop (mkF m 83 #[.val (.int x0), .val (.int x1), .val (.int x2), .val (.int x3), .val (.int c0), .val (.int c1), .val (.int c2), .val (.int sel), .unset, .unset, .val (.int (1 : Int32))] [(.int c0), (.int (0 : Int32)), (.ref b171), (.ref b171), (.ref b168), (.ref b168)]))
      obtain ⟨cl175, Ar175, q175, S175, M175, H175, U175⟩ := id V171
      obtain ⟨T175, h175, X175, e175, W175, st175⟩ := stC X171 hx hZ e171 Ar175 (j := (0 : Int32)) (inb_of S175 ⟨by decide, by decide⟩) (g := (mkF m 83 #[.val (.int x0), .val (.int x1), .val (.int x2), .val (.int x3), .val (.int c0), .val (.int c1), .val (.int c2), .val (.int sel), .unset, .unset, .val (.int (1 : Int32))] [(.int c0), (.int (0 : Int32)), (.ref b171), (.ref b171), (.ref b168), (.ref b168)])) rfl rfl (hb hby at_83)
      have nr175 : nar .char c0 = c0 := (own_narc bc0)
      rw [nr175] at W175
      have ft175 : fits .char (.int c0) = true := by have q := fits_nar_char c0; rw [nr175] at q; exact q
      have f176 : Fld Z h175 b168 "java/lang/String" "value" "[B" .null := (f172.other W175 (Or.inl ne_b168_b171))
      have f177 : Fld Z h175 b168 "java/lang/String" "coder" "B" (.int (0 : Int32)) := (f173.other W175 (Or.inl ne_b168_b171))
      have f178 : Exa Z h175 b168 "java/lang/String" := (f174.wr W175)
      have f179 : Arv Z h175 b171 k171 .char (1 : Int32) [(.int c0)] (.int (0 : Int32)) := (Arv.set Ar175 q175 S175 M175 H175 U175 ft175 W175 0 rfl (Nat.le_of_ble_eq_true rfl))
      have hk := Nat.le_trans hk (Keep.of_wr W175).1
      have N175 := Fr.snoc X175 N146 g_b171
      have O175 := O171.wr W175 g_b171
      refine own_goW st175 ?_
      show own_GoesW _ _ _ _ _ _ _ (T175.setTop (mkF m 84 #[.val (.int x0), .val (.int x1), .val (.int x2), .val (.int x3), .val (.int c0), .val (.int c1), .val (.int c2), .val (.int sel), .unset, .unset, .val (.int (1 : Int32))] [(.ref b171), (.ref b168), (.ref b168)]))
      have hp_b168 : ∀ c ∈ ([c0] : List Int32), ¬ c < 0 ∧ ¬ (255 : Int32) < c := (own_allc bc0 (fun _ q => nomatch q))
      obtain ⟨_, _, ⟨T180, L180, k180, n180⟩, -, X180, ⟨Lc180, hQ180, l180, y180, z180⟩, st180⟩ := X175.specialBack hx (y := (⟨"java/lang/String", "<init>", "([C)V"⟩ : MethodName)) rfl hown (mvT hZ (hw _ (List.mem_of_getElem? (i := 8) rfl))) (mvT hZ (hw _ (List.mem_of_getElem? (i := 9) rfl))) (mvT hZ (hw _ (List.mem_of_getElem? (i := 10) rfl))) (by decide) (StrChars.Road.backV (W := 1) hZ (own_words hw) (kI := 4) (hw _ (List.mem_of_getElem? (i := 5) rfl)) (cs := ([c0] : List Int32)) (bs := (([c0] : List Int32)).map (fun c => c.toInt8.toInt32)) (n := 1) g_b168 (own_ns O175) f178 f176 f177 f179 (SC.ext O175.2) hzc rfl rfl (by decide) (by decide) hp_b168 rfl (by decide) (by decide)) (g := (mkF m 84 #[.val (.int x0), .val (.int x1), .val (.int x2), .val (.int x3), .val (.int c0), .val (.int c1), .val (.int c2), .val (.int sel), .unset, .unset, .val (.int (1 : Int32))] [(.ref b171), (.ref b168), (.ref b168)])) rfl (by rw [hml]; rfl) (Steps.refl _) (a := b168) (argsL := [(.ref b171)]) (rest := [(.ref b168)]) (lenOf pd_9 rfl) rfl (by show 2 * 0 + _ ≤ _; exact Nat.le_of_eq rfl) (hb hby at_84) (fun _ _ => ⟨rfl, e175, (by decide : 2 + 1 ≤ _), (by decide : 5 + 1 ≤ _)⟩)
      dsimp only [Pt.U, Pt.locs, Pt.cells, Pt.slots] at X180 l180 y180 z180 st180 hQ180
      subst l180 y180 z180
      obtain ⟨rfl, N180q, K180q, E180q, C180q, t180, kb180, -, G180q, -, V180q, A180q⟩ := hQ180
      have N180 := Fr.app N175 N180q
      have hk := Nat.le_trans hk (own_ks K180q)
      have ne_b168_t180 : b168 ≠ t180 := Nat.ne_of_lt (Nat.lt_of_lt_of_le f176.lt G180q)
      have ne_b171_t180 : b171 ≠ t180 := Nat.ne_of_lt (Nat.lt_of_lt_of_le f179.lt G180q)
      have ne_k0_t180 : k0 ≠ t180 := Nat.ne_of_lt (Nat.lt_of_lt_of_le (F0.ext O175.2).lt G180q)
      have ne_y0_t180 : y0 ≠ t180 := Nat.ne_of_lt (Nat.lt_of_lt_of_le (Ey0.ext O175.2).lt G180q)
      have ne_k1_t180 : k1 ≠ t180 := Nat.ne_of_lt (Nat.lt_of_lt_of_le (F1.ext O175.2).lt G180q)
      have ne_y1_t180 : y1 ≠ t180 := Nat.ne_of_lt (Nat.lt_of_lt_of_le (Ey1.ext O175.2).lt G180q)
      have ne_k2_t180 : k2 ≠ t180 := Nat.ne_of_lt (Nat.lt_of_lt_of_le (F2.ext O175.2).lt G180q)
      have ne_y2_t180 : y2 ≠ t180 := Nat.ne_of_lt (Nat.lt_of_lt_of_le (Ey2.ext O175.2).lt G180q)
      have ne_k3_t180 : k3 ≠ t180 := Nat.ne_of_lt (Nat.lt_of_lt_of_le (F3.ext O175.2).lt G180q)
      have ne_y3_t180 : y3 ≠ t180 := Nat.ne_of_lt (Nat.lt_of_lt_of_le (Ey3.ext O175.2).lt G180q)
      have ne_k4_t180 : k4 ≠ t180 := Nat.ne_of_lt (Nat.lt_of_lt_of_le (F4.ext O175.2).lt G180q)
      have ne_y4_t180 : y4 ≠ t180 := Nat.ne_of_lt (Nat.lt_of_lt_of_le (Ey4.ext O175.2).lt G180q)
      have ne_k5_t180 : k5 ≠ t180 := Nat.ne_of_lt (Nat.lt_of_lt_of_le (F5.ext O175.2).lt G180q)
      have ne_y5_t180 : y5 ≠ t180 := Nat.ne_of_lt (Nat.lt_of_lt_of_le (Ey5.ext O175.2).lt G180q)
      have ne_aE_t180 : aE ≠ t180 := Nat.ne_of_lt (Nat.lt_of_lt_of_le (EE.ext O175.2).lt G180q)
      have g_t180 : n0 ≤ t180 := Nat.le_trans (O175.1 ▸ O175.2.1) G180q
      have f181 : Exa Z T180.heap b168 "java/lang/String" := (f178.keep K180q)
      have f182 : Arv Z T180.heap b171 k171 .char (1 : Int32) [(.int c0)] (.int (0 : Int32)) := (f179.keep K180q (ninS (Ne.symm ne_b168_b171) nin0))
      have O180 := O175.keep K180q (allS g_b168 all0)
      refine own_goW (fun _ ww => Steps.trans st180 ww) ?_
      show own_GoesW _ _ _ _ _ _ _ (T180.setTop (mkF m 87 #[.val (.int x0), .val (.int x1), .val (.int x2), .val (.int x3), .val (.int c0), .val (.int c1), .val (.int c2), .val (.int sel), .unset, .unset, .val (.int (1 : Int32))] [(.ref b168)]))
      refine own_goW (fun _ ww => XS.astore X180.here hx rfl (hb hby at_87) rfl rfl (l' := #[.val (.int x0), .val (.int x1), .val (.int x2), .val (.int x3), .val (.int c0), .val (.int c1), .val (.int c2), .val (.int sel), .val (.ref b168), .unset, .val (.int (1 : Int32))]) rfl ww) ?_
      show own_GoesW _ _ _ _ _ _ _ (T180.setTop (mkF m 89 #[.val (.int x0), .val (.int x1), .val (.int x2), .val (.int x3), .val (.int c0), .val (.int c1), .val (.int c2), .val (.int sel), .val (.ref b168), .unset, .val (.int (1 : Int32))] []))
      refine own_goW (fun _ ww => XS.goto X180.here hx rfl (pc0 := 89) (pc' := 150) rfl (hb hby at_89) (by decide) (by decide) ww) ?_
      show own_GoesW _ _ _ _ _ _ _ (T180.setTop (mkF m 150 #[.val (.int x0), .val (.int x1), .val (.int x2), .val (.int x3), .val (.int c0), .val (.int c1), .val (.int c2), .val (.int sel), .val (.ref b168), .unset, .val (.int (1 : Int32))] []))
      refine own_goW (fun _ ww => XS.iload X180.here hx rfl (hb hby at_150) rfl  ww) ?_
      show own_GoesW _ _ _ _ _ _ _ (T180.setTop (mkF m 152 #[.val (.int x0), .val (.int x1), .val (.int x2), .val (.int x3), .val (.int c0), .val (.int c1), .val (.int c2), .val (.int sel), .val (.ref b168), .unset, .val (.int (1 : Int32))] [(.int (1 : Int32))]))
      refine own_goW (fun _ ww => XS.iload X180.here hx rfl (hb hby at_152) rfl  ww) ?_
      show own_GoesW _ _ _ _ _ _ _ (T180.setTop (mkF m 154 #[.val (.int x0), .val (.int x1), .val (.int x2), .val (.int x3), .val (.int c0), .val (.int c1), .val (.int c2), .val (.int sel), .val (.ref b168), .unset, .val (.int (1 : Int32))] [(.int c0), (.int (1 : Int32))]))
      refine own_goW (fun _ ww => XS.iload X180.here hx rfl (hb hby at_154) rfl  ww) ?_
      show own_GoesW _ _ _ _ _ _ _ (T180.setTop (mkF m 156 #[.val (.int x0), .val (.int x1), .val (.int x2), .val (.int x3), .val (.int c0), .val (.int c1), .val (.int c2), .val (.int sel), .val (.ref b168), .unset, .val (.int (1 : Int32))] [(.int c1), (.int c0), (.int (1 : Int32))]))
      by_cases hq183 : c0 = 60
      ·
        show own_GoesW _ _ _ _ _ _ _ (T180.setTop (mkF m 156 #[.val (.int x0), .val (.int x1), .val (.int x2), .val (.int x3), .val (.int c0), .val (.int c1), .val (.int c2), .val (.int sel), .val (.ref b168), .unset, .val (.int (1 : Int32))] [(.int c1), (.int c0), (.int (1 : Int32))]))
        obtain ⟨_, _, ⟨T184, L184, k184, n184⟩, -, X184, ⟨Lc184, hQ184, l184, y184, z184⟩, st184⟩ := Jvm.LawKit.callS X180 hx (y := (⟨"com/example/esfahan/esfahan/model/ComparisonOfSymbolPinLaw", "expect", "(ICC)Lcom/example/esfahan/esfahan/model/Comparison;"⟩ : MethodName)) hown (mvT hZ (hw _ (List.mem_of_getElem? (i := 26) rfl))) (mvT hZ (hw _ (List.mem_of_getElem? (i := 27) rfl))) (mvT hZ (hw _ (List.mem_of_getElem? (i := 2) rfl))) (mvT hZ (hw _ (List.mem_of_getElem? (i := 28) rfl))) (by decide) (backOf (W := 0) (rm_exp1 l Z a0 hw [] c0 c1 (.ref k2) k0 k1 k2 k3 k4 k5 T180.heap n0 O180 S2 S4 (by first | (intros; simp_all; done) | (intro h; simp only [List.cons.injEq] at h; obtain ⟨h1, h2, h3⟩ := h; subst h1 h2; simp_all; done) | (intro h; simp only [List.cons.injEq] at h; obtain ⟨h1, h2⟩ := h; subst h1; simp_all; done)) (by first | (intros; simp_all; done) | (intro h; simp only [List.cons.injEq] at h; obtain ⟨h1, h2, h3⟩ := h; subst h1 h2; simp_all; done) | (intro h; simp only [List.cons.injEq] at h; obtain ⟨h1, h2⟩ := h; subst h1; simp_all; done)) (by first | (intros; simp_all; done) | (intro h; simp only [List.cons.injEq] at h; obtain ⟨h1, h2, h3⟩ := h; subst h1 h2; simp_all; done) | (intro h; simp only [List.cons.injEq] at h; obtain ⟨h1, h2⟩ := h; subst h1; simp_all; done))) hZ (hw _ (List.mem_of_getElem? (i := 28) rfl)) (hw _ (List.mem_of_getElem? (i := 2) rfl)) (by decide) (by decide)) (g := (mkF m 156 #[.val (.int x0), .val (.int x1), .val (.int x2), .val (.int x3), .val (.int c0), .val (.int c1), .val (.int c2), .val (.int sel), .val (.ref b168), .unset, .val (.int (1 : Int32))] [(.int c1), (.int c0), (.int (1 : Int32))])) rfl (by rw [hml]; rfl) (argsL := [(.int (1 : Int32)), (.int c0), (.int c1)]) (rest := []) (lenOf pd_10 rfl) rfl (by show 2 * 0 + _ ≤ _; exact Nat.le_of_eq rfl) (hb hby at_156) (fun _ _ => ⟨rfl, rfl, (by decide : 3 + 0 ≤ _), (by decide : 6 + 0 ≤ _)⟩)
        dsimp only [Pt.U, Pt.locs, Pt.cells, Pt.slots] at X184 l184 y184 z184 st184 hQ184
        subst l184 y184 z184
        obtain ⟨rfl, N184q, e184⟩ := hQ184
        have N184 := Fr.app N180 N184q
        refine own_goW st184 ?_
        show own_GoesW _ _ _ _ _ _ _ (T184.setTop (mkF m 159 #[.val (.int x0), .val (.int x1), .val (.int x2), .val (.int x3), .val (.int c0), .val (.int c1), .val (.int c2), .val (.int sel), .val (.ref b168), .unset, .val (.int (1 : Int32))] [(.ref k2)]))
        refine own_goW (fun _ ww => XS.astore X184.here hx rfl (hb hby at_159) rfl rfl (l' := #[.val (.int x0), .val (.int x1), .val (.int x2), .val (.int x3), .val (.int c0), .val (.int c1), .val (.int c2), .val (.int sel), .val (.ref b168), .val (.ref k2), .val (.int (1 : Int32))]) rfl ww) ?_
        show own_GoesW _ _ _ _ _ _ _ (T184.setTop (mkF m 161 #[.val (.int x0), .val (.int x1), .val (.int x2), .val (.int x3), .val (.int c0), .val (.int c1), .val (.int c2), .val (.int sel), .val (.ref b168), .val (.ref k2), .val (.int (1 : Int32))] []))
        refine own_goW (fun _ ww => XS.aload X184.here hx rfl (hb hby at_161) rfl rfl ww) ?_
        show own_GoesW _ _ _ _ _ _ _ (T184.setTop (mkF m 163 #[.val (.int x0), .val (.int x1), .val (.int x2), .val (.int x3), .val (.int c0), .val (.int c1), .val (.int c2), .val (.int sel), .val (.ref b168), .val (.ref k2), .val (.int (1 : Int32))] [(.ref b168)]))
        obtain ⟨_, _, ⟨T185, L185, k185, n185⟩, -, X185, ⟨Lc185, hQ185, l185, y185, z185⟩, st185⟩ := Jvm.LawKit.callS X184 hx (y := (⟨"com/example/esfahan/esfahan/model/Comparison", "ofSymbol", "(Ljava/lang/String;)Ljava/util/Optional;"⟩ : MethodName)) hown (mvT hZ (hw _ (List.mem_of_getElem? (i := 29) rfl))) (mvT hZ (hw _ (List.mem_of_getElem? (i := 30) rfl))) (mvT hZ (hw _ (List.mem_of_getElem? (i := 31) rfl))) (mvT hZ (hw _ (List.mem_of_getElem? (i := 32) rfl))) (by decide) (backOf (W := 0) (rm_ofs l Z a0 hw [] va kk k0 k1 k2 k3 k4 k5 aE y0 ty0 kb0 y1 ty1 kb1 y2 ty2 kb2 y3 ty3 kb3 y4 ty4 kb4 y5 ty5 kb5 zc b168 t180 kb180 ([c0] : List Int32) (1 : Int32) [(.int (c0).toInt8.toInt32)] (.ref k2) T180.heap n0 O180 SV AV EV SE EE FE F0 Ey0 Cy0 Vy0 Ky0 F1 Ey1 Cy1 Vy1 Ky1 F2 Ey2 Cy2 Vy2 Ky2 F3 Ey3 Cy3 Vy3 Ky3 F4 Ey4 Cy4 Vy4 Ky4 F5 Ey5 Cy5 Vy5 Ky5 SC hzc f181 V180q C180q A180q (StrChars.Road.codOf (cs := ([c0] : List Int32)) (n := 1) rfl (fun c hc => (hp_b168 c hc).2)) (own_up hp_b168) (Nat.le_of_ble_eq_true rfl) (by first | (intros; simp_all; done) | (intro h; simp only [List.cons.injEq] at h; obtain ⟨h1, h2, h3⟩ := h; subst h1 h2; simp_all; done) | (intro h; simp only [List.cons.injEq] at h; obtain ⟨h1, h2⟩ := h; subst h1; simp_all; done)) (by first | (intros; simp_all; done) | (intro h; simp only [List.cons.injEq] at h; obtain ⟨h1, h2, h3⟩ := h; subst h1 h2; simp_all; done) | (intro h; simp only [List.cons.injEq] at h; obtain ⟨h1, h2⟩ := h; subst h1; simp_all; done)) (by first | (intros; simp_all; done) | (intro h; simp only [List.cons.injEq] at h; obtain ⟨h1, h2, h3⟩ := h; subst h1 h2; simp_all; done) | (intro h; simp only [List.cons.injEq] at h; obtain ⟨h1, h2⟩ := h; subst h1; simp_all; done)) (by first | (intros; simp_all; done) | (intro h; simp only [List.cons.injEq] at h; obtain ⟨h1, h2, h3⟩ := h; subst h1 h2; simp_all; done) | (intro h; simp only [List.cons.injEq] at h; obtain ⟨h1, h2⟩ := h; subst h1; simp_all; done)) (by first | (intros; simp_all; done) | (intro h; simp only [List.cons.injEq] at h; obtain ⟨h1, h2, h3⟩ := h; subst h1 h2; simp_all; done) | (intro h; simp only [List.cons.injEq] at h; obtain ⟨h1, h2⟩ := h; subst h1; simp_all; done)) (by first | (intros; simp_all; done) | (intro h; simp only [List.cons.injEq] at h; obtain ⟨h1, h2, h3⟩ := h; subst h1 h2; simp_all; done) | (intro h; simp only [List.cons.injEq] at h; obtain ⟨h1, h2⟩ := h; subst h1; simp_all; done)) (by first | (intros; simp_all; done) | (intro h; simp only [List.cons.injEq] at h; obtain ⟨h1, h2, h3⟩ := h; subst h1 h2; simp_all; done) | (intro h; simp only [List.cons.injEq] at h; obtain ⟨h1, h2⟩ := h; subst h1; simp_all; done))) hZ (hw _ (List.mem_of_getElem? (i := 32) rfl)) (hw _ (List.mem_of_getElem? (i := 31) rfl)) (by decide) (by decide)) (g := (mkF m 163 #[.val (.int x0), .val (.int x1), .val (.int x2), .val (.int x3), .val (.int c0), .val (.int c1), .val (.int c2), .val (.int sel), .val (.ref b168), .val (.ref k2), .val (.int (1 : Int32))] [(.ref b168)])) rfl (by rw [hml]; rfl) (argsL := [(.ref b168)]) (rest := []) (lenOf pd_8 rfl) rfl (by show 2 * 0 + _ ≤ _; exact Nat.le_of_eq rfl) (hb hby at_163) (fun _ _ => ⟨rfl, e184, (by decide : 3 + 2 ≤ _), (by decide : 6 + 7 ≤ _)⟩)
        dsimp only [Pt.U, Pt.locs, Pt.cells, Pt.slots] at X185 l185 y185 z185 st185 hQ185
        subst l185 y185 z185
        obtain ⟨r185, rfl, N185q, K185q, E185q, P185⟩ := hQ185
        have N185 := Fr.app N184 N185q
        have hk := Nat.le_trans hk (own_ks K185q)
        have f186 : Exa Z T185.heap b168 "java/lang/String" := (f181.keep K185q)
        have f187 : Arv Z T185.heap b171 k171 .char (1 : Int32) [(.int c0)] (.int (0 : Int32)) := (f182.keep K185q nin0)
        have f188 : Fld Z T185.heap b168 "java/lang/String" "coder" "B" (.int (0 : Int32)) := (C180q.keep K185q nin0)
        have f189 : Fld Z T185.heap b168 "java/lang/String" "value" "[B" (.ref t180) := (V180q.keep K185q nin0)
        have f190 : Arv Z T185.heap t180 kb180 .byte (1 : Int32) [(.int (c0).toInt8.toInt32)] (.int (0 : Int32)) := (A180q.keep K185q nin0)
        have O185 := O180.keep K185q all0
        refine own_goW st185 ?_
        show own_GoesW _ _ _ _ _ _ _ (T185.setTop (mkF m 166 #[.val (.int x0), .val (.int x1), .val (.int x2), .val (.int x3), .val (.int c0), .val (.int c1), .val (.int c2), .val (.int sel), .val (.ref b168), .val (.ref k2), .val (.int (1 : Int32))] [(.ref r185)]))
        refine own_goW (fun _ ww => XS.astore X185.here hx rfl (hb hby at_166) rfl rfl (l' := #[.val (.int x0), .val (.int x1), .val (.int x2), .val (.int x3), .val (.int c0), .val (.int c1), .val (.int c2), .val (.int sel), .val (.ref b168), .val (.ref k2), .val (.ref r185)]) rfl ww) ?_
        show own_GoesW _ _ _ _ _ _ _ (T185.setTop (mkF m 168 #[.val (.int x0), .val (.int x1), .val (.int x2), .val (.int x3), .val (.int c0), .val (.int c1), .val (.int c2), .val (.int sel), .val (.ref b168), .val (.ref k2), .val (.ref r185)] []))
        refine own_goW (fun _ ww => XS.aload X185.here hx rfl (hb hby at_168) rfl rfl ww) ?_
        show own_GoesW _ _ _ _ _ _ _ (T185.setTop (mkF m 170 #[.val (.int x0), .val (.int x1), .val (.int x2), .val (.int x3), .val (.int c0), .val (.int c1), .val (.int c2), .val (.int sel), .val (.ref b168), .val (.ref k2), .val (.ref r185)] [(.ref r185)]))
        refine own_goW (fun _ ww => XS.ifnullNo X185.here hx rfl (hb hby at_170) rfl ww) ?_
        show own_GoesW _ _ _ _ _ _ _ (T185.setTop (mkF m 173 #[.val (.int x0), .val (.int x1), .val (.int x2), .val (.int x3), .val (.int c0), .val (.int c1), .val (.int c2), .val (.int sel), .val (.ref b168), .val (.ref k2), .val (.ref r185)] []))
        refine own_goW (fun _ ww => XS.aload X185.here hx rfl (hb hby at_173) rfl rfl ww) ?_
        show own_GoesW _ _ _ _ _ _ _ (T185.setTop (mkF m 175 #[.val (.int x0), .val (.int x1), .val (.int x2), .val (.int x3), .val (.int c0), .val (.int c1), .val (.int c2), .val (.int sel), .val (.ref b168), .val (.ref k2), .val (.ref r185)] [(.ref r185)]))
        refine own_goW (fun _ ww => XS.aconstNull X185.here hx rfl (hb hby at_175) ww) ?_
        show own_GoesW _ _ _ _ _ _ _ (T185.setTop (mkF m 176 #[.val (.int x0), .val (.int x1), .val (.int x2), .val (.int x3), .val (.int c0), .val (.int c1), .val (.int c2), .val (.int sel), .val (.ref b168), .val (.ref k2), .val (.ref r185)] [.null, (.ref r185)]))
        obtain ⟨cq191, kq191, q191a, q191b, q191c⟩ := isOf hZ rfl E185q
        obtain ⟨_, _, ⟨T191, L191, k191, n191⟩, -, X191, ⟨Lc191, hQ191, l191, y191, z191⟩, st191⟩ := X185.virtualBack hx (y := (⟨"java/util/Optional", "orElse", "(Ljava/lang/Object;)Ljava/lang/Object;"⟩ : MethodName)) (z := (⟨"java/util/Optional", "orElse", "(Ljava/lang/Object;)Ljava/lang/Object;"⟩ : MethodName)) hown (mvT hZ (hw _ (List.mem_of_getElem? (i := 72) rfl))) (mvT hZ (hw _ (List.mem_of_getElem? (i := 73) rfl))) (notFace_of_selects (args := #[]) (mvT hZ (hw _ (List.mem_of_getElem? (i := 75) rfl)))) (mvT hZ (hw _ (List.mem_of_getElem? (i := 75) rfl))) (mvT hZ (hw _ (List.mem_of_getElem? (i := 74) rfl))) (by decide) (backOf (W := 0) (rm_orr l Z a0 hw [] r185 k2 T185.heap n0 O185 P185) hZ (hw _ (List.mem_of_getElem? (i := 76) rfl)) (hw _ (List.mem_of_getElem? (i := 69) rfl)) (by decide) (by decide)) q191a q191c (g := (mkF m 176 #[.val (.int x0), .val (.int x1), .val (.int x2), .val (.int x3), .val (.int c0), .val (.int c1), .val (.int c2), .val (.int sel), .val (.ref b168), .val (.ref k2), .val (.ref r185)] [.null, (.ref r185)])) rfl (by rw [hml]; rfl) (Steps.refl _) (argsL := [.null]) (rest := []) (lenOf pd_1 rfl) rfl (by show 2 * 0 + _ ≤ _; exact Nat.le_of_eq rfl) (hb hby at_176) (fun _ _ => ⟨rfl, rfl, (by decide : 5 + 0 ≤ _), (by decide : 13 + 0 ≤ _)⟩)
        dsimp only [Pt.U, Pt.locs, Pt.cells, Pt.slots] at X191 l191 y191 z191 st191 hQ191
        subst l191 y191 z191
        obtain ⟨rfl, N191q, e191⟩ := hQ191
        have N191 := Fr.app N185 N191q
        refine own_goW (fun _ ww => Steps.trans st191 ww) ?_
        show own_GoesW _ _ _ _ _ _ _ (T191.setTop (mkF m 179 #[.val (.int x0), .val (.int x1), .val (.int x2), .val (.int x3), .val (.int c0), .val (.int c1), .val (.int c2), .val (.int sel), .val (.ref b168), .val (.ref k2), .val (.ref r185)] [(.ref k2)]))
        refine own_goW (fun _ ww => XS.aload X191.here hx rfl (hb hby at_179) rfl rfl ww) ?_
        show own_GoesW _ _ _ _ _ _ _ (T191.setTop (mkF m 181 #[.val (.int x0), .val (.int x1), .val (.int x2), .val (.int x3), .val (.int c0), .val (.int c1), .val (.int c2), .val (.int sel), .val (.ref b168), .val (.ref k2), .val (.ref r185)] [(.ref k2), (.ref k2)]))
        refine own_goW (fun _ ww => XT.acmpNo X191.here hx rfl (hb hby at_181) rfl rfl rfl (own_aeq (rfl : k2 = k2)).2 ww) ?_
        show own_GoesW _ _ _ _ _ _ _ (T191.setTop (mkF m 184 #[.val (.int x0), .val (.int x1), .val (.int x2), .val (.int x3), .val (.int c0), .val (.int c1), .val (.int c2), .val (.int sel), .val (.ref b168), .val (.ref k2), .val (.ref r185)] []))
        refine own_goW (fun _ ww => XS.iconst X191.here hx rfl (hb hby at_184) ww) ?_
        show own_GoesW _ _ _ _ _ _ _ (T191.setTop (mkF m 185 #[.val (.int x0), .val (.int x1), .val (.int x2), .val (.int x3), .val (.int c0), .val (.int c1), .val (.int c2), .val (.int sel), .val (.ref b168), .val (.ref k2), .val (.ref r185)] [(.int (1 : Int32))]))
        refine own_goW (fun _ ww => XS.goto X191.here hx rfl (pc0 := 185) (pc' := 189) rfl (hb hby at_185) (by decide) (by decide) ww) ?_
        show own_GoesW _ _ _ _ _ _ _ (T191.setTop (mkF m 189 #[.val (.int x0), .val (.int x1), .val (.int x2), .val (.int x3), .val (.int c0), .val (.int c1), .val (.int c2), .val (.int sel), .val (.ref b168), .val (.ref k2), .val (.ref r185)] [(.int (1 : Int32))]))
        exact own_outW X191 hS hk hlk (v := some (.int (1 : Int32))) (fun h => by rw [hret] at h; cases h) (fun fs hr => retOut X191 hx (t := .boolean) hret (by decide) (Or.inl ⟨rfl, by simp, _, rfl⟩) (hb hby at_189) hr) e191 ⟨rfl, N191⟩ (by decide) (by decide)
      ·
        by_cases hq192 : c0 = 62
        ·
          show own_GoesW _ _ _ _ _ _ _ (T180.setTop (mkF m 156 #[.val (.int x0), .val (.int x1), .val (.int x2), .val (.int x3), .val (.int c0), .val (.int c1), .val (.int c2), .val (.int sel), .val (.ref b168), .unset, .val (.int (1 : Int32))] [(.int c1), (.int c0), (.int (1 : Int32))]))
          obtain ⟨_, _, ⟨T193, L193, k193, n193⟩, -, X193, ⟨Lc193, hQ193, l193, y193, z193⟩, st193⟩ := Jvm.LawKit.callS X180 hx (y := (⟨"com/example/esfahan/esfahan/model/ComparisonOfSymbolPinLaw", "expect", "(ICC)Lcom/example/esfahan/esfahan/model/Comparison;"⟩ : MethodName)) hown (mvT hZ (hw _ (List.mem_of_getElem? (i := 26) rfl))) (mvT hZ (hw _ (List.mem_of_getElem? (i := 27) rfl))) (mvT hZ (hw _ (List.mem_of_getElem? (i := 2) rfl))) (mvT hZ (hw _ (List.mem_of_getElem? (i := 28) rfl))) (by decide) (backOf (W := 0) (rm_exp1 l Z a0 hw [] c0 c1 (.ref k4) k0 k1 k2 k3 k4 k5 T180.heap n0 O180 S2 S4 (by first | (intros; simp_all; done) | (intro h; simp only [List.cons.injEq] at h; obtain ⟨h1, h2, h3⟩ := h; subst h1 h2; simp_all; done) | (intro h; simp only [List.cons.injEq] at h; obtain ⟨h1, h2⟩ := h; subst h1; simp_all; done)) (by first | (intros; simp_all; done) | (intro h; simp only [List.cons.injEq] at h; obtain ⟨h1, h2, h3⟩ := h; subst h1 h2; simp_all; done) | (intro h; simp only [List.cons.injEq] at h; obtain ⟨h1, h2⟩ := h; subst h1; simp_all; done)) (by first | (intros; simp_all; done) | (intro h; simp only [List.cons.injEq] at h; obtain ⟨h1, h2, h3⟩ := h; subst h1 h2; simp_all; done) | (intro h; simp only [List.cons.injEq] at h; obtain ⟨h1, h2⟩ := h; subst h1; simp_all; done))) hZ (hw _ (List.mem_of_getElem? (i := 28) rfl)) (hw _ (List.mem_of_getElem? (i := 2) rfl)) (by decide) (by decide)) (g := (mkF m 156 #[.val (.int x0), .val (.int x1), .val (.int x2), .val (.int x3), .val (.int c0), .val (.int c1), .val (.int c2), .val (.int sel), .val (.ref b168), .unset, .val (.int (1 : Int32))] [(.int c1), (.int c0), (.int (1 : Int32))])) rfl (by rw [hml]; rfl) (argsL := [(.int (1 : Int32)), (.int c0), (.int c1)]) (rest := []) (lenOf pd_10 rfl) rfl (by show 2 * 0 + _ ≤ _; exact Nat.le_of_eq rfl) (hb hby at_156) (fun _ _ => ⟨rfl, rfl, (by decide : 3 + 0 ≤ _), (by decide : 6 + 0 ≤ _)⟩)
          dsimp only [Pt.U, Pt.locs, Pt.cells, Pt.slots] at X193 l193 y193 z193 st193 hQ193
          subst l193 y193 z193
          obtain ⟨rfl, N193q, e193⟩ := hQ193
          have N193 := Fr.app N180 N193q
          refine own_goW st193 ?_
          show own_GoesW _ _ _ _ _ _ _ (T193.setTop (mkF m 159 #[.val (.int x0), .val (.int x1), .val (.int x2), .val (.int x3), .val (.int c0), .val (.int c1), .val (.int c2), .val (.int sel), .val (.ref b168), .unset, .val (.int (1 : Int32))] [(.ref k4)]))
          refine own_goW (fun _ ww => XS.astore X193.here hx rfl (hb hby at_159) rfl rfl (l' := #[.val (.int x0), .val (.int x1), .val (.int x2), .val (.int x3), .val (.int c0), .val (.int c1), .val (.int c2), .val (.int sel), .val (.ref b168), .val (.ref k4), .val (.int (1 : Int32))]) rfl ww) ?_
          show own_GoesW _ _ _ _ _ _ _ (T193.setTop (mkF m 161 #[.val (.int x0), .val (.int x1), .val (.int x2), .val (.int x3), .val (.int c0), .val (.int c1), .val (.int c2), .val (.int sel), .val (.ref b168), .val (.ref k4), .val (.int (1 : Int32))] []))
          refine own_goW (fun _ ww => XS.aload X193.here hx rfl (hb hby at_161) rfl rfl ww) ?_
          show own_GoesW _ _ _ _ _ _ _ (T193.setTop (mkF m 163 #[.val (.int x0), .val (.int x1), .val (.int x2), .val (.int x3), .val (.int c0), .val (.int c1), .val (.int c2), .val (.int sel), .val (.ref b168), .val (.ref k4), .val (.int (1 : Int32))] [(.ref b168)]))
          obtain ⟨_, _, ⟨T194, L194, k194, n194⟩, -, X194, ⟨Lc194, hQ194, l194, y194, z194⟩, st194⟩ := Jvm.LawKit.callS X193 hx (y := (⟨"com/example/esfahan/esfahan/model/Comparison", "ofSymbol", "(Ljava/lang/String;)Ljava/util/Optional;"⟩ : MethodName)) hown (mvT hZ (hw _ (List.mem_of_getElem? (i := 29) rfl))) (mvT hZ (hw _ (List.mem_of_getElem? (i := 30) rfl))) (mvT hZ (hw _ (List.mem_of_getElem? (i := 31) rfl))) (mvT hZ (hw _ (List.mem_of_getElem? (i := 32) rfl))) (by decide) (backOf (W := 0) (rm_ofs l Z a0 hw [] va kk k0 k1 k2 k3 k4 k5 aE y0 ty0 kb0 y1 ty1 kb1 y2 ty2 kb2 y3 ty3 kb3 y4 ty4 kb4 y5 ty5 kb5 zc b168 t180 kb180 ([c0] : List Int32) (1 : Int32) [(.int (c0).toInt8.toInt32)] (.ref k4) T180.heap n0 O180 SV AV EV SE EE FE F0 Ey0 Cy0 Vy0 Ky0 F1 Ey1 Cy1 Vy1 Ky1 F2 Ey2 Cy2 Vy2 Ky2 F3 Ey3 Cy3 Vy3 Ky3 F4 Ey4 Cy4 Vy4 Ky4 F5 Ey5 Cy5 Vy5 Ky5 SC hzc f181 V180q C180q A180q (StrChars.Road.codOf (cs := ([c0] : List Int32)) (n := 1) rfl (fun c hc => (hp_b168 c hc).2)) (own_up hp_b168) (Nat.le_of_ble_eq_true rfl) (by first | (intros; simp_all; done) | (intro h; simp only [List.cons.injEq] at h; obtain ⟨h1, h2, h3⟩ := h; subst h1 h2; simp_all; done) | (intro h; simp only [List.cons.injEq] at h; obtain ⟨h1, h2⟩ := h; subst h1; simp_all; done)) (by first | (intros; simp_all; done) | (intro h; simp only [List.cons.injEq] at h; obtain ⟨h1, h2, h3⟩ := h; subst h1 h2; simp_all; done) | (intro h; simp only [List.cons.injEq] at h; obtain ⟨h1, h2⟩ := h; subst h1; simp_all; done)) (by first | (intros; simp_all; done) | (intro h; simp only [List.cons.injEq] at h; obtain ⟨h1, h2, h3⟩ := h; subst h1 h2; simp_all; done) | (intro h; simp only [List.cons.injEq] at h; obtain ⟨h1, h2⟩ := h; subst h1; simp_all; done)) (by first | (intros; simp_all; done) | (intro h; simp only [List.cons.injEq] at h; obtain ⟨h1, h2, h3⟩ := h; subst h1 h2; simp_all; done) | (intro h; simp only [List.cons.injEq] at h; obtain ⟨h1, h2⟩ := h; subst h1; simp_all; done)) (by first | (intros; simp_all; done) | (intro h; simp only [List.cons.injEq] at h; obtain ⟨h1, h2, h3⟩ := h; subst h1 h2; simp_all; done) | (intro h; simp only [List.cons.injEq] at h; obtain ⟨h1, h2⟩ := h; subst h1; simp_all; done)) (by first | (intros; simp_all; done) | (intro h; simp only [List.cons.injEq] at h; obtain ⟨h1, h2, h3⟩ := h; subst h1 h2; simp_all; done) | (intro h; simp only [List.cons.injEq] at h; obtain ⟨h1, h2⟩ := h; subst h1; simp_all; done)) (by first | (intros; simp_all; done) | (intro h; simp only [List.cons.injEq] at h; obtain ⟨h1, h2, h3⟩ := h; subst h1 h2; simp_all; done) | (intro h; simp only [List.cons.injEq] at h; obtain ⟨h1, h2⟩ := h; subst h1; simp_all; done))) hZ (hw _ (List.mem_of_getElem? (i := 32) rfl)) (hw _ (List.mem_of_getElem? (i := 31) rfl)) (by decide) (by decide)) (g := (mkF m 163 #[.val (.int x0), .val (.int x1), .val (.int x2), .val (.int x3), .val (.int c0), .val (.int c1), .val (.int c2), .val (.int sel), .val (.ref b168), .val (.ref k4), .val (.int (1 : Int32))] [(.ref b168)])) rfl (by rw [hml]; rfl) (argsL := [(.ref b168)]) (rest := []) (lenOf pd_8 rfl) rfl (by show 2 * 0 + _ ≤ _; exact Nat.le_of_eq rfl) (hb hby at_163) (fun _ _ => ⟨rfl, e193, (by decide : 3 + 2 ≤ _), (by decide : 6 + 7 ≤ _)⟩)
          dsimp only [Pt.U, Pt.locs, Pt.cells, Pt.slots] at X194 l194 y194 z194 st194 hQ194
          subst l194 y194 z194
          obtain ⟨r194, rfl, N194q, K194q, E194q, P194⟩ := hQ194
          have N194 := Fr.app N193 N194q
          have hk := Nat.le_trans hk (own_ks K194q)
          have f195 : Exa Z T194.heap b168 "java/lang/String" := (f181.keep K194q)
          have f196 : Arv Z T194.heap b171 k171 .char (1 : Int32) [(.int c0)] (.int (0 : Int32)) := (f182.keep K194q nin0)
          have f197 : Fld Z T194.heap b168 "java/lang/String" "coder" "B" (.int (0 : Int32)) := (C180q.keep K194q nin0)
          have f198 : Fld Z T194.heap b168 "java/lang/String" "value" "[B" (.ref t180) := (V180q.keep K194q nin0)
          have f199 : Arv Z T194.heap t180 kb180 .byte (1 : Int32) [(.int (c0).toInt8.toInt32)] (.int (0 : Int32)) := (A180q.keep K194q nin0)
          have O194 := O180.keep K194q all0
          refine own_goW st194 ?_
          show own_GoesW _ _ _ _ _ _ _ (T194.setTop (mkF m 166 #[.val (.int x0), .val (.int x1), .val (.int x2), .val (.int x3), .val (.int c0), .val (.int c1), .val (.int c2), .val (.int sel), .val (.ref b168), .val (.ref k4), .val (.int (1 : Int32))] [(.ref r194)]))
          refine own_goW (fun _ ww => XS.astore X194.here hx rfl (hb hby at_166) rfl rfl (l' := #[.val (.int x0), .val (.int x1), .val (.int x2), .val (.int x3), .val (.int c0), .val (.int c1), .val (.int c2), .val (.int sel), .val (.ref b168), .val (.ref k4), .val (.ref r194)]) rfl ww) ?_
          show own_GoesW _ _ _ _ _ _ _ (T194.setTop (mkF m 168 #[.val (.int x0), .val (.int x1), .val (.int x2), .val (.int x3), .val (.int c0), .val (.int c1), .val (.int c2), .val (.int sel), .val (.ref b168), .val (.ref k4), .val (.ref r194)] []))
          refine own_goW (fun _ ww => XS.aload X194.here hx rfl (hb hby at_168) rfl rfl ww) ?_
          show own_GoesW _ _ _ _ _ _ _ (T194.setTop (mkF m 170 #[.val (.int x0), .val (.int x1), .val (.int x2), .val (.int x3), .val (.int c0), .val (.int c1), .val (.int c2), .val (.int sel), .val (.ref b168), .val (.ref k4), .val (.ref r194)] [(.ref r194)]))
          refine own_goW (fun _ ww => XS.ifnullNo X194.here hx rfl (hb hby at_170) rfl ww) ?_
          show own_GoesW _ _ _ _ _ _ _ (T194.setTop (mkF m 173 #[.val (.int x0), .val (.int x1), .val (.int x2), .val (.int x3), .val (.int c0), .val (.int c1), .val (.int c2), .val (.int sel), .val (.ref b168), .val (.ref k4), .val (.ref r194)] []))
          refine own_goW (fun _ ww => XS.aload X194.here hx rfl (hb hby at_173) rfl rfl ww) ?_
          show own_GoesW _ _ _ _ _ _ _ (T194.setTop (mkF m 175 #[.val (.int x0), .val (.int x1), .val (.int x2), .val (.int x3), .val (.int c0), .val (.int c1), .val (.int c2), .val (.int sel), .val (.ref b168), .val (.ref k4), .val (.ref r194)] [(.ref r194)]))
          refine own_goW (fun _ ww => XS.aconstNull X194.here hx rfl (hb hby at_175) ww) ?_
          show own_GoesW _ _ _ _ _ _ _ (T194.setTop (mkF m 176 #[.val (.int x0), .val (.int x1), .val (.int x2), .val (.int x3), .val (.int c0), .val (.int c1), .val (.int c2), .val (.int sel), .val (.ref b168), .val (.ref k4), .val (.ref r194)] [.null, (.ref r194)]))
          obtain ⟨cq200, kq200, q200a, q200b, q200c⟩ := isOf hZ rfl E194q
          obtain ⟨_, _, ⟨T200, L200, k200, n200⟩, -, X200, ⟨Lc200, hQ200, l200, y200, z200⟩, st200⟩ := X194.virtualBack hx (y := (⟨"java/util/Optional", "orElse", "(Ljava/lang/Object;)Ljava/lang/Object;"⟩ : MethodName)) (z := (⟨"java/util/Optional", "orElse", "(Ljava/lang/Object;)Ljava/lang/Object;"⟩ : MethodName)) hown (mvT hZ (hw _ (List.mem_of_getElem? (i := 72) rfl))) (mvT hZ (hw _ (List.mem_of_getElem? (i := 73) rfl))) (notFace_of_selects (args := #[]) (mvT hZ (hw _ (List.mem_of_getElem? (i := 75) rfl)))) (mvT hZ (hw _ (List.mem_of_getElem? (i := 75) rfl))) (mvT hZ (hw _ (List.mem_of_getElem? (i := 74) rfl))) (by decide) (backOf (W := 0) (rm_orr l Z a0 hw [] r194 k4 T194.heap n0 O194 P194) hZ (hw _ (List.mem_of_getElem? (i := 76) rfl)) (hw _ (List.mem_of_getElem? (i := 69) rfl)) (by decide) (by decide)) q200a q200c (g := (mkF m 176 #[.val (.int x0), .val (.int x1), .val (.int x2), .val (.int x3), .val (.int c0), .val (.int c1), .val (.int c2), .val (.int sel), .val (.ref b168), .val (.ref k4), .val (.ref r194)] [.null, (.ref r194)])) rfl (by rw [hml]; rfl) (Steps.refl _) (argsL := [.null]) (rest := []) (lenOf pd_1 rfl) rfl (by show 2 * 0 + _ ≤ _; exact Nat.le_of_eq rfl) (hb hby at_176) (fun _ _ => ⟨rfl, rfl, (by decide : 5 + 0 ≤ _), (by decide : 13 + 0 ≤ _)⟩)
          dsimp only [Pt.U, Pt.locs, Pt.cells, Pt.slots] at X200 l200 y200 z200 st200 hQ200
          subst l200 y200 z200
          obtain ⟨rfl, N200q, e200⟩ := hQ200
          have N200 := Fr.app N194 N200q
          refine own_goW (fun _ ww => Steps.trans st200 ww) ?_
          show own_GoesW _ _ _ _ _ _ _ (T200.setTop (mkF m 179 #[.val (.int x0), .val (.int x1), .val (.int x2), .val (.int x3), .val (.int c0), .val (.int c1), .val (.int c2), .val (.int sel), .val (.ref b168), .val (.ref k4), .val (.ref r194)] [(.ref k4)]))
          refine own_goW (fun _ ww => XS.aload X200.here hx rfl (hb hby at_179) rfl rfl ww) ?_
          show own_GoesW _ _ _ _ _ _ _ (T200.setTop (mkF m 181 #[.val (.int x0), .val (.int x1), .val (.int x2), .val (.int x3), .val (.int c0), .val (.int c1), .val (.int c2), .val (.int sel), .val (.ref b168), .val (.ref k4), .val (.ref r194)] [(.ref k4), (.ref k4)]))
          refine own_goW (fun _ ww => XT.acmpNo X200.here hx rfl (hb hby at_181) rfl rfl rfl (own_aeq (rfl : k4 = k4)).2 ww) ?_
          show own_GoesW _ _ _ _ _ _ _ (T200.setTop (mkF m 184 #[.val (.int x0), .val (.int x1), .val (.int x2), .val (.int x3), .val (.int c0), .val (.int c1), .val (.int c2), .val (.int sel), .val (.ref b168), .val (.ref k4), .val (.ref r194)] []))
          refine own_goW (fun _ ww => XS.iconst X200.here hx rfl (hb hby at_184) ww) ?_
          show own_GoesW _ _ _ _ _ _ _ (T200.setTop (mkF m 185 #[.val (.int x0), .val (.int x1), .val (.int x2), .val (.int x3), .val (.int c0), .val (.int c1), .val (.int c2), .val (.int sel), .val (.ref b168), .val (.ref k4), .val (.ref r194)] [(.int (1 : Int32))]))
          refine own_goW (fun _ ww => XS.goto X200.here hx rfl (pc0 := 185) (pc' := 189) rfl (hb hby at_185) (by decide) (by decide) ww) ?_
          show own_GoesW _ _ _ _ _ _ _ (T200.setTop (mkF m 189 #[.val (.int x0), .val (.int x1), .val (.int x2), .val (.int x3), .val (.int c0), .val (.int c1), .val (.int c2), .val (.int sel), .val (.ref b168), .val (.ref k4), .val (.ref r194)] [(.int (1 : Int32))]))
          exact own_outW X200 hS hk hlk (v := some (.int (1 : Int32))) (fun h => by rw [hret] at h; cases h) (fun fs hr => retOut X200 hx (t := .boolean) hret (by decide) (Or.inl ⟨rfl, by simp, _, rfl⟩) (hb hby at_189) hr) e200 ⟨rfl, N200⟩ (by decide) (by decide)
        ·
          show own_GoesW _ _ _ _ _ _ _ (T180.setTop (mkF m 156 #[.val (.int x0), .val (.int x1), .val (.int x2), .val (.int x3), .val (.int c0), .val (.int c1), .val (.int c2), .val (.int sel), .val (.ref b168), .unset, .val (.int (1 : Int32))] [(.int c1), (.int c0), (.int (1 : Int32))]))
          obtain ⟨_, _, ⟨T201, L201, k201, n201⟩, -, X201, ⟨Lc201, hQ201, l201, y201, z201⟩, st201⟩ := Jvm.LawKit.callS X180 hx (y := (⟨"com/example/esfahan/esfahan/model/ComparisonOfSymbolPinLaw", "expect", "(ICC)Lcom/example/esfahan/esfahan/model/Comparison;"⟩ : MethodName)) hown (mvT hZ (hw _ (List.mem_of_getElem? (i := 26) rfl))) (mvT hZ (hw _ (List.mem_of_getElem? (i := 27) rfl))) (mvT hZ (hw _ (List.mem_of_getElem? (i := 2) rfl))) (mvT hZ (hw _ (List.mem_of_getElem? (i := 28) rfl))) (by decide) (backOf (W := 0) (rm_exp1 l Z a0 hw [] c0 c1 .null k0 k1 k2 k3 k4 k5 T180.heap n0 O180 S2 S4 (by first | (intros; simp_all; done) | (intro h; simp only [List.cons.injEq] at h; obtain ⟨h1, h2, h3⟩ := h; subst h1 h2; simp_all; done) | (intro h; simp only [List.cons.injEq] at h; obtain ⟨h1, h2⟩ := h; subst h1; simp_all; done)) (by first | (intros; simp_all; done) | (intro h; simp only [List.cons.injEq] at h; obtain ⟨h1, h2, h3⟩ := h; subst h1 h2; simp_all; done) | (intro h; simp only [List.cons.injEq] at h; obtain ⟨h1, h2⟩ := h; subst h1; simp_all; done)) (by first | (intros; simp_all; done) | (intro h; simp only [List.cons.injEq] at h; obtain ⟨h1, h2, h3⟩ := h; subst h1 h2; simp_all; done) | (intro h; simp only [List.cons.injEq] at h; obtain ⟨h1, h2⟩ := h; subst h1; simp_all; done))) hZ (hw _ (List.mem_of_getElem? (i := 28) rfl)) (hw _ (List.mem_of_getElem? (i := 2) rfl)) (by decide) (by decide)) (g := (mkF m 156 #[.val (.int x0), .val (.int x1), .val (.int x2), .val (.int x3), .val (.int c0), .val (.int c1), .val (.int c2), .val (.int sel), .val (.ref b168), .unset, .val (.int (1 : Int32))] [(.int c1), (.int c0), (.int (1 : Int32))])) rfl (by rw [hml]; rfl) (argsL := [(.int (1 : Int32)), (.int c0), (.int c1)]) (rest := []) (lenOf pd_10 rfl) rfl (by show 2 * 0 + _ ≤ _; exact Nat.le_of_eq rfl) (hb hby at_156) (fun _ _ => ⟨rfl, rfl, (by decide : 3 + 0 ≤ _), (by decide : 6 + 0 ≤ _)⟩)
          dsimp only [Pt.U, Pt.locs, Pt.cells, Pt.slots] at X201 l201 y201 z201 st201 hQ201
          subst l201 y201 z201
          obtain ⟨rfl, N201q, e201⟩ := hQ201
          have N201 := Fr.app N180 N201q
          refine own_goW st201 ?_
          show own_GoesW _ _ _ _ _ _ _ (T201.setTop (mkF m 159 #[.val (.int x0), .val (.int x1), .val (.int x2), .val (.int x3), .val (.int c0), .val (.int c1), .val (.int c2), .val (.int sel), .val (.ref b168), .unset, .val (.int (1 : Int32))] [.null]))
          refine own_goW (fun _ ww => XS.astore X201.here hx rfl (hb hby at_159) rfl rfl (l' := #[.val (.int x0), .val (.int x1), .val (.int x2), .val (.int x3), .val (.int c0), .val (.int c1), .val (.int c2), .val (.int sel), .val (.ref b168), .val .null, .val (.int (1 : Int32))]) rfl ww) ?_
          show own_GoesW _ _ _ _ _ _ _ (T201.setTop (mkF m 161 #[.val (.int x0), .val (.int x1), .val (.int x2), .val (.int x3), .val (.int c0), .val (.int c1), .val (.int c2), .val (.int sel), .val (.ref b168), .val .null, .val (.int (1 : Int32))] []))
          refine own_goW (fun _ ww => XS.aload X201.here hx rfl (hb hby at_161) rfl rfl ww) ?_
          show own_GoesW _ _ _ _ _ _ _ (T201.setTop (mkF m 163 #[.val (.int x0), .val (.int x1), .val (.int x2), .val (.int x3), .val (.int c0), .val (.int c1), .val (.int c2), .val (.int sel), .val (.ref b168), .val .null, .val (.int (1 : Int32))] [(.ref b168)]))
          obtain ⟨_, _, ⟨T202, L202, k202, n202⟩, -, X202, ⟨Lc202, hQ202, l202, y202, z202⟩, st202⟩ := Jvm.LawKit.callS X201 hx (y := (⟨"com/example/esfahan/esfahan/model/Comparison", "ofSymbol", "(Ljava/lang/String;)Ljava/util/Optional;"⟩ : MethodName)) hown (mvT hZ (hw _ (List.mem_of_getElem? (i := 29) rfl))) (mvT hZ (hw _ (List.mem_of_getElem? (i := 30) rfl))) (mvT hZ (hw _ (List.mem_of_getElem? (i := 31) rfl))) (mvT hZ (hw _ (List.mem_of_getElem? (i := 32) rfl))) (by decide) (backOf (W := 0) (rm_ofs l Z a0 hw [] va kk k0 k1 k2 k3 k4 k5 aE y0 ty0 kb0 y1 ty1 kb1 y2 ty2 kb2 y3 ty3 kb3 y4 ty4 kb4 y5 ty5 kb5 zc b168 t180 kb180 ([c0] : List Int32) (1 : Int32) [(.int (c0).toInt8.toInt32)] .null T180.heap n0 O180 SV AV EV SE EE FE F0 Ey0 Cy0 Vy0 Ky0 F1 Ey1 Cy1 Vy1 Ky1 F2 Ey2 Cy2 Vy2 Ky2 F3 Ey3 Cy3 Vy3 Ky3 F4 Ey4 Cy4 Vy4 Ky4 F5 Ey5 Cy5 Vy5 Ky5 SC hzc f181 V180q C180q A180q (StrChars.Road.codOf (cs := ([c0] : List Int32)) (n := 1) rfl (fun c hc => (hp_b168 c hc).2)) (own_up hp_b168) (Nat.le_of_ble_eq_true rfl) (by first | (intros; simp_all; done) | (intro h; simp only [List.cons.injEq] at h; obtain ⟨h1, h2, h3⟩ := h; subst h1 h2; simp_all; done) | (intro h; simp only [List.cons.injEq] at h; obtain ⟨h1, h2⟩ := h; subst h1; simp_all; done)) (by first | (intros; simp_all; done) | (intro h; simp only [List.cons.injEq] at h; obtain ⟨h1, h2, h3⟩ := h; subst h1 h2; simp_all; done) | (intro h; simp only [List.cons.injEq] at h; obtain ⟨h1, h2⟩ := h; subst h1; simp_all; done)) (by first | (intros; simp_all; done) | (intro h; simp only [List.cons.injEq] at h; obtain ⟨h1, h2, h3⟩ := h; subst h1 h2; simp_all; done) | (intro h; simp only [List.cons.injEq] at h; obtain ⟨h1, h2⟩ := h; subst h1; simp_all; done)) (by first | (intros; simp_all; done) | (intro h; simp only [List.cons.injEq] at h; obtain ⟨h1, h2, h3⟩ := h; subst h1 h2; simp_all; done) | (intro h; simp only [List.cons.injEq] at h; obtain ⟨h1, h2⟩ := h; subst h1; simp_all; done)) (by first | (intros; simp_all; done) | (intro h; simp only [List.cons.injEq] at h; obtain ⟨h1, h2, h3⟩ := h; subst h1 h2; simp_all; done) | (intro h; simp only [List.cons.injEq] at h; obtain ⟨h1, h2⟩ := h; subst h1; simp_all; done)) (by first | (intros; simp_all; done) | (intro h; simp only [List.cons.injEq] at h; obtain ⟨h1, h2, h3⟩ := h; subst h1 h2; simp_all; done) | (intro h; simp only [List.cons.injEq] at h; obtain ⟨h1, h2⟩ := h; subst h1; simp_all; done)) (by first | (intros; simp_all; done) | (intro h; simp only [List.cons.injEq] at h; obtain ⟨h1, h2, h3⟩ := h; subst h1 h2; simp_all; done) | (intro h; simp only [List.cons.injEq] at h; obtain ⟨h1, h2⟩ := h; subst h1; simp_all; done))) hZ (hw _ (List.mem_of_getElem? (i := 32) rfl)) (hw _ (List.mem_of_getElem? (i := 31) rfl)) (by decide) (by decide)) (g := (mkF m 163 #[.val (.int x0), .val (.int x1), .val (.int x2), .val (.int x3), .val (.int c0), .val (.int c1), .val (.int c2), .val (.int sel), .val (.ref b168), .val .null, .val (.int (1 : Int32))] [(.ref b168)])) rfl (by rw [hml]; rfl) (argsL := [(.ref b168)]) (rest := []) (lenOf pd_8 rfl) rfl (by show 2 * 0 + _ ≤ _; exact Nat.le_of_eq rfl) (hb hby at_163) (fun _ _ => ⟨rfl, e201, (by decide : 3 + 2 ≤ _), (by decide : 6 + 7 ≤ _)⟩)
          dsimp only [Pt.U, Pt.locs, Pt.cells, Pt.slots] at X202 l202 y202 z202 st202 hQ202
          subst l202 y202 z202
          obtain ⟨r202, rfl, N202q, K202q, E202q, P202⟩ := hQ202
          have N202 := Fr.app N201 N202q
          have hk := Nat.le_trans hk (own_ks K202q)
          have f203 : Exa Z T202.heap b168 "java/lang/String" := (f181.keep K202q)
          have f204 : Arv Z T202.heap b171 k171 .char (1 : Int32) [(.int c0)] (.int (0 : Int32)) := (f182.keep K202q nin0)
          have f205 : Fld Z T202.heap b168 "java/lang/String" "coder" "B" (.int (0 : Int32)) := (C180q.keep K202q nin0)
          have f206 : Fld Z T202.heap b168 "java/lang/String" "value" "[B" (.ref t180) := (V180q.keep K202q nin0)
          have f207 : Arv Z T202.heap t180 kb180 .byte (1 : Int32) [(.int (c0).toInt8.toInt32)] (.int (0 : Int32)) := (A180q.keep K202q nin0)
          have O202 := O180.keep K202q all0
          refine own_goW st202 ?_
          show own_GoesW _ _ _ _ _ _ _ (T202.setTop (mkF m 166 #[.val (.int x0), .val (.int x1), .val (.int x2), .val (.int x3), .val (.int c0), .val (.int c1), .val (.int c2), .val (.int sel), .val (.ref b168), .val .null, .val (.int (1 : Int32))] [(.ref r202)]))
          refine own_goW (fun _ ww => XS.astore X202.here hx rfl (hb hby at_166) rfl rfl (l' := #[.val (.int x0), .val (.int x1), .val (.int x2), .val (.int x3), .val (.int c0), .val (.int c1), .val (.int c2), .val (.int sel), .val (.ref b168), .val .null, .val (.ref r202)]) rfl ww) ?_
          show own_GoesW _ _ _ _ _ _ _ (T202.setTop (mkF m 168 #[.val (.int x0), .val (.int x1), .val (.int x2), .val (.int x3), .val (.int c0), .val (.int c1), .val (.int c2), .val (.int sel), .val (.ref b168), .val .null, .val (.ref r202)] []))
          refine own_goW (fun _ ww => XS.aload X202.here hx rfl (hb hby at_168) rfl rfl ww) ?_
          show own_GoesW _ _ _ _ _ _ _ (T202.setTop (mkF m 170 #[.val (.int x0), .val (.int x1), .val (.int x2), .val (.int x3), .val (.int c0), .val (.int c1), .val (.int c2), .val (.int sel), .val (.ref b168), .val .null, .val (.ref r202)] [(.ref r202)]))
          refine own_goW (fun _ ww => XS.ifnullNo X202.here hx rfl (hb hby at_170) rfl ww) ?_
          show own_GoesW _ _ _ _ _ _ _ (T202.setTop (mkF m 173 #[.val (.int x0), .val (.int x1), .val (.int x2), .val (.int x3), .val (.int c0), .val (.int c1), .val (.int c2), .val (.int sel), .val (.ref b168), .val .null, .val (.ref r202)] []))
          refine own_goW (fun _ ww => XS.aload X202.here hx rfl (hb hby at_173) rfl rfl ww) ?_
          show own_GoesW _ _ _ _ _ _ _ (T202.setTop (mkF m 175 #[.val (.int x0), .val (.int x1), .val (.int x2), .val (.int x3), .val (.int c0), .val (.int c1), .val (.int c2), .val (.int sel), .val (.ref b168), .val .null, .val (.ref r202)] [(.ref r202)]))
          refine own_goW (fun _ ww => XS.aconstNull X202.here hx rfl (hb hby at_175) ww) ?_
          show own_GoesW _ _ _ _ _ _ _ (T202.setTop (mkF m 176 #[.val (.int x0), .val (.int x1), .val (.int x2), .val (.int x3), .val (.int c0), .val (.int c1), .val (.int c2), .val (.int sel), .val (.ref b168), .val .null, .val (.ref r202)] [.null, (.ref r202)]))
          obtain ⟨cq208, kq208, q208a, q208b, q208c⟩ := isOf hZ rfl E202q
          obtain ⟨_, _, ⟨T208, L208, k208, n208⟩, -, X208, ⟨Lc208, hQ208, l208, y208, z208⟩, st208⟩ := X202.virtualBack hx (y := (⟨"java/util/Optional", "orElse", "(Ljava/lang/Object;)Ljava/lang/Object;"⟩ : MethodName)) (z := (⟨"java/util/Optional", "orElse", "(Ljava/lang/Object;)Ljava/lang/Object;"⟩ : MethodName)) hown (mvT hZ (hw _ (List.mem_of_getElem? (i := 72) rfl))) (mvT hZ (hw _ (List.mem_of_getElem? (i := 73) rfl))) (notFace_of_selects (args := #[]) (mvT hZ (hw _ (List.mem_of_getElem? (i := 75) rfl)))) (mvT hZ (hw _ (List.mem_of_getElem? (i := 75) rfl))) (mvT hZ (hw _ (List.mem_of_getElem? (i := 74) rfl))) (by decide) (backOf (W := 0) (rm_orn l Z a0 hw [] r202 T202.heap n0 O202 P202) hZ (hw _ (List.mem_of_getElem? (i := 76) rfl)) (hw _ (List.mem_of_getElem? (i := 69) rfl)) (by decide) (by decide)) q208a q208c (g := (mkF m 176 #[.val (.int x0), .val (.int x1), .val (.int x2), .val (.int x3), .val (.int c0), .val (.int c1), .val (.int c2), .val (.int sel), .val (.ref b168), .val .null, .val (.ref r202)] [.null, (.ref r202)])) rfl (by rw [hml]; rfl) (Steps.refl _) (argsL := [.null]) (rest := []) (lenOf pd_1 rfl) rfl (by show 2 * 0 + _ ≤ _; exact Nat.le_of_eq rfl) (hb hby at_176) (fun _ _ => ⟨rfl, rfl, (by decide : 5 + 0 ≤ _), (by decide : 13 + 0 ≤ _)⟩)
          dsimp only [Pt.U, Pt.locs, Pt.cells, Pt.slots] at X208 l208 y208 z208 st208 hQ208
          subst l208 y208 z208
          obtain ⟨rfl, N208q, e208⟩ := hQ208
          have N208 := Fr.app N202 N208q
          refine own_goW (fun _ ww => Steps.trans st208 ww) ?_
          show own_GoesW _ _ _ _ _ _ _ (T208.setTop (mkF m 179 #[.val (.int x0), .val (.int x1), .val (.int x2), .val (.int x3), .val (.int c0), .val (.int c1), .val (.int c2), .val (.int sel), .val (.ref b168), .val .null, .val (.ref r202)] [.null]))
          refine own_goW (fun _ ww => XS.aload X208.here hx rfl (hb hby at_179) rfl rfl ww) ?_
          show own_GoesW _ _ _ _ _ _ _ (T208.setTop (mkF m 181 #[.val (.int x0), .val (.int x1), .val (.int x2), .val (.int x3), .val (.int c0), .val (.int c1), .val (.int c2), .val (.int sel), .val (.ref b168), .val .null, .val (.ref r202)] [.null, .null]))
          refine own_goW (fun _ ww => XT.acmpNo X208.here hx rfl (hb hby at_181) rfl rfl rfl (XT.aa_ne_f rfl) ww) ?_
          show own_GoesW _ _ _ _ _ _ _ (T208.setTop (mkF m 184 #[.val (.int x0), .val (.int x1), .val (.int x2), .val (.int x3), .val (.int c0), .val (.int c1), .val (.int c2), .val (.int sel), .val (.ref b168), .val .null, .val (.ref r202)] []))
          refine own_goW (fun _ ww => XS.iconst X208.here hx rfl (hb hby at_184) ww) ?_
          show own_GoesW _ _ _ _ _ _ _ (T208.setTop (mkF m 185 #[.val (.int x0), .val (.int x1), .val (.int x2), .val (.int x3), .val (.int c0), .val (.int c1), .val (.int c2), .val (.int sel), .val (.ref b168), .val .null, .val (.ref r202)] [(.int (1 : Int32))]))
          refine own_goW (fun _ ww => XS.goto X208.here hx rfl (pc0 := 185) (pc' := 189) rfl (hb hby at_185) (by decide) (by decide) ww) ?_
          show own_GoesW _ _ _ _ _ _ _ (T208.setTop (mkF m 189 #[.val (.int x0), .val (.int x1), .val (.int x2), .val (.int x3), .val (.int c0), .val (.int c1), .val (.int c2), .val (.int sel), .val (.ref b168), .val .null, .val (.ref r202)] [(.int (1 : Int32))]))
          exact own_outW X208 hS hk hlk (v := some (.int (1 : Int32))) (fun h => by rw [hret] at h; cases h) (fun fs hr => retOut X208 hx (t := .boolean) hret (by decide) (Or.inl ⟨rfl, by simp, _, rfl⟩) (hb hby at_189) hr) e208 ⟨rfl, N208⟩ (by decide) (by decide)
    ·
      rw [hk3]
      show own_GoesW _ _ _ _ _ _ _ (T146.setTop (mkF m 44 #[.val (.int x0), .val (.int x1), .val (.int x2), .val (.int x3), .val (.int c0), .val (.int c1), .val (.int c2), .val (.int sel), .unset, .unset, .unset] [(.int (2 : Int32))]))
      refine own_goW (fun _ ww => XS.istore X146.here hx rfl (hb hby at_44) rfl (l' := #[.val (.int x0), .val (.int x1), .val (.int x2), .val (.int x3), .val (.int c0), .val (.int c1), .val (.int c2), .val (.int sel), .unset, .unset, .val (.int (2 : Int32))]) rfl ww) ?_
      show own_GoesW _ _ _ _ _ _ _ (T146.setTop (mkF m 46 #[.val (.int x0), .val (.int x1), .val (.int x2), .val (.int x3), .val (.int c0), .val (.int c1), .val (.int c2), .val (.int sel), .unset, .unset, .val (.int (2 : Int32))] []))
      refine own_goW (fun _ ww => XS.iload X146.here hx rfl (hb hby at_46) rfl  ww) ?_
      show own_GoesW _ _ _ _ _ _ _ (T146.setTop (mkF m 48 #[.val (.int x0), .val (.int x1), .val (.int x2), .val (.int x3), .val (.int c0), .val (.int c1), .val (.int c2), .val (.int sel), .unset, .unset, .val (.int (2 : Int32))] [(.int (2 : Int32))]))
      refine own_goW (fun _ ww => XS.ifYes X146.here hx rfl (pc0 := 48) (pc' := 66) rfl (hb hby at_48) rfl (own_if .ne (feq (by decide : ¬ ((2 : Int32) = (0 : Int32)))).2) (by decide) (by decide) ww) ?_
      show own_GoesW _ _ _ _ _ _ _ (T146.setTop (mkF m 66 #[.val (.int x0), .val (.int x1), .val (.int x2), .val (.int x3), .val (.int c0), .val (.int c1), .val (.int c2), .val (.int sel), .unset, .unset, .val (.int (2 : Int32))] []))
      refine own_goW (fun _ ww => XS.iload X146.here hx rfl (hb hby at_66) rfl  ww) ?_
      show own_GoesW _ _ _ _ _ _ _ (T146.setTop (mkF m 68 #[.val (.int x0), .val (.int x1), .val (.int x2), .val (.int x3), .val (.int c0), .val (.int c1), .val (.int c2), .val (.int sel), .unset, .unset, .val (.int (2 : Int32))] [(.int (2 : Int32))]))
      refine own_goW (fun _ ww => XS.iconst X146.here hx rfl (hb hby at_68) ww) ?_
      show own_GoesW _ _ _ _ _ _ _ (T146.setTop (mkF m 69 #[.val (.int x0), .val (.int x1), .val (.int x2), .val (.int x3), .val (.int c0), .val (.int c1), .val (.int c2), .val (.int sel), .unset, .unset, .val (.int (2 : Int32))] [(.int (1 : Int32)), (.int (2 : Int32))]))
      refine own_goW (fun _ ww => XS.icmpYes X146.here hx rfl (pc0 := 69) (pc' := 92) rfl (hb hby at_69) rfl (feq (by decide : ¬ ((2 : Int32) = (1 : Int32)))).2 (by decide) (by decide) ww) ?_
      show own_GoesW _ _ _ _ _ _ _ (T146.setTop (mkF m 92 #[.val (.int x0), .val (.int x1), .val (.int x2), .val (.int x3), .val (.int c0), .val (.int c1), .val (.int c2), .val (.int sel), .unset, .unset, .val (.int (2 : Int32))] []))
      refine own_goW (fun _ ww => XS.iload X146.here hx rfl (hb hby at_92) rfl  ww) ?_
      show own_GoesW _ _ _ _ _ _ _ (T146.setTop (mkF m 94 #[.val (.int x0), .val (.int x1), .val (.int x2), .val (.int x3), .val (.int c0), .val (.int c1), .val (.int c2), .val (.int sel), .unset, .unset, .val (.int (2 : Int32))] [(.int (2 : Int32))]))
      refine own_goW (fun _ ww => XS.iconst X146.here hx rfl (hb hby at_94) ww) ?_
      show own_GoesW _ _ _ _ _ _ _ (T146.setTop (mkF m 95 #[.val (.int x0), .val (.int x1), .val (.int x2), .val (.int x3), .val (.int c0), .val (.int c1), .val (.int c2), .val (.int sel), .unset, .unset, .val (.int (2 : Int32))] [(.int (2 : Int32)), (.int (2 : Int32))]))
      refine own_goW (fun _ ww => XS.icmpNo X146.here hx rfl (hb hby at_95) rfl (teq (by decide : (2 : Int32) = (2 : Int32))).2 ww) ?_
      show own_GoesW _ _ _ _ _ _ _ (T146.setTop (mkF m 98 #[.val (.int x0), .val (.int x1), .val (.int x2), .val (.int x3), .val (.int c0), .val (.int c1), .val (.int c2), .val (.int sel), .unset, .unset, .val (.int (2 : Int32))] []))
      obtain ⟨T209, h209, X209, e209, E209, A209, D209, -, st209⟩ := newO X146 hx hZ hown (hw _ (List.mem_of_getElem? (i := 4) rfl)) (hw _ (List.mem_of_getElem? (i := 5) rfl)) (hw _ (List.mem_of_getElem? (i := 6) rfl)) e146 (g := (mkF m 98 #[.val (.int x0), .val (.int x1), .val (.int x2), .val (.int x3), .val (.int c0), .val (.int c1), .val (.int c2), .val (.int sel), .unset, .unset, .val (.int (2 : Int32))] [])) rfl (hb hby at_98) (by decide) (by decide)
      obtain ⟨b209, g209⟩ : ∃ z, z = h0.size := ⟨_, rfl⟩
      rw [← g209] at A209 D209 st209
      have ne_k0_b209 : k0 ≠ b209 := Nat.ne_of_lt (Nat.lt_of_lt_of_le (F0.ext O0.2).lt (Nat.le_of_eq g209.symm))
      have ne_y0_b209 : y0 ≠ b209 := Nat.ne_of_lt (Nat.lt_of_lt_of_le (Ey0.ext O0.2).lt (Nat.le_of_eq g209.symm))
      have ne_k1_b209 : k1 ≠ b209 := Nat.ne_of_lt (Nat.lt_of_lt_of_le (F1.ext O0.2).lt (Nat.le_of_eq g209.symm))
      have ne_y1_b209 : y1 ≠ b209 := Nat.ne_of_lt (Nat.lt_of_lt_of_le (Ey1.ext O0.2).lt (Nat.le_of_eq g209.symm))
      have ne_k2_b209 : k2 ≠ b209 := Nat.ne_of_lt (Nat.lt_of_lt_of_le (F2.ext O0.2).lt (Nat.le_of_eq g209.symm))
      have ne_y2_b209 : y2 ≠ b209 := Nat.ne_of_lt (Nat.lt_of_lt_of_le (Ey2.ext O0.2).lt (Nat.le_of_eq g209.symm))
      have ne_k3_b209 : k3 ≠ b209 := Nat.ne_of_lt (Nat.lt_of_lt_of_le (F3.ext O0.2).lt (Nat.le_of_eq g209.symm))
      have ne_y3_b209 : y3 ≠ b209 := Nat.ne_of_lt (Nat.lt_of_lt_of_le (Ey3.ext O0.2).lt (Nat.le_of_eq g209.symm))
      have ne_k4_b209 : k4 ≠ b209 := Nat.ne_of_lt (Nat.lt_of_lt_of_le (F4.ext O0.2).lt (Nat.le_of_eq g209.symm))
      have ne_y4_b209 : y4 ≠ b209 := Nat.ne_of_lt (Nat.lt_of_lt_of_le (Ey4.ext O0.2).lt (Nat.le_of_eq g209.symm))
      have ne_k5_b209 : k5 ≠ b209 := Nat.ne_of_lt (Nat.lt_of_lt_of_le (F5.ext O0.2).lt (Nat.le_of_eq g209.symm))
      have ne_y5_b209 : y5 ≠ b209 := Nat.ne_of_lt (Nat.lt_of_lt_of_le (Ey5.ext O0.2).lt (Nat.le_of_eq g209.symm))
      have ne_aE_b209 : aE ≠ b209 := Nat.ne_of_lt (Nat.lt_of_lt_of_le (EE.ext O0.2).lt (Nat.le_of_eq g209.symm))
      have g_b209 : n0 ≤ b209 := Nat.le_trans (O0.1 ▸ O0.2.1) (Nat.le_of_eq g209.symm)
      have O209 := O0.ext E209
      have hk := Nat.le_trans hk E209.1
      have f210 : Fld Z h209 b209 "java/lang/String" "value" "[B" .null := D209 (Or.inr (hw _ (List.mem_of_getElem? (i := 20) rfl))) (ty := (.array .byte)) (by decide)
      have f211 : Fld Z h209 b209 "java/lang/String" "coder" "B" (.int (0 : Int32)) := D209 (Or.inr (hw _ (List.mem_of_getElem? (i := 21) rfl))) (ty := .byte) (by decide)
      refine own_goW st209 ?_
      show own_GoesW _ _ _ _ _ _ _ (T209.setTop (mkF m 101 #[.val (.int x0), .val (.int x1), .val (.int x2), .val (.int x3), .val (.int c0), .val (.int c1), .val (.int c2), .val (.int sel), .unset, .unset, .val (.int (2 : Int32))] [(.ref b209)]))
      refine own_goW (fun _ ww => XS.dup X209.here hx rfl (hb hby at_101) rfl rfl ww) ?_
      show own_GoesW _ _ _ _ _ _ _ (T209.setTop (mkF m 102 #[.val (.int x0), .val (.int x1), .val (.int x2), .val (.int x3), .val (.int c0), .val (.int c1), .val (.int c2), .val (.int sel), .unset, .unset, .val (.int (2 : Int32))] [(.ref b209), (.ref b209)]))
      refine own_goW (fun _ ww => XS.iconst X209.here hx rfl (hb hby at_102) ww) ?_
      show own_GoesW _ _ _ _ _ _ _ (T209.setTop (mkF m 103 #[.val (.int x0), .val (.int x1), .val (.int x2), .val (.int x3), .val (.int c0), .val (.int c1), .val (.int c2), .val (.int sel), .unset, .unset, .val (.int (2 : Int32))] [(.int (2 : Int32)), (.ref b209), (.ref b209)]))
      obtain ⟨T212, h212, k212, X212, e212, E212, A212, st212⟩ := newP X209 hx hZ (hw _ (List.mem_of_getElem? (i := 7) rfl)) e209 (g := (mkF m 103 #[.val (.int x0), .val (.int x1), .val (.int x2), .val (.int x3), .val (.int c0), .val (.int c1), .val (.int c2), .val (.int sel), .unset, .unset, .val (.int (2 : Int32))] [(.int (2 : Int32)), (.ref b209), (.ref b209)])) rfl (hb hby at_103) rfl (by decide) (cap := 2) (by decide) (by decide) (by decide) (by decide)
      obtain ⟨b212, g212⟩ : ∃ z, z = h209.size := ⟨_, rfl⟩
      rw [← g212] at A212 st212
      have ne_b209_b212 : b209 ≠ b212 := Nat.ne_of_lt (Nat.lt_of_lt_of_le f210.lt (Nat.le_of_eq g212.symm))
      have ne_k0_b212 : k0 ≠ b212 := Nat.ne_of_lt (Nat.lt_of_lt_of_le (F0.ext O209.2).lt (Nat.le_of_eq g212.symm))
      have ne_y0_b212 : y0 ≠ b212 := Nat.ne_of_lt (Nat.lt_of_lt_of_le (Ey0.ext O209.2).lt (Nat.le_of_eq g212.symm))
      have ne_k1_b212 : k1 ≠ b212 := Nat.ne_of_lt (Nat.lt_of_lt_of_le (F1.ext O209.2).lt (Nat.le_of_eq g212.symm))
      have ne_y1_b212 : y1 ≠ b212 := Nat.ne_of_lt (Nat.lt_of_lt_of_le (Ey1.ext O209.2).lt (Nat.le_of_eq g212.symm))
      have ne_k2_b212 : k2 ≠ b212 := Nat.ne_of_lt (Nat.lt_of_lt_of_le (F2.ext O209.2).lt (Nat.le_of_eq g212.symm))
      have ne_y2_b212 : y2 ≠ b212 := Nat.ne_of_lt (Nat.lt_of_lt_of_le (Ey2.ext O209.2).lt (Nat.le_of_eq g212.symm))
      have ne_k3_b212 : k3 ≠ b212 := Nat.ne_of_lt (Nat.lt_of_lt_of_le (F3.ext O209.2).lt (Nat.le_of_eq g212.symm))
      have ne_y3_b212 : y3 ≠ b212 := Nat.ne_of_lt (Nat.lt_of_lt_of_le (Ey3.ext O209.2).lt (Nat.le_of_eq g212.symm))
      have ne_k4_b212 : k4 ≠ b212 := Nat.ne_of_lt (Nat.lt_of_lt_of_le (F4.ext O209.2).lt (Nat.le_of_eq g212.symm))
      have ne_y4_b212 : y4 ≠ b212 := Nat.ne_of_lt (Nat.lt_of_lt_of_le (Ey4.ext O209.2).lt (Nat.le_of_eq g212.symm))
      have ne_k5_b212 : k5 ≠ b212 := Nat.ne_of_lt (Nat.lt_of_lt_of_le (F5.ext O209.2).lt (Nat.le_of_eq g212.symm))
      have ne_y5_b212 : y5 ≠ b212 := Nat.ne_of_lt (Nat.lt_of_lt_of_le (Ey5.ext O209.2).lt (Nat.le_of_eq g212.symm))
      have ne_aE_b212 : aE ≠ b212 := Nat.ne_of_lt (Nat.lt_of_lt_of_le (EE.ext O209.2).lt (Nat.le_of_eq g212.symm))
      have g_b212 : n0 ≤ b212 := Nat.le_trans (O209.1 ▸ O209.2.1) (Nat.le_of_eq g212.symm)
      have f213 : Fld Z h212 b209 "java/lang/String" "value" "[B" .null := (f210.ext E212)
      have f214 : Fld Z h212 b209 "java/lang/String" "coder" "B" (.int (0 : Int32)) := (f211.ext E212)
      have f215 : Exa Z h212 b209 "java/lang/String" := (A209.ext E212)
      have O212 := O209.ext E212
      have hk := Nat.le_trans hk E212.1
      have V212 : Arv Z h212 b212 k212 .char (2 : Int32) [(.int (0 : Int32)), (.int (0 : Int32))] (.int (0 : Int32)) := (Arv.new A212 (by decide)).pad (pad_rep [] (.int (0 : Int32)) 2)
      refine own_goW st212 ?_
      show own_GoesW _ _ _ _ _ _ _ (T212.setTop (mkF m 105 #[.val (.int x0), .val (.int x1), .val (.int x2), .val (.int x3), .val (.int c0), .val (.int c1), .val (.int c2), .val (.int sel), .unset, .unset, .val (.int (2 : Int32))] [(.ref b212), (.ref b209), (.ref b209)]))
      refine own_goW (fun _ ww => XS.dup X212.here hx rfl (hb hby at_105) rfl rfl ww) ?_
      show own_GoesW _ _ _ _ _ _ _ (T212.setTop (mkF m 106 #[.val (.int x0), .val (.int x1), .val (.int x2), .val (.int x3), .val (.int c0), .val (.int c1), .val (.int c2), .val (.int sel), .unset, .unset, .val (.int (2 : Int32))] [(.ref b212), (.ref b212), (.ref b209), (.ref b209)]))
      refine own_goW (fun _ ww => XS.iconst X212.here hx rfl (hb hby at_106) ww) ?_
      show own_GoesW _ _ _ _ _ _ _ (T212.setTop (mkF m 107 #[.val (.int x0), .val (.int x1), .val (.int x2), .val (.int x3), .val (.int c0), .val (.int c1), .val (.int c2), .val (.int sel), .unset, .unset, .val (.int (2 : Int32))] [(.int (0 : Int32)), (.ref b212), (.ref b212), (.ref b209), (.ref b209)]))
      refine own_goW (fun _ ww => XS.iload X212.here hx rfl (hb hby at_107) rfl  ww) ?_
      show own_GoesW _ _ _ _ _ _ _ (T212.setTop (mkF m 109 #[.val (.int x0), .val (.int x1), .val (.int x2), .val (.int x3), .val (.int c0), .val (.int c1), .val (.int c2), .val (.int sel), .unset, .unset, .val (.int (2 : Int32))] [(.int c0), (.int (0 : Int32)), (.ref b212), (.ref b212), (.ref b209), (.ref b209)]))
      obtain ⟨cl216, Ar216, q216, S216, M216, H216, U216⟩ := id V212
      obtain ⟨T216, h216, X216, e216, W216, st216⟩ := stC X212 hx hZ e212 Ar216 (j := (0 : Int32)) (inb_of S216 ⟨by decide, by decide⟩) (g := (mkF m 109 #[.val (.int x0), .val (.int x1), .val (.int x2), .val (.int x3), .val (.int c0), .val (.int c1), .val (.int c2), .val (.int sel), .unset, .unset, .val (.int (2 : Int32))] [(.int c0), (.int (0 : Int32)), (.ref b212), (.ref b212), (.ref b209), (.ref b209)])) rfl rfl (hb hby at_109)
      have nr216 : nar .char c0 = c0 := (own_narc bc0)
      rw [nr216] at W216
      have ft216 : fits .char (.int c0) = true := by have q := fits_nar_char c0; rw [nr216] at q; exact q
      have f217 : Fld Z h216 b209 "java/lang/String" "value" "[B" .null := (f213.other W216 (Or.inl ne_b209_b212))
      have f218 : Fld Z h216 b209 "java/lang/String" "coder" "B" (.int (0 : Int32)) := (f214.other W216 (Or.inl ne_b209_b212))
      have f219 : Exa Z h216 b209 "java/lang/String" := (f215.wr W216)
      have f220 : Arv Z h216 b212 k212 .char (2 : Int32) [(.int c0), (.int (0 : Int32))] (.int (0 : Int32)) := (Arv.set Ar216 q216 S216 M216 H216 U216 ft216 W216 0 rfl (Nat.le_of_ble_eq_true rfl))
      have hk := Nat.le_trans hk (Keep.of_wr W216).1
      have N216 := Fr.snoc X216 N146 g_b212
      have O216 := O212.wr W216 g_b212
      refine own_goW st216 ?_
      show own_GoesW _ _ _ _ _ _ _ (T216.setTop (mkF m 110 #[.val (.int x0), .val (.int x1), .val (.int x2), .val (.int x3), .val (.int c0), .val (.int c1), .val (.int c2), .val (.int sel), .unset, .unset, .val (.int (2 : Int32))] [(.ref b212), (.ref b209), (.ref b209)]))
      refine own_goW (fun _ ww => XS.dup X216.here hx rfl (hb hby at_110) rfl rfl ww) ?_
      show own_GoesW _ _ _ _ _ _ _ (T216.setTop (mkF m 111 #[.val (.int x0), .val (.int x1), .val (.int x2), .val (.int x3), .val (.int c0), .val (.int c1), .val (.int c2), .val (.int sel), .unset, .unset, .val (.int (2 : Int32))] [(.ref b212), (.ref b212), (.ref b209), (.ref b209)]))
      refine own_goW (fun _ ww => XS.iconst X216.here hx rfl (hb hby at_111) ww) ?_
      show own_GoesW _ _ _ _ _ _ _ (T216.setTop (mkF m 112 #[.val (.int x0), .val (.int x1), .val (.int x2), .val (.int x3), .val (.int c0), .val (.int c1), .val (.int c2), .val (.int sel), .unset, .unset, .val (.int (2 : Int32))] [(.int (1 : Int32)), (.ref b212), (.ref b212), (.ref b209), (.ref b209)]))
      refine own_goW (fun _ ww => XS.iload X216.here hx rfl (hb hby at_112) rfl  ww) ?_
      show own_GoesW _ _ _ _ _ _ _ (T216.setTop (mkF m 114 #[.val (.int x0), .val (.int x1), .val (.int x2), .val (.int x3), .val (.int c0), .val (.int c1), .val (.int c2), .val (.int sel), .unset, .unset, .val (.int (2 : Int32))] [(.int c1), (.int (1 : Int32)), (.ref b212), (.ref b212), (.ref b209), (.ref b209)]))
      obtain ⟨cl221, Ar221, q221, S221, M221, H221, U221⟩ := id f220
      obtain ⟨T221, h221, X221, e221, W221, st221⟩ := stC X216 hx hZ e216 Ar221 (j := (1 : Int32)) (inb_of S221 ⟨by decide, by decide⟩) (g := (mkF m 114 #[.val (.int x0), .val (.int x1), .val (.int x2), .val (.int x3), .val (.int c0), .val (.int c1), .val (.int c2), .val (.int sel), .unset, .unset, .val (.int (2 : Int32))] [(.int c1), (.int (1 : Int32)), (.ref b212), (.ref b212), (.ref b209), (.ref b209)])) rfl rfl (hb hby at_114)
      have nr221 : nar .char c1 = c1 := (own_narc bc1)
      rw [nr221] at W221
      have ft221 : fits .char (.int c1) = true := by have q := fits_nar_char c1; rw [nr221] at q; exact q
      have f222 : Fld Z h221 b209 "java/lang/String" "value" "[B" .null := (f217.other W221 (Or.inl ne_b209_b212))
      have f223 : Fld Z h221 b209 "java/lang/String" "coder" "B" (.int (0 : Int32)) := (f218.other W221 (Or.inl ne_b209_b212))
      have f224 : Exa Z h221 b209 "java/lang/String" := (f219.wr W221)
      have f225 : Arv Z h221 b212 k212 .char (2 : Int32) [(.int c0), (.int c1)] (.int (0 : Int32)) := (Arv.set Ar221 q221 S221 M221 H221 U221 ft221 W221 1 rfl (Nat.le_of_ble_eq_true rfl))
      have hk := Nat.le_trans hk (Keep.of_wr W221).1
      have N221 := Fr.snoc X221 N216 g_b212
      have O221 := O216.wr W221 g_b212
      refine own_goW st221 ?_
      show own_GoesW _ _ _ _ _ _ _ (T221.setTop (mkF m 115 #[.val (.int x0), .val (.int x1), .val (.int x2), .val (.int x3), .val (.int c0), .val (.int c1), .val (.int c2), .val (.int sel), .unset, .unset, .val (.int (2 : Int32))] [(.ref b212), (.ref b209), (.ref b209)]))
      have hp_b209 : ∀ c ∈ ([c0, c1] : List Int32), ¬ c < 0 ∧ ¬ (255 : Int32) < c := (own_allc bc0 (own_allc bc1 (fun _ q => nomatch q)))
      obtain ⟨_, _, ⟨T226, L226, k226, n226⟩, -, X226, ⟨Lc226, hQ226, l226, y226, z226⟩, st226⟩ := X221.specialBack hx (y := (⟨"java/lang/String", "<init>", "([C)V"⟩ : MethodName)) rfl hown (mvT hZ (hw _ (List.mem_of_getElem? (i := 8) rfl))) (mvT hZ (hw _ (List.mem_of_getElem? (i := 9) rfl))) (mvT hZ (hw _ (List.mem_of_getElem? (i := 10) rfl))) (by decide) (StrChars.Road.backV (W := 1) hZ (own_words hw) (kI := 4) (hw _ (List.mem_of_getElem? (i := 5) rfl)) (cs := ([c0, c1] : List Int32)) (bs := (([c0, c1] : List Int32)).map (fun c => c.toInt8.toInt32)) (n := 2) g_b209 (own_ns O221) f224 f222 f223 f225 (SC.ext O221.2) hzc rfl rfl (by decide) (by decide) hp_b209 rfl (by decide) (by decide)) (g := (mkF m 115 #[.val (.int x0), .val (.int x1), .val (.int x2), .val (.int x3), .val (.int c0), .val (.int c1), .val (.int c2), .val (.int sel), .unset, .unset, .val (.int (2 : Int32))] [(.ref b212), (.ref b209), (.ref b209)])) rfl (by rw [hml]; rfl) (Steps.refl _) (a := b209) (argsL := [(.ref b212)]) (rest := [(.ref b209)]) (lenOf pd_9 rfl) rfl (by show 2 * 0 + _ ≤ _; exact Nat.le_of_eq rfl) (hb hby at_115) (fun _ _ => ⟨rfl, e221, (by decide : 2 + 1 ≤ _), (by decide : 6 + 2 ≤ _)⟩)
      dsimp only [Pt.U, Pt.locs, Pt.cells, Pt.slots] at X226 l226 y226 z226 st226 hQ226
      subst l226 y226 z226
      obtain ⟨rfl, N226q, K226q, E226q, C226q, t226, kb226, -, G226q, -, V226q, A226q⟩ := hQ226
      have N226 := Fr.app N221 N226q
      have hk := Nat.le_trans hk (own_ks K226q)
      have ne_b209_t226 : b209 ≠ t226 := Nat.ne_of_lt (Nat.lt_of_lt_of_le f222.lt G226q)
      have ne_b212_t226 : b212 ≠ t226 := Nat.ne_of_lt (Nat.lt_of_lt_of_le f225.lt G226q)
      have ne_k0_t226 : k0 ≠ t226 := Nat.ne_of_lt (Nat.lt_of_lt_of_le (F0.ext O221.2).lt G226q)
      have ne_y0_t226 : y0 ≠ t226 := Nat.ne_of_lt (Nat.lt_of_lt_of_le (Ey0.ext O221.2).lt G226q)
      have ne_k1_t226 : k1 ≠ t226 := Nat.ne_of_lt (Nat.lt_of_lt_of_le (F1.ext O221.2).lt G226q)
      have ne_y1_t226 : y1 ≠ t226 := Nat.ne_of_lt (Nat.lt_of_lt_of_le (Ey1.ext O221.2).lt G226q)
      have ne_k2_t226 : k2 ≠ t226 := Nat.ne_of_lt (Nat.lt_of_lt_of_le (F2.ext O221.2).lt G226q)
      have ne_y2_t226 : y2 ≠ t226 := Nat.ne_of_lt (Nat.lt_of_lt_of_le (Ey2.ext O221.2).lt G226q)
      have ne_k3_t226 : k3 ≠ t226 := Nat.ne_of_lt (Nat.lt_of_lt_of_le (F3.ext O221.2).lt G226q)
      have ne_y3_t226 : y3 ≠ t226 := Nat.ne_of_lt (Nat.lt_of_lt_of_le (Ey3.ext O221.2).lt G226q)
      have ne_k4_t226 : k4 ≠ t226 := Nat.ne_of_lt (Nat.lt_of_lt_of_le (F4.ext O221.2).lt G226q)
      have ne_y4_t226 : y4 ≠ t226 := Nat.ne_of_lt (Nat.lt_of_lt_of_le (Ey4.ext O221.2).lt G226q)
      have ne_k5_t226 : k5 ≠ t226 := Nat.ne_of_lt (Nat.lt_of_lt_of_le (F5.ext O221.2).lt G226q)
      have ne_y5_t226 : y5 ≠ t226 := Nat.ne_of_lt (Nat.lt_of_lt_of_le (Ey5.ext O221.2).lt G226q)
      have ne_aE_t226 : aE ≠ t226 := Nat.ne_of_lt (Nat.lt_of_lt_of_le (EE.ext O221.2).lt G226q)
      have g_t226 : n0 ≤ t226 := Nat.le_trans (O221.1 ▸ O221.2.1) G226q
      have f227 : Exa Z T226.heap b209 "java/lang/String" := (f224.keep K226q)
      have f228 : Arv Z T226.heap b212 k212 .char (2 : Int32) [(.int c0), (.int c1)] (.int (0 : Int32)) := (f225.keep K226q (ninS (Ne.symm ne_b209_b212) nin0))
      have O226 := O221.keep K226q (allS g_b209 all0)
      refine own_goW (fun _ ww => Steps.trans st226 ww) ?_
      show own_GoesW _ _ _ _ _ _ _ (T226.setTop (mkF m 118 #[.val (.int x0), .val (.int x1), .val (.int x2), .val (.int x3), .val (.int c0), .val (.int c1), .val (.int c2), .val (.int sel), .unset, .unset, .val (.int (2 : Int32))] [(.ref b209)]))
      refine own_goW (fun _ ww => XS.astore X226.here hx rfl (hb hby at_118) rfl rfl (l' := #[.val (.int x0), .val (.int x1), .val (.int x2), .val (.int x3), .val (.int c0), .val (.int c1), .val (.int c2), .val (.int sel), .val (.ref b209), .unset, .val (.int (2 : Int32))]) rfl ww) ?_
      show own_GoesW _ _ _ _ _ _ _ (T226.setTop (mkF m 120 #[.val (.int x0), .val (.int x1), .val (.int x2), .val (.int x3), .val (.int c0), .val (.int c1), .val (.int c2), .val (.int sel), .val (.ref b209), .unset, .val (.int (2 : Int32))] []))
      refine own_goW (fun _ ww => XS.goto X226.here hx rfl (pc0 := 120) (pc' := 150) rfl (hb hby at_120) (by decide) (by decide) ww) ?_
      show own_GoesW _ _ _ _ _ _ _ (T226.setTop (mkF m 150 #[.val (.int x0), .val (.int x1), .val (.int x2), .val (.int x3), .val (.int c0), .val (.int c1), .val (.int c2), .val (.int sel), .val (.ref b209), .unset, .val (.int (2 : Int32))] []))
      refine own_goW (fun _ ww => XS.iload X226.here hx rfl (hb hby at_150) rfl  ww) ?_
      show own_GoesW _ _ _ _ _ _ _ (T226.setTop (mkF m 152 #[.val (.int x0), .val (.int x1), .val (.int x2), .val (.int x3), .val (.int c0), .val (.int c1), .val (.int c2), .val (.int sel), .val (.ref b209), .unset, .val (.int (2 : Int32))] [(.int (2 : Int32))]))
      refine own_goW (fun _ ww => XS.iload X226.here hx rfl (hb hby at_152) rfl  ww) ?_
      show own_GoesW _ _ _ _ _ _ _ (T226.setTop (mkF m 154 #[.val (.int x0), .val (.int x1), .val (.int x2), .val (.int x3), .val (.int c0), .val (.int c1), .val (.int c2), .val (.int sel), .val (.ref b209), .unset, .val (.int (2 : Int32))] [(.int c0), (.int (2 : Int32))]))
      refine own_goW (fun _ ww => XS.iload X226.here hx rfl (hb hby at_154) rfl  ww) ?_
      show own_GoesW _ _ _ _ _ _ _ (T226.setTop (mkF m 156 #[.val (.int x0), .val (.int x1), .val (.int x2), .val (.int x3), .val (.int c0), .val (.int c1), .val (.int c2), .val (.int sel), .val (.ref b209), .unset, .val (.int (2 : Int32))] [(.int c1), (.int c0), (.int (2 : Int32))]))
      by_cases hq229 : c1 = 61
      ·
        by_cases hq230 : c0 = 61
        ·
          show own_GoesW _ _ _ _ _ _ _ (T226.setTop (mkF m 156 #[.val (.int x0), .val (.int x1), .val (.int x2), .val (.int x3), .val (.int c0), .val (.int c1), .val (.int c2), .val (.int sel), .val (.ref b209), .unset, .val (.int (2 : Int32))] [(.int c1), (.int c0), (.int (2 : Int32))]))
          obtain ⟨_, _, ⟨T231, L231, k231, n231⟩, -, X231, ⟨Lc231, hQ231, l231, y231, z231⟩, st231⟩ := Jvm.LawKit.callS X226 hx (y := (⟨"com/example/esfahan/esfahan/model/ComparisonOfSymbolPinLaw", "expect", "(ICC)Lcom/example/esfahan/esfahan/model/Comparison;"⟩ : MethodName)) hown (mvT hZ (hw _ (List.mem_of_getElem? (i := 26) rfl))) (mvT hZ (hw _ (List.mem_of_getElem? (i := 27) rfl))) (mvT hZ (hw _ (List.mem_of_getElem? (i := 2) rfl))) (mvT hZ (hw _ (List.mem_of_getElem? (i := 28) rfl))) (by decide) (backOf (W := 0) (rm_exp2 l Z a0 hw [] c0 c1 (.ref k0) k0 k1 k2 k3 k4 k5 T226.heap n0 O226 S0 S1 S3 S5 (by first | (intros; simp_all; done) | (intro h; simp only [List.cons.injEq] at h; obtain ⟨h1, h2, h3⟩ := h; subst h1 h2; simp_all; done) | (intro h; simp only [List.cons.injEq] at h; obtain ⟨h1, h2⟩ := h; subst h1; simp_all; done)) (by first | (intros; simp_all; done) | (intro h; simp only [List.cons.injEq] at h; obtain ⟨h1, h2, h3⟩ := h; subst h1 h2; simp_all; done) | (intro h; simp only [List.cons.injEq] at h; obtain ⟨h1, h2⟩ := h; subst h1; simp_all; done)) (by first | (intros; simp_all; done) | (intro h; simp only [List.cons.injEq] at h; obtain ⟨h1, h2, h3⟩ := h; subst h1 h2; simp_all; done) | (intro h; simp only [List.cons.injEq] at h; obtain ⟨h1, h2⟩ := h; subst h1; simp_all; done)) (by first | (intros; simp_all; done) | (intro h; simp only [List.cons.injEq] at h; obtain ⟨h1, h2, h3⟩ := h; subst h1 h2; simp_all; done) | (intro h; simp only [List.cons.injEq] at h; obtain ⟨h1, h2⟩ := h; subst h1; simp_all; done)) (by first | (intros; simp_all; done) | (intro h; simp only [List.cons.injEq] at h; obtain ⟨h1, h2, h3⟩ := h; subst h1 h2; simp_all; done) | (intro h; simp only [List.cons.injEq] at h; obtain ⟨h1, h2⟩ := h; subst h1; simp_all; done)) (by first | (intros; simp_all; done) | (intro h; simp only [List.cons.injEq] at h; obtain ⟨h1, h2, h3⟩ := h; subst h1 h2; simp_all; done) | (intro h; simp only [List.cons.injEq] at h; obtain ⟨h1, h2⟩ := h; subst h1; simp_all; done))) hZ (hw _ (List.mem_of_getElem? (i := 28) rfl)) (hw _ (List.mem_of_getElem? (i := 2) rfl)) (by decide) (by decide)) (g := (mkF m 156 #[.val (.int x0), .val (.int x1), .val (.int x2), .val (.int x3), .val (.int c0), .val (.int c1), .val (.int c2), .val (.int sel), .val (.ref b209), .unset, .val (.int (2 : Int32))] [(.int c1), (.int c0), (.int (2 : Int32))])) rfl (by rw [hml]; rfl) (argsL := [(.int (2 : Int32)), (.int c0), (.int c1)]) (rest := []) (lenOf pd_10 rfl) rfl (by show 2 * 0 + _ ≤ _; exact Nat.le_of_eq rfl) (hb hby at_156) (fun _ _ => ⟨rfl, rfl, (by decide : 3 + 0 ≤ _), (by decide : 8 + 0 ≤ _)⟩)
          dsimp only [Pt.U, Pt.locs, Pt.cells, Pt.slots] at X231 l231 y231 z231 st231 hQ231
          subst l231 y231 z231
          obtain ⟨rfl, N231q, e231⟩ := hQ231
          have N231 := Fr.app N226 N231q
          refine own_goW st231 ?_
          show own_GoesW _ _ _ _ _ _ _ (T231.setTop (mkF m 159 #[.val (.int x0), .val (.int x1), .val (.int x2), .val (.int x3), .val (.int c0), .val (.int c1), .val (.int c2), .val (.int sel), .val (.ref b209), .unset, .val (.int (2 : Int32))] [(.ref k0)]))
          refine own_goW (fun _ ww => XS.astore X231.here hx rfl (hb hby at_159) rfl rfl (l' := #[.val (.int x0), .val (.int x1), .val (.int x2), .val (.int x3), .val (.int c0), .val (.int c1), .val (.int c2), .val (.int sel), .val (.ref b209), .val (.ref k0), .val (.int (2 : Int32))]) rfl ww) ?_
          show own_GoesW _ _ _ _ _ _ _ (T231.setTop (mkF m 161 #[.val (.int x0), .val (.int x1), .val (.int x2), .val (.int x3), .val (.int c0), .val (.int c1), .val (.int c2), .val (.int sel), .val (.ref b209), .val (.ref k0), .val (.int (2 : Int32))] []))
          refine own_goW (fun _ ww => XS.aload X231.here hx rfl (hb hby at_161) rfl rfl ww) ?_
          show own_GoesW _ _ _ _ _ _ _ (T231.setTop (mkF m 163 #[.val (.int x0), .val (.int x1), .val (.int x2), .val (.int x3), .val (.int c0), .val (.int c1), .val (.int c2), .val (.int sel), .val (.ref b209), .val (.ref k0), .val (.int (2 : Int32))] [(.ref b209)]))
          obtain ⟨_, _, ⟨T232, L232, k232, n232⟩, -, X232, ⟨Lc232, hQ232, l232, y232, z232⟩, st232⟩ := Jvm.LawKit.callS X231 hx (y := (⟨"com/example/esfahan/esfahan/model/Comparison", "ofSymbol", "(Ljava/lang/String;)Ljava/util/Optional;"⟩ : MethodName)) hown (mvT hZ (hw _ (List.mem_of_getElem? (i := 29) rfl))) (mvT hZ (hw _ (List.mem_of_getElem? (i := 30) rfl))) (mvT hZ (hw _ (List.mem_of_getElem? (i := 31) rfl))) (mvT hZ (hw _ (List.mem_of_getElem? (i := 32) rfl))) (by decide) (backOf (W := 0) (rm_ofs l Z a0 hw [] va kk k0 k1 k2 k3 k4 k5 aE y0 ty0 kb0 y1 ty1 kb1 y2 ty2 kb2 y3 ty3 kb3 y4 ty4 kb4 y5 ty5 kb5 zc b209 t226 kb226 ([c0, c1] : List Int32) (2 : Int32) [(.int (c0).toInt8.toInt32), (.int (c1).toInt8.toInt32)] (.ref k0) T226.heap n0 O226 SV AV EV SE EE FE F0 Ey0 Cy0 Vy0 Ky0 F1 Ey1 Cy1 Vy1 Ky1 F2 Ey2 Cy2 Vy2 Ky2 F3 Ey3 Cy3 Vy3 Ky3 F4 Ey4 Cy4 Vy4 Ky4 F5 Ey5 Cy5 Vy5 Ky5 SC hzc f227 V226q C226q A226q (StrChars.Road.codOf (cs := ([c0, c1] : List Int32)) (n := 2) rfl (fun c hc => (hp_b209 c hc).2)) (own_up hp_b209) (Nat.le_of_ble_eq_true rfl) (by first | (intros; simp_all; done) | (intro h; simp only [List.cons.injEq] at h; obtain ⟨h1, h2, h3⟩ := h; subst h1 h2; simp_all; done) | (intro h; simp only [List.cons.injEq] at h; obtain ⟨h1, h2⟩ := h; subst h1; simp_all; done)) (by first | (intros; simp_all; done) | (intro h; simp only [List.cons.injEq] at h; obtain ⟨h1, h2, h3⟩ := h; subst h1 h2; simp_all; done) | (intro h; simp only [List.cons.injEq] at h; obtain ⟨h1, h2⟩ := h; subst h1; simp_all; done)) (by first | (intros; simp_all; done) | (intro h; simp only [List.cons.injEq] at h; obtain ⟨h1, h2, h3⟩ := h; subst h1 h2; simp_all; done) | (intro h; simp only [List.cons.injEq] at h; obtain ⟨h1, h2⟩ := h; subst h1; simp_all; done)) (by first | (intros; simp_all; done) | (intro h; simp only [List.cons.injEq] at h; obtain ⟨h1, h2, h3⟩ := h; subst h1 h2; simp_all; done) | (intro h; simp only [List.cons.injEq] at h; obtain ⟨h1, h2⟩ := h; subst h1; simp_all; done)) (by first | (intros; simp_all; done) | (intro h; simp only [List.cons.injEq] at h; obtain ⟨h1, h2, h3⟩ := h; subst h1 h2; simp_all; done) | (intro h; simp only [List.cons.injEq] at h; obtain ⟨h1, h2⟩ := h; subst h1; simp_all; done)) (by first | (intros; simp_all; done) | (intro h; simp only [List.cons.injEq] at h; obtain ⟨h1, h2, h3⟩ := h; subst h1 h2; simp_all; done) | (intro h; simp only [List.cons.injEq] at h; obtain ⟨h1, h2⟩ := h; subst h1; simp_all; done)) (by first | (intros; simp_all; done) | (intro h; simp only [List.cons.injEq] at h; obtain ⟨h1, h2, h3⟩ := h; subst h1 h2; simp_all; done) | (intro h; simp only [List.cons.injEq] at h; obtain ⟨h1, h2⟩ := h; subst h1; simp_all; done))) hZ (hw _ (List.mem_of_getElem? (i := 32) rfl)) (hw _ (List.mem_of_getElem? (i := 31) rfl)) (by decide) (by decide)) (g := (mkF m 163 #[.val (.int x0), .val (.int x1), .val (.int x2), .val (.int x3), .val (.int c0), .val (.int c1), .val (.int c2), .val (.int sel), .val (.ref b209), .val (.ref k0), .val (.int (2 : Int32))] [(.ref b209)])) rfl (by rw [hml]; rfl) (argsL := [(.ref b209)]) (rest := []) (lenOf pd_8 rfl) rfl (by show 2 * 0 + _ ≤ _; exact Nat.le_of_eq rfl) (hb hby at_163) (fun _ _ => ⟨rfl, e231, (by decide : 3 + 2 ≤ _), (by decide : 8 + 7 ≤ _)⟩)
          dsimp only [Pt.U, Pt.locs, Pt.cells, Pt.slots] at X232 l232 y232 z232 st232 hQ232
          subst l232 y232 z232
          obtain ⟨r232, rfl, N232q, K232q, E232q, P232⟩ := hQ232
          have N232 := Fr.app N231 N232q
          have hk := Nat.le_trans hk (own_ks K232q)
          have f233 : Exa Z T232.heap b209 "java/lang/String" := (f227.keep K232q)
          have f234 : Arv Z T232.heap b212 k212 .char (2 : Int32) [(.int c0), (.int c1)] (.int (0 : Int32)) := (f228.keep K232q nin0)
          have f235 : Fld Z T232.heap b209 "java/lang/String" "coder" "B" (.int (0 : Int32)) := (C226q.keep K232q nin0)
          have f236 : Fld Z T232.heap b209 "java/lang/String" "value" "[B" (.ref t226) := (V226q.keep K232q nin0)
          have f237 : Arv Z T232.heap t226 kb226 .byte (2 : Int32) [(.int (c0).toInt8.toInt32), (.int (c1).toInt8.toInt32)] (.int (0 : Int32)) := (A226q.keep K232q nin0)
          have O232 := O226.keep K232q all0
          refine own_goW st232 ?_
          show own_GoesW _ _ _ _ _ _ _ (T232.setTop (mkF m 166 #[.val (.int x0), .val (.int x1), .val (.int x2), .val (.int x3), .val (.int c0), .val (.int c1), .val (.int c2), .val (.int sel), .val (.ref b209), .val (.ref k0), .val (.int (2 : Int32))] [(.ref r232)]))
          refine own_goW (fun _ ww => XS.astore X232.here hx rfl (hb hby at_166) rfl rfl (l' := #[.val (.int x0), .val (.int x1), .val (.int x2), .val (.int x3), .val (.int c0), .val (.int c1), .val (.int c2), .val (.int sel), .val (.ref b209), .val (.ref k0), .val (.ref r232)]) rfl ww) ?_
          show own_GoesW _ _ _ _ _ _ _ (T232.setTop (mkF m 168 #[.val (.int x0), .val (.int x1), .val (.int x2), .val (.int x3), .val (.int c0), .val (.int c1), .val (.int c2), .val (.int sel), .val (.ref b209), .val (.ref k0), .val (.ref r232)] []))
          refine own_goW (fun _ ww => XS.aload X232.here hx rfl (hb hby at_168) rfl rfl ww) ?_
          show own_GoesW _ _ _ _ _ _ _ (T232.setTop (mkF m 170 #[.val (.int x0), .val (.int x1), .val (.int x2), .val (.int x3), .val (.int c0), .val (.int c1), .val (.int c2), .val (.int sel), .val (.ref b209), .val (.ref k0), .val (.ref r232)] [(.ref r232)]))
          refine own_goW (fun _ ww => XS.ifnullNo X232.here hx rfl (hb hby at_170) rfl ww) ?_
          show own_GoesW _ _ _ _ _ _ _ (T232.setTop (mkF m 173 #[.val (.int x0), .val (.int x1), .val (.int x2), .val (.int x3), .val (.int c0), .val (.int c1), .val (.int c2), .val (.int sel), .val (.ref b209), .val (.ref k0), .val (.ref r232)] []))
          refine own_goW (fun _ ww => XS.aload X232.here hx rfl (hb hby at_173) rfl rfl ww) ?_
          show own_GoesW _ _ _ _ _ _ _ (T232.setTop (mkF m 175 #[.val (.int x0), .val (.int x1), .val (.int x2), .val (.int x3), .val (.int c0), .val (.int c1), .val (.int c2), .val (.int sel), .val (.ref b209), .val (.ref k0), .val (.ref r232)] [(.ref r232)]))
          refine own_goW (fun _ ww => XS.aconstNull X232.here hx rfl (hb hby at_175) ww) ?_
          show own_GoesW _ _ _ _ _ _ _ (T232.setTop (mkF m 176 #[.val (.int x0), .val (.int x1), .val (.int x2), .val (.int x3), .val (.int c0), .val (.int c1), .val (.int c2), .val (.int sel), .val (.ref b209), .val (.ref k0), .val (.ref r232)] [.null, (.ref r232)]))
          obtain ⟨cq238, kq238, q238a, q238b, q238c⟩ := isOf hZ rfl E232q
          obtain ⟨_, _, ⟨T238, L238, k238, n238⟩, -, X238, ⟨Lc238, hQ238, l238, y238, z238⟩, st238⟩ := X232.virtualBack hx (y := (⟨"java/util/Optional", "orElse", "(Ljava/lang/Object;)Ljava/lang/Object;"⟩ : MethodName)) (z := (⟨"java/util/Optional", "orElse", "(Ljava/lang/Object;)Ljava/lang/Object;"⟩ : MethodName)) hown (mvT hZ (hw _ (List.mem_of_getElem? (i := 72) rfl))) (mvT hZ (hw _ (List.mem_of_getElem? (i := 73) rfl))) (notFace_of_selects (args := #[]) (mvT hZ (hw _ (List.mem_of_getElem? (i := 75) rfl)))) (mvT hZ (hw _ (List.mem_of_getElem? (i := 75) rfl))) (mvT hZ (hw _ (List.mem_of_getElem? (i := 74) rfl))) (by decide) (backOf (W := 0) (rm_orr l Z a0 hw [] r232 k0 T232.heap n0 O232 P232) hZ (hw _ (List.mem_of_getElem? (i := 76) rfl)) (hw _ (List.mem_of_getElem? (i := 69) rfl)) (by decide) (by decide)) q238a q238c (g := (mkF m 176 #[.val (.int x0), .val (.int x1), .val (.int x2), .val (.int x3), .val (.int c0), .val (.int c1), .val (.int c2), .val (.int sel), .val (.ref b209), .val (.ref k0), .val (.ref r232)] [.null, (.ref r232)])) rfl (by rw [hml]; rfl) (Steps.refl _) (argsL := [.null]) (rest := []) (lenOf pd_1 rfl) rfl (by show 2 * 0 + _ ≤ _; exact Nat.le_of_eq rfl) (hb hby at_176) (fun _ _ => ⟨rfl, rfl, (by decide : 5 + 0 ≤ _), (by decide : 15 + 0 ≤ _)⟩)
          dsimp only [Pt.U, Pt.locs, Pt.cells, Pt.slots] at X238 l238 y238 z238 st238 hQ238
          subst l238 y238 z238
          obtain ⟨rfl, N238q, e238⟩ := hQ238
          have N238 := Fr.app N232 N238q
          refine own_goW (fun _ ww => Steps.trans st238 ww) ?_
          show own_GoesW _ _ _ _ _ _ _ (T238.setTop (mkF m 179 #[.val (.int x0), .val (.int x1), .val (.int x2), .val (.int x3), .val (.int c0), .val (.int c1), .val (.int c2), .val (.int sel), .val (.ref b209), .val (.ref k0), .val (.ref r232)] [(.ref k0)]))
          refine own_goW (fun _ ww => XS.aload X238.here hx rfl (hb hby at_179) rfl rfl ww) ?_
          show own_GoesW _ _ _ _ _ _ _ (T238.setTop (mkF m 181 #[.val (.int x0), .val (.int x1), .val (.int x2), .val (.int x3), .val (.int c0), .val (.int c1), .val (.int c2), .val (.int sel), .val (.ref b209), .val (.ref k0), .val (.ref r232)] [(.ref k0), (.ref k0)]))
          refine own_goW (fun _ ww => XT.acmpNo X238.here hx rfl (hb hby at_181) rfl rfl rfl (own_aeq (rfl : k0 = k0)).2 ww) ?_
          show own_GoesW _ _ _ _ _ _ _ (T238.setTop (mkF m 184 #[.val (.int x0), .val (.int x1), .val (.int x2), .val (.int x3), .val (.int c0), .val (.int c1), .val (.int c2), .val (.int sel), .val (.ref b209), .val (.ref k0), .val (.ref r232)] []))
          refine own_goW (fun _ ww => XS.iconst X238.here hx rfl (hb hby at_184) ww) ?_
          show own_GoesW _ _ _ _ _ _ _ (T238.setTop (mkF m 185 #[.val (.int x0), .val (.int x1), .val (.int x2), .val (.int x3), .val (.int c0), .val (.int c1), .val (.int c2), .val (.int sel), .val (.ref b209), .val (.ref k0), .val (.ref r232)] [(.int (1 : Int32))]))
          refine own_goW (fun _ ww => XS.goto X238.here hx rfl (pc0 := 185) (pc' := 189) rfl (hb hby at_185) (by decide) (by decide) ww) ?_
          show own_GoesW _ _ _ _ _ _ _ (T238.setTop (mkF m 189 #[.val (.int x0), .val (.int x1), .val (.int x2), .val (.int x3), .val (.int c0), .val (.int c1), .val (.int c2), .val (.int sel), .val (.ref b209), .val (.ref k0), .val (.ref r232)] [(.int (1 : Int32))]))
          exact own_outW X238 hS hk hlk (v := some (.int (1 : Int32))) (fun h => by rw [hret] at h; cases h) (fun fs hr => retOut X238 hx (t := .boolean) hret (by decide) (Or.inl ⟨rfl, by simp, _, rfl⟩) (hb hby at_189) hr) e238 ⟨rfl, N238⟩ (by decide) (by decide)
        ·
          by_cases hq239 : c0 = 33
          ·
            show own_GoesW _ _ _ _ _ _ _ (T226.setTop (mkF m 156 #[.val (.int x0), .val (.int x1), .val (.int x2), .val (.int x3), .val (.int c0), .val (.int c1), .val (.int c2), .val (.int sel), .val (.ref b209), .unset, .val (.int (2 : Int32))] [(.int c1), (.int c0), (.int (2 : Int32))]))
            obtain ⟨_, _, ⟨T240, L240, k240, n240⟩, -, X240, ⟨Lc240, hQ240, l240, y240, z240⟩, st240⟩ := Jvm.LawKit.callS X226 hx (y := (⟨"com/example/esfahan/esfahan/model/ComparisonOfSymbolPinLaw", "expect", "(ICC)Lcom/example/esfahan/esfahan/model/Comparison;"⟩ : MethodName)) hown (mvT hZ (hw _ (List.mem_of_getElem? (i := 26) rfl))) (mvT hZ (hw _ (List.mem_of_getElem? (i := 27) rfl))) (mvT hZ (hw _ (List.mem_of_getElem? (i := 2) rfl))) (mvT hZ (hw _ (List.mem_of_getElem? (i := 28) rfl))) (by decide) (backOf (W := 0) (rm_exp2 l Z a0 hw [] c0 c1 (.ref k1) k0 k1 k2 k3 k4 k5 T226.heap n0 O226 S0 S1 S3 S5 (by first | (intros; simp_all; done) | (intro h; simp only [List.cons.injEq] at h; obtain ⟨h1, h2, h3⟩ := h; subst h1 h2; simp_all; done) | (intro h; simp only [List.cons.injEq] at h; obtain ⟨h1, h2⟩ := h; subst h1; simp_all; done)) (by first | (intros; simp_all; done) | (intro h; simp only [List.cons.injEq] at h; obtain ⟨h1, h2, h3⟩ := h; subst h1 h2; simp_all; done) | (intro h; simp only [List.cons.injEq] at h; obtain ⟨h1, h2⟩ := h; subst h1; simp_all; done)) (by first | (intros; simp_all; done) | (intro h; simp only [List.cons.injEq] at h; obtain ⟨h1, h2, h3⟩ := h; subst h1 h2; simp_all; done) | (intro h; simp only [List.cons.injEq] at h; obtain ⟨h1, h2⟩ := h; subst h1; simp_all; done)) (by first | (intros; simp_all; done) | (intro h; simp only [List.cons.injEq] at h; obtain ⟨h1, h2, h3⟩ := h; subst h1 h2; simp_all; done) | (intro h; simp only [List.cons.injEq] at h; obtain ⟨h1, h2⟩ := h; subst h1; simp_all; done)) (by first | (intros; simp_all; done) | (intro h; simp only [List.cons.injEq] at h; obtain ⟨h1, h2, h3⟩ := h; subst h1 h2; simp_all; done) | (intro h; simp only [List.cons.injEq] at h; obtain ⟨h1, h2⟩ := h; subst h1; simp_all; done)) (by first | (intros; simp_all; done) | (intro h; simp only [List.cons.injEq] at h; obtain ⟨h1, h2, h3⟩ := h; subst h1 h2; simp_all; done) | (intro h; simp only [List.cons.injEq] at h; obtain ⟨h1, h2⟩ := h; subst h1; simp_all; done))) hZ (hw _ (List.mem_of_getElem? (i := 28) rfl)) (hw _ (List.mem_of_getElem? (i := 2) rfl)) (by decide) (by decide)) (g := (mkF m 156 #[.val (.int x0), .val (.int x1), .val (.int x2), .val (.int x3), .val (.int c0), .val (.int c1), .val (.int c2), .val (.int sel), .val (.ref b209), .unset, .val (.int (2 : Int32))] [(.int c1), (.int c0), (.int (2 : Int32))])) rfl (by rw [hml]; rfl) (argsL := [(.int (2 : Int32)), (.int c0), (.int c1)]) (rest := []) (lenOf pd_10 rfl) rfl (by show 2 * 0 + _ ≤ _; exact Nat.le_of_eq rfl) (hb hby at_156) (fun _ _ => ⟨rfl, rfl, (by decide : 3 + 0 ≤ _), (by decide : 8 + 0 ≤ _)⟩)
            dsimp only [Pt.U, Pt.locs, Pt.cells, Pt.slots] at X240 l240 y240 z240 st240 hQ240
            subst l240 y240 z240
            obtain ⟨rfl, N240q, e240⟩ := hQ240
            have N240 := Fr.app N226 N240q
            refine own_goW st240 ?_
            show own_GoesW _ _ _ _ _ _ _ (T240.setTop (mkF m 159 #[.val (.int x0), .val (.int x1), .val (.int x2), .val (.int x3), .val (.int c0), .val (.int c1), .val (.int c2), .val (.int sel), .val (.ref b209), .unset, .val (.int (2 : Int32))] [(.ref k1)]))
            refine own_goW (fun _ ww => XS.astore X240.here hx rfl (hb hby at_159) rfl rfl (l' := #[.val (.int x0), .val (.int x1), .val (.int x2), .val (.int x3), .val (.int c0), .val (.int c1), .val (.int c2), .val (.int sel), .val (.ref b209), .val (.ref k1), .val (.int (2 : Int32))]) rfl ww) ?_
            show own_GoesW _ _ _ _ _ _ _ (T240.setTop (mkF m 161 #[.val (.int x0), .val (.int x1), .val (.int x2), .val (.int x3), .val (.int c0), .val (.int c1), .val (.int c2), .val (.int sel), .val (.ref b209), .val (.ref k1), .val (.int (2 : Int32))] []))
            refine own_goW (fun _ ww => XS.aload X240.here hx rfl (hb hby at_161) rfl rfl ww) ?_
            show own_GoesW _ _ _ _ _ _ _ (T240.setTop (mkF m 163 #[.val (.int x0), .val (.int x1), .val (.int x2), .val (.int x3), .val (.int c0), .val (.int c1), .val (.int c2), .val (.int sel), .val (.ref b209), .val (.ref k1), .val (.int (2 : Int32))] [(.ref b209)]))
            obtain ⟨_, _, ⟨T241, L241, k241, n241⟩, -, X241, ⟨Lc241, hQ241, l241, y241, z241⟩, st241⟩ := Jvm.LawKit.callS X240 hx (y := (⟨"com/example/esfahan/esfahan/model/Comparison", "ofSymbol", "(Ljava/lang/String;)Ljava/util/Optional;"⟩ : MethodName)) hown (mvT hZ (hw _ (List.mem_of_getElem? (i := 29) rfl))) (mvT hZ (hw _ (List.mem_of_getElem? (i := 30) rfl))) (mvT hZ (hw _ (List.mem_of_getElem? (i := 31) rfl))) (mvT hZ (hw _ (List.mem_of_getElem? (i := 32) rfl))) (by decide) (backOf (W := 0) (rm_ofs l Z a0 hw [] va kk k0 k1 k2 k3 k4 k5 aE y0 ty0 kb0 y1 ty1 kb1 y2 ty2 kb2 y3 ty3 kb3 y4 ty4 kb4 y5 ty5 kb5 zc b209 t226 kb226 ([c0, c1] : List Int32) (2 : Int32) [(.int (c0).toInt8.toInt32), (.int (c1).toInt8.toInt32)] (.ref k1) T226.heap n0 O226 SV AV EV SE EE FE F0 Ey0 Cy0 Vy0 Ky0 F1 Ey1 Cy1 Vy1 Ky1 F2 Ey2 Cy2 Vy2 Ky2 F3 Ey3 Cy3 Vy3 Ky3 F4 Ey4 Cy4 Vy4 Ky4 F5 Ey5 Cy5 Vy5 Ky5 SC hzc f227 V226q C226q A226q (StrChars.Road.codOf (cs := ([c0, c1] : List Int32)) (n := 2) rfl (fun c hc => (hp_b209 c hc).2)) (own_up hp_b209) (Nat.le_of_ble_eq_true rfl) (by first | (intros; simp_all; done) | (intro h; simp only [List.cons.injEq] at h; obtain ⟨h1, h2, h3⟩ := h; subst h1 h2; simp_all; done) | (intro h; simp only [List.cons.injEq] at h; obtain ⟨h1, h2⟩ := h; subst h1; simp_all; done)) (by first | (intros; simp_all; done) | (intro h; simp only [List.cons.injEq] at h; obtain ⟨h1, h2, h3⟩ := h; subst h1 h2; simp_all; done) | (intro h; simp only [List.cons.injEq] at h; obtain ⟨h1, h2⟩ := h; subst h1; simp_all; done)) (by first | (intros; simp_all; done) | (intro h; simp only [List.cons.injEq] at h; obtain ⟨h1, h2, h3⟩ := h; subst h1 h2; simp_all; done) | (intro h; simp only [List.cons.injEq] at h; obtain ⟨h1, h2⟩ := h; subst h1; simp_all; done)) (by first | (intros; simp_all; done) | (intro h; simp only [List.cons.injEq] at h; obtain ⟨h1, h2, h3⟩ := h; subst h1 h2; simp_all; done) | (intro h; simp only [List.cons.injEq] at h; obtain ⟨h1, h2⟩ := h; subst h1; simp_all; done)) (by first | (intros; simp_all; done) | (intro h; simp only [List.cons.injEq] at h; obtain ⟨h1, h2, h3⟩ := h; subst h1 h2; simp_all; done) | (intro h; simp only [List.cons.injEq] at h; obtain ⟨h1, h2⟩ := h; subst h1; simp_all; done)) (by first | (intros; simp_all; done) | (intro h; simp only [List.cons.injEq] at h; obtain ⟨h1, h2, h3⟩ := h; subst h1 h2; simp_all; done) | (intro h; simp only [List.cons.injEq] at h; obtain ⟨h1, h2⟩ := h; subst h1; simp_all; done)) (by first | (intros; simp_all; done) | (intro h; simp only [List.cons.injEq] at h; obtain ⟨h1, h2, h3⟩ := h; subst h1 h2; simp_all; done) | (intro h; simp only [List.cons.injEq] at h; obtain ⟨h1, h2⟩ := h; subst h1; simp_all; done))) hZ (hw _ (List.mem_of_getElem? (i := 32) rfl)) (hw _ (List.mem_of_getElem? (i := 31) rfl)) (by decide) (by decide)) (g := (mkF m 163 #[.val (.int x0), .val (.int x1), .val (.int x2), .val (.int x3), .val (.int c0), .val (.int c1), .val (.int c2), .val (.int sel), .val (.ref b209), .val (.ref k1), .val (.int (2 : Int32))] [(.ref b209)])) rfl (by rw [hml]; rfl) (argsL := [(.ref b209)]) (rest := []) (lenOf pd_8 rfl) rfl (by show 2 * 0 + _ ≤ _; exact Nat.le_of_eq rfl) (hb hby at_163) (fun _ _ => ⟨rfl, e240, (by decide : 3 + 2 ≤ _), (by decide : 8 + 7 ≤ _)⟩)
            dsimp only [Pt.U, Pt.locs, Pt.cells, Pt.slots] at X241 l241 y241 z241 st241 hQ241
            subst l241 y241 z241
            obtain ⟨r241, rfl, N241q, K241q, E241q, P241⟩ := hQ241
            have N241 := Fr.app N240 N241q
            have hk := Nat.le_trans hk (own_ks K241q)
            have f242 : Exa Z T241.heap b209 "java/lang/String" := (f227.keep K241q)
            have f243 : Arv Z T241.heap b212 k212 .char (2 : Int32) [(.int c0), (.int c1)] (.int (0 : Int32)) := (f228.keep K241q nin0)
            have f244 : Fld Z T241.heap b209 "java/lang/String" "coder" "B" (.int (0 : Int32)) := (C226q.keep K241q nin0)
            have f245 : Fld Z T241.heap b209 "java/lang/String" "value" "[B" (.ref t226) := (V226q.keep K241q nin0)
            have f246 : Arv Z T241.heap t226 kb226 .byte (2 : Int32) [(.int (c0).toInt8.toInt32), (.int (c1).toInt8.toInt32)] (.int (0 : Int32)) := (A226q.keep K241q nin0)
            have O241 := O226.keep K241q all0
            refine own_goW st241 ?_
            show own_GoesW _ _ _ _ _ _ _ (T241.setTop (mkF m 166 #[.val (.int x0), .val (.int x1), .val (.int x2), .val (.int x3), .val (.int c0), .val (.int c1), .val (.int c2), .val (.int sel), .val (.ref b209), .val (.ref k1), .val (.int (2 : Int32))] [(.ref r241)]))
            refine own_goW (fun _ ww => XS.astore X241.here hx rfl (hb hby at_166) rfl rfl (l' := #[.val (.int x0), .val (.int x1), .val (.int x2), .val (.int x3), .val (.int c0), .val (.int c1), .val (.int c2), .val (.int sel), .val (.ref b209), .val (.ref k1), .val (.ref r241)]) rfl ww) ?_
            show own_GoesW _ _ _ _ _ _ _ (T241.setTop (mkF m 168 #[.val (.int x0), .val (.int x1), .val (.int x2), .val (.int x3), .val (.int c0), .val (.int c1), .val (.int c2), .val (.int sel), .val (.ref b209), .val (.ref k1), .val (.ref r241)] []))
            refine own_goW (fun _ ww => XS.aload X241.here hx rfl (hb hby at_168) rfl rfl ww) ?_
            show own_GoesW _ _ _ _ _ _ _ (T241.setTop (mkF m 170 #[.val (.int x0), .val (.int x1), .val (.int x2), .val (.int x3), .val (.int c0), .val (.int c1), .val (.int c2), .val (.int sel), .val (.ref b209), .val (.ref k1), .val (.ref r241)] [(.ref r241)]))
            refine own_goW (fun _ ww => XS.ifnullNo X241.here hx rfl (hb hby at_170) rfl ww) ?_
            show own_GoesW _ _ _ _ _ _ _ (T241.setTop (mkF m 173 #[.val (.int x0), .val (.int x1), .val (.int x2), .val (.int x3), .val (.int c0), .val (.int c1), .val (.int c2), .val (.int sel), .val (.ref b209), .val (.ref k1), .val (.ref r241)] []))
            refine own_goW (fun _ ww => XS.aload X241.here hx rfl (hb hby at_173) rfl rfl ww) ?_
            show own_GoesW _ _ _ _ _ _ _ (T241.setTop (mkF m 175 #[.val (.int x0), .val (.int x1), .val (.int x2), .val (.int x3), .val (.int c0), .val (.int c1), .val (.int c2), .val (.int sel), .val (.ref b209), .val (.ref k1), .val (.ref r241)] [(.ref r241)]))
            refine own_goW (fun _ ww => XS.aconstNull X241.here hx rfl (hb hby at_175) ww) ?_
            show own_GoesW _ _ _ _ _ _ _ (T241.setTop (mkF m 176 #[.val (.int x0), .val (.int x1), .val (.int x2), .val (.int x3), .val (.int c0), .val (.int c1), .val (.int c2), .val (.int sel), .val (.ref b209), .val (.ref k1), .val (.ref r241)] [.null, (.ref r241)]))
            obtain ⟨cq247, kq247, q247a, q247b, q247c⟩ := isOf hZ rfl E241q
            obtain ⟨_, _, ⟨T247, L247, k247, n247⟩, -, X247, ⟨Lc247, hQ247, l247, y247, z247⟩, st247⟩ := X241.virtualBack hx (y := (⟨"java/util/Optional", "orElse", "(Ljava/lang/Object;)Ljava/lang/Object;"⟩ : MethodName)) (z := (⟨"java/util/Optional", "orElse", "(Ljava/lang/Object;)Ljava/lang/Object;"⟩ : MethodName)) hown (mvT hZ (hw _ (List.mem_of_getElem? (i := 72) rfl))) (mvT hZ (hw _ (List.mem_of_getElem? (i := 73) rfl))) (notFace_of_selects (args := #[]) (mvT hZ (hw _ (List.mem_of_getElem? (i := 75) rfl)))) (mvT hZ (hw _ (List.mem_of_getElem? (i := 75) rfl))) (mvT hZ (hw _ (List.mem_of_getElem? (i := 74) rfl))) (by decide) (backOf (W := 0) (rm_orr l Z a0 hw [] r241 k1 T241.heap n0 O241 P241) hZ (hw _ (List.mem_of_getElem? (i := 76) rfl)) (hw _ (List.mem_of_getElem? (i := 69) rfl)) (by decide) (by decide)) q247a q247c (g := (mkF m 176 #[.val (.int x0), .val (.int x1), .val (.int x2), .val (.int x3), .val (.int c0), .val (.int c1), .val (.int c2), .val (.int sel), .val (.ref b209), .val (.ref k1), .val (.ref r241)] [.null, (.ref r241)])) rfl (by rw [hml]; rfl) (Steps.refl _) (argsL := [.null]) (rest := []) (lenOf pd_1 rfl) rfl (by show 2 * 0 + _ ≤ _; exact Nat.le_of_eq rfl) (hb hby at_176) (fun _ _ => ⟨rfl, rfl, (by decide : 5 + 0 ≤ _), (by decide : 15 + 0 ≤ _)⟩)
            dsimp only [Pt.U, Pt.locs, Pt.cells, Pt.slots] at X247 l247 y247 z247 st247 hQ247
            subst l247 y247 z247
            obtain ⟨rfl, N247q, e247⟩ := hQ247
            have N247 := Fr.app N241 N247q
            refine own_goW (fun _ ww => Steps.trans st247 ww) ?_
            show own_GoesW _ _ _ _ _ _ _ (T247.setTop (mkF m 179 #[.val (.int x0), .val (.int x1), .val (.int x2), .val (.int x3), .val (.int c0), .val (.int c1), .val (.int c2), .val (.int sel), .val (.ref b209), .val (.ref k1), .val (.ref r241)] [(.ref k1)]))
            refine own_goW (fun _ ww => XS.aload X247.here hx rfl (hb hby at_179) rfl rfl ww) ?_
            show own_GoesW _ _ _ _ _ _ _ (T247.setTop (mkF m 181 #[.val (.int x0), .val (.int x1), .val (.int x2), .val (.int x3), .val (.int c0), .val (.int c1), .val (.int c2), .val (.int sel), .val (.ref b209), .val (.ref k1), .val (.ref r241)] [(.ref k1), (.ref k1)]))
            refine own_goW (fun _ ww => XT.acmpNo X247.here hx rfl (hb hby at_181) rfl rfl rfl (own_aeq (rfl : k1 = k1)).2 ww) ?_
            show own_GoesW _ _ _ _ _ _ _ (T247.setTop (mkF m 184 #[.val (.int x0), .val (.int x1), .val (.int x2), .val (.int x3), .val (.int c0), .val (.int c1), .val (.int c2), .val (.int sel), .val (.ref b209), .val (.ref k1), .val (.ref r241)] []))
            refine own_goW (fun _ ww => XS.iconst X247.here hx rfl (hb hby at_184) ww) ?_
            show own_GoesW _ _ _ _ _ _ _ (T247.setTop (mkF m 185 #[.val (.int x0), .val (.int x1), .val (.int x2), .val (.int x3), .val (.int c0), .val (.int c1), .val (.int c2), .val (.int sel), .val (.ref b209), .val (.ref k1), .val (.ref r241)] [(.int (1 : Int32))]))
            refine own_goW (fun _ ww => XS.goto X247.here hx rfl (pc0 := 185) (pc' := 189) rfl (hb hby at_185) (by decide) (by decide) ww) ?_
            show own_GoesW _ _ _ _ _ _ _ (T247.setTop (mkF m 189 #[.val (.int x0), .val (.int x1), .val (.int x2), .val (.int x3), .val (.int c0), .val (.int c1), .val (.int c2), .val (.int sel), .val (.ref b209), .val (.ref k1), .val (.ref r241)] [(.int (1 : Int32))]))
            exact own_outW X247 hS hk hlk (v := some (.int (1 : Int32))) (fun h => by rw [hret] at h; cases h) (fun fs hr => retOut X247 hx (t := .boolean) hret (by decide) (Or.inl ⟨rfl, by simp, _, rfl⟩) (hb hby at_189) hr) e247 ⟨rfl, N247⟩ (by decide) (by decide)
          ·
            by_cases hq248 : c0 = 60
            ·
              show own_GoesW _ _ _ _ _ _ _ (T226.setTop (mkF m 156 #[.val (.int x0), .val (.int x1), .val (.int x2), .val (.int x3), .val (.int c0), .val (.int c1), .val (.int c2), .val (.int sel), .val (.ref b209), .unset, .val (.int (2 : Int32))] [(.int c1), (.int c0), (.int (2 : Int32))]))
              obtain ⟨_, _, ⟨T249, L249, k249, n249⟩, -, X249, ⟨Lc249, hQ249, l249, y249, z249⟩, st249⟩ := Jvm.LawKit.callS X226 hx (y := (⟨"com/example/esfahan/esfahan/model/ComparisonOfSymbolPinLaw", "expect", "(ICC)Lcom/example/esfahan/esfahan/model/Comparison;"⟩ : MethodName)) hown (mvT hZ (hw _ (List.mem_of_getElem? (i := 26) rfl))) (mvT hZ (hw _ (List.mem_of_getElem? (i := 27) rfl))) (mvT hZ (hw _ (List.mem_of_getElem? (i := 2) rfl))) (mvT hZ (hw _ (List.mem_of_getElem? (i := 28) rfl))) (by decide) (backOf (W := 0) (rm_exp2 l Z a0 hw [] c0 c1 (.ref k3) k0 k1 k2 k3 k4 k5 T226.heap n0 O226 S0 S1 S3 S5 (by first | (intros; simp_all; done) | (intro h; simp only [List.cons.injEq] at h; obtain ⟨h1, h2, h3⟩ := h; subst h1 h2; simp_all; done) | (intro h; simp only [List.cons.injEq] at h; obtain ⟨h1, h2⟩ := h; subst h1; simp_all; done)) (by first | (intros; simp_all; done) | (intro h; simp only [List.cons.injEq] at h; obtain ⟨h1, h2, h3⟩ := h; subst h1 h2; simp_all; done) | (intro h; simp only [List.cons.injEq] at h; obtain ⟨h1, h2⟩ := h; subst h1; simp_all; done)) (by first | (intros; simp_all; done) | (intro h; simp only [List.cons.injEq] at h; obtain ⟨h1, h2, h3⟩ := h; subst h1 h2; simp_all; done) | (intro h; simp only [List.cons.injEq] at h; obtain ⟨h1, h2⟩ := h; subst h1; simp_all; done)) (by first | (intros; simp_all; done) | (intro h; simp only [List.cons.injEq] at h; obtain ⟨h1, h2, h3⟩ := h; subst h1 h2; simp_all; done) | (intro h; simp only [List.cons.injEq] at h; obtain ⟨h1, h2⟩ := h; subst h1; simp_all; done)) (by first | (intros; simp_all; done) | (intro h; simp only [List.cons.injEq] at h; obtain ⟨h1, h2, h3⟩ := h; subst h1 h2; simp_all; done) | (intro h; simp only [List.cons.injEq] at h; obtain ⟨h1, h2⟩ := h; subst h1; simp_all; done)) (by first | (intros; simp_all; done) | (intro h; simp only [List.cons.injEq] at h; obtain ⟨h1, h2, h3⟩ := h; subst h1 h2; simp_all; done) | (intro h; simp only [List.cons.injEq] at h; obtain ⟨h1, h2⟩ := h; subst h1; simp_all; done))) hZ (hw _ (List.mem_of_getElem? (i := 28) rfl)) (hw _ (List.mem_of_getElem? (i := 2) rfl)) (by decide) (by decide)) (g := (mkF m 156 #[.val (.int x0), .val (.int x1), .val (.int x2), .val (.int x3), .val (.int c0), .val (.int c1), .val (.int c2), .val (.int sel), .val (.ref b209), .unset, .val (.int (2 : Int32))] [(.int c1), (.int c0), (.int (2 : Int32))])) rfl (by rw [hml]; rfl) (argsL := [(.int (2 : Int32)), (.int c0), (.int c1)]) (rest := []) (lenOf pd_10 rfl) rfl (by show 2 * 0 + _ ≤ _; exact Nat.le_of_eq rfl) (hb hby at_156) (fun _ _ => ⟨rfl, rfl, (by decide : 3 + 0 ≤ _), (by decide : 8 + 0 ≤ _)⟩)
              dsimp only [Pt.U, Pt.locs, Pt.cells, Pt.slots] at X249 l249 y249 z249 st249 hQ249
              subst l249 y249 z249
              obtain ⟨rfl, N249q, e249⟩ := hQ249
              have N249 := Fr.app N226 N249q
              refine own_goW st249 ?_
              show own_GoesW _ _ _ _ _ _ _ (T249.setTop (mkF m 159 #[.val (.int x0), .val (.int x1), .val (.int x2), .val (.int x3), .val (.int c0), .val (.int c1), .val (.int c2), .val (.int sel), .val (.ref b209), .unset, .val (.int (2 : Int32))] [(.ref k3)]))
              refine own_goW (fun _ ww => XS.astore X249.here hx rfl (hb hby at_159) rfl rfl (l' := #[.val (.int x0), .val (.int x1), .val (.int x2), .val (.int x3), .val (.int c0), .val (.int c1), .val (.int c2), .val (.int sel), .val (.ref b209), .val (.ref k3), .val (.int (2 : Int32))]) rfl ww) ?_
              show own_GoesW _ _ _ _ _ _ _ (T249.setTop (mkF m 161 #[.val (.int x0), .val (.int x1), .val (.int x2), .val (.int x3), .val (.int c0), .val (.int c1), .val (.int c2), .val (.int sel), .val (.ref b209), .val (.ref k3), .val (.int (2 : Int32))] []))
              refine own_goW (fun _ ww => XS.aload X249.here hx rfl (hb hby at_161) rfl rfl ww) ?_
              show own_GoesW _ _ _ _ _ _ _ (T249.setTop (mkF m 163 #[.val (.int x0), .val (.int x1), .val (.int x2), .val (.int x3), .val (.int c0), .val (.int c1), .val (.int c2), .val (.int sel), .val (.ref b209), .val (.ref k3), .val (.int (2 : Int32))] [(.ref b209)]))
              obtain ⟨_, _, ⟨T250, L250, k250, n250⟩, -, X250, ⟨Lc250, hQ250, l250, y250, z250⟩, st250⟩ := Jvm.LawKit.callS X249 hx (y := (⟨"com/example/esfahan/esfahan/model/Comparison", "ofSymbol", "(Ljava/lang/String;)Ljava/util/Optional;"⟩ : MethodName)) hown (mvT hZ (hw _ (List.mem_of_getElem? (i := 29) rfl))) (mvT hZ (hw _ (List.mem_of_getElem? (i := 30) rfl))) (mvT hZ (hw _ (List.mem_of_getElem? (i := 31) rfl))) (mvT hZ (hw _ (List.mem_of_getElem? (i := 32) rfl))) (by decide) (backOf (W := 0) (rm_ofs l Z a0 hw [] va kk k0 k1 k2 k3 k4 k5 aE y0 ty0 kb0 y1 ty1 kb1 y2 ty2 kb2 y3 ty3 kb3 y4 ty4 kb4 y5 ty5 kb5 zc b209 t226 kb226 ([c0, c1] : List Int32) (2 : Int32) [(.int (c0).toInt8.toInt32), (.int (c1).toInt8.toInt32)] (.ref k3) T226.heap n0 O226 SV AV EV SE EE FE F0 Ey0 Cy0 Vy0 Ky0 F1 Ey1 Cy1 Vy1 Ky1 F2 Ey2 Cy2 Vy2 Ky2 F3 Ey3 Cy3 Vy3 Ky3 F4 Ey4 Cy4 Vy4 Ky4 F5 Ey5 Cy5 Vy5 Ky5 SC hzc f227 V226q C226q A226q (StrChars.Road.codOf (cs := ([c0, c1] : List Int32)) (n := 2) rfl (fun c hc => (hp_b209 c hc).2)) (own_up hp_b209) (Nat.le_of_ble_eq_true rfl) (by first | (intros; simp_all; done) | (intro h; simp only [List.cons.injEq] at h; obtain ⟨h1, h2, h3⟩ := h; subst h1 h2; simp_all; done) | (intro h; simp only [List.cons.injEq] at h; obtain ⟨h1, h2⟩ := h; subst h1; simp_all; done)) (by first | (intros; simp_all; done) | (intro h; simp only [List.cons.injEq] at h; obtain ⟨h1, h2, h3⟩ := h; subst h1 h2; simp_all; done) | (intro h; simp only [List.cons.injEq] at h; obtain ⟨h1, h2⟩ := h; subst h1; simp_all; done)) (by first | (intros; simp_all; done) | (intro h; simp only [List.cons.injEq] at h; obtain ⟨h1, h2, h3⟩ := h; subst h1 h2; simp_all; done) | (intro h; simp only [List.cons.injEq] at h; obtain ⟨h1, h2⟩ := h; subst h1; simp_all; done)) (by first | (intros; simp_all; done) | (intro h; simp only [List.cons.injEq] at h; obtain ⟨h1, h2, h3⟩ := h; subst h1 h2; simp_all; done) | (intro h; simp only [List.cons.injEq] at h; obtain ⟨h1, h2⟩ := h; subst h1; simp_all; done)) (by first | (intros; simp_all; done) | (intro h; simp only [List.cons.injEq] at h; obtain ⟨h1, h2, h3⟩ := h; subst h1 h2; simp_all; done) | (intro h; simp only [List.cons.injEq] at h; obtain ⟨h1, h2⟩ := h; subst h1; simp_all; done)) (by first | (intros; simp_all; done) | (intro h; simp only [List.cons.injEq] at h; obtain ⟨h1, h2, h3⟩ := h; subst h1 h2; simp_all; done) | (intro h; simp only [List.cons.injEq] at h; obtain ⟨h1, h2⟩ := h; subst h1; simp_all; done)) (by first | (intros; simp_all; done) | (intro h; simp only [List.cons.injEq] at h; obtain ⟨h1, h2, h3⟩ := h; subst h1 h2; simp_all; done) | (intro h; simp only [List.cons.injEq] at h; obtain ⟨h1, h2⟩ := h; subst h1; simp_all; done))) hZ (hw _ (List.mem_of_getElem? (i := 32) rfl)) (hw _ (List.mem_of_getElem? (i := 31) rfl)) (by decide) (by decide)) (g := (mkF m 163 #[.val (.int x0), .val (.int x1), .val (.int x2), .val (.int x3), .val (.int c0), .val (.int c1), .val (.int c2), .val (.int sel), .val (.ref b209), .val (.ref k3), .val (.int (2 : Int32))] [(.ref b209)])) rfl (by rw [hml]; rfl) (argsL := [(.ref b209)]) (rest := []) (lenOf pd_8 rfl) rfl (by show 2 * 0 + _ ≤ _; exact Nat.le_of_eq rfl) (hb hby at_163) (fun _ _ => ⟨rfl, e249, (by decide : 3 + 2 ≤ _), (by decide : 8 + 7 ≤ _)⟩)
              dsimp only [Pt.U, Pt.locs, Pt.cells, Pt.slots] at X250 l250 y250 z250 st250 hQ250
              subst l250 y250 z250
              obtain ⟨r250, rfl, N250q, K250q, E250q, P250⟩ := hQ250
              have N250 := Fr.app N249 N250q
              have hk := Nat.le_trans hk (own_ks K250q)
              have f251 : Exa Z T250.heap b209 "java/lang/String" := (f227.keep K250q)
              have f252 : Arv Z T250.heap b212 k212 .char (2 : Int32) [(.int c0), (.int c1)] (.int (0 : Int32)) := (f228.keep K250q nin0)
              have f253 : Fld Z T250.heap b209 "java/lang/String" "coder" "B" (.int (0 : Int32)) := (C226q.keep K250q nin0)
              have f254 : Fld Z T250.heap b209 "java/lang/String" "value" "[B" (.ref t226) := (V226q.keep K250q nin0)
              have f255 : Arv Z T250.heap t226 kb226 .byte (2 : Int32) [(.int (c0).toInt8.toInt32), (.int (c1).toInt8.toInt32)] (.int (0 : Int32)) := (A226q.keep K250q nin0)
              have O250 := O226.keep K250q all0
              refine own_goW st250 ?_
              show own_GoesW _ _ _ _ _ _ _ (T250.setTop (mkF m 166 #[.val (.int x0), .val (.int x1), .val (.int x2), .val (.int x3), .val (.int c0), .val (.int c1), .val (.int c2), .val (.int sel), .val (.ref b209), .val (.ref k3), .val (.int (2 : Int32))] [(.ref r250)]))
              refine own_goW (fun _ ww => XS.astore X250.here hx rfl (hb hby at_166) rfl rfl (l' := #[.val (.int x0), .val (.int x1), .val (.int x2), .val (.int x3), .val (.int c0), .val (.int c1), .val (.int c2), .val (.int sel), .val (.ref b209), .val (.ref k3), .val (.ref r250)]) rfl ww) ?_
              show own_GoesW _ _ _ _ _ _ _ (T250.setTop (mkF m 168 #[.val (.int x0), .val (.int x1), .val (.int x2), .val (.int x3), .val (.int c0), .val (.int c1), .val (.int c2), .val (.int sel), .val (.ref b209), .val (.ref k3), .val (.ref r250)] []))
              refine own_goW (fun _ ww => XS.aload X250.here hx rfl (hb hby at_168) rfl rfl ww) ?_
              show own_GoesW _ _ _ _ _ _ _ (T250.setTop (mkF m 170 #[.val (.int x0), .val (.int x1), .val (.int x2), .val (.int x3), .val (.int c0), .val (.int c1), .val (.int c2), .val (.int sel), .val (.ref b209), .val (.ref k3), .val (.ref r250)] [(.ref r250)]))
              refine own_goW (fun _ ww => XS.ifnullNo X250.here hx rfl (hb hby at_170) rfl ww) ?_
              show own_GoesW _ _ _ _ _ _ _ (T250.setTop (mkF m 173 #[.val (.int x0), .val (.int x1), .val (.int x2), .val (.int x3), .val (.int c0), .val (.int c1), .val (.int c2), .val (.int sel), .val (.ref b209), .val (.ref k3), .val (.ref r250)] []))
              refine own_goW (fun _ ww => XS.aload X250.here hx rfl (hb hby at_173) rfl rfl ww) ?_
              show own_GoesW _ _ _ _ _ _ _ (T250.setTop (mkF m 175 #[.val (.int x0), .val (.int x1), .val (.int x2), .val (.int x3), .val (.int c0), .val (.int c1), .val (.int c2), .val (.int sel), .val (.ref b209), .val (.ref k3), .val (.ref r250)] [(.ref r250)]))
              refine own_goW (fun _ ww => XS.aconstNull X250.here hx rfl (hb hby at_175) ww) ?_
              show own_GoesW _ _ _ _ _ _ _ (T250.setTop (mkF m 176 #[.val (.int x0), .val (.int x1), .val (.int x2), .val (.int x3), .val (.int c0), .val (.int c1), .val (.int c2), .val (.int sel), .val (.ref b209), .val (.ref k3), .val (.ref r250)] [.null, (.ref r250)]))
              obtain ⟨cq256, kq256, q256a, q256b, q256c⟩ := isOf hZ rfl E250q
              obtain ⟨_, _, ⟨T256, L256, k256, n256⟩, -, X256, ⟨Lc256, hQ256, l256, y256, z256⟩, st256⟩ := X250.virtualBack hx (y := (⟨"java/util/Optional", "orElse", "(Ljava/lang/Object;)Ljava/lang/Object;"⟩ : MethodName)) (z := (⟨"java/util/Optional", "orElse", "(Ljava/lang/Object;)Ljava/lang/Object;"⟩ : MethodName)) hown (mvT hZ (hw _ (List.mem_of_getElem? (i := 72) rfl))) (mvT hZ (hw _ (List.mem_of_getElem? (i := 73) rfl))) (notFace_of_selects (args := #[]) (mvT hZ (hw _ (List.mem_of_getElem? (i := 75) rfl)))) (mvT hZ (hw _ (List.mem_of_getElem? (i := 75) rfl))) (mvT hZ (hw _ (List.mem_of_getElem? (i := 74) rfl))) (by decide) (backOf (W := 0) (rm_orr l Z a0 hw [] r250 k3 T250.heap n0 O250 P250) hZ (hw _ (List.mem_of_getElem? (i := 76) rfl)) (hw _ (List.mem_of_getElem? (i := 69) rfl)) (by decide) (by decide)) q256a q256c (g := (mkF m 176 #[.val (.int x0), .val (.int x1), .val (.int x2), .val (.int x3), .val (.int c0), .val (.int c1), .val (.int c2), .val (.int sel), .val (.ref b209), .val (.ref k3), .val (.ref r250)] [.null, (.ref r250)])) rfl (by rw [hml]; rfl) (Steps.refl _) (argsL := [.null]) (rest := []) (lenOf pd_1 rfl) rfl (by show 2 * 0 + _ ≤ _; exact Nat.le_of_eq rfl) (hb hby at_176) (fun _ _ => ⟨rfl, rfl, (by decide : 5 + 0 ≤ _), (by decide : 15 + 0 ≤ _)⟩)
              dsimp only [Pt.U, Pt.locs, Pt.cells, Pt.slots] at X256 l256 y256 z256 st256 hQ256
              subst l256 y256 z256
              obtain ⟨rfl, N256q, e256⟩ := hQ256
              have N256 := Fr.app N250 N256q
              refine own_goW (fun _ ww => Steps.trans st256 ww) ?_
              show own_GoesW _ _ _ _ _ _ _ (T256.setTop (mkF m 179 #[.val (.int x0), .val (.int x1), .val (.int x2), .val (.int x3), .val (.int c0), .val (.int c1), .val (.int c2), .val (.int sel), .val (.ref b209), .val (.ref k3), .val (.ref r250)] [(.ref k3)]))
              refine own_goW (fun _ ww => XS.aload X256.here hx rfl (hb hby at_179) rfl rfl ww) ?_
              show own_GoesW _ _ _ _ _ _ _ (T256.setTop (mkF m 181 #[.val (.int x0), .val (.int x1), .val (.int x2), .val (.int x3), .val (.int c0), .val (.int c1), .val (.int c2), .val (.int sel), .val (.ref b209), .val (.ref k3), .val (.ref r250)] [(.ref k3), (.ref k3)]))
              refine own_goW (fun _ ww => XT.acmpNo X256.here hx rfl (hb hby at_181) rfl rfl rfl (own_aeq (rfl : k3 = k3)).2 ww) ?_
              show own_GoesW _ _ _ _ _ _ _ (T256.setTop (mkF m 184 #[.val (.int x0), .val (.int x1), .val (.int x2), .val (.int x3), .val (.int c0), .val (.int c1), .val (.int c2), .val (.int sel), .val (.ref b209), .val (.ref k3), .val (.ref r250)] []))
              refine own_goW (fun _ ww => XS.iconst X256.here hx rfl (hb hby at_184) ww) ?_
              show own_GoesW _ _ _ _ _ _ _ (T256.setTop (mkF m 185 #[.val (.int x0), .val (.int x1), .val (.int x2), .val (.int x3), .val (.int c0), .val (.int c1), .val (.int c2), .val (.int sel), .val (.ref b209), .val (.ref k3), .val (.ref r250)] [(.int (1 : Int32))]))
              refine own_goW (fun _ ww => XS.goto X256.here hx rfl (pc0 := 185) (pc' := 189) rfl (hb hby at_185) (by decide) (by decide) ww) ?_
              show own_GoesW _ _ _ _ _ _ _ (T256.setTop (mkF m 189 #[.val (.int x0), .val (.int x1), .val (.int x2), .val (.int x3), .val (.int c0), .val (.int c1), .val (.int c2), .val (.int sel), .val (.ref b209), .val (.ref k3), .val (.ref r250)] [(.int (1 : Int32))]))
              exact own_outW X256 hS hk hlk (v := some (.int (1 : Int32))) (fun h => by rw [hret] at h; cases h) (fun fs hr => retOut X256 hx (t := .boolean) hret (by decide) (Or.inl ⟨rfl, by simp, _, rfl⟩) (hb hby at_189) hr) e256 ⟨rfl, N256⟩ (by decide) (by decide)
            ·
              by_cases hq257 : c0 = 62
              ·
                show own_GoesW _ _ _ _ _ _ _ (T226.setTop (mkF m 156 #[.val (.int x0), .val (.int x1), .val (.int x2), .val (.int x3), .val (.int c0), .val (.int c1), .val (.int c2), .val (.int sel), .val (.ref b209), .unset, .val (.int (2 : Int32))] [(.int c1), (.int c0), (.int (2 : Int32))]))
                obtain ⟨_, _, ⟨T258, L258, k258, n258⟩, -, X258, ⟨Lc258, hQ258, l258, y258, z258⟩, st258⟩ := Jvm.LawKit.callS X226 hx (y := (⟨"com/example/esfahan/esfahan/model/ComparisonOfSymbolPinLaw", "expect", "(ICC)Lcom/example/esfahan/esfahan/model/Comparison;"⟩ : MethodName)) hown (mvT hZ (hw _ (List.mem_of_getElem? (i := 26) rfl))) (mvT hZ (hw _ (List.mem_of_getElem? (i := 27) rfl))) (mvT hZ (hw _ (List.mem_of_getElem? (i := 2) rfl))) (mvT hZ (hw _ (List.mem_of_getElem? (i := 28) rfl))) (by decide) (backOf (W := 0) (rm_exp2 l Z a0 hw [] c0 c1 (.ref k5) k0 k1 k2 k3 k4 k5 T226.heap n0 O226 S0 S1 S3 S5 (by first | (intros; simp_all; done) | (intro h; simp only [List.cons.injEq] at h; obtain ⟨h1, h2, h3⟩ := h; subst h1 h2; simp_all; done) | (intro h; simp only [List.cons.injEq] at h; obtain ⟨h1, h2⟩ := h; subst h1; simp_all; done)) (by first | (intros; simp_all; done) | (intro h; simp only [List.cons.injEq] at h; obtain ⟨h1, h2, h3⟩ := h; subst h1 h2; simp_all; done) | (intro h; simp only [List.cons.injEq] at h; obtain ⟨h1, h2⟩ := h; subst h1; simp_all; done)) (by first | (intros; simp_all; done) | (intro h; simp only [List.cons.injEq] at h; obtain ⟨h1, h2, h3⟩ := h; subst h1 h2; simp_all; done) | (intro h; simp only [List.cons.injEq] at h; obtain ⟨h1, h2⟩ := h; subst h1; simp_all; done)) (by first | (intros; simp_all; done) | (intro h; simp only [List.cons.injEq] at h; obtain ⟨h1, h2, h3⟩ := h; subst h1 h2; simp_all; done) | (intro h; simp only [List.cons.injEq] at h; obtain ⟨h1, h2⟩ := h; subst h1; simp_all; done)) (by first | (intros; simp_all; done) | (intro h; simp only [List.cons.injEq] at h; obtain ⟨h1, h2, h3⟩ := h; subst h1 h2; simp_all; done) | (intro h; simp only [List.cons.injEq] at h; obtain ⟨h1, h2⟩ := h; subst h1; simp_all; done)) (by first | (intros; simp_all; done) | (intro h; simp only [List.cons.injEq] at h; obtain ⟨h1, h2, h3⟩ := h; subst h1 h2; simp_all; done) | (intro h; simp only [List.cons.injEq] at h; obtain ⟨h1, h2⟩ := h; subst h1; simp_all; done))) hZ (hw _ (List.mem_of_getElem? (i := 28) rfl)) (hw _ (List.mem_of_getElem? (i := 2) rfl)) (by decide) (by decide)) (g := (mkF m 156 #[.val (.int x0), .val (.int x1), .val (.int x2), .val (.int x3), .val (.int c0), .val (.int c1), .val (.int c2), .val (.int sel), .val (.ref b209), .unset, .val (.int (2 : Int32))] [(.int c1), (.int c0), (.int (2 : Int32))])) rfl (by rw [hml]; rfl) (argsL := [(.int (2 : Int32)), (.int c0), (.int c1)]) (rest := []) (lenOf pd_10 rfl) rfl (by show 2 * 0 + _ ≤ _; exact Nat.le_of_eq rfl) (hb hby at_156) (fun _ _ => ⟨rfl, rfl, (by decide : 3 + 0 ≤ _), (by decide : 8 + 0 ≤ _)⟩)
                dsimp only [Pt.U, Pt.locs, Pt.cells, Pt.slots] at X258 l258 y258 z258 st258 hQ258
                subst l258 y258 z258
                obtain ⟨rfl, N258q, e258⟩ := hQ258
                have N258 := Fr.app N226 N258q
                refine own_goW st258 ?_
                show own_GoesW _ _ _ _ _ _ _ (T258.setTop (mkF m 159 #[.val (.int x0), .val (.int x1), .val (.int x2), .val (.int x3), .val (.int c0), .val (.int c1), .val (.int c2), .val (.int sel), .val (.ref b209), .unset, .val (.int (2 : Int32))] [(.ref k5)]))
                refine own_goW (fun _ ww => XS.astore X258.here hx rfl (hb hby at_159) rfl rfl (l' := #[.val (.int x0), .val (.int x1), .val (.int x2), .val (.int x3), .val (.int c0), .val (.int c1), .val (.int c2), .val (.int sel), .val (.ref b209), .val (.ref k5), .val (.int (2 : Int32))]) rfl ww) ?_
                show own_GoesW _ _ _ _ _ _ _ (T258.setTop (mkF m 161 #[.val (.int x0), .val (.int x1), .val (.int x2), .val (.int x3), .val (.int c0), .val (.int c1), .val (.int c2), .val (.int sel), .val (.ref b209), .val (.ref k5), .val (.int (2 : Int32))] []))
                refine own_goW (fun _ ww => XS.aload X258.here hx rfl (hb hby at_161) rfl rfl ww) ?_
                show own_GoesW _ _ _ _ _ _ _ (T258.setTop (mkF m 163 #[.val (.int x0), .val (.int x1), .val (.int x2), .val (.int x3), .val (.int c0), .val (.int c1), .val (.int c2), .val (.int sel), .val (.ref b209), .val (.ref k5), .val (.int (2 : Int32))] [(.ref b209)]))
                obtain ⟨_, _, ⟨T259, L259, k259, n259⟩, -, X259, ⟨Lc259, hQ259, l259, y259, z259⟩, st259⟩ := Jvm.LawKit.callS X258 hx (y := (⟨"com/example/esfahan/esfahan/model/Comparison", "ofSymbol", "(Ljava/lang/String;)Ljava/util/Optional;"⟩ : MethodName)) hown (mvT hZ (hw _ (List.mem_of_getElem? (i := 29) rfl))) (mvT hZ (hw _ (List.mem_of_getElem? (i := 30) rfl))) (mvT hZ (hw _ (List.mem_of_getElem? (i := 31) rfl))) (mvT hZ (hw _ (List.mem_of_getElem? (i := 32) rfl))) (by decide) (backOf (W := 0) (rm_ofs l Z a0 hw [] va kk k0 k1 k2 k3 k4 k5 aE y0 ty0 kb0 y1 ty1 kb1 y2 ty2 kb2 y3 ty3 kb3 y4 ty4 kb4 y5 ty5 kb5 zc b209 t226 kb226 ([c0, c1] : List Int32) (2 : Int32) [(.int (c0).toInt8.toInt32), (.int (c1).toInt8.toInt32)] (.ref k5) T226.heap n0 O226 SV AV EV SE EE FE F0 Ey0 Cy0 Vy0 Ky0 F1 Ey1 Cy1 Vy1 Ky1 F2 Ey2 Cy2 Vy2 Ky2 F3 Ey3 Cy3 Vy3 Ky3 F4 Ey4 Cy4 Vy4 Ky4 F5 Ey5 Cy5 Vy5 Ky5 SC hzc f227 V226q C226q A226q (StrChars.Road.codOf (cs := ([c0, c1] : List Int32)) (n := 2) rfl (fun c hc => (hp_b209 c hc).2)) (own_up hp_b209) (Nat.le_of_ble_eq_true rfl) (by first | (intros; simp_all; done) | (intro h; simp only [List.cons.injEq] at h; obtain ⟨h1, h2, h3⟩ := h; subst h1 h2; simp_all; done) | (intro h; simp only [List.cons.injEq] at h; obtain ⟨h1, h2⟩ := h; subst h1; simp_all; done)) (by first | (intros; simp_all; done) | (intro h; simp only [List.cons.injEq] at h; obtain ⟨h1, h2, h3⟩ := h; subst h1 h2; simp_all; done) | (intro h; simp only [List.cons.injEq] at h; obtain ⟨h1, h2⟩ := h; subst h1; simp_all; done)) (by first | (intros; simp_all; done) | (intro h; simp only [List.cons.injEq] at h; obtain ⟨h1, h2, h3⟩ := h; subst h1 h2; simp_all; done) | (intro h; simp only [List.cons.injEq] at h; obtain ⟨h1, h2⟩ := h; subst h1; simp_all; done)) (by first | (intros; simp_all; done) | (intro h; simp only [List.cons.injEq] at h; obtain ⟨h1, h2, h3⟩ := h; subst h1 h2; simp_all; done) | (intro h; simp only [List.cons.injEq] at h; obtain ⟨h1, h2⟩ := h; subst h1; simp_all; done)) (by first | (intros; simp_all; done) | (intro h; simp only [List.cons.injEq] at h; obtain ⟨h1, h2, h3⟩ := h; subst h1 h2; simp_all; done) | (intro h; simp only [List.cons.injEq] at h; obtain ⟨h1, h2⟩ := h; subst h1; simp_all; done)) (by first | (intros; simp_all; done) | (intro h; simp only [List.cons.injEq] at h; obtain ⟨h1, h2, h3⟩ := h; subst h1 h2; simp_all; done) | (intro h; simp only [List.cons.injEq] at h; obtain ⟨h1, h2⟩ := h; subst h1; simp_all; done)) (by first | (intros; simp_all; done) | (intro h; simp only [List.cons.injEq] at h; obtain ⟨h1, h2, h3⟩ := h; subst h1 h2; simp_all; done) | (intro h; simp only [List.cons.injEq] at h; obtain ⟨h1, h2⟩ := h; subst h1; simp_all; done))) hZ (hw _ (List.mem_of_getElem? (i := 32) rfl)) (hw _ (List.mem_of_getElem? (i := 31) rfl)) (by decide) (by decide)) (g := (mkF m 163 #[.val (.int x0), .val (.int x1), .val (.int x2), .val (.int x3), .val (.int c0), .val (.int c1), .val (.int c2), .val (.int sel), .val (.ref b209), .val (.ref k5), .val (.int (2 : Int32))] [(.ref b209)])) rfl (by rw [hml]; rfl) (argsL := [(.ref b209)]) (rest := []) (lenOf pd_8 rfl) rfl (by show 2 * 0 + _ ≤ _; exact Nat.le_of_eq rfl) (hb hby at_163) (fun _ _ => ⟨rfl, e258, (by decide : 3 + 2 ≤ _), (by decide : 8 + 7 ≤ _)⟩)
                dsimp only [Pt.U, Pt.locs, Pt.cells, Pt.slots] at X259 l259 y259 z259 st259 hQ259
                subst l259 y259 z259
                obtain ⟨r259, rfl, N259q, K259q, E259q, P259⟩ := hQ259
                have N259 := Fr.app N258 N259q
                have hk := Nat.le_trans hk (own_ks K259q)
                have f260 : Exa Z T259.heap b209 "java/lang/String" := (f227.keep K259q)
                have f261 : Arv Z T259.heap b212 k212 .char (2 : Int32) [(.int c0), (.int c1)] (.int (0 : Int32)) := (f228.keep K259q nin0)
                have f262 : Fld Z T259.heap b209 "java/lang/String" "coder" "B" (.int (0 : Int32)) := (C226q.keep K259q nin0)
                have f263 : Fld Z T259.heap b209 "java/lang/String" "value" "[B" (.ref t226) := (V226q.keep K259q nin0)
                have f264 : Arv Z T259.heap t226 kb226 .byte (2 : Int32) [(.int (c0).toInt8.toInt32), (.int (c1).toInt8.toInt32)] (.int (0 : Int32)) := (A226q.keep K259q nin0)
                have O259 := O226.keep K259q all0
                refine own_goW st259 ?_
                show own_GoesW _ _ _ _ _ _ _ (T259.setTop (mkF m 166 #[.val (.int x0), .val (.int x1), .val (.int x2), .val (.int x3), .val (.int c0), .val (.int c1), .val (.int c2), .val (.int sel), .val (.ref b209), .val (.ref k5), .val (.int (2 : Int32))] [(.ref r259)]))
                refine own_goW (fun _ ww => XS.astore X259.here hx rfl (hb hby at_166) rfl rfl (l' := #[.val (.int x0), .val (.int x1), .val (.int x2), .val (.int x3), .val (.int c0), .val (.int c1), .val (.int c2), .val (.int sel), .val (.ref b209), .val (.ref k5), .val (.ref r259)]) rfl ww) ?_
                show own_GoesW _ _ _ _ _ _ _ (T259.setTop (mkF m 168 #[.val (.int x0), .val (.int x1), .val (.int x2), .val (.int x3), .val (.int c0), .val (.int c1), .val (.int c2), .val (.int sel), .val (.ref b209), .val (.ref k5), .val (.ref r259)] []))
                refine own_goW (fun _ ww => XS.aload X259.here hx rfl (hb hby at_168) rfl rfl ww) ?_
                show own_GoesW _ _ _ _ _ _ _ (T259.setTop (mkF m 170 #[.val (.int x0), .val (.int x1), .val (.int x2), .val (.int x3), .val (.int c0), .val (.int c1), .val (.int c2), .val (.int sel), .val (.ref b209), .val (.ref k5), .val (.ref r259)] [(.ref r259)]))
                refine own_goW (fun _ ww => XS.ifnullNo X259.here hx rfl (hb hby at_170) rfl ww) ?_
                show own_GoesW _ _ _ _ _ _ _ (T259.setTop (mkF m 173 #[.val (.int x0), .val (.int x1), .val (.int x2), .val (.int x3), .val (.int c0), .val (.int c1), .val (.int c2), .val (.int sel), .val (.ref b209), .val (.ref k5), .val (.ref r259)] []))
                refine own_goW (fun _ ww => XS.aload X259.here hx rfl (hb hby at_173) rfl rfl ww) ?_
                show own_GoesW _ _ _ _ _ _ _ (T259.setTop (mkF m 175 #[.val (.int x0), .val (.int x1), .val (.int x2), .val (.int x3), .val (.int c0), .val (.int c1), .val (.int c2), .val (.int sel), .val (.ref b209), .val (.ref k5), .val (.ref r259)] [(.ref r259)]))
                refine own_goW (fun _ ww => XS.aconstNull X259.here hx rfl (hb hby at_175) ww) ?_
                show own_GoesW _ _ _ _ _ _ _ (T259.setTop (mkF m 176 #[.val (.int x0), .val (.int x1), .val (.int x2), .val (.int x3), .val (.int c0), .val (.int c1), .val (.int c2), .val (.int sel), .val (.ref b209), .val (.ref k5), .val (.ref r259)] [.null, (.ref r259)]))
                obtain ⟨cq265, kq265, q265a, q265b, q265c⟩ := isOf hZ rfl E259q
                obtain ⟨_, _, ⟨T265, L265, k265, n265⟩, -, X265, ⟨Lc265, hQ265, l265, y265, z265⟩, st265⟩ := X259.virtualBack hx (y := (⟨"java/util/Optional", "orElse", "(Ljava/lang/Object;)Ljava/lang/Object;"⟩ : MethodName)) (z := (⟨"java/util/Optional", "orElse", "(Ljava/lang/Object;)Ljava/lang/Object;"⟩ : MethodName)) hown (mvT hZ (hw _ (List.mem_of_getElem? (i := 72) rfl))) (mvT hZ (hw _ (List.mem_of_getElem? (i := 73) rfl))) (notFace_of_selects (args := #[]) (mvT hZ (hw _ (List.mem_of_getElem? (i := 75) rfl)))) (mvT hZ (hw _ (List.mem_of_getElem? (i := 75) rfl))) (mvT hZ (hw _ (List.mem_of_getElem? (i := 74) rfl))) (by decide) (backOf (W := 0) (rm_orr l Z a0 hw [] r259 k5 T259.heap n0 O259 P259) hZ (hw _ (List.mem_of_getElem? (i := 76) rfl)) (hw _ (List.mem_of_getElem? (i := 69) rfl)) (by decide) (by decide)) q265a q265c (g := (mkF m 176 #[.val (.int x0), .val (.int x1), .val (.int x2), .val (.int x3), .val (.int c0), .val (.int c1), .val (.int c2), .val (.int sel), .val (.ref b209), .val (.ref k5), .val (.ref r259)] [.null, (.ref r259)])) rfl (by rw [hml]; rfl) (Steps.refl _) (argsL := [.null]) (rest := []) (lenOf pd_1 rfl) rfl (by show 2 * 0 + _ ≤ _; exact Nat.le_of_eq rfl) (hb hby at_176) (fun _ _ => ⟨rfl, rfl, (by decide : 5 + 0 ≤ _), (by decide : 15 + 0 ≤ _)⟩)
                dsimp only [Pt.U, Pt.locs, Pt.cells, Pt.slots] at X265 l265 y265 z265 st265 hQ265
                subst l265 y265 z265
                obtain ⟨rfl, N265q, e265⟩ := hQ265
                have N265 := Fr.app N259 N265q
                refine own_goW (fun _ ww => Steps.trans st265 ww) ?_
                show own_GoesW _ _ _ _ _ _ _ (T265.setTop (mkF m 179 #[.val (.int x0), .val (.int x1), .val (.int x2), .val (.int x3), .val (.int c0), .val (.int c1), .val (.int c2), .val (.int sel), .val (.ref b209), .val (.ref k5), .val (.ref r259)] [(.ref k5)]))
                refine own_goW (fun _ ww => XS.aload X265.here hx rfl (hb hby at_179) rfl rfl ww) ?_
                show own_GoesW _ _ _ _ _ _ _ (T265.setTop (mkF m 181 #[.val (.int x0), .val (.int x1), .val (.int x2), .val (.int x3), .val (.int c0), .val (.int c1), .val (.int c2), .val (.int sel), .val (.ref b209), .val (.ref k5), .val (.ref r259)] [(.ref k5), (.ref k5)]))
                refine own_goW (fun _ ww => XT.acmpNo X265.here hx rfl (hb hby at_181) rfl rfl rfl (own_aeq (rfl : k5 = k5)).2 ww) ?_
                show own_GoesW _ _ _ _ _ _ _ (T265.setTop (mkF m 184 #[.val (.int x0), .val (.int x1), .val (.int x2), .val (.int x3), .val (.int c0), .val (.int c1), .val (.int c2), .val (.int sel), .val (.ref b209), .val (.ref k5), .val (.ref r259)] []))
                refine own_goW (fun _ ww => XS.iconst X265.here hx rfl (hb hby at_184) ww) ?_
                show own_GoesW _ _ _ _ _ _ _ (T265.setTop (mkF m 185 #[.val (.int x0), .val (.int x1), .val (.int x2), .val (.int x3), .val (.int c0), .val (.int c1), .val (.int c2), .val (.int sel), .val (.ref b209), .val (.ref k5), .val (.ref r259)] [(.int (1 : Int32))]))
                refine own_goW (fun _ ww => XS.goto X265.here hx rfl (pc0 := 185) (pc' := 189) rfl (hb hby at_185) (by decide) (by decide) ww) ?_
                show own_GoesW _ _ _ _ _ _ _ (T265.setTop (mkF m 189 #[.val (.int x0), .val (.int x1), .val (.int x2), .val (.int x3), .val (.int c0), .val (.int c1), .val (.int c2), .val (.int sel), .val (.ref b209), .val (.ref k5), .val (.ref r259)] [(.int (1 : Int32))]))
                exact own_outW X265 hS hk hlk (v := some (.int (1 : Int32))) (fun h => by rw [hret] at h; cases h) (fun fs hr => retOut X265 hx (t := .boolean) hret (by decide) (Or.inl ⟨rfl, by simp, _, rfl⟩) (hb hby at_189) hr) e265 ⟨rfl, N265⟩ (by decide) (by decide)
              ·
                show own_GoesW _ _ _ _ _ _ _ (T226.setTop (mkF m 156 #[.val (.int x0), .val (.int x1), .val (.int x2), .val (.int x3), .val (.int c0), .val (.int c1), .val (.int c2), .val (.int sel), .val (.ref b209), .unset, .val (.int (2 : Int32))] [(.int c1), (.int c0), (.int (2 : Int32))]))
                obtain ⟨_, _, ⟨T266, L266, k266, n266⟩, -, X266, ⟨Lc266, hQ266, l266, y266, z266⟩, st266⟩ := Jvm.LawKit.callS X226 hx (y := (⟨"com/example/esfahan/esfahan/model/ComparisonOfSymbolPinLaw", "expect", "(ICC)Lcom/example/esfahan/esfahan/model/Comparison;"⟩ : MethodName)) hown (mvT hZ (hw _ (List.mem_of_getElem? (i := 26) rfl))) (mvT hZ (hw _ (List.mem_of_getElem? (i := 27) rfl))) (mvT hZ (hw _ (List.mem_of_getElem? (i := 2) rfl))) (mvT hZ (hw _ (List.mem_of_getElem? (i := 28) rfl))) (by decide) (backOf (W := 0) (rm_exp2 l Z a0 hw [] c0 c1 .null k0 k1 k2 k3 k4 k5 T226.heap n0 O226 S0 S1 S3 S5 (by first | (intros; simp_all; done) | (intro h; simp only [List.cons.injEq] at h; obtain ⟨h1, h2, h3⟩ := h; subst h1 h2; simp_all; done) | (intro h; simp only [List.cons.injEq] at h; obtain ⟨h1, h2⟩ := h; subst h1; simp_all; done)) (by first | (intros; simp_all; done) | (intro h; simp only [List.cons.injEq] at h; obtain ⟨h1, h2, h3⟩ := h; subst h1 h2; simp_all; done) | (intro h; simp only [List.cons.injEq] at h; obtain ⟨h1, h2⟩ := h; subst h1; simp_all; done)) (by first | (intros; simp_all; done) | (intro h; simp only [List.cons.injEq] at h; obtain ⟨h1, h2, h3⟩ := h; subst h1 h2; simp_all; done) | (intro h; simp only [List.cons.injEq] at h; obtain ⟨h1, h2⟩ := h; subst h1; simp_all; done)) (by first | (intros; simp_all; done) | (intro h; simp only [List.cons.injEq] at h; obtain ⟨h1, h2, h3⟩ := h; subst h1 h2; simp_all; done) | (intro h; simp only [List.cons.injEq] at h; obtain ⟨h1, h2⟩ := h; subst h1; simp_all; done)) (by first | (intros; simp_all; done) | (intro h; simp only [List.cons.injEq] at h; obtain ⟨h1, h2, h3⟩ := h; subst h1 h2; simp_all; done) | (intro h; simp only [List.cons.injEq] at h; obtain ⟨h1, h2⟩ := h; subst h1; simp_all; done)) (by first | (intros; simp_all; done) | (intro h; simp only [List.cons.injEq] at h; obtain ⟨h1, h2, h3⟩ := h; subst h1 h2; simp_all; done) | (intro h; simp only [List.cons.injEq] at h; obtain ⟨h1, h2⟩ := h; subst h1; simp_all; done))) hZ (hw _ (List.mem_of_getElem? (i := 28) rfl)) (hw _ (List.mem_of_getElem? (i := 2) rfl)) (by decide) (by decide)) (g := (mkF m 156 #[.val (.int x0), .val (.int x1), .val (.int x2), .val (.int x3), .val (.int c0), .val (.int c1), .val (.int c2), .val (.int sel), .val (.ref b209), .unset, .val (.int (2 : Int32))] [(.int c1), (.int c0), (.int (2 : Int32))])) rfl (by rw [hml]; rfl) (argsL := [(.int (2 : Int32)), (.int c0), (.int c1)]) (rest := []) (lenOf pd_10 rfl) rfl (by show 2 * 0 + _ ≤ _; exact Nat.le_of_eq rfl) (hb hby at_156) (fun _ _ => ⟨rfl, rfl, (by decide : 3 + 0 ≤ _), (by decide : 8 + 0 ≤ _)⟩)
                dsimp only [Pt.U, Pt.locs, Pt.cells, Pt.slots] at X266 l266 y266 z266 st266 hQ266
                subst l266 y266 z266
                obtain ⟨rfl, N266q, e266⟩ := hQ266
                have N266 := Fr.app N226 N266q
                refine own_goW st266 ?_
                show own_GoesW _ _ _ _ _ _ _ (T266.setTop (mkF m 159 #[.val (.int x0), .val (.int x1), .val (.int x2), .val (.int x3), .val (.int c0), .val (.int c1), .val (.int c2), .val (.int sel), .val (.ref b209), .unset, .val (.int (2 : Int32))] [.null]))
                refine own_goW (fun _ ww => XS.astore X266.here hx rfl (hb hby at_159) rfl rfl (l' := #[.val (.int x0), .val (.int x1), .val (.int x2), .val (.int x3), .val (.int c0), .val (.int c1), .val (.int c2), .val (.int sel), .val (.ref b209), .val .null, .val (.int (2 : Int32))]) rfl ww) ?_
                show own_GoesW _ _ _ _ _ _ _ (T266.setTop (mkF m 161 #[.val (.int x0), .val (.int x1), .val (.int x2), .val (.int x3), .val (.int c0), .val (.int c1), .val (.int c2), .val (.int sel), .val (.ref b209), .val .null, .val (.int (2 : Int32))] []))
                refine own_goW (fun _ ww => XS.aload X266.here hx rfl (hb hby at_161) rfl rfl ww) ?_
                show own_GoesW _ _ _ _ _ _ _ (T266.setTop (mkF m 163 #[.val (.int x0), .val (.int x1), .val (.int x2), .val (.int x3), .val (.int c0), .val (.int c1), .val (.int c2), .val (.int sel), .val (.ref b209), .val .null, .val (.int (2 : Int32))] [(.ref b209)]))
                obtain ⟨_, _, ⟨T267, L267, k267, n267⟩, -, X267, ⟨Lc267, hQ267, l267, y267, z267⟩, st267⟩ := Jvm.LawKit.callS X266 hx (y := (⟨"com/example/esfahan/esfahan/model/Comparison", "ofSymbol", "(Ljava/lang/String;)Ljava/util/Optional;"⟩ : MethodName)) hown (mvT hZ (hw _ (List.mem_of_getElem? (i := 29) rfl))) (mvT hZ (hw _ (List.mem_of_getElem? (i := 30) rfl))) (mvT hZ (hw _ (List.mem_of_getElem? (i := 31) rfl))) (mvT hZ (hw _ (List.mem_of_getElem? (i := 32) rfl))) (by decide) (backOf (W := 0) (rm_ofs l Z a0 hw [] va kk k0 k1 k2 k3 k4 k5 aE y0 ty0 kb0 y1 ty1 kb1 y2 ty2 kb2 y3 ty3 kb3 y4 ty4 kb4 y5 ty5 kb5 zc b209 t226 kb226 ([c0, c1] : List Int32) (2 : Int32) [(.int (c0).toInt8.toInt32), (.int (c1).toInt8.toInt32)] .null T226.heap n0 O226 SV AV EV SE EE FE F0 Ey0 Cy0 Vy0 Ky0 F1 Ey1 Cy1 Vy1 Ky1 F2 Ey2 Cy2 Vy2 Ky2 F3 Ey3 Cy3 Vy3 Ky3 F4 Ey4 Cy4 Vy4 Ky4 F5 Ey5 Cy5 Vy5 Ky5 SC hzc f227 V226q C226q A226q (StrChars.Road.codOf (cs := ([c0, c1] : List Int32)) (n := 2) rfl (fun c hc => (hp_b209 c hc).2)) (own_up hp_b209) (Nat.le_of_ble_eq_true rfl) (by first | (intros; simp_all; done) | (intro h; simp only [List.cons.injEq] at h; obtain ⟨h1, h2, h3⟩ := h; subst h1 h2; simp_all; done) | (intro h; simp only [List.cons.injEq] at h; obtain ⟨h1, h2⟩ := h; subst h1; simp_all; done)) (by first | (intros; simp_all; done) | (intro h; simp only [List.cons.injEq] at h; obtain ⟨h1, h2, h3⟩ := h; subst h1 h2; simp_all; done) | (intro h; simp only [List.cons.injEq] at h; obtain ⟨h1, h2⟩ := h; subst h1; simp_all; done)) (by first | (intros; simp_all; done) | (intro h; simp only [List.cons.injEq] at h; obtain ⟨h1, h2, h3⟩ := h; subst h1 h2; simp_all; done) | (intro h; simp only [List.cons.injEq] at h; obtain ⟨h1, h2⟩ := h; subst h1; simp_all; done)) (by first | (intros; simp_all; done) | (intro h; simp only [List.cons.injEq] at h; obtain ⟨h1, h2, h3⟩ := h; subst h1 h2; simp_all; done) | (intro h; simp only [List.cons.injEq] at h; obtain ⟨h1, h2⟩ := h; subst h1; simp_all; done)) (by first | (intros; simp_all; done) | (intro h; simp only [List.cons.injEq] at h; obtain ⟨h1, h2, h3⟩ := h; subst h1 h2; simp_all; done) | (intro h; simp only [List.cons.injEq] at h; obtain ⟨h1, h2⟩ := h; subst h1; simp_all; done)) (by first | (intros; simp_all; done) | (intro h; simp only [List.cons.injEq] at h; obtain ⟨h1, h2, h3⟩ := h; subst h1 h2; simp_all; done) | (intro h; simp only [List.cons.injEq] at h; obtain ⟨h1, h2⟩ := h; subst h1; simp_all; done)) (by first | (intros; simp_all; done) | (intro h; simp only [List.cons.injEq] at h; obtain ⟨h1, h2, h3⟩ := h; subst h1 h2; simp_all; done) | (intro h; simp only [List.cons.injEq] at h; obtain ⟨h1, h2⟩ := h; subst h1; simp_all; done))) hZ (hw _ (List.mem_of_getElem? (i := 32) rfl)) (hw _ (List.mem_of_getElem? (i := 31) rfl)) (by decide) (by decide)) (g := (mkF m 163 #[.val (.int x0), .val (.int x1), .val (.int x2), .val (.int x3), .val (.int c0), .val (.int c1), .val (.int c2), .val (.int sel), .val (.ref b209), .val .null, .val (.int (2 : Int32))] [(.ref b209)])) rfl (by rw [hml]; rfl) (argsL := [(.ref b209)]) (rest := []) (lenOf pd_8 rfl) rfl (by show 2 * 0 + _ ≤ _; exact Nat.le_of_eq rfl) (hb hby at_163) (fun _ _ => ⟨rfl, e266, (by decide : 3 + 2 ≤ _), (by decide : 8 + 7 ≤ _)⟩)
                dsimp only [Pt.U, Pt.locs, Pt.cells, Pt.slots] at X267 l267 y267 z267 st267 hQ267
                subst l267 y267 z267
                obtain ⟨r267, rfl, N267q, K267q, E267q, P267⟩ := hQ267
                have N267 := Fr.app N266 N267q
                have hk := Nat.le_trans hk (own_ks K267q)
                have f268 : Exa Z T267.heap b209 "java/lang/String" := (f227.keep K267q)
                have f269 : Arv Z T267.heap b212 k212 .char (2 : Int32) [(.int c0), (.int c1)] (.int (0 : Int32)) := (f228.keep K267q nin0)
                have f270 : Fld Z T267.heap b209 "java/lang/String" "coder" "B" (.int (0 : Int32)) := (C226q.keep K267q nin0)
                have f271 : Fld Z T267.heap b209 "java/lang/String" "value" "[B" (.ref t226) := (V226q.keep K267q nin0)
                have f272 : Arv Z T267.heap t226 kb226 .byte (2 : Int32) [(.int (c0).toInt8.toInt32), (.int (c1).toInt8.toInt32)] (.int (0 : Int32)) := (A226q.keep K267q nin0)
                have O267 := O226.keep K267q all0
                refine own_goW st267 ?_
                show own_GoesW _ _ _ _ _ _ _ (T267.setTop (mkF m 166 #[.val (.int x0), .val (.int x1), .val (.int x2), .val (.int x3), .val (.int c0), .val (.int c1), .val (.int c2), .val (.int sel), .val (.ref b209), .val .null, .val (.int (2 : Int32))] [(.ref r267)]))
                refine own_goW (fun _ ww => XS.astore X267.here hx rfl (hb hby at_166) rfl rfl (l' := #[.val (.int x0), .val (.int x1), .val (.int x2), .val (.int x3), .val (.int c0), .val (.int c1), .val (.int c2), .val (.int sel), .val (.ref b209), .val .null, .val (.ref r267)]) rfl ww) ?_
                show own_GoesW _ _ _ _ _ _ _ (T267.setTop (mkF m 168 #[.val (.int x0), .val (.int x1), .val (.int x2), .val (.int x3), .val (.int c0), .val (.int c1), .val (.int c2), .val (.int sel), .val (.ref b209), .val .null, .val (.ref r267)] []))
                refine own_goW (fun _ ww => XS.aload X267.here hx rfl (hb hby at_168) rfl rfl ww) ?_
                show own_GoesW _ _ _ _ _ _ _ (T267.setTop (mkF m 170 #[.val (.int x0), .val (.int x1), .val (.int x2), .val (.int x3), .val (.int c0), .val (.int c1), .val (.int c2), .val (.int sel), .val (.ref b209), .val .null, .val (.ref r267)] [(.ref r267)]))
                refine own_goW (fun _ ww => XS.ifnullNo X267.here hx rfl (hb hby at_170) rfl ww) ?_
                show own_GoesW _ _ _ _ _ _ _ (T267.setTop (mkF m 173 #[.val (.int x0), .val (.int x1), .val (.int x2), .val (.int x3), .val (.int c0), .val (.int c1), .val (.int c2), .val (.int sel), .val (.ref b209), .val .null, .val (.ref r267)] []))
                refine own_goW (fun _ ww => XS.aload X267.here hx rfl (hb hby at_173) rfl rfl ww) ?_
                show own_GoesW _ _ _ _ _ _ _ (T267.setTop (mkF m 175 #[.val (.int x0), .val (.int x1), .val (.int x2), .val (.int x3), .val (.int c0), .val (.int c1), .val (.int c2), .val (.int sel), .val (.ref b209), .val .null, .val (.ref r267)] [(.ref r267)]))
                refine own_goW (fun _ ww => XS.aconstNull X267.here hx rfl (hb hby at_175) ww) ?_
                show own_GoesW _ _ _ _ _ _ _ (T267.setTop (mkF m 176 #[.val (.int x0), .val (.int x1), .val (.int x2), .val (.int x3), .val (.int c0), .val (.int c1), .val (.int c2), .val (.int sel), .val (.ref b209), .val .null, .val (.ref r267)] [.null, (.ref r267)]))
                obtain ⟨cq273, kq273, q273a, q273b, q273c⟩ := isOf hZ rfl E267q
                obtain ⟨_, _, ⟨T273, L273, k273, n273⟩, -, X273, ⟨Lc273, hQ273, l273, y273, z273⟩, st273⟩ := X267.virtualBack hx (y := (⟨"java/util/Optional", "orElse", "(Ljava/lang/Object;)Ljava/lang/Object;"⟩ : MethodName)) (z := (⟨"java/util/Optional", "orElse", "(Ljava/lang/Object;)Ljava/lang/Object;"⟩ : MethodName)) hown (mvT hZ (hw _ (List.mem_of_getElem? (i := 72) rfl))) (mvT hZ (hw _ (List.mem_of_getElem? (i := 73) rfl))) (notFace_of_selects (args := #[]) (mvT hZ (hw _ (List.mem_of_getElem? (i := 75) rfl)))) (mvT hZ (hw _ (List.mem_of_getElem? (i := 75) rfl))) (mvT hZ (hw _ (List.mem_of_getElem? (i := 74) rfl))) (by decide) (backOf (W := 0) (rm_orn l Z a0 hw [] r267 T267.heap n0 O267 P267) hZ (hw _ (List.mem_of_getElem? (i := 76) rfl)) (hw _ (List.mem_of_getElem? (i := 69) rfl)) (by decide) (by decide)) q273a q273c (g := (mkF m 176 #[.val (.int x0), .val (.int x1), .val (.int x2), .val (.int x3), .val (.int c0), .val (.int c1), .val (.int c2), .val (.int sel), .val (.ref b209), .val .null, .val (.ref r267)] [.null, (.ref r267)])) rfl (by rw [hml]; rfl) (Steps.refl _) (argsL := [.null]) (rest := []) (lenOf pd_1 rfl) rfl (by show 2 * 0 + _ ≤ _; exact Nat.le_of_eq rfl) (hb hby at_176) (fun _ _ => ⟨rfl, rfl, (by decide : 5 + 0 ≤ _), (by decide : 15 + 0 ≤ _)⟩)
                dsimp only [Pt.U, Pt.locs, Pt.cells, Pt.slots] at X273 l273 y273 z273 st273 hQ273
                subst l273 y273 z273
                obtain ⟨rfl, N273q, e273⟩ := hQ273
                have N273 := Fr.app N267 N273q
                refine own_goW (fun _ ww => Steps.trans st273 ww) ?_
                show own_GoesW _ _ _ _ _ _ _ (T273.setTop (mkF m 179 #[.val (.int x0), .val (.int x1), .val (.int x2), .val (.int x3), .val (.int c0), .val (.int c1), .val (.int c2), .val (.int sel), .val (.ref b209), .val .null, .val (.ref r267)] [.null]))
                refine own_goW (fun _ ww => XS.aload X273.here hx rfl (hb hby at_179) rfl rfl ww) ?_
                show own_GoesW _ _ _ _ _ _ _ (T273.setTop (mkF m 181 #[.val (.int x0), .val (.int x1), .val (.int x2), .val (.int x3), .val (.int c0), .val (.int c1), .val (.int c2), .val (.int sel), .val (.ref b209), .val .null, .val (.ref r267)] [.null, .null]))
                refine own_goW (fun _ ww => XT.acmpNo X273.here hx rfl (hb hby at_181) rfl rfl rfl (XT.aa_ne_f rfl) ww) ?_
                show own_GoesW _ _ _ _ _ _ _ (T273.setTop (mkF m 184 #[.val (.int x0), .val (.int x1), .val (.int x2), .val (.int x3), .val (.int c0), .val (.int c1), .val (.int c2), .val (.int sel), .val (.ref b209), .val .null, .val (.ref r267)] []))
                refine own_goW (fun _ ww => XS.iconst X273.here hx rfl (hb hby at_184) ww) ?_
                show own_GoesW _ _ _ _ _ _ _ (T273.setTop (mkF m 185 #[.val (.int x0), .val (.int x1), .val (.int x2), .val (.int x3), .val (.int c0), .val (.int c1), .val (.int c2), .val (.int sel), .val (.ref b209), .val .null, .val (.ref r267)] [(.int (1 : Int32))]))
                refine own_goW (fun _ ww => XS.goto X273.here hx rfl (pc0 := 185) (pc' := 189) rfl (hb hby at_185) (by decide) (by decide) ww) ?_
                show own_GoesW _ _ _ _ _ _ _ (T273.setTop (mkF m 189 #[.val (.int x0), .val (.int x1), .val (.int x2), .val (.int x3), .val (.int c0), .val (.int c1), .val (.int c2), .val (.int sel), .val (.ref b209), .val .null, .val (.ref r267)] [(.int (1 : Int32))]))
                exact own_outW X273 hS hk hlk (v := some (.int (1 : Int32))) (fun h => by rw [hret] at h; cases h) (fun fs hr => retOut X273 hx (t := .boolean) hret (by decide) (Or.inl ⟨rfl, by simp, _, rfl⟩) (hb hby at_189) hr) e273 ⟨rfl, N273⟩ (by decide) (by decide)
      ·
        show own_GoesW _ _ _ _ _ _ _ (T226.setTop (mkF m 156 #[.val (.int x0), .val (.int x1), .val (.int x2), .val (.int x3), .val (.int c0), .val (.int c1), .val (.int c2), .val (.int sel), .val (.ref b209), .unset, .val (.int (2 : Int32))] [(.int c1), (.int c0), (.int (2 : Int32))]))
        obtain ⟨_, _, ⟨T274, L274, k274, n274⟩, -, X274, ⟨Lc274, hQ274, l274, y274, z274⟩, st274⟩ := Jvm.LawKit.callS X226 hx (y := (⟨"com/example/esfahan/esfahan/model/ComparisonOfSymbolPinLaw", "expect", "(ICC)Lcom/example/esfahan/esfahan/model/Comparison;"⟩ : MethodName)) hown (mvT hZ (hw _ (List.mem_of_getElem? (i := 26) rfl))) (mvT hZ (hw _ (List.mem_of_getElem? (i := 27) rfl))) (mvT hZ (hw _ (List.mem_of_getElem? (i := 2) rfl))) (mvT hZ (hw _ (List.mem_of_getElem? (i := 28) rfl))) (by decide) (backOf (W := 0) (rm_exp2 l Z a0 hw [] c0 c1 .null k0 k1 k2 k3 k4 k5 T226.heap n0 O226 S0 S1 S3 S5 (by first | (intros; simp_all; done) | (intro h; simp only [List.cons.injEq] at h; obtain ⟨h1, h2, h3⟩ := h; subst h1 h2; simp_all; done) | (intro h; simp only [List.cons.injEq] at h; obtain ⟨h1, h2⟩ := h; subst h1; simp_all; done)) (by first | (intros; simp_all; done) | (intro h; simp only [List.cons.injEq] at h; obtain ⟨h1, h2, h3⟩ := h; subst h1 h2; simp_all; done) | (intro h; simp only [List.cons.injEq] at h; obtain ⟨h1, h2⟩ := h; subst h1; simp_all; done)) (by first | (intros; simp_all; done) | (intro h; simp only [List.cons.injEq] at h; obtain ⟨h1, h2, h3⟩ := h; subst h1 h2; simp_all; done) | (intro h; simp only [List.cons.injEq] at h; obtain ⟨h1, h2⟩ := h; subst h1; simp_all; done)) (by first | (intros; simp_all; done) | (intro h; simp only [List.cons.injEq] at h; obtain ⟨h1, h2, h3⟩ := h; subst h1 h2; simp_all; done) | (intro h; simp only [List.cons.injEq] at h; obtain ⟨h1, h2⟩ := h; subst h1; simp_all; done)) (by first | (intros; simp_all; done) | (intro h; simp only [List.cons.injEq] at h; obtain ⟨h1, h2, h3⟩ := h; subst h1 h2; simp_all; done) | (intro h; simp only [List.cons.injEq] at h; obtain ⟨h1, h2⟩ := h; subst h1; simp_all; done)) (by first | (intros; simp_all; done) | (intro h; simp only [List.cons.injEq] at h; obtain ⟨h1, h2, h3⟩ := h; subst h1 h2; simp_all; done) | (intro h; simp only [List.cons.injEq] at h; obtain ⟨h1, h2⟩ := h; subst h1; simp_all; done))) hZ (hw _ (List.mem_of_getElem? (i := 28) rfl)) (hw _ (List.mem_of_getElem? (i := 2) rfl)) (by decide) (by decide)) (g := (mkF m 156 #[.val (.int x0), .val (.int x1), .val (.int x2), .val (.int x3), .val (.int c0), .val (.int c1), .val (.int c2), .val (.int sel), .val (.ref b209), .unset, .val (.int (2 : Int32))] [(.int c1), (.int c0), (.int (2 : Int32))])) rfl (by rw [hml]; rfl) (argsL := [(.int (2 : Int32)), (.int c0), (.int c1)]) (rest := []) (lenOf pd_10 rfl) rfl (by show 2 * 0 + _ ≤ _; exact Nat.le_of_eq rfl) (hb hby at_156) (fun _ _ => ⟨rfl, rfl, (by decide : 3 + 0 ≤ _), (by decide : 8 + 0 ≤ _)⟩)
        dsimp only [Pt.U, Pt.locs, Pt.cells, Pt.slots] at X274 l274 y274 z274 st274 hQ274
        subst l274 y274 z274
        obtain ⟨rfl, N274q, e274⟩ := hQ274
        have N274 := Fr.app N226 N274q
        refine own_goW st274 ?_
        show own_GoesW _ _ _ _ _ _ _ (T274.setTop (mkF m 159 #[.val (.int x0), .val (.int x1), .val (.int x2), .val (.int x3), .val (.int c0), .val (.int c1), .val (.int c2), .val (.int sel), .val (.ref b209), .unset, .val (.int (2 : Int32))] [.null]))
        refine own_goW (fun _ ww => XS.astore X274.here hx rfl (hb hby at_159) rfl rfl (l' := #[.val (.int x0), .val (.int x1), .val (.int x2), .val (.int x3), .val (.int c0), .val (.int c1), .val (.int c2), .val (.int sel), .val (.ref b209), .val .null, .val (.int (2 : Int32))]) rfl ww) ?_
        show own_GoesW _ _ _ _ _ _ _ (T274.setTop (mkF m 161 #[.val (.int x0), .val (.int x1), .val (.int x2), .val (.int x3), .val (.int c0), .val (.int c1), .val (.int c2), .val (.int sel), .val (.ref b209), .val .null, .val (.int (2 : Int32))] []))
        refine own_goW (fun _ ww => XS.aload X274.here hx rfl (hb hby at_161) rfl rfl ww) ?_
        show own_GoesW _ _ _ _ _ _ _ (T274.setTop (mkF m 163 #[.val (.int x0), .val (.int x1), .val (.int x2), .val (.int x3), .val (.int c0), .val (.int c1), .val (.int c2), .val (.int sel), .val (.ref b209), .val .null, .val (.int (2 : Int32))] [(.ref b209)]))
        obtain ⟨_, _, ⟨T275, L275, k275, n275⟩, -, X275, ⟨Lc275, hQ275, l275, y275, z275⟩, st275⟩ := Jvm.LawKit.callS X274 hx (y := (⟨"com/example/esfahan/esfahan/model/Comparison", "ofSymbol", "(Ljava/lang/String;)Ljava/util/Optional;"⟩ : MethodName)) hown (mvT hZ (hw _ (List.mem_of_getElem? (i := 29) rfl))) (mvT hZ (hw _ (List.mem_of_getElem? (i := 30) rfl))) (mvT hZ (hw _ (List.mem_of_getElem? (i := 31) rfl))) (mvT hZ (hw _ (List.mem_of_getElem? (i := 32) rfl))) (by decide) (backOf (W := 0) (rm_ofs l Z a0 hw [] va kk k0 k1 k2 k3 k4 k5 aE y0 ty0 kb0 y1 ty1 kb1 y2 ty2 kb2 y3 ty3 kb3 y4 ty4 kb4 y5 ty5 kb5 zc b209 t226 kb226 ([c0, c1] : List Int32) (2 : Int32) [(.int (c0).toInt8.toInt32), (.int (c1).toInt8.toInt32)] .null T226.heap n0 O226 SV AV EV SE EE FE F0 Ey0 Cy0 Vy0 Ky0 F1 Ey1 Cy1 Vy1 Ky1 F2 Ey2 Cy2 Vy2 Ky2 F3 Ey3 Cy3 Vy3 Ky3 F4 Ey4 Cy4 Vy4 Ky4 F5 Ey5 Cy5 Vy5 Ky5 SC hzc f227 V226q C226q A226q (StrChars.Road.codOf (cs := ([c0, c1] : List Int32)) (n := 2) rfl (fun c hc => (hp_b209 c hc).2)) (own_up hp_b209) (Nat.le_of_ble_eq_true rfl) (by first | (intros; simp_all; done) | (intro h; simp only [List.cons.injEq] at h; obtain ⟨h1, h2, h3⟩ := h; subst h1 h2; simp_all; done) | (intro h; simp only [List.cons.injEq] at h; obtain ⟨h1, h2⟩ := h; subst h1; simp_all; done)) (by first | (intros; simp_all; done) | (intro h; simp only [List.cons.injEq] at h; obtain ⟨h1, h2, h3⟩ := h; subst h1 h2; simp_all; done) | (intro h; simp only [List.cons.injEq] at h; obtain ⟨h1, h2⟩ := h; subst h1; simp_all; done)) (by first | (intros; simp_all; done) | (intro h; simp only [List.cons.injEq] at h; obtain ⟨h1, h2, h3⟩ := h; subst h1 h2; simp_all; done) | (intro h; simp only [List.cons.injEq] at h; obtain ⟨h1, h2⟩ := h; subst h1; simp_all; done)) (by first | (intros; simp_all; done) | (intro h; simp only [List.cons.injEq] at h; obtain ⟨h1, h2, h3⟩ := h; subst h1 h2; simp_all; done) | (intro h; simp only [List.cons.injEq] at h; obtain ⟨h1, h2⟩ := h; subst h1; simp_all; done)) (by first | (intros; simp_all; done) | (intro h; simp only [List.cons.injEq] at h; obtain ⟨h1, h2, h3⟩ := h; subst h1 h2; simp_all; done) | (intro h; simp only [List.cons.injEq] at h; obtain ⟨h1, h2⟩ := h; subst h1; simp_all; done)) (by first | (intros; simp_all; done) | (intro h; simp only [List.cons.injEq] at h; obtain ⟨h1, h2, h3⟩ := h; subst h1 h2; simp_all; done) | (intro h; simp only [List.cons.injEq] at h; obtain ⟨h1, h2⟩ := h; subst h1; simp_all; done)) (by first | (intros; simp_all; done) | (intro h; simp only [List.cons.injEq] at h; obtain ⟨h1, h2, h3⟩ := h; subst h1 h2; simp_all; done) | (intro h; simp only [List.cons.injEq] at h; obtain ⟨h1, h2⟩ := h; subst h1; simp_all; done))) hZ (hw _ (List.mem_of_getElem? (i := 32) rfl)) (hw _ (List.mem_of_getElem? (i := 31) rfl)) (by decide) (by decide)) (g := (mkF m 163 #[.val (.int x0), .val (.int x1), .val (.int x2), .val (.int x3), .val (.int c0), .val (.int c1), .val (.int c2), .val (.int sel), .val (.ref b209), .val .null, .val (.int (2 : Int32))] [(.ref b209)])) rfl (by rw [hml]; rfl) (argsL := [(.ref b209)]) (rest := []) (lenOf pd_8 rfl) rfl (by show 2 * 0 + _ ≤ _; exact Nat.le_of_eq rfl) (hb hby at_163) (fun _ _ => ⟨rfl, e274, (by decide : 3 + 2 ≤ _), (by decide : 8 + 7 ≤ _)⟩)
        dsimp only [Pt.U, Pt.locs, Pt.cells, Pt.slots] at X275 l275 y275 z275 st275 hQ275
        subst l275 y275 z275
        obtain ⟨r275, rfl, N275q, K275q, E275q, P275⟩ := hQ275
        have N275 := Fr.app N274 N275q
        have hk := Nat.le_trans hk (own_ks K275q)
        have f276 : Exa Z T275.heap b209 "java/lang/String" := (f227.keep K275q)
        have f277 : Arv Z T275.heap b212 k212 .char (2 : Int32) [(.int c0), (.int c1)] (.int (0 : Int32)) := (f228.keep K275q nin0)
        have f278 : Fld Z T275.heap b209 "java/lang/String" "coder" "B" (.int (0 : Int32)) := (C226q.keep K275q nin0)
        have f279 : Fld Z T275.heap b209 "java/lang/String" "value" "[B" (.ref t226) := (V226q.keep K275q nin0)
        have f280 : Arv Z T275.heap t226 kb226 .byte (2 : Int32) [(.int (c0).toInt8.toInt32), (.int (c1).toInt8.toInt32)] (.int (0 : Int32)) := (A226q.keep K275q nin0)
        have O275 := O226.keep K275q all0
        refine own_goW st275 ?_
        show own_GoesW _ _ _ _ _ _ _ (T275.setTop (mkF m 166 #[.val (.int x0), .val (.int x1), .val (.int x2), .val (.int x3), .val (.int c0), .val (.int c1), .val (.int c2), .val (.int sel), .val (.ref b209), .val .null, .val (.int (2 : Int32))] [(.ref r275)]))
        refine own_goW (fun _ ww => XS.astore X275.here hx rfl (hb hby at_166) rfl rfl (l' := #[.val (.int x0), .val (.int x1), .val (.int x2), .val (.int x3), .val (.int c0), .val (.int c1), .val (.int c2), .val (.int sel), .val (.ref b209), .val .null, .val (.ref r275)]) rfl ww) ?_
        show own_GoesW _ _ _ _ _ _ _ (T275.setTop (mkF m 168 #[.val (.int x0), .val (.int x1), .val (.int x2), .val (.int x3), .val (.int c0), .val (.int c1), .val (.int c2), .val (.int sel), .val (.ref b209), .val .null, .val (.ref r275)] []))
        refine own_goW (fun _ ww => XS.aload X275.here hx rfl (hb hby at_168) rfl rfl ww) ?_
        show own_GoesW _ _ _ _ _ _ _ (T275.setTop (mkF m 170 #[.val (.int x0), .val (.int x1), .val (.int x2), .val (.int x3), .val (.int c0), .val (.int c1), .val (.int c2), .val (.int sel), .val (.ref b209), .val .null, .val (.ref r275)] [(.ref r275)]))
        refine own_goW (fun _ ww => XS.ifnullNo X275.here hx rfl (hb hby at_170) rfl ww) ?_
        show own_GoesW _ _ _ _ _ _ _ (T275.setTop (mkF m 173 #[.val (.int x0), .val (.int x1), .val (.int x2), .val (.int x3), .val (.int c0), .val (.int c1), .val (.int c2), .val (.int sel), .val (.ref b209), .val .null, .val (.ref r275)] []))
        refine own_goW (fun _ ww => XS.aload X275.here hx rfl (hb hby at_173) rfl rfl ww) ?_
        show own_GoesW _ _ _ _ _ _ _ (T275.setTop (mkF m 175 #[.val (.int x0), .val (.int x1), .val (.int x2), .val (.int x3), .val (.int c0), .val (.int c1), .val (.int c2), .val (.int sel), .val (.ref b209), .val .null, .val (.ref r275)] [(.ref r275)]))
        refine own_goW (fun _ ww => XS.aconstNull X275.here hx rfl (hb hby at_175) ww) ?_
        show own_GoesW _ _ _ _ _ _ _ (T275.setTop (mkF m 176 #[.val (.int x0), .val (.int x1), .val (.int x2), .val (.int x3), .val (.int c0), .val (.int c1), .val (.int c2), .val (.int sel), .val (.ref b209), .val .null, .val (.ref r275)] [.null, (.ref r275)]))
        obtain ⟨cq281, kq281, q281a, q281b, q281c⟩ := isOf hZ rfl E275q
        obtain ⟨_, _, ⟨T281, L281, k281, n281⟩, -, X281, ⟨Lc281, hQ281, l281, y281, z281⟩, st281⟩ := X275.virtualBack hx (y := (⟨"java/util/Optional", "orElse", "(Ljava/lang/Object;)Ljava/lang/Object;"⟩ : MethodName)) (z := (⟨"java/util/Optional", "orElse", "(Ljava/lang/Object;)Ljava/lang/Object;"⟩ : MethodName)) hown (mvT hZ (hw _ (List.mem_of_getElem? (i := 72) rfl))) (mvT hZ (hw _ (List.mem_of_getElem? (i := 73) rfl))) (notFace_of_selects (args := #[]) (mvT hZ (hw _ (List.mem_of_getElem? (i := 75) rfl)))) (mvT hZ (hw _ (List.mem_of_getElem? (i := 75) rfl))) (mvT hZ (hw _ (List.mem_of_getElem? (i := 74) rfl))) (by decide) (backOf (W := 0) (rm_orn l Z a0 hw [] r275 T275.heap n0 O275 P275) hZ (hw _ (List.mem_of_getElem? (i := 76) rfl)) (hw _ (List.mem_of_getElem? (i := 69) rfl)) (by decide) (by decide)) q281a q281c (g := (mkF m 176 #[.val (.int x0), .val (.int x1), .val (.int x2), .val (.int x3), .val (.int c0), .val (.int c1), .val (.int c2), .val (.int sel), .val (.ref b209), .val .null, .val (.ref r275)] [.null, (.ref r275)])) rfl (by rw [hml]; rfl) (Steps.refl _) (argsL := [.null]) (rest := []) (lenOf pd_1 rfl) rfl (by show 2 * 0 + _ ≤ _; exact Nat.le_of_eq rfl) (hb hby at_176) (fun _ _ => ⟨rfl, rfl, (by decide : 5 + 0 ≤ _), (by decide : 15 + 0 ≤ _)⟩)
        dsimp only [Pt.U, Pt.locs, Pt.cells, Pt.slots] at X281 l281 y281 z281 st281 hQ281
        subst l281 y281 z281
        obtain ⟨rfl, N281q, e281⟩ := hQ281
        have N281 := Fr.app N275 N281q
        refine own_goW (fun _ ww => Steps.trans st281 ww) ?_
        show own_GoesW _ _ _ _ _ _ _ (T281.setTop (mkF m 179 #[.val (.int x0), .val (.int x1), .val (.int x2), .val (.int x3), .val (.int c0), .val (.int c1), .val (.int c2), .val (.int sel), .val (.ref b209), .val .null, .val (.ref r275)] [.null]))
        refine own_goW (fun _ ww => XS.aload X281.here hx rfl (hb hby at_179) rfl rfl ww) ?_
        show own_GoesW _ _ _ _ _ _ _ (T281.setTop (mkF m 181 #[.val (.int x0), .val (.int x1), .val (.int x2), .val (.int x3), .val (.int c0), .val (.int c1), .val (.int c2), .val (.int sel), .val (.ref b209), .val .null, .val (.ref r275)] [.null, .null]))
        refine own_goW (fun _ ww => XT.acmpNo X281.here hx rfl (hb hby at_181) rfl rfl rfl (XT.aa_ne_f rfl) ww) ?_
        show own_GoesW _ _ _ _ _ _ _ (T281.setTop (mkF m 184 #[.val (.int x0), .val (.int x1), .val (.int x2), .val (.int x3), .val (.int c0), .val (.int c1), .val (.int c2), .val (.int sel), .val (.ref b209), .val .null, .val (.ref r275)] []))
        refine own_goW (fun _ ww => XS.iconst X281.here hx rfl (hb hby at_184) ww) ?_
        show own_GoesW _ _ _ _ _ _ _ (T281.setTop (mkF m 185 #[.val (.int x0), .val (.int x1), .val (.int x2), .val (.int x3), .val (.int c0), .val (.int c1), .val (.int c2), .val (.int sel), .val (.ref b209), .val .null, .val (.ref r275)] [(.int (1 : Int32))]))
        refine own_goW (fun _ ww => XS.goto X281.here hx rfl (pc0 := 185) (pc' := 189) rfl (hb hby at_185) (by decide) (by decide) ww) ?_
        show own_GoesW _ _ _ _ _ _ _ (T281.setTop (mkF m 189 #[.val (.int x0), .val (.int x1), .val (.int x2), .val (.int x3), .val (.int c0), .val (.int c1), .val (.int c2), .val (.int sel), .val (.ref b209), .val .null, .val (.ref r275)] [(.int (1 : Int32))]))
        exact own_outW X281 hS hk hlk (v := some (.int (1 : Int32))) (fun h => by rw [hret] at h; cases h) (fun fs hr => retOut X281 hx (t := .boolean) hret (by decide) (Or.inl ⟨rfl, by simp, _, rfl⟩) (hb hby at_189) hr) e281 ⟨rfl, N281⟩ (by decide) (by decide)
    ·
      rw [hk3]
      show own_GoesW _ _ _ _ _ _ _ (T146.setTop (mkF m 44 #[.val (.int x0), .val (.int x1), .val (.int x2), .val (.int x3), .val (.int c0), .val (.int c1), .val (.int c2), .val (.int sel), .unset, .unset, .unset] [(.int (3 : Int32))]))
      refine own_goW (fun _ ww => XS.istore X146.here hx rfl (hb hby at_44) rfl (l' := #[.val (.int x0), .val (.int x1), .val (.int x2), .val (.int x3), .val (.int c0), .val (.int c1), .val (.int c2), .val (.int sel), .unset, .unset, .val (.int (3 : Int32))]) rfl ww) ?_
      show own_GoesW _ _ _ _ _ _ _ (T146.setTop (mkF m 46 #[.val (.int x0), .val (.int x1), .val (.int x2), .val (.int x3), .val (.int c0), .val (.int c1), .val (.int c2), .val (.int sel), .unset, .unset, .val (.int (3 : Int32))] []))
      refine own_goW (fun _ ww => XS.iload X146.here hx rfl (hb hby at_46) rfl  ww) ?_
      show own_GoesW _ _ _ _ _ _ _ (T146.setTop (mkF m 48 #[.val (.int x0), .val (.int x1), .val (.int x2), .val (.int x3), .val (.int c0), .val (.int c1), .val (.int c2), .val (.int sel), .unset, .unset, .val (.int (3 : Int32))] [(.int (3 : Int32))]))
      refine own_goW (fun _ ww => XS.ifYes X146.here hx rfl (pc0 := 48) (pc' := 66) rfl (hb hby at_48) rfl (own_if .ne (feq (by decide : ¬ ((3 : Int32) = (0 : Int32)))).2) (by decide) (by decide) ww) ?_
      show own_GoesW _ _ _ _ _ _ _ (T146.setTop (mkF m 66 #[.val (.int x0), .val (.int x1), .val (.int x2), .val (.int x3), .val (.int c0), .val (.int c1), .val (.int c2), .val (.int sel), .unset, .unset, .val (.int (3 : Int32))] []))
      refine own_goW (fun _ ww => XS.iload X146.here hx rfl (hb hby at_66) rfl  ww) ?_
      show own_GoesW _ _ _ _ _ _ _ (T146.setTop (mkF m 68 #[.val (.int x0), .val (.int x1), .val (.int x2), .val (.int x3), .val (.int c0), .val (.int c1), .val (.int c2), .val (.int sel), .unset, .unset, .val (.int (3 : Int32))] [(.int (3 : Int32))]))
      refine own_goW (fun _ ww => XS.iconst X146.here hx rfl (hb hby at_68) ww) ?_
      show own_GoesW _ _ _ _ _ _ _ (T146.setTop (mkF m 69 #[.val (.int x0), .val (.int x1), .val (.int x2), .val (.int x3), .val (.int c0), .val (.int c1), .val (.int c2), .val (.int sel), .unset, .unset, .val (.int (3 : Int32))] [(.int (1 : Int32)), (.int (3 : Int32))]))
      refine own_goW (fun _ ww => XS.icmpYes X146.here hx rfl (pc0 := 69) (pc' := 92) rfl (hb hby at_69) rfl (feq (by decide : ¬ ((3 : Int32) = (1 : Int32)))).2 (by decide) (by decide) ww) ?_
      show own_GoesW _ _ _ _ _ _ _ (T146.setTop (mkF m 92 #[.val (.int x0), .val (.int x1), .val (.int x2), .val (.int x3), .val (.int c0), .val (.int c1), .val (.int c2), .val (.int sel), .unset, .unset, .val (.int (3 : Int32))] []))
      refine own_goW (fun _ ww => XS.iload X146.here hx rfl (hb hby at_92) rfl  ww) ?_
      show own_GoesW _ _ _ _ _ _ _ (T146.setTop (mkF m 94 #[.val (.int x0), .val (.int x1), .val (.int x2), .val (.int x3), .val (.int c0), .val (.int c1), .val (.int c2), .val (.int sel), .unset, .unset, .val (.int (3 : Int32))] [(.int (3 : Int32))]))
      refine own_goW (fun _ ww => XS.iconst X146.here hx rfl (hb hby at_94) ww) ?_
      show own_GoesW _ _ _ _ _ _ _ (T146.setTop (mkF m 95 #[.val (.int x0), .val (.int x1), .val (.int x2), .val (.int x3), .val (.int c0), .val (.int c1), .val (.int c2), .val (.int sel), .unset, .unset, .val (.int (3 : Int32))] [(.int (2 : Int32)), (.int (3 : Int32))]))
      refine own_goW (fun _ ww => XS.icmpYes X146.here hx rfl (pc0 := 95) (pc' := 123) rfl (hb hby at_95) rfl (feq (by decide : ¬ ((3 : Int32) = (2 : Int32)))).2 (by decide) (by decide) ww) ?_
      show own_GoesW _ _ _ _ _ _ _ (T146.setTop (mkF m 123 #[.val (.int x0), .val (.int x1), .val (.int x2), .val (.int x3), .val (.int c0), .val (.int c1), .val (.int c2), .val (.int sel), .unset, .unset, .val (.int (3 : Int32))] []))
      obtain ⟨T282, h282, X282, e282, E282, A282, D282, -, st282⟩ := newO X146 hx hZ hown (hw _ (List.mem_of_getElem? (i := 4) rfl)) (hw _ (List.mem_of_getElem? (i := 5) rfl)) (hw _ (List.mem_of_getElem? (i := 6) rfl)) e146 (g := (mkF m 123 #[.val (.int x0), .val (.int x1), .val (.int x2), .val (.int x3), .val (.int c0), .val (.int c1), .val (.int c2), .val (.int sel), .unset, .unset, .val (.int (3 : Int32))] [])) rfl (hb hby at_123) (by decide) (by decide)
      obtain ⟨b282, g282⟩ : ∃ z, z = h0.size := ⟨_, rfl⟩
      rw [← g282] at A282 D282 st282
      have ne_k0_b282 : k0 ≠ b282 := Nat.ne_of_lt (Nat.lt_of_lt_of_le (F0.ext O0.2).lt (Nat.le_of_eq g282.symm))
      have ne_y0_b282 : y0 ≠ b282 := Nat.ne_of_lt (Nat.lt_of_lt_of_le (Ey0.ext O0.2).lt (Nat.le_of_eq g282.symm))
      have ne_k1_b282 : k1 ≠ b282 := Nat.ne_of_lt (Nat.lt_of_lt_of_le (F1.ext O0.2).lt (Nat.le_of_eq g282.symm))
      have ne_y1_b282 : y1 ≠ b282 := Nat.ne_of_lt (Nat.lt_of_lt_of_le (Ey1.ext O0.2).lt (Nat.le_of_eq g282.symm))
      have ne_k2_b282 : k2 ≠ b282 := Nat.ne_of_lt (Nat.lt_of_lt_of_le (F2.ext O0.2).lt (Nat.le_of_eq g282.symm))
      have ne_y2_b282 : y2 ≠ b282 := Nat.ne_of_lt (Nat.lt_of_lt_of_le (Ey2.ext O0.2).lt (Nat.le_of_eq g282.symm))
      have ne_k3_b282 : k3 ≠ b282 := Nat.ne_of_lt (Nat.lt_of_lt_of_le (F3.ext O0.2).lt (Nat.le_of_eq g282.symm))
      have ne_y3_b282 : y3 ≠ b282 := Nat.ne_of_lt (Nat.lt_of_lt_of_le (Ey3.ext O0.2).lt (Nat.le_of_eq g282.symm))
      have ne_k4_b282 : k4 ≠ b282 := Nat.ne_of_lt (Nat.lt_of_lt_of_le (F4.ext O0.2).lt (Nat.le_of_eq g282.symm))
      have ne_y4_b282 : y4 ≠ b282 := Nat.ne_of_lt (Nat.lt_of_lt_of_le (Ey4.ext O0.2).lt (Nat.le_of_eq g282.symm))
      have ne_k5_b282 : k5 ≠ b282 := Nat.ne_of_lt (Nat.lt_of_lt_of_le (F5.ext O0.2).lt (Nat.le_of_eq g282.symm))
      have ne_y5_b282 : y5 ≠ b282 := Nat.ne_of_lt (Nat.lt_of_lt_of_le (Ey5.ext O0.2).lt (Nat.le_of_eq g282.symm))
      have ne_aE_b282 : aE ≠ b282 := Nat.ne_of_lt (Nat.lt_of_lt_of_le (EE.ext O0.2).lt (Nat.le_of_eq g282.symm))
      have g_b282 : n0 ≤ b282 := Nat.le_trans (O0.1 ▸ O0.2.1) (Nat.le_of_eq g282.symm)
      have O282 := O0.ext E282
      have hk := Nat.le_trans hk E282.1
      have f283 : Fld Z h282 b282 "java/lang/String" "value" "[B" .null := D282 (Or.inr (hw _ (List.mem_of_getElem? (i := 20) rfl))) (ty := (.array .byte)) (by decide)
      have f284 : Fld Z h282 b282 "java/lang/String" "coder" "B" (.int (0 : Int32)) := D282 (Or.inr (hw _ (List.mem_of_getElem? (i := 21) rfl))) (ty := .byte) (by decide)
      refine own_goW st282 ?_
      show own_GoesW _ _ _ _ _ _ _ (T282.setTop (mkF m 126 #[.val (.int x0), .val (.int x1), .val (.int x2), .val (.int x3), .val (.int c0), .val (.int c1), .val (.int c2), .val (.int sel), .unset, .unset, .val (.int (3 : Int32))] [(.ref b282)]))
      refine own_goW (fun _ ww => XS.dup X282.here hx rfl (hb hby at_126) rfl rfl ww) ?_
      show own_GoesW _ _ _ _ _ _ _ (T282.setTop (mkF m 127 #[.val (.int x0), .val (.int x1), .val (.int x2), .val (.int x3), .val (.int c0), .val (.int c1), .val (.int c2), .val (.int sel), .unset, .unset, .val (.int (3 : Int32))] [(.ref b282), (.ref b282)]))
      refine own_goW (fun _ ww => XS.iconst X282.here hx rfl (hb hby at_127) ww) ?_
      show own_GoesW _ _ _ _ _ _ _ (T282.setTop (mkF m 128 #[.val (.int x0), .val (.int x1), .val (.int x2), .val (.int x3), .val (.int c0), .val (.int c1), .val (.int c2), .val (.int sel), .unset, .unset, .val (.int (3 : Int32))] [(.int (3 : Int32)), (.ref b282), (.ref b282)]))
      obtain ⟨T285, h285, k285, X285, e285, E285, A285, st285⟩ := newP X282 hx hZ (hw _ (List.mem_of_getElem? (i := 7) rfl)) e282 (g := (mkF m 128 #[.val (.int x0), .val (.int x1), .val (.int x2), .val (.int x3), .val (.int c0), .val (.int c1), .val (.int c2), .val (.int sel), .unset, .unset, .val (.int (3 : Int32))] [(.int (3 : Int32)), (.ref b282), (.ref b282)])) rfl (hb hby at_128) rfl (by decide) (cap := 3) (by decide) (by decide) (by decide) (by decide)
      obtain ⟨b285, g285⟩ : ∃ z, z = h282.size := ⟨_, rfl⟩
      rw [← g285] at A285 st285
      have ne_b282_b285 : b282 ≠ b285 := Nat.ne_of_lt (Nat.lt_of_lt_of_le f283.lt (Nat.le_of_eq g285.symm))
      have ne_k0_b285 : k0 ≠ b285 := Nat.ne_of_lt (Nat.lt_of_lt_of_le (F0.ext O282.2).lt (Nat.le_of_eq g285.symm))
      have ne_y0_b285 : y0 ≠ b285 := Nat.ne_of_lt (Nat.lt_of_lt_of_le (Ey0.ext O282.2).lt (Nat.le_of_eq g285.symm))
      have ne_k1_b285 : k1 ≠ b285 := Nat.ne_of_lt (Nat.lt_of_lt_of_le (F1.ext O282.2).lt (Nat.le_of_eq g285.symm))
      have ne_y1_b285 : y1 ≠ b285 := Nat.ne_of_lt (Nat.lt_of_lt_of_le (Ey1.ext O282.2).lt (Nat.le_of_eq g285.symm))
      have ne_k2_b285 : k2 ≠ b285 := Nat.ne_of_lt (Nat.lt_of_lt_of_le (F2.ext O282.2).lt (Nat.le_of_eq g285.symm))
      have ne_y2_b285 : y2 ≠ b285 := Nat.ne_of_lt (Nat.lt_of_lt_of_le (Ey2.ext O282.2).lt (Nat.le_of_eq g285.symm))
      have ne_k3_b285 : k3 ≠ b285 := Nat.ne_of_lt (Nat.lt_of_lt_of_le (F3.ext O282.2).lt (Nat.le_of_eq g285.symm))
      have ne_y3_b285 : y3 ≠ b285 := Nat.ne_of_lt (Nat.lt_of_lt_of_le (Ey3.ext O282.2).lt (Nat.le_of_eq g285.symm))
      have ne_k4_b285 : k4 ≠ b285 := Nat.ne_of_lt (Nat.lt_of_lt_of_le (F4.ext O282.2).lt (Nat.le_of_eq g285.symm))
      have ne_y4_b285 : y4 ≠ b285 := Nat.ne_of_lt (Nat.lt_of_lt_of_le (Ey4.ext O282.2).lt (Nat.le_of_eq g285.symm))
      have ne_k5_b285 : k5 ≠ b285 := Nat.ne_of_lt (Nat.lt_of_lt_of_le (F5.ext O282.2).lt (Nat.le_of_eq g285.symm))
      have ne_y5_b285 : y5 ≠ b285 := Nat.ne_of_lt (Nat.lt_of_lt_of_le (Ey5.ext O282.2).lt (Nat.le_of_eq g285.symm))
      have ne_aE_b285 : aE ≠ b285 := Nat.ne_of_lt (Nat.lt_of_lt_of_le (EE.ext O282.2).lt (Nat.le_of_eq g285.symm))
      have g_b285 : n0 ≤ b285 := Nat.le_trans (O282.1 ▸ O282.2.1) (Nat.le_of_eq g285.symm)
      have f286 : Fld Z h285 b282 "java/lang/String" "value" "[B" .null := (f283.ext E285)
      have f287 : Fld Z h285 b282 "java/lang/String" "coder" "B" (.int (0 : Int32)) := (f284.ext E285)
      have f288 : Exa Z h285 b282 "java/lang/String" := (A282.ext E285)
      have O285 := O282.ext E285
      have hk := Nat.le_trans hk E285.1
      have V285 : Arv Z h285 b285 k285 .char (3 : Int32) [(.int (0 : Int32)), (.int (0 : Int32)), (.int (0 : Int32))] (.int (0 : Int32)) := (Arv.new A285 (by decide)).pad (pad_rep [] (.int (0 : Int32)) 3)
      refine own_goW st285 ?_
      show own_GoesW _ _ _ _ _ _ _ (T285.setTop (mkF m 130 #[.val (.int x0), .val (.int x1), .val (.int x2), .val (.int x3), .val (.int c0), .val (.int c1), .val (.int c2), .val (.int sel), .unset, .unset, .val (.int (3 : Int32))] [(.ref b285), (.ref b282), (.ref b282)]))
      refine own_goW (fun _ ww => XS.dup X285.here hx rfl (hb hby at_130) rfl rfl ww) ?_
      show own_GoesW _ _ _ _ _ _ _ (T285.setTop (mkF m 131 #[.val (.int x0), .val (.int x1), .val (.int x2), .val (.int x3), .val (.int c0), .val (.int c1), .val (.int c2), .val (.int sel), .unset, .unset, .val (.int (3 : Int32))] [(.ref b285), (.ref b285), (.ref b282), (.ref b282)]))
      refine own_goW (fun _ ww => XS.iconst X285.here hx rfl (hb hby at_131) ww) ?_
      show own_GoesW _ _ _ _ _ _ _ (T285.setTop (mkF m 132 #[.val (.int x0), .val (.int x1), .val (.int x2), .val (.int x3), .val (.int c0), .val (.int c1), .val (.int c2), .val (.int sel), .unset, .unset, .val (.int (3 : Int32))] [(.int (0 : Int32)), (.ref b285), (.ref b285), (.ref b282), (.ref b282)]))
      refine own_goW (fun _ ww => XS.iload X285.here hx rfl (hb hby at_132) rfl  ww) ?_
      show own_GoesW _ _ _ _ _ _ _ (T285.setTop (mkF m 134 #[.val (.int x0), .val (.int x1), .val (.int x2), .val (.int x3), .val (.int c0), .val (.int c1), .val (.int c2), .val (.int sel), .unset, .unset, .val (.int (3 : Int32))] [(.int c0), (.int (0 : Int32)), (.ref b285), (.ref b285), (.ref b282), (.ref b282)]))
      obtain ⟨cl289, Ar289, q289, S289, M289, H289, U289⟩ := id V285
      obtain ⟨T289, h289, X289, e289, W289, st289⟩ := stC X285 hx hZ e285 Ar289 (j := (0 : Int32)) (inb_of S289 ⟨by decide, by decide⟩) (g := (mkF m 134 #[.val (.int x0), .val (.int x1), .val (.int x2), .val (.int x3), .val (.int c0), .val (.int c1), .val (.int c2), .val (.int sel), .unset, .unset, .val (.int (3 : Int32))] [(.int c0), (.int (0 : Int32)), (.ref b285), (.ref b285), (.ref b282), (.ref b282)])) rfl rfl (hb hby at_134)
      have nr289 : nar .char c0 = c0 := (own_narc bc0)
      rw [nr289] at W289
      have ft289 : fits .char (.int c0) = true := by have q := fits_nar_char c0; rw [nr289] at q; exact q
      have f290 : Fld Z h289 b282 "java/lang/String" "value" "[B" .null := (f286.other W289 (Or.inl ne_b282_b285))
      have f291 : Fld Z h289 b282 "java/lang/String" "coder" "B" (.int (0 : Int32)) := (f287.other W289 (Or.inl ne_b282_b285))
      have f292 : Exa Z h289 b282 "java/lang/String" := (f288.wr W289)
      have f293 : Arv Z h289 b285 k285 .char (3 : Int32) [(.int c0), (.int (0 : Int32)), (.int (0 : Int32))] (.int (0 : Int32)) := (Arv.set Ar289 q289 S289 M289 H289 U289 ft289 W289 0 rfl (Nat.le_of_ble_eq_true rfl))
      have hk := Nat.le_trans hk (Keep.of_wr W289).1
      have N289 := Fr.snoc X289 N146 g_b285
      have O289 := O285.wr W289 g_b285
      refine own_goW st289 ?_
      show own_GoesW _ _ _ _ _ _ _ (T289.setTop (mkF m 135 #[.val (.int x0), .val (.int x1), .val (.int x2), .val (.int x3), .val (.int c0), .val (.int c1), .val (.int c2), .val (.int sel), .unset, .unset, .val (.int (3 : Int32))] [(.ref b285), (.ref b282), (.ref b282)]))
      refine own_goW (fun _ ww => XS.dup X289.here hx rfl (hb hby at_135) rfl rfl ww) ?_
      show own_GoesW _ _ _ _ _ _ _ (T289.setTop (mkF m 136 #[.val (.int x0), .val (.int x1), .val (.int x2), .val (.int x3), .val (.int c0), .val (.int c1), .val (.int c2), .val (.int sel), .unset, .unset, .val (.int (3 : Int32))] [(.ref b285), (.ref b285), (.ref b282), (.ref b282)]))
      refine own_goW (fun _ ww => XS.iconst X289.here hx rfl (hb hby at_136) ww) ?_
      show own_GoesW _ _ _ _ _ _ _ (T289.setTop (mkF m 137 #[.val (.int x0), .val (.int x1), .val (.int x2), .val (.int x3), .val (.int c0), .val (.int c1), .val (.int c2), .val (.int sel), .unset, .unset, .val (.int (3 : Int32))] [(.int (1 : Int32)), (.ref b285), (.ref b285), (.ref b282), (.ref b282)]))
      refine own_goW (fun _ ww => XS.iload X289.here hx rfl (hb hby at_137) rfl  ww) ?_
      show own_GoesW _ _ _ _ _ _ _ (T289.setTop (mkF m 139 #[.val (.int x0), .val (.int x1), .val (.int x2), .val (.int x3), .val (.int c0), .val (.int c1), .val (.int c2), .val (.int sel), .unset, .unset, .val (.int (3 : Int32))] [(.int c1), (.int (1 : Int32)), (.ref b285), (.ref b285), (.ref b282), (.ref b282)]))
      obtain ⟨cl294, Ar294, q294, S294, M294, H294, U294⟩ := id f293
      obtain ⟨T294, h294, X294, e294, W294, st294⟩ := stC X289 hx hZ e289 Ar294 (j := (1 : Int32)) (inb_of S294 ⟨by decide, by decide⟩) (g := (mkF m 139 #[.val (.int x0), .val (.int x1), .val (.int x2), .val (.int x3), .val (.int c0), .val (.int c1), .val (.int c2), .val (.int sel), .unset, .unset, .val (.int (3 : Int32))] [(.int c1), (.int (1 : Int32)), (.ref b285), (.ref b285), (.ref b282), (.ref b282)])) rfl rfl (hb hby at_139)
      have nr294 : nar .char c1 = c1 := (own_narc bc1)
      rw [nr294] at W294
      have ft294 : fits .char (.int c1) = true := by have q := fits_nar_char c1; rw [nr294] at q; exact q
      have f295 : Fld Z h294 b282 "java/lang/String" "value" "[B" .null := (f290.other W294 (Or.inl ne_b282_b285))
      have f296 : Fld Z h294 b282 "java/lang/String" "coder" "B" (.int (0 : Int32)) := (f291.other W294 (Or.inl ne_b282_b285))
      have f297 : Exa Z h294 b282 "java/lang/String" := (f292.wr W294)
      have f298 : Arv Z h294 b285 k285 .char (3 : Int32) [(.int c0), (.int c1), (.int (0 : Int32))] (.int (0 : Int32)) := (Arv.set Ar294 q294 S294 M294 H294 U294 ft294 W294 1 rfl (Nat.le_of_ble_eq_true rfl))
      have hk := Nat.le_trans hk (Keep.of_wr W294).1
      have N294 := Fr.snoc X294 N289 g_b285
      have O294 := O289.wr W294 g_b285
      refine own_goW st294 ?_
      show own_GoesW _ _ _ _ _ _ _ (T294.setTop (mkF m 140 #[.val (.int x0), .val (.int x1), .val (.int x2), .val (.int x3), .val (.int c0), .val (.int c1), .val (.int c2), .val (.int sel), .unset, .unset, .val (.int (3 : Int32))] [(.ref b285), (.ref b282), (.ref b282)]))
      refine own_goW (fun _ ww => XS.dup X294.here hx rfl (hb hby at_140) rfl rfl ww) ?_
      show own_GoesW _ _ _ _ _ _ _ (T294.setTop (mkF m 141 #[.val (.int x0), .val (.int x1), .val (.int x2), .val (.int x3), .val (.int c0), .val (.int c1), .val (.int c2), .val (.int sel), .unset, .unset, .val (.int (3 : Int32))] [(.ref b285), (.ref b285), (.ref b282), (.ref b282)]))
      refine own_goW (fun _ ww => XS.iconst X294.here hx rfl (hb hby at_141) ww) ?_
      show own_GoesW _ _ _ _ _ _ _ (T294.setTop (mkF m 142 #[.val (.int x0), .val (.int x1), .val (.int x2), .val (.int x3), .val (.int c0), .val (.int c1), .val (.int c2), .val (.int sel), .unset, .unset, .val (.int (3 : Int32))] [(.int (2 : Int32)), (.ref b285), (.ref b285), (.ref b282), (.ref b282)]))
      refine own_goW (fun _ ww => XS.iload X294.here hx rfl (hb hby at_142) rfl  ww) ?_
      show own_GoesW _ _ _ _ _ _ _ (T294.setTop (mkF m 144 #[.val (.int x0), .val (.int x1), .val (.int x2), .val (.int x3), .val (.int c0), .val (.int c1), .val (.int c2), .val (.int sel), .unset, .unset, .val (.int (3 : Int32))] [(.int c2), (.int (2 : Int32)), (.ref b285), (.ref b285), (.ref b282), (.ref b282)]))
      obtain ⟨cl299, Ar299, q299, S299, M299, H299, U299⟩ := id f298
      obtain ⟨T299, h299, X299, e299, W299, st299⟩ := stC X294 hx hZ e294 Ar299 (j := (2 : Int32)) (inb_of S299 ⟨by decide, by decide⟩) (g := (mkF m 144 #[.val (.int x0), .val (.int x1), .val (.int x2), .val (.int x3), .val (.int c0), .val (.int c1), .val (.int c2), .val (.int sel), .unset, .unset, .val (.int (3 : Int32))] [(.int c2), (.int (2 : Int32)), (.ref b285), (.ref b285), (.ref b282), (.ref b282)])) rfl rfl (hb hby at_144)
      have nr299 : nar .char c2 = c2 := (own_narc bc2)
      rw [nr299] at W299
      have ft299 : fits .char (.int c2) = true := by have q := fits_nar_char c2; rw [nr299] at q; exact q
      have f300 : Fld Z h299 b282 "java/lang/String" "value" "[B" .null := (f295.other W299 (Or.inl ne_b282_b285))
      have f301 : Fld Z h299 b282 "java/lang/String" "coder" "B" (.int (0 : Int32)) := (f296.other W299 (Or.inl ne_b282_b285))
      have f302 : Exa Z h299 b282 "java/lang/String" := (f297.wr W299)
      have f303 : Arv Z h299 b285 k285 .char (3 : Int32) [(.int c0), (.int c1), (.int c2)] (.int (0 : Int32)) := (Arv.set Ar299 q299 S299 M299 H299 U299 ft299 W299 2 rfl (Nat.le_of_ble_eq_true rfl))
      have hk := Nat.le_trans hk (Keep.of_wr W299).1
      have N299 := Fr.snoc X299 N294 g_b285
      have O299 := O294.wr W299 g_b285
      refine own_goW st299 ?_
      show own_GoesW _ _ _ _ _ _ _ (T299.setTop (mkF m 145 #[.val (.int x0), .val (.int x1), .val (.int x2), .val (.int x3), .val (.int c0), .val (.int c1), .val (.int c2), .val (.int sel), .unset, .unset, .val (.int (3 : Int32))] [(.ref b285), (.ref b282), (.ref b282)]))
      have hp_b282 : ∀ c ∈ ([c0, c1, c2] : List Int32), ¬ c < 0 ∧ ¬ (255 : Int32) < c := (own_allc bc0 (own_allc bc1 (own_allc bc2 (fun _ q => nomatch q))))
      obtain ⟨_, _, ⟨T304, L304, k304, n304⟩, -, X304, ⟨Lc304, hQ304, l304, y304, z304⟩, st304⟩ := X299.specialBack hx (y := (⟨"java/lang/String", "<init>", "([C)V"⟩ : MethodName)) rfl hown (mvT hZ (hw _ (List.mem_of_getElem? (i := 8) rfl))) (mvT hZ (hw _ (List.mem_of_getElem? (i := 9) rfl))) (mvT hZ (hw _ (List.mem_of_getElem? (i := 10) rfl))) (by decide) (StrChars.Road.backV (W := 1) hZ (own_words hw) (kI := 4) (hw _ (List.mem_of_getElem? (i := 5) rfl)) (cs := ([c0, c1, c2] : List Int32)) (bs := (([c0, c1, c2] : List Int32)).map (fun c => c.toInt8.toInt32)) (n := 3) g_b282 (own_ns O299) f302 f300 f301 f303 (SC.ext O299.2) hzc rfl rfl (by decide) (by decide) hp_b282 rfl (by decide) (by decide)) (g := (mkF m 145 #[.val (.int x0), .val (.int x1), .val (.int x2), .val (.int x3), .val (.int c0), .val (.int c1), .val (.int c2), .val (.int sel), .unset, .unset, .val (.int (3 : Int32))] [(.ref b285), (.ref b282), (.ref b282)])) rfl (by rw [hml]; rfl) (Steps.refl _) (a := b282) (argsL := [(.ref b285)]) (rest := [(.ref b282)]) (lenOf pd_9 rfl) rfl (by show 2 * 0 + _ ≤ _; exact Nat.le_of_eq rfl) (hb hby at_145) (fun _ _ => ⟨rfl, e299, (by decide : 2 + 1 ≤ _), (by decide : 7 + 3 ≤ _)⟩)
      dsimp only [Pt.U, Pt.locs, Pt.cells, Pt.slots] at X304 l304 y304 z304 st304 hQ304
      subst l304 y304 z304
      obtain ⟨rfl, N304q, K304q, E304q, C304q, t304, kb304, -, G304q, -, V304q, A304q⟩ := hQ304
      have N304 := Fr.app N299 N304q
      have hk := Nat.le_trans hk (own_ks K304q)
      have ne_b282_t304 : b282 ≠ t304 := Nat.ne_of_lt (Nat.lt_of_lt_of_le f300.lt G304q)
      have ne_b285_t304 : b285 ≠ t304 := Nat.ne_of_lt (Nat.lt_of_lt_of_le f303.lt G304q)
      have ne_k0_t304 : k0 ≠ t304 := Nat.ne_of_lt (Nat.lt_of_lt_of_le (F0.ext O299.2).lt G304q)
      have ne_y0_t304 : y0 ≠ t304 := Nat.ne_of_lt (Nat.lt_of_lt_of_le (Ey0.ext O299.2).lt G304q)
      have ne_k1_t304 : k1 ≠ t304 := Nat.ne_of_lt (Nat.lt_of_lt_of_le (F1.ext O299.2).lt G304q)
      have ne_y1_t304 : y1 ≠ t304 := Nat.ne_of_lt (Nat.lt_of_lt_of_le (Ey1.ext O299.2).lt G304q)
      have ne_k2_t304 : k2 ≠ t304 := Nat.ne_of_lt (Nat.lt_of_lt_of_le (F2.ext O299.2).lt G304q)
      have ne_y2_t304 : y2 ≠ t304 := Nat.ne_of_lt (Nat.lt_of_lt_of_le (Ey2.ext O299.2).lt G304q)
      have ne_k3_t304 : k3 ≠ t304 := Nat.ne_of_lt (Nat.lt_of_lt_of_le (F3.ext O299.2).lt G304q)
      have ne_y3_t304 : y3 ≠ t304 := Nat.ne_of_lt (Nat.lt_of_lt_of_le (Ey3.ext O299.2).lt G304q)
      have ne_k4_t304 : k4 ≠ t304 := Nat.ne_of_lt (Nat.lt_of_lt_of_le (F4.ext O299.2).lt G304q)
      have ne_y4_t304 : y4 ≠ t304 := Nat.ne_of_lt (Nat.lt_of_lt_of_le (Ey4.ext O299.2).lt G304q)
      have ne_k5_t304 : k5 ≠ t304 := Nat.ne_of_lt (Nat.lt_of_lt_of_le (F5.ext O299.2).lt G304q)
      have ne_y5_t304 : y5 ≠ t304 := Nat.ne_of_lt (Nat.lt_of_lt_of_le (Ey5.ext O299.2).lt G304q)
      have ne_aE_t304 : aE ≠ t304 := Nat.ne_of_lt (Nat.lt_of_lt_of_le (EE.ext O299.2).lt G304q)
      have g_t304 : n0 ≤ t304 := Nat.le_trans (O299.1 ▸ O299.2.1) G304q
      have f305 : Exa Z T304.heap b282 "java/lang/String" := (f302.keep K304q)
      have f306 : Arv Z T304.heap b285 k285 .char (3 : Int32) [(.int c0), (.int c1), (.int c2)] (.int (0 : Int32)) := (f303.keep K304q (ninS (Ne.symm ne_b282_b285) nin0))
      have O304 := O299.keep K304q (allS g_b282 all0)
      refine own_goW (fun _ ww => Steps.trans st304 ww) ?_
      show own_GoesW _ _ _ _ _ _ _ (T304.setTop (mkF m 148 #[.val (.int x0), .val (.int x1), .val (.int x2), .val (.int x3), .val (.int c0), .val (.int c1), .val (.int c2), .val (.int sel), .unset, .unset, .val (.int (3 : Int32))] [(.ref b282)]))
      refine own_goW (fun _ ww => XS.astore X304.here hx rfl (hb hby at_148) rfl rfl (l' := #[.val (.int x0), .val (.int x1), .val (.int x2), .val (.int x3), .val (.int c0), .val (.int c1), .val (.int c2), .val (.int sel), .val (.ref b282), .unset, .val (.int (3 : Int32))]) rfl ww) ?_
      show own_GoesW _ _ _ _ _ _ _ (T304.setTop (mkF m 150 #[.val (.int x0), .val (.int x1), .val (.int x2), .val (.int x3), .val (.int c0), .val (.int c1), .val (.int c2), .val (.int sel), .val (.ref b282), .unset, .val (.int (3 : Int32))] []))
      refine own_goW (fun _ ww => XS.iload X304.here hx rfl (hb hby at_150) rfl  ww) ?_
      show own_GoesW _ _ _ _ _ _ _ (T304.setTop (mkF m 152 #[.val (.int x0), .val (.int x1), .val (.int x2), .val (.int x3), .val (.int c0), .val (.int c1), .val (.int c2), .val (.int sel), .val (.ref b282), .unset, .val (.int (3 : Int32))] [(.int (3 : Int32))]))
      refine own_goW (fun _ ww => XS.iload X304.here hx rfl (hb hby at_152) rfl  ww) ?_
      show own_GoesW _ _ _ _ _ _ _ (T304.setTop (mkF m 154 #[.val (.int x0), .val (.int x1), .val (.int x2), .val (.int x3), .val (.int c0), .val (.int c1), .val (.int c2), .val (.int sel), .val (.ref b282), .unset, .val (.int (3 : Int32))] [(.int c0), (.int (3 : Int32))]))
      refine own_goW (fun _ ww => XS.iload X304.here hx rfl (hb hby at_154) rfl  ww) ?_
      show own_GoesW _ _ _ _ _ _ _ (T304.setTop (mkF m 156 #[.val (.int x0), .val (.int x1), .val (.int x2), .val (.int x3), .val (.int c0), .val (.int c1), .val (.int c2), .val (.int sel), .val (.ref b282), .unset, .val (.int (3 : Int32))] [(.int c1), (.int c0), (.int (3 : Int32))]))
      show own_GoesW _ _ _ _ _ _ _ (T304.setTop (mkF m 156 #[.val (.int x0), .val (.int x1), .val (.int x2), .val (.int x3), .val (.int c0), .val (.int c1), .val (.int c2), .val (.int sel), .val (.ref b282), .unset, .val (.int (3 : Int32))] [(.int c1), (.int c0), (.int (3 : Int32))]))
      obtain ⟨_, _, ⟨T307, L307, k307, n307⟩, -, X307, ⟨Lc307, hQ307, l307, y307, z307⟩, st307⟩ := Jvm.LawKit.callS X304 hx (y := (⟨"com/example/esfahan/esfahan/model/ComparisonOfSymbolPinLaw", "expect", "(ICC)Lcom/example/esfahan/esfahan/model/Comparison;"⟩ : MethodName)) hown (mvT hZ (hw _ (List.mem_of_getElem? (i := 26) rfl))) (mvT hZ (hw _ (List.mem_of_getElem? (i := 27) rfl))) (mvT hZ (hw _ (List.mem_of_getElem? (i := 2) rfl))) (mvT hZ (hw _ (List.mem_of_getElem? (i := 28) rfl))) (by decide) (backOf (W := 0) (rm_exp3 l Z a0 hw [] c0 c1 T304.heap n0 O304 ) hZ (hw _ (List.mem_of_getElem? (i := 28) rfl)) (hw _ (List.mem_of_getElem? (i := 2) rfl)) (by decide) (by decide)) (g := (mkF m 156 #[.val (.int x0), .val (.int x1), .val (.int x2), .val (.int x3), .val (.int c0), .val (.int c1), .val (.int c2), .val (.int sel), .val (.ref b282), .unset, .val (.int (3 : Int32))] [(.int c1), (.int c0), (.int (3 : Int32))])) rfl (by rw [hml]; rfl) (argsL := [(.int (3 : Int32)), (.int c0), (.int c1)]) (rest := []) (lenOf pd_10 rfl) rfl (by show 2 * 0 + _ ≤ _; exact Nat.le_of_eq rfl) (hb hby at_156) (fun _ _ => ⟨rfl, rfl, (by decide : 3 + 0 ≤ _), (by decide : 10 + 0 ≤ _)⟩)
      dsimp only [Pt.U, Pt.locs, Pt.cells, Pt.slots] at X307 l307 y307 z307 st307 hQ307
      subst l307 y307 z307
      obtain ⟨rfl, N307q, e307⟩ := hQ307
      have N307 := Fr.app N304 N307q
      refine own_goW st307 ?_
      show own_GoesW _ _ _ _ _ _ _ (T307.setTop (mkF m 159 #[.val (.int x0), .val (.int x1), .val (.int x2), .val (.int x3), .val (.int c0), .val (.int c1), .val (.int c2), .val (.int sel), .val (.ref b282), .unset, .val (.int (3 : Int32))] [.null]))
      refine own_goW (fun _ ww => XS.astore X307.here hx rfl (hb hby at_159) rfl rfl (l' := #[.val (.int x0), .val (.int x1), .val (.int x2), .val (.int x3), .val (.int c0), .val (.int c1), .val (.int c2), .val (.int sel), .val (.ref b282), .val .null, .val (.int (3 : Int32))]) rfl ww) ?_
      show own_GoesW _ _ _ _ _ _ _ (T307.setTop (mkF m 161 #[.val (.int x0), .val (.int x1), .val (.int x2), .val (.int x3), .val (.int c0), .val (.int c1), .val (.int c2), .val (.int sel), .val (.ref b282), .val .null, .val (.int (3 : Int32))] []))
      refine own_goW (fun _ ww => XS.aload X307.here hx rfl (hb hby at_161) rfl rfl ww) ?_
      show own_GoesW _ _ _ _ _ _ _ (T307.setTop (mkF m 163 #[.val (.int x0), .val (.int x1), .val (.int x2), .val (.int x3), .val (.int c0), .val (.int c1), .val (.int c2), .val (.int sel), .val (.ref b282), .val .null, .val (.int (3 : Int32))] [(.ref b282)]))
      obtain ⟨_, _, ⟨T308, L308, k308, n308⟩, -, X308, ⟨Lc308, hQ308, l308, y308, z308⟩, st308⟩ := Jvm.LawKit.callS X307 hx (y := (⟨"com/example/esfahan/esfahan/model/Comparison", "ofSymbol", "(Ljava/lang/String;)Ljava/util/Optional;"⟩ : MethodName)) hown (mvT hZ (hw _ (List.mem_of_getElem? (i := 29) rfl))) (mvT hZ (hw _ (List.mem_of_getElem? (i := 30) rfl))) (mvT hZ (hw _ (List.mem_of_getElem? (i := 31) rfl))) (mvT hZ (hw _ (List.mem_of_getElem? (i := 32) rfl))) (by decide) (backOf (W := 0) (rm_ofs l Z a0 hw [] va kk k0 k1 k2 k3 k4 k5 aE y0 ty0 kb0 y1 ty1 kb1 y2 ty2 kb2 y3 ty3 kb3 y4 ty4 kb4 y5 ty5 kb5 zc b282 t304 kb304 ([c0, c1, c2] : List Int32) (3 : Int32) [(.int (c0).toInt8.toInt32), (.int (c1).toInt8.toInt32), (.int (c2).toInt8.toInt32)] .null T304.heap n0 O304 SV AV EV SE EE FE F0 Ey0 Cy0 Vy0 Ky0 F1 Ey1 Cy1 Vy1 Ky1 F2 Ey2 Cy2 Vy2 Ky2 F3 Ey3 Cy3 Vy3 Ky3 F4 Ey4 Cy4 Vy4 Ky4 F5 Ey5 Cy5 Vy5 Ky5 SC hzc f305 V304q C304q A304q (StrChars.Road.codOf (cs := ([c0, c1, c2] : List Int32)) (n := 3) rfl (fun c hc => (hp_b282 c hc).2)) (own_up hp_b282) (Nat.le_of_ble_eq_true rfl) (by first | (intros; simp_all; done) | (intro h; simp only [List.cons.injEq] at h; obtain ⟨h1, h2, h3⟩ := h; subst h1 h2; simp_all; done) | (intro h; simp only [List.cons.injEq] at h; obtain ⟨h1, h2⟩ := h; subst h1; simp_all; done)) (by first | (intros; simp_all; done) | (intro h; simp only [List.cons.injEq] at h; obtain ⟨h1, h2, h3⟩ := h; subst h1 h2; simp_all; done) | (intro h; simp only [List.cons.injEq] at h; obtain ⟨h1, h2⟩ := h; subst h1; simp_all; done)) (by first | (intros; simp_all; done) | (intro h; simp only [List.cons.injEq] at h; obtain ⟨h1, h2, h3⟩ := h; subst h1 h2; simp_all; done) | (intro h; simp only [List.cons.injEq] at h; obtain ⟨h1, h2⟩ := h; subst h1; simp_all; done)) (by first | (intros; simp_all; done) | (intro h; simp only [List.cons.injEq] at h; obtain ⟨h1, h2, h3⟩ := h; subst h1 h2; simp_all; done) | (intro h; simp only [List.cons.injEq] at h; obtain ⟨h1, h2⟩ := h; subst h1; simp_all; done)) (by first | (intros; simp_all; done) | (intro h; simp only [List.cons.injEq] at h; obtain ⟨h1, h2, h3⟩ := h; subst h1 h2; simp_all; done) | (intro h; simp only [List.cons.injEq] at h; obtain ⟨h1, h2⟩ := h; subst h1; simp_all; done)) (by first | (intros; simp_all; done) | (intro h; simp only [List.cons.injEq] at h; obtain ⟨h1, h2, h3⟩ := h; subst h1 h2; simp_all; done) | (intro h; simp only [List.cons.injEq] at h; obtain ⟨h1, h2⟩ := h; subst h1; simp_all; done)) (by first | (intros; simp_all; done) | (intro h; simp only [List.cons.injEq] at h; obtain ⟨h1, h2, h3⟩ := h; subst h1 h2; simp_all; done) | (intro h; simp only [List.cons.injEq] at h; obtain ⟨h1, h2⟩ := h; subst h1; simp_all; done))) hZ (hw _ (List.mem_of_getElem? (i := 32) rfl)) (hw _ (List.mem_of_getElem? (i := 31) rfl)) (by decide) (by decide)) (g := (mkF m 163 #[.val (.int x0), .val (.int x1), .val (.int x2), .val (.int x3), .val (.int c0), .val (.int c1), .val (.int c2), .val (.int sel), .val (.ref b282), .val .null, .val (.int (3 : Int32))] [(.ref b282)])) rfl (by rw [hml]; rfl) (argsL := [(.ref b282)]) (rest := []) (lenOf pd_8 rfl) rfl (by show 2 * 0 + _ ≤ _; exact Nat.le_of_eq rfl) (hb hby at_163) (fun _ _ => ⟨rfl, e307, (by decide : 3 + 2 ≤ _), (by decide : 10 + 7 ≤ _)⟩)
      dsimp only [Pt.U, Pt.locs, Pt.cells, Pt.slots] at X308 l308 y308 z308 st308 hQ308
      subst l308 y308 z308
      obtain ⟨r308, rfl, N308q, K308q, E308q, P308⟩ := hQ308
      have N308 := Fr.app N307 N308q
      have hk := Nat.le_trans hk (own_ks K308q)
      have f309 : Exa Z T308.heap b282 "java/lang/String" := (f305.keep K308q)
      have f310 : Arv Z T308.heap b285 k285 .char (3 : Int32) [(.int c0), (.int c1), (.int c2)] (.int (0 : Int32)) := (f306.keep K308q nin0)
      have f311 : Fld Z T308.heap b282 "java/lang/String" "coder" "B" (.int (0 : Int32)) := (C304q.keep K308q nin0)
      have f312 : Fld Z T308.heap b282 "java/lang/String" "value" "[B" (.ref t304) := (V304q.keep K308q nin0)
      have f313 : Arv Z T308.heap t304 kb304 .byte (3 : Int32) [(.int (c0).toInt8.toInt32), (.int (c1).toInt8.toInt32), (.int (c2).toInt8.toInt32)] (.int (0 : Int32)) := (A304q.keep K308q nin0)
      have O308 := O304.keep K308q all0
      refine own_goW st308 ?_
      show own_GoesW _ _ _ _ _ _ _ (T308.setTop (mkF m 166 #[.val (.int x0), .val (.int x1), .val (.int x2), .val (.int x3), .val (.int c0), .val (.int c1), .val (.int c2), .val (.int sel), .val (.ref b282), .val .null, .val (.int (3 : Int32))] [(.ref r308)]))
      refine own_goW (fun _ ww => XS.astore X308.here hx rfl (hb hby at_166) rfl rfl (l' := #[.val (.int x0), .val (.int x1), .val (.int x2), .val (.int x3), .val (.int c0), .val (.int c1), .val (.int c2), .val (.int sel), .val (.ref b282), .val .null, .val (.ref r308)]) rfl ww) ?_
      show own_GoesW _ _ _ _ _ _ _ (T308.setTop (mkF m 168 #[.val (.int x0), .val (.int x1), .val (.int x2), .val (.int x3), .val (.int c0), .val (.int c1), .val (.int c2), .val (.int sel), .val (.ref b282), .val .null, .val (.ref r308)] []))
      refine own_goW (fun _ ww => XS.aload X308.here hx rfl (hb hby at_168) rfl rfl ww) ?_
      show own_GoesW _ _ _ _ _ _ _ (T308.setTop (mkF m 170 #[.val (.int x0), .val (.int x1), .val (.int x2), .val (.int x3), .val (.int c0), .val (.int c1), .val (.int c2), .val (.int sel), .val (.ref b282), .val .null, .val (.ref r308)] [(.ref r308)]))
      refine own_goW (fun _ ww => XS.ifnullNo X308.here hx rfl (hb hby at_170) rfl ww) ?_
      show own_GoesW _ _ _ _ _ _ _ (T308.setTop (mkF m 173 #[.val (.int x0), .val (.int x1), .val (.int x2), .val (.int x3), .val (.int c0), .val (.int c1), .val (.int c2), .val (.int sel), .val (.ref b282), .val .null, .val (.ref r308)] []))
      refine own_goW (fun _ ww => XS.aload X308.here hx rfl (hb hby at_173) rfl rfl ww) ?_
      show own_GoesW _ _ _ _ _ _ _ (T308.setTop (mkF m 175 #[.val (.int x0), .val (.int x1), .val (.int x2), .val (.int x3), .val (.int c0), .val (.int c1), .val (.int c2), .val (.int sel), .val (.ref b282), .val .null, .val (.ref r308)] [(.ref r308)]))
      refine own_goW (fun _ ww => XS.aconstNull X308.here hx rfl (hb hby at_175) ww) ?_
      show own_GoesW _ _ _ _ _ _ _ (T308.setTop (mkF m 176 #[.val (.int x0), .val (.int x1), .val (.int x2), .val (.int x3), .val (.int c0), .val (.int c1), .val (.int c2), .val (.int sel), .val (.ref b282), .val .null, .val (.ref r308)] [.null, (.ref r308)]))
      obtain ⟨cq314, kq314, q314a, q314b, q314c⟩ := isOf hZ rfl E308q
      obtain ⟨_, _, ⟨T314, L314, k314, n314⟩, -, X314, ⟨Lc314, hQ314, l314, y314, z314⟩, st314⟩ := X308.virtualBack hx (y := (⟨"java/util/Optional", "orElse", "(Ljava/lang/Object;)Ljava/lang/Object;"⟩ : MethodName)) (z := (⟨"java/util/Optional", "orElse", "(Ljava/lang/Object;)Ljava/lang/Object;"⟩ : MethodName)) hown (mvT hZ (hw _ (List.mem_of_getElem? (i := 72) rfl))) (mvT hZ (hw _ (List.mem_of_getElem? (i := 73) rfl))) (notFace_of_selects (args := #[]) (mvT hZ (hw _ (List.mem_of_getElem? (i := 75) rfl)))) (mvT hZ (hw _ (List.mem_of_getElem? (i := 75) rfl))) (mvT hZ (hw _ (List.mem_of_getElem? (i := 74) rfl))) (by decide) (backOf (W := 0) (rm_orn l Z a0 hw [] r308 T308.heap n0 O308 P308) hZ (hw _ (List.mem_of_getElem? (i := 76) rfl)) (hw _ (List.mem_of_getElem? (i := 69) rfl)) (by decide) (by decide)) q314a q314c (g := (mkF m 176 #[.val (.int x0), .val (.int x1), .val (.int x2), .val (.int x3), .val (.int c0), .val (.int c1), .val (.int c2), .val (.int sel), .val (.ref b282), .val .null, .val (.ref r308)] [.null, (.ref r308)])) rfl (by rw [hml]; rfl) (Steps.refl _) (argsL := [.null]) (rest := []) (lenOf pd_1 rfl) rfl (by show 2 * 0 + _ ≤ _; exact Nat.le_of_eq rfl) (hb hby at_176) (fun _ _ => ⟨rfl, rfl, (by decide : 5 + 0 ≤ _), (by decide : 17 + 0 ≤ _)⟩)
      dsimp only [Pt.U, Pt.locs, Pt.cells, Pt.slots] at X314 l314 y314 z314 st314 hQ314
      subst l314 y314 z314
      obtain ⟨rfl, N314q, e314⟩ := hQ314
      have N314 := Fr.app N308 N314q
      refine own_goW (fun _ ww => Steps.trans st314 ww) ?_
      show own_GoesW _ _ _ _ _ _ _ (T314.setTop (mkF m 179 #[.val (.int x0), .val (.int x1), .val (.int x2), .val (.int x3), .val (.int c0), .val (.int c1), .val (.int c2), .val (.int sel), .val (.ref b282), .val .null, .val (.ref r308)] [.null]))
      refine own_goW (fun _ ww => XS.aload X314.here hx rfl (hb hby at_179) rfl rfl ww) ?_
      show own_GoesW _ _ _ _ _ _ _ (T314.setTop (mkF m 181 #[.val (.int x0), .val (.int x1), .val (.int x2), .val (.int x3), .val (.int c0), .val (.int c1), .val (.int c2), .val (.int sel), .val (.ref b282), .val .null, .val (.ref r308)] [.null, .null]))
      refine own_goW (fun _ ww => XT.acmpNo X314.here hx rfl (hb hby at_181) rfl rfl rfl (XT.aa_ne_f rfl) ww) ?_
      show own_GoesW _ _ _ _ _ _ _ (T314.setTop (mkF m 184 #[.val (.int x0), .val (.int x1), .val (.int x2), .val (.int x3), .val (.int c0), .val (.int c1), .val (.int c2), .val (.int sel), .val (.ref b282), .val .null, .val (.ref r308)] []))
      refine own_goW (fun _ ww => XS.iconst X314.here hx rfl (hb hby at_184) ww) ?_
      show own_GoesW _ _ _ _ _ _ _ (T314.setTop (mkF m 185 #[.val (.int x0), .val (.int x1), .val (.int x2), .val (.int x3), .val (.int c0), .val (.int c1), .val (.int c2), .val (.int sel), .val (.ref b282), .val .null, .val (.ref r308)] [(.int (1 : Int32))]))
      refine own_goW (fun _ ww => XS.goto X314.here hx rfl (pc0 := 185) (pc' := 189) rfl (hb hby at_185) (by decide) (by decide) ww) ?_
      show own_GoesW _ _ _ _ _ _ _ (T314.setTop (mkF m 189 #[.val (.int x0), .val (.int x1), .val (.int x2), .val (.int x3), .val (.int c0), .val (.int c1), .val (.int c2), .val (.int sel), .val (.ref b282), .val .null, .val (.ref r308)] [(.int (1 : Int32))]))
      exact own_outW X314 hS hk hlk (v := some (.int (1 : Int32))) (fun h => by rw [hret] at h; cases h) (fun fs hr => retOut X314 hx (t := .boolean) hret (by decide) (Or.inl ⟨rfl, by simp, _, rfl⟩) (hb hby at_189) hr) e314 ⟨rfl, N314⟩ (by decide) (by decide)
set_option maxRecDepth 65536 in
set_option maxHeartbeats 40000000 in
theorem comes_1 {Post : Tables → Env → Array Value → State → Outcome → State → Prop} (hpost : ∀ tb e args s v u, (limb_1_1.after args s (.returned v) u = true ∧ limb_1_2.after args s (.returned v) u = true ∧ True) → ReturnedEndW s (.returned v) u (Jvm.fieldLocs frame_1_writes args s ++ Jvm.arrayLocs frame_1_arrays args s ++ Jvm.staticLocs frame_1_statics s) 24 1152 → Post tb e args s (.returned v) u) :
    ArmFor flags0 classFile x code maxLocals ret World_1 tables_1 room_1 Calls_1 rest_1 Pre_1 Post := by
  intro l hfl _ _ p e ha hc hk s m args below hf hA hF happ hP
  obtain ⟨hcalls, hrest, hpre⟩ := hP
  obtain ⟨-, -, -, hnamed, -, -, -, hat⟩ := (Spec.applies_iff hf).mp happ
  obtain ⟨hg, hn⟩ := and_e (Cond.before_iff.mp (show (Jvm.Cond.and given_1 narrow_1).before args s = true from hpre))
  obtain ⟨q1, q2⟩ := and_e hg
  obtain ⟨q3, q4⟩ := and_e q2
  obtain ⟨q5, q6⟩ := and_e q4
  obtain ⟨q7, q8⟩ := and_e q6
  obtain ⟨q9, q10⟩ := and_e hn
  obtain ⟨q11, q12⟩ := and_e q10
  obtain ⟨q13, q14⟩ := and_e q12
  obtain ⟨q15, q16⟩ := and_e q14
  obtain ⟨q17, q18⟩ := and_e q16
  obtain ⟨q19, q20⟩ := and_e q18
  obtain ⟨q21, q22⟩ := and_e q20
  obtain ⟨q23, q24⟩ := and_e q22
  obtain ⟨q25, q26⟩ := and_e q24
  obtain ⟨q27, q28⟩ := and_e q26
  obtain ⟨q29, q30⟩ := and_e q28
  obtain ⟨q31, q32⟩ := and_e q30
  obtain ⟨q33, q34⟩ := and_e q32
  obtain ⟨q35, q36⟩ := and_e q34
  obtain ⟨q37, q38⟩ := and_e q36
  obtain ⟨q39, q40⟩ := and_e q38
  obtain ⟨q41, q42⟩ := and_e q40
  obtain ⟨q43, q44⟩ := and_e q42
  obtain ⟨q45, q46⟩ := and_e q44
  obtain ⟨q47, q48⟩ := and_e q46
  obtain ⟨q49, q50⟩ := and_e q48
  obtain ⟨q51, q52⟩ := and_e q50
  obtain ⟨q53, q54⟩ := and_e q52
  obtain ⟨q55, q56⟩ := and_e q54
  obtain ⟨q57, q58⟩ := and_e q56
  obtain ⟨q59, q60⟩ := and_e q58
  obtain ⟨q61, q62⟩ := and_e q60
  obtain ⟨q63, q64⟩ := and_e q62
  obtain ⟨q65, q66⟩ := and_e q64
  obtain ⟨q67, q68⟩ := and_e q66
  obtain ⟨q69, q70⟩ := and_e q68
  obtain ⟨q71, q72⟩ := and_e q70
  obtain ⟨q73, q74⟩ := and_e q72
  obtain ⟨q75, q76⟩ := and_e q74
  obtain ⟨q77, q78⟩ := and_e q76
  obtain ⟨q79, q80⟩ := and_e q78
  obtain ⟨q81, q82⟩ := and_e q80
  obtain ⟨q83, q84⟩ := and_e q82
  obtain ⟨q85, q86⟩ := and_e q84
  obtain ⟨q87, q88⟩ := and_e q86
  obtain ⟨q89, q90⟩ := and_e q88
  obtain ⟨q91, q92⟩ := and_e q90
  obtain ⟨q93, q94⟩ := and_e q92
  obtain ⟨q95, q96⟩ := and_e q94
  obtain ⟨q97, q98⟩ := and_e q96
  obtain ⟨q99, q100⟩ := and_e q98
  obtain ⟨q101, q102⟩ := and_e q100
  obtain ⟨q103, q104⟩ := and_e q102
  obtain ⟨w0, w1, w2, w3, rfl⟩ : ∃ w0 w1 w2 w3 : Value, args = #[w0, w1, w2, w3] := by
    have hs : args.size = 4 := by simpa [Cond.value, given_1] using q1
    obtain ⟨L⟩ := args
    match L, hs with
    | [w0, w1, w2, w3], _ => exact ⟨w0, w1, w2, w3, rfl⟩
  have hw := fun d (hd : d ∈ tables_1) => atoms_spec (ws := Jvm.Cond.code x code maxLocals ret :: tables_1) hat d (List.mem_cons_of_mem _ hd)
  have hfit : Fit s := fun {y c} hc i hi => by
    obtain ⟨ha, rfl⟩ := Array.getElem?_eq_some_iff.mp hc
    have q := List.all_eq_true.mp ((Array.all_eq_true_iff_forall_mem.mp hF) _ (Array.getElem_mem ha)) i (List.mem_range.mpr hi)
    simpa [Array.getElem?_eq_getElem hi] using q
  obtain ⟨hsets, hown0⟩ := atoms_of _ (rest_1_c_eq ▸ (show rest_1_c.before _ s = true from hrest))
  obtain ⟨i0, ei0⟩ := is_v q3
  obtain rfl : w0 = (.int i0) := Option.some.inj ei0
  obtain ⟨i1, ei1⟩ := is_v q5
  obtain rfl : w1 = (.int i1) := Option.some.inj ei1
  obtain ⟨i2, ei2⟩ := is_v q7
  obtain rfl : w2 = (.int i2) := Option.some.inj ei2
  obtain ⟨i3, ei3⟩ := is_v q8
  obtain rfl : w3 = (.int i3) := Option.some.inj ei3
  have qs1 := Cond.before_iff.mp (hsets _ (List.mem_of_getElem? (i := 1) rfl))
  have qs2 := Cond.before_iff.mp (hsets _ (List.mem_of_getElem? (i := 2) rfl))
  have qs8 := Cond.before_iff.mp (hsets _ (List.mem_of_getElem? (i := 8) rfl))
  have qs11 := Cond.before_iff.mp (hsets _ (List.mem_of_getElem? (i := 11) rfl))
  have qs12 := Cond.before_iff.mp (hsets _ (List.mem_of_getElem? (i := 12) rfl))
  obtain ⟨a_Comparison__VALUES, ev_Comparison__VALUES⟩ := exa_v q11
  have E_Comparison__VALUES : Exa s s.heap a_Comparison__VALUES "[Lcom/example/esfahan/esfahan/model/Comparison;" := Exa.start ev_Comparison__VALUES q11
  have S_Comparison__VALUES : Sta s s.heap "com/example/esfahan/esfahan/model/Comparison" "$VALUES" "[Lcom/example/esfahan/esfahan/model/Comparison;" (.ref a_Comparison__VALUES) := Sta.start ev_Comparison__VALUES (Or.inr ⟨(hw _ (List.mem_of_getElem? (i := 31) rfl)), (hw _ (List.mem_of_getElem? (i := 37) rfl))⟩)
  obtain ⟨a_Comparison_EQUAL, ev_Comparison_EQUAL⟩ := exa_v q15
  have E_Comparison_EQUAL : Exa s s.heap a_Comparison_EQUAL "com/example/esfahan/esfahan/model/Comparison" := Exa.start ev_Comparison_EQUAL q15
  have S_Comparison_EQUAL : Sta s s.heap "com/example/esfahan/esfahan/model/Comparison" "EQUAL" "Lcom/example/esfahan/esfahan/model/Comparison;" (.ref a_Comparison_EQUAL) := Sta.start ev_Comparison_EQUAL (Or.inr ⟨(hw _ (List.mem_of_getElem? (i := 31) rfl)), (hw _ (List.mem_of_getElem? (i := 45) rfl))⟩)
  obtain ⟨a_Comparison_NOT_EQUAL, ev_Comparison_NOT_EQUAL⟩ := exa_v q19
  have E_Comparison_NOT_EQUAL : Exa s s.heap a_Comparison_NOT_EQUAL "com/example/esfahan/esfahan/model/Comparison" := Exa.start ev_Comparison_NOT_EQUAL q19
  have S_Comparison_NOT_EQUAL : Sta s s.heap "com/example/esfahan/esfahan/model/Comparison" "NOT_EQUAL" "Lcom/example/esfahan/esfahan/model/Comparison;" (.ref a_Comparison_NOT_EQUAL) := Sta.start ev_Comparison_NOT_EQUAL (Or.inr ⟨(hw _ (List.mem_of_getElem? (i := 31) rfl)), (hw _ (List.mem_of_getElem? (i := 46) rfl))⟩)
  obtain ⟨a_Comparison_LESS, ev_Comparison_LESS⟩ := exa_v q23
  have E_Comparison_LESS : Exa s s.heap a_Comparison_LESS "com/example/esfahan/esfahan/model/Comparison" := Exa.start ev_Comparison_LESS q23
  have S_Comparison_LESS : Sta s s.heap "com/example/esfahan/esfahan/model/Comparison" "LESS" "Lcom/example/esfahan/esfahan/model/Comparison;" (.ref a_Comparison_LESS) := Sta.start ev_Comparison_LESS (Or.inr ⟨(hw _ (List.mem_of_getElem? (i := 31) rfl)), (hw _ (List.mem_of_getElem? (i := 47) rfl))⟩)
  obtain ⟨a_Comparison_AT_MOST, ev_Comparison_AT_MOST⟩ := exa_v q27
  have E_Comparison_AT_MOST : Exa s s.heap a_Comparison_AT_MOST "com/example/esfahan/esfahan/model/Comparison" := Exa.start ev_Comparison_AT_MOST q27
  have S_Comparison_AT_MOST : Sta s s.heap "com/example/esfahan/esfahan/model/Comparison" "AT_MOST" "Lcom/example/esfahan/esfahan/model/Comparison;" (.ref a_Comparison_AT_MOST) := Sta.start ev_Comparison_AT_MOST (Or.inr ⟨(hw _ (List.mem_of_getElem? (i := 31) rfl)), (hw _ (List.mem_of_getElem? (i := 48) rfl))⟩)
  obtain ⟨a_Comparison_GREATER, ev_Comparison_GREATER⟩ := exa_v q31
  have E_Comparison_GREATER : Exa s s.heap a_Comparison_GREATER "com/example/esfahan/esfahan/model/Comparison" := Exa.start ev_Comparison_GREATER q31
  have S_Comparison_GREATER : Sta s s.heap "com/example/esfahan/esfahan/model/Comparison" "GREATER" "Lcom/example/esfahan/esfahan/model/Comparison;" (.ref a_Comparison_GREATER) := Sta.start ev_Comparison_GREATER (Or.inr ⟨(hw _ (List.mem_of_getElem? (i := 31) rfl)), (hw _ (List.mem_of_getElem? (i := 49) rfl))⟩)
  obtain ⟨a_Comparison_AT_LEAST, ev_Comparison_AT_LEAST⟩ := exa_v q35
  have E_Comparison_AT_LEAST : Exa s s.heap a_Comparison_AT_LEAST "com/example/esfahan/esfahan/model/Comparison" := Exa.start ev_Comparison_AT_LEAST q35
  have S_Comparison_AT_LEAST : Sta s s.heap "com/example/esfahan/esfahan/model/Comparison" "AT_LEAST" "Lcom/example/esfahan/esfahan/model/Comparison;" (.ref a_Comparison_AT_LEAST) := Sta.start ev_Comparison_AT_LEAST (Or.inr ⟨(hw _ (List.mem_of_getElem? (i := 31) rfl)), (hw _ (List.mem_of_getElem? (i := 50) rfl))⟩)
  obtain ⟨a_Optional_EMPTY, ev_Optional_EMPTY⟩ := exa_v qs11
  have E_Optional_EMPTY : Exa s s.heap a_Optional_EMPTY "java/util/Optional" := Exa.start ev_Optional_EMPTY qs11
  have S_Optional_EMPTY : Sta s s.heap "java/util/Optional" "EMPTY" "Ljava/util/Optional;" (.ref a_Optional_EMPTY) := Sta.start ev_Optional_EMPTY (Or.inl (hsets _ (List.mem_of_getElem? (i := 10) rfl)))
  have F_Optional_EMPTY_value := own_fN ev_Optional_EMPTY qs12
  obtain ⟨zc, SC, hzc⟩ := own_compact qs1 qs2 (hsets _ (List.mem_of_getElem? (i := 0) rfl))
  have hcw : Jvm.Lit.compactW.before _ s = true := hsets _ (List.mem_of_getElem? (i := 2) rfl)
  have hh7 : Jvm.Lit.constHeld s "java/lang/String" 7 := hcalls.1 ("java/lang/String", 7) (List.mem_of_getElem? (i := 0) rfl)
  obtain ⟨cl, Ar⟩ := Arr.start ev_Comparison__VALUES q9
  have hlen := own_len ev_Comparison__VALUES Ar.1 (own_eqI q13)
  have el0 := (elem_in (own_eqR ev_Comparison_EQUAL q17) ev_Comparison__VALUES (Term.int_eval (0)) Ar.1).2
  have el1 := (elem_in (own_eqR ev_Comparison_NOT_EQUAL q21) ev_Comparison__VALUES (Term.int_eval (1)) Ar.1).2
  have el2 := (elem_in (own_eqR ev_Comparison_LESS q25) ev_Comparison__VALUES (Term.int_eval (2)) Ar.1).2
  have el3 := (elem_in (own_eqR ev_Comparison_AT_MOST q29) ev_Comparison__VALUES (Term.int_eval (3)) Ar.1).2
  have el4 := (elem_in (own_eqR ev_Comparison_GREATER q33) ev_Comparison__VALUES (Term.int_eval (4)) Ar.1).2
  have el5 := (elem_in (own_eqR ev_Comparison_AT_LEAST q37) ev_Comparison__VALUES (Term.int_eval (5)) Ar.1).2
  have AV : Arv s s.heap a_Comparison__VALUES cl.cls (.object "com/example/esfahan/esfahan/model/Comparison") (6 : Int32) [(.ref a_Comparison_EQUAL), (.ref a_Comparison_NOT_EQUAL), (.ref a_Comparison_LESS), (.ref a_Comparison_AT_MOST), (.ref a_Comparison_GREATER), (.ref a_Comparison_AT_LEAST)] .null := Arv.start hfit Ar hlen.1 hlen.2 (by decide) rfl ⟨el0, el1, el2, el3, el4, el5, trivial⟩
  obtain ⟨y0, ey0⟩ := exa_v q39
  have Ey0 : Exa s s.heap y0 "java/lang/String" := Exa.start ey0 q39
  have F0 : Fld s s.heap a_Comparison_EQUAL "com/example/esfahan/esfahan/model/Comparison" "symbol" "Ljava/lang/String;" (.ref y0) := Fld.start ((fld_at ev_Comparison_EQUAL).symm.trans ey0)
  have Cy0 := own_fI ey0 q41
  obtain ⟨ty0, et0⟩ := arr_v q43
  obtain ⟨cl0, Ar0⟩ := Arr.start et0 q43
  have Vy0 : Fld s s.heap y0 "java/lang/String" "value" "[B" (.ref ty0) := Fld.start ((fld_at ey0).symm.trans et0)
  have hl0 := own_len et0 Ar0.1 (own_eqI q45)
  have e0_0 := (elem_in (own_eqI q87) et0 (Term.int_eval (0)) Ar0.1).2
  have e0_1 := (elem_in (own_eqI q101) et0 (Term.int_eval (1)) Ar0.1).2
  have Ky0 : Arv s s.heap ty0 cl0.cls .byte (2 : Int32) [(.int (61 : Int32)), (.int (61 : Int32))] (.int (0 : Int32)) := Arv.start hfit Ar0 hl0.1 hl0.2 (by decide) rfl ⟨e0_0, e0_1, trivial⟩
  obtain ⟨y1, ey1⟩ := exa_v q47
  have Ey1 : Exa s s.heap y1 "java/lang/String" := Exa.start ey1 q47
  have F1 : Fld s s.heap a_Comparison_NOT_EQUAL "com/example/esfahan/esfahan/model/Comparison" "symbol" "Ljava/lang/String;" (.ref y1) := Fld.start ((fld_at ev_Comparison_NOT_EQUAL).symm.trans ey1)
  have Cy1 := own_fI ey1 q49
  obtain ⟨ty1, et1⟩ := arr_v q51
  obtain ⟨cl1, Ar1⟩ := Arr.start et1 q51
  have Vy1 : Fld s s.heap y1 "java/lang/String" "value" "[B" (.ref ty1) := Fld.start ((fld_at ey1).symm.trans et1)
  have hl1 := own_len et1 Ar1.1 (own_eqI q53)
  have e1_0 := (elem_in (own_eqI q89) et1 (Term.int_eval (0)) Ar1.1).2
  have e1_1 := (elem_in (own_eqI q103) et1 (Term.int_eval (1)) Ar1.1).2
  have Ky1 : Arv s s.heap ty1 cl1.cls .byte (2 : Int32) [(.int (33 : Int32)), (.int (61 : Int32))] (.int (0 : Int32)) := Arv.start hfit Ar1 hl1.1 hl1.2 (by decide) rfl ⟨e1_0, e1_1, trivial⟩
  obtain ⟨y2, ey2⟩ := exa_v q55
  have Ey2 : Exa s s.heap y2 "java/lang/String" := Exa.start ey2 q55
  have F2 : Fld s s.heap a_Comparison_LESS "com/example/esfahan/esfahan/model/Comparison" "symbol" "Ljava/lang/String;" (.ref y2) := Fld.start ((fld_at ev_Comparison_LESS).symm.trans ey2)
  have Cy2 := own_fI ey2 q57
  obtain ⟨ty2, et2⟩ := arr_v q59
  obtain ⟨cl2, Ar2⟩ := Arr.start et2 q59
  have Vy2 : Fld s s.heap y2 "java/lang/String" "value" "[B" (.ref ty2) := Fld.start ((fld_at ey2).symm.trans et2)
  have hl2 := own_len et2 Ar2.1 (own_eqI q61)
  have e2_0 := (elem_in (own_eqI q95) et2 (Term.int_eval (0)) Ar2.1).2
  have Ky2 : Arv s s.heap ty2 cl2.cls .byte (1 : Int32) [(.int (60 : Int32))] (.int (0 : Int32)) := Arv.start hfit Ar2 hl2.1 hl2.2 (by decide) rfl ⟨e2_0, trivial⟩
  obtain ⟨y3, ey3⟩ := exa_v q63
  have Ey3 : Exa s s.heap y3 "java/lang/String" := Exa.start ey3 q63
  have F3 : Fld s s.heap a_Comparison_AT_MOST "com/example/esfahan/esfahan/model/Comparison" "symbol" "Ljava/lang/String;" (.ref y3) := Fld.start ((fld_at ev_Comparison_AT_MOST).symm.trans ey3)
  have Cy3 := own_fI ey3 q65
  obtain ⟨ty3, et3⟩ := arr_v q67
  obtain ⟨cl3, Ar3⟩ := Arr.start et3 q67
  have Vy3 : Fld s s.heap y3 "java/lang/String" "value" "[B" (.ref ty3) := Fld.start ((fld_at ey3).symm.trans et3)
  have hl3 := own_len et3 Ar3.1 (own_eqI q69)
  have e3_0 := (elem_in (own_eqI q91) et3 (Term.int_eval (0)) Ar3.1).2
  have e3_1 := (elem_in (own_eqI q99) et3 (Term.int_eval (1)) Ar3.1).2
  have Ky3 : Arv s s.heap ty3 cl3.cls .byte (2 : Int32) [(.int (60 : Int32)), (.int (61 : Int32))] (.int (0 : Int32)) := Arv.start hfit Ar3 hl3.1 hl3.2 (by decide) rfl ⟨e3_0, e3_1, trivial⟩
  obtain ⟨y4, ey4⟩ := exa_v q71
  have Ey4 : Exa s s.heap y4 "java/lang/String" := Exa.start ey4 q71
  have F4 : Fld s s.heap a_Comparison_GREATER "com/example/esfahan/esfahan/model/Comparison" "symbol" "Ljava/lang/String;" (.ref y4) := Fld.start ((fld_at ev_Comparison_GREATER).symm.trans ey4)
  have Cy4 := own_fI ey4 q73
  obtain ⟨ty4, et4⟩ := arr_v q75
  obtain ⟨cl4, Ar4⟩ := Arr.start et4 q75
  have Vy4 : Fld s s.heap y4 "java/lang/String" "value" "[B" (.ref ty4) := Fld.start ((fld_at ey4).symm.trans et4)
  have hl4 := own_len et4 Ar4.1 (own_eqI q77)
  have e4_0 := (elem_in (own_eqI q97) et4 (Term.int_eval (0)) Ar4.1).2
  have Ky4 : Arv s s.heap ty4 cl4.cls .byte (1 : Int32) [(.int (62 : Int32))] (.int (0 : Int32)) := Arv.start hfit Ar4 hl4.1 hl4.2 (by decide) rfl ⟨e4_0, trivial⟩
  obtain ⟨y5, ey5⟩ := exa_v q79
  have Ey5 : Exa s s.heap y5 "java/lang/String" := Exa.start ey5 q79
  have F5 : Fld s s.heap a_Comparison_AT_LEAST "com/example/esfahan/esfahan/model/Comparison" "symbol" "Ljava/lang/String;" (.ref y5) := Fld.start ((fld_at ev_Comparison_AT_LEAST).symm.trans ey5)
  have Cy5 := own_fI ey5 q81
  obtain ⟨ty5, et5⟩ := arr_v q83
  obtain ⟨cl5, Ar5⟩ := Arr.start et5 q83
  have Vy5 : Fld s s.heap y5 "java/lang/String" "value" "[B" (.ref ty5) := Fld.start ((fld_at ey5).symm.trans et5)
  have hl5 := own_len et5 Ar5.1 (own_eqI q85)
  have e5_0 := (elem_in (own_eqI q93) et5 (Term.int_eval (0)) Ar5.1).2
  have e5_1 := (elem_in (own_eqI q104) et5 (Term.int_eval (1)) Ar5.1).2
  have Ky5 : Arv s s.heap ty5 cl5.cls .byte (2 : Int32) [(.int (62 : Int32)), (.int (61 : Int32))] (.int (0 : Int32)) := Arv.start hfit Ar5 hl5.1 hl5.2 (by decide) rfl ⟨e5_0, e5_1, trivial⟩
  obtain ⟨n, o, h1, h2, h3, _, L, rfl, ⟨rfl, N⟩, hq⟩ := rm_law l s _ hw tables_1 i0 i1 i2 i3 a_Comparison__VALUES cl.cls a_Comparison_EQUAL a_Comparison_NOT_EQUAL a_Comparison_LESS a_Comparison_AT_MOST a_Comparison_GREATER a_Comparison_AT_LEAST a_Optional_EMPTY y0 ty0 cl0.cls y1 ty1 cl1.cls y2 ty2 cl2.cls y3 ty3 cl3.cls y4 ty4 cl4.cls y5 ty5 cl5.cls zc s.heap s.heap.size (Old.start s) S_Comparison__VALUES AV E_Comparison__VALUES S_Optional_EMPTY E_Optional_EMPTY F_Optional_EMPTY_value F0 Ey0 Cy0 Vy0 Ky0 F1 Ey1 Cy1 Vy1 Ky1 F2 Ey2 Cy2 Vy2 Ky2 F3 Ey3 Cy3 Vy3 Ky3 F4 Ey4 Cy4 Vy4 Ky4 F5 Ey5 Cy5 Vy5 Ky5 SC hzc S_Comparison_EQUAL S_Comparison_NOT_EQUAL S_Comparison_LESS S_Comparison_AT_MOST S_Comparison_GREATER S_Comparison_AT_LEAST hh7 hcw p e ha hc hk s m _ below hf ((Spec.applies_iff_loose hf).mp happ).1 ⟨rfl, State.Warmed39.refl s, rfl, IB.start⟩ trivial
  refine ⟨n, _, h1, h2, h3, hpost _ _ _ _ _ _ ⟨Cond.after_iff.mpr rfl, Cond.after_iff.mpr (eq_i res_at (Term.int_eval (1)) rfl), trivial⟩ ⟨hq.1, hq.2.1, hq.2.2.1, (hq.2.2.2.sift fun y hy => Or.inr (N y hy)).mono (by decide) (by decide)⟩⟩
theorem main_1_1 : Claimed_1_1 := comes_1 fun _ _ _ _ _ _ h hF => ⟨h.1, hF⟩
theorem main_1_2 : Claimed_1_2 := comes_1 fun _ _ _ _ _ _ h hF => ⟨h.2.1, hF⟩
end Jvm.Pilot.@@N@@
namespace Jvm.Pilot.@@N@@
open Jvm Jvm.ClassFile Sem Op Lib Jvm.Free Jvm.Stand Jvm.Pilot.@@N@@.Jvm.D
/-! MADE BY PROGRAM (witnessworld.py) out of the Statement's table words and the real class files: 24 classes; the members and pool entries that the words name. The judged class is class 1, her method 3. -/
namespace start1
open Jvm.ClassFile
def u (s : String) : CpInfo := .utf8 (stringToUtf16 s)
/-- a pool by its gaps: so many unusable entries, then the entry; so many at the end -/
def gap : Nat → List CpInfo → List CpInfo
  | 0, r => r
  | n + 1, r => .unusable :: gap n r
def poolList (es : List (Nat × CpInfo)) (last : Nat) : List CpInfo := es.foldr (fun e r => gap e.1 (e.2 :: r)) (gap last [])
def pool (es : List (Nat × CpInfo)) (last : Nat) : Array CpInfo := ⟨poolList es last⟩
def fileOf (pool : Array CpInfo) (this : Nat) (attrs : Array Attribute := #[]) (ms : Array MethodInfo := #[]) (fl : Nat := 33) (sup : Nat := 0) (ifs : Array Nat := #[]) (fds : Array FieldInfo := #[]) : ClassFile where
  minorVersion := 0
  majorVersion := 65
  constantPool := pool
  accessFlags := fl
  thisClass := this
  superClass := sup
  interfaces := ifs
  fields := fds
  methods := ms
  attributes := attrs
def plain (name : String) (sup : Option ClassId) : Class where
  name := name
  kind := .ordinary
  loader := none
  accessFlags := 33
  super := sup
  interfaces := #[]
  cf := none
  fields := #[]
  methods := #[]
  instanceTypes := #[]
  staticTypes := #[]
  resolved := #[]
  callSites := []
  init := .initialized
  statics := none
  mirror := none

def pool0 : Array CpInfo := pool [(5, u "<init>"), (0, u "()V"), (1, .class_ 10), (1, u "java/lang/Object"), (85, u "clone"), (0, u "()Ljava/lang/Object;")] 26

def k0c0 : Code := { maxStack := 0, maxLocals := 1, code := object_method_1_code, exceptionTable := #[], attributes := #[] }
def k0m0 : Method := { name := "<init>", desc := "()V", sig := { parameters := [], returnType := none }, accessFlags := 1, code := some k0c0 }
def k0m1 : Method := { name := "clone", desc := "()Ljava/lang/Object;", sig := { parameters := [], returnType := some (.object "java/lang/Object") }, accessFlags := 260, code := none }
/-- java/lang/Object -/
def k0 : Class := { plain "java/lang/Object" none with
  accessFlags := 33
  interfaces := #[]
  cf := some (fileOf pool0 8 #[] #[{ accessFlags := 1, nameIndex := 5, descriptorIndex := 6, attributes := #[] }, { accessFlags := 260, nameIndex := 96, descriptorIndex := 97, attributes := #[] }] 33 0 #[] #[])
  fields := #[]
  methods := #[k0m0, k0m1]
  instanceTypes := #[]
  staticTypes := #[]
  resolved := Array.replicate 124 none
  statics := none }

def pool1 : Array CpInfo := pool [(2, .class_ 4), (1, u "java/lang/Object"), (0, u "<init>"), (0, u "()V"), (0, .fieldref 8 9), (0, .class_ 10), (0, .nameAndType 11 12), (0, u "com/example/esfahan/esfahan/model/Comparison"), (0, u "LESS"), (0, u "Lcom/example/esfahan/esfahan/model/Comparison;"), (0, .fieldref 8 14), (0, .nameAndType 15 12), (0, u "GREATER"), (0, .fieldref 8 17), (0, .nameAndType 18 12), (0, u "EQUAL"), (0, .fieldref 8 20), (0, .nameAndType 21 12), (0, u "NOT_EQUAL"), (0, .fieldref 8 23), (0, .nameAndType 24 12), (0, u "AT_MOST"), (0, .fieldref 8 26), (0, .nameAndType 27 12), (0, u "AT_LEAST"), (0, .methodref 29 30), (0, .class_ 31), (0, .nameAndType 32 33), (0, u "com/example/esfahan/esfahan/model/ComparisonOfSymbolPinLaw"), (0, u "pick"), (0, u "(I)C"), (0, .class_ 35), (0, u "java/lang/String"), (0, .methodref 34 37), (0, .nameAndType 5 38), (0, u "([C)V"), (0, .methodref 29 40), (0, .nameAndType 41 42), (0, u "expect"), (0, u "(ICC)Lcom/example/esfahan/esfahan/model/Comparison;"), (0, .methodref 8 44), (0, .nameAndType 45 46), (0, u "ofSymbol"), (0, u "(Ljava/lang/String;)Ljava/util/Optional;"), (0, .methodref 48 49), (0, .class_ 50), (0, .nameAndType 51 52), (0, u "java/util/Optional"), (0, u "orElse"), (0, u "(Ljava/lang/Object;)Ljava/lang/Object;"), (3, u "law"), (0, u "(IIII)Z")] 2

def k1m0 : Method := { name := "<init>", desc := "()V", sig := { parameters := [], returnType := none }, accessFlags := 1, code := none }
def k1c1 : Code := { maxStack := 2, maxLocals := 2, code := method_2_code, exceptionTable := #[], attributes := #[] }
def k1m1 : Method := { name := "pick", desc := "(I)C", sig := { parameters := [.int], returnType := some .char }, accessFlags := 10, code := some k1c1 }
def k1c2 : Code := { maxStack := 2, maxLocals := 3, code := method_3_code, exceptionTable := #[], attributes := #[] }
def k1m2 : Method := { name := "expect", desc := "(ICC)Lcom/example/esfahan/esfahan/model/Comparison;", sig := { parameters := [.int, .char, .char], returnType := some (.object "com/example/esfahan/esfahan/model/Comparison") }, accessFlags := 10, code := some k1c2 }
def k1c3 : Code := { maxStack := 6, maxLocals := 11, code := code, exceptionTable := #[], attributes := #[] }
def k1m3 : Method := { name := "law", desc := "(IIII)Z", sig := { parameters := [.int, .int, .int, .int], returnType := some .boolean }, accessFlags := 9, code := some k1c3 }
/-- com/example/esfahan/esfahan/model/ComparisonOfSymbolPinLaw -/
def k1 : Class := { plain "com/example/esfahan/esfahan/model/ComparisonOfSymbolPinLaw" (some 0) with
  accessFlags := 49
  interfaces := #[]
  cf := some (fileOf pool1 29 #[] #[{ accessFlags := 1, nameIndex := 5, descriptorIndex := 6, attributes := #[] }, { accessFlags := 10, nameIndex := 32, descriptorIndex := 33, attributes := #[] }, { accessFlags := 10, nameIndex := 41, descriptorIndex := 42, attributes := #[] }, { accessFlags := 9, nameIndex := 56, descriptorIndex := 57, attributes := #[] }] 49 2 #[] #[])
  fields := #[]
  methods := #[k1m0, k1m1, k1m2, k1m3]
  instanceTypes := #[]
  staticTypes := #[]
  resolved := Array.replicate 60 none
  statics := none }

def pool2 : Array CpInfo := pool [(1, .class_ 2), (0, u "java/io/Serializable"), (0, .class_ 4), (0, u "java/lang/Object")] 2

/-- java/io/Serializable -/
def k2 : Class := { plain "java/io/Serializable" (some 0) with
  accessFlags := 1537
  interfaces := #[]
  cf := some (fileOf pool2 1 #[] #[] 1537 3 #[] #[])
  fields := #[]
  methods := #[]
  instanceTypes := #[]
  staticTypes := #[]
  resolved := Array.replicate 7 none
  statics := none }

def pool3 : Array CpInfo := pool [(1, .class_ 2), (0, u "java/lang/Comparable"), (0, .class_ 4), (0, u "java/lang/Object")] 7

/-- java/lang/Comparable -/
def k3 : Class := { plain "java/lang/Comparable" (some 0) with
  accessFlags := 1537
  interfaces := #[]
  cf := some (fileOf pool3 1 #[] #[] 1537 3 #[] #[])
  fields := #[]
  methods := #[]
  instanceTypes := #[]
  staticTypes := #[]
  resolved := Array.replicate 12 none
  statics := none }

def pool4 : Array CpInfo := pool [(2, .class_ 4), (1, u "java/lang/CharSequence"), (42, .class_ 48), (0, u "java/lang/CharSequence$1CodePointIterator"), (10, .class_ 60), (0, u "java/lang/CharSequence$1CharIterator"), (5, .class_ 67), (0, u "java/lang/Object")] 63

/-- java/lang/CharSequence -/
def k4 : Class := { plain "java/lang/CharSequence" (some 0) with
  accessFlags := 1537
  interfaces := #[]
  cf := some (fileOf pool4 2 #[.nestMembers #[47, 59]] #[] 1537 66 #[] #[])
  fields := #[]
  methods := #[]
  instanceTypes := #[]
  staticTypes := #[]
  resolved := Array.replicate 131 none
  statics := none }

def pool5 : Array CpInfo := pool [(1, .class_ 2), (0, u "java/lang/constant/Constable"), (0, .class_ 4), (0, u "java/lang/Object")] 6

/-- java/lang/constant/Constable -/
def k5 : Class := { plain "java/lang/constant/Constable" (some 0) with
  accessFlags := 1537
  interfaces := #[]
  cf := some (fileOf pool5 1 #[] #[] 1537 3 #[] #[])
  fields := #[]
  methods := #[]
  instanceTypes := #[]
  staticTypes := #[]
  resolved := Array.replicate 11 none
  statics := none }

def pool6 : Array CpInfo := pool [(1, .class_ 2), (0, u "java/lang/constant/ConstantDesc"), (0, .class_ 4), (0, u "java/lang/Object")] 32

/-- java/lang/constant/ConstantDesc -/
def k6 : Class := { plain "java/lang/constant/ConstantDesc" (some 0) with
  accessFlags := 1537
  interfaces := #[]
  cf := some (fileOf pool6 1 #[] #[] 1537 3 #[] #[])
  fields := #[]
  methods := #[]
  instanceTypes := #[]
  staticTypes := #[]
  resolved := Array.replicate 37 none
  statics := none }

def pool7 : Array CpInfo := pool [(1, .methodref 2 3), (0, .class_ 4), (0, .nameAndType 5 6), (0, u "java/lang/Object"), (0, u "<init>"), (0, u "()V"), (0, .string 8), (0, u ""), (0, .fieldref 10 11), (0, .class_ 12), (0, .nameAndType 13 14), (0, u "java/lang/String"), (0, u "value"), (0, u "[B"), (0, .fieldref 10 16), (0, .nameAndType 17 18), (0, u "coder"), (0, u "B"), (2, u "hash"), (0, u "I"), (2, u "hashIsZero"), (0, u "Z"), (0, .methodref 10 28), (0, .nameAndType 5 29), (0, u "([CIILjava/lang/Void;)V"), (8, .fieldref 10 39), (0, .nameAndType 40 26), (0, u "COMPACT_STRINGS"), (1, .class_ 44), (1, u "java/lang/StringUTF16"), (0, u "compress"), (1, .methodref 42 48), (0, .nameAndType 49 50), (0, u "coderFromArrayLen"), (0, u "([BI)B"), (56, .class_ 109), (1, u "java/lang/StringLatin1"), (67, .methodref 42 178), (0, .nameAndType 45 179), (0, u "([CII)[B"), (361, .methodref 107 542), (0, .nameAndType 543 544), (0, u "equals"), (0, u "([B[B)Z"), (28, u "(Ljava/lang/Object;)Z"), (1, .class_ 576), (0, u "java/lang/CharSequence"), (22, u "CASE_INSENSITIVE_ORDER"), (0, u "Ljava/util/Comparator;"), (409, u "([C)V"), (90, u "serialPersistentFields"), (0, u "[Ljava/io/ObjectStreamField;"), (0, .class_ 1104), (0, u "java/lang/String$CaseInsensitiveComparator"), (1, .class_ 1107), (0, u "java/io/Serializable"), (0, .class_ 1109), (0, u "java/lang/Comparable"), (0, .class_ 1111), (0, u "java/lang/constant/Constable"), (0, .class_ 1113), (0, u "java/lang/constant/ConstantDesc"), (2, u "serialVersionUID"), (0, u "J"), (3, u "REPL"), (0, u "C"), (2, u "LATIN1"), (1, u "UTF16")] 323

def k7m0 : Method := { name := "<init>", desc := "()V", sig := { parameters := [], returnType := none }, accessFlags := 1, code := none }
def k7c1 : Code := { maxStack := 5, maxLocals := 2, code := jdk_42_method_3_code, exceptionTable := #[], attributes := #[] }
def k7m1 : Method := { name := "<init>", desc := "([C)V", sig := { parameters := [(.array .char)], returnType := none }, accessFlags := 1, code := some k7c1 }
def k7c2 : Code := { maxStack := 2, maxLocals := 3, code := jdk_42_method_66_code, exceptionTable := #[], attributes := #[] }
def k7m2 : Method := { name := "equals", desc := "(Ljava/lang/Object;)Z", sig := { parameters := [(.object "java/lang/Object")], returnType := some .boolean }, accessFlags := 1, code := some k7c2 }
def k7c3 : Code := { maxStack := 4, maxLocals := 6, code := jdk_42_method_149_code, exceptionTable := #[], attributes := #[] }
def k7m3 : Method := { name := "<init>", desc := "([CIILjava/lang/Void;)V", sig := { parameters := [(.array .char), .int, .int, (.object "java/lang/Void")], returnType := none }, accessFlags := 2, code := some k7c3 }
/-- java/lang/String -/
def k7 : Class := { plain "java/lang/String" (some 0) with
  accessFlags := 49
  interfaces := #[2, 3, 4, 5, 6]
  cf := some (fileOf pool7 10 #[.nestMembers #[1103]] #[{ accessFlags := 1, nameIndex := 5, descriptorIndex := 6, attributes := #[] }, { accessFlags := 1, nameIndex := 5, descriptorIndex := 1010, attributes := #[] }, { accessFlags := 1, nameIndex := 543, descriptorIndex := 573, attributes := #[] }, { accessFlags := 2, nameIndex := 5, descriptorIndex := 29, attributes := #[] }] 49 2 #[1106, 1108, 575, 1110, 1112] #[{ accessFlags := 18, nameIndex := 13, descriptorIndex := 14, attributes := #[] }, { accessFlags := 18, nameIndex := 17, descriptorIndex := 18, attributes := #[] }, { accessFlags := 2, nameIndex := 21, descriptorIndex := 22, attributes := #[] }, { accessFlags := 2, nameIndex := 25, descriptorIndex := 26, attributes := #[] }, { accessFlags := 26, nameIndex := 1116, descriptorIndex := 1117, attributes := #[] }, { accessFlags := 24, nameIndex := 40, descriptorIndex := 26, attributes := #[] }, { accessFlags := 26, nameIndex := 1101, descriptorIndex := 1102, attributes := #[] }, { accessFlags := 26, nameIndex := 1121, descriptorIndex := 1122, attributes := #[] }, { accessFlags := 25, nameIndex := 599, descriptorIndex := 600, attributes := #[] }, { accessFlags := 24, nameIndex := 1125, descriptorIndex := 18, attributes := #[] }, { accessFlags := 24, nameIndex := 1127, descriptorIndex := 18, attributes := #[] }])
  fields := #[{ name := "value", type := (.array .byte), accessFlags := 18, slot := 0, constantValue := 0 }, { name := "coder", type := .byte, accessFlags := 18, slot := 1, constantValue := 0 }, { name := "hash", type := .int, accessFlags := 2, slot := 2, constantValue := 0 }, { name := "hashIsZero", type := .boolean, accessFlags := 2, slot := 3, constantValue := 0 }, { name := "serialVersionUID", type := .long, accessFlags := 26, slot := 0, constantValue := 0 }, { name := "COMPACT_STRINGS", type := .boolean, accessFlags := 24, slot := 1, constantValue := 0 }, { name := "serialPersistentFields", type := (.array (.object "java/io/ObjectStreamField")), accessFlags := 26, slot := 2, constantValue := 0 }, { name := "REPL", type := .char, accessFlags := 26, slot := 3, constantValue := 0 }, { name := "CASE_INSENSITIVE_ORDER", type := (.object "java/util/Comparator"), accessFlags := 25, slot := 4, constantValue := 0 }, { name := "LATIN1", type := .byte, accessFlags := 24, slot := 5, constantValue := 0 }, { name := "UTF16", type := .byte, accessFlags := 24, slot := 6, constantValue := 0 }]
  methods := #[k7m0, k7m1, k7m2, k7m3]
  instanceTypes := #[(.array .byte), .byte, .int, .boolean]
  staticTypes := #[.long, .boolean, (.array (.object "java/io/ObjectStreamField")), .char, (.object "java/util/Comparator"), .byte, .byte]
  resolved := Array.replicate 1451 none
  statics := some 0 }

def pool8 : Array CpInfo := pool [(2, .class_ 4), (1, u "java/lang/Enum"), (0, u "name"), (0, u "Ljava/lang/String;"), (2, u "ordinal"), (0, u "I"), (1, .class_ 14), (1, u "java/lang/Object"), (4, u "hash"), (86, .class_ 108), (1, u "java/lang/Enum$EnumDesc"), (2, .class_ 112), (0, u "java/lang/constant/Constable"), (0, .class_ 114), (0, u "java/lang/Comparable"), (0, .class_ 116), (0, u "java/io/Serializable")] 87

/-- java/lang/Enum -/
def k8 : Class := { plain "java/lang/Enum" (some 0) with
  accessFlags := 1057
  interfaces := #[5, 3, 2]
  cf := some (fileOf pool8 2 #[.nestMembers #[106]] #[] 1057 12 #[111, 113, 115] #[{ accessFlags := 18, nameIndex := 5, descriptorIndex := 6, attributes := #[] }, { accessFlags := 18, nameIndex := 9, descriptorIndex := 10, attributes := #[] }, { accessFlags := 2, nameIndex := 19, descriptorIndex := 10, attributes := #[] }])
  fields := #[{ name := "name", type := (.object "java/lang/String"), accessFlags := 18, slot := 0, constantValue := 0 }, { name := "ordinal", type := .int, accessFlags := 18, slot := 1, constantValue := 0 }, { name := "hash", type := .int, accessFlags := 2, slot := 2, constantValue := 0 }]
  methods := #[]
  instanceTypes := #[(.object "java/lang/String"), .int, .int]
  staticTypes := #[]
  resolved := Array.replicate 204 none
  statics := none }

def pool9 : Array CpInfo := pool [(1, .class_ 2), (0, u "com/example/esfahan/esfahan/model/Comparison"), (2, u "EQUAL"), (0, u "Lcom/example/esfahan/esfahan/model/Comparison;"), (2, u "NOT_EQUAL"), (2, u "LESS"), (2, u "AT_MOST"), (2, u "GREATER"), (2, u "AT_LEAST"), (0, .fieldref 1 23), (0, .nameAndType 24 25), (0, u "$VALUES"), (0, u "[Lcom/example/esfahan/esfahan/model/Comparison;"), (0, .methodref 27 28), (0, .class_ 25), (0, .nameAndType 29 30), (0, u "clone"), (0, u "()Ljava/lang/Object;"), (1, .class_ 34), (1, u "java/lang/Enum"), (6, .fieldref 1 42), (0, .nameAndType 43 44), (0, u "symbol"), (0, u "Ljava/lang/String;"), (0, .methodref 1 46), (0, .nameAndType 47 48), (0, u "values"), (0, u "()[Lcom/example/esfahan/esfahan/model/Comparison;"), (0, .methodref 50 51), (0, .class_ 52), (0, .nameAndType 53 54), (0, u "java/lang/String"), (0, u "equals"), (0, u "(Ljava/lang/Object;)Z"), (0, .methodref 56 57), (0, .class_ 58), (0, .nameAndType 59 60), (0, u "java/util/Optional"), (0, u "of"), (0, u "(Ljava/lang/Object;)Ljava/util/Optional;"), (0, .methodref 56 62), (0, .nameAndType 63 64), (0, u "empty"), (0, u "()Ljava/util/Optional;"), (74, u "ofSymbol"), (0, u "(Ljava/lang/String;)Ljava/util/Optional;")] 27

def k9c0 : Code := { maxStack := 1, maxLocals := 0, code := prog_47_method_1_code, exceptionTable := #[], attributes := #[] }
def k9m0 : Method := { name := "values", desc := "()[Lcom/example/esfahan/esfahan/model/Comparison;", sig := { parameters := [], returnType := some (.array (.object "com/example/esfahan/esfahan/model/Comparison")) }, accessFlags := 9, code := some k9c0 }
def k9c1 : Code := { maxStack := 2, maxLocals := 5, code := prog_47_method_4_code, exceptionTable := #[], attributes := #[] }
def k9m1 : Method := { name := "ofSymbol", desc := "(Ljava/lang/String;)Ljava/util/Optional;", sig := { parameters := [(.object "java/lang/String")], returnType := some (.object "java/util/Optional") }, accessFlags := 9, code := some k9c1 }
/-- com/example/esfahan/esfahan/model/Comparison -/
def k9 : Class := { plain "com/example/esfahan/esfahan/model/Comparison" (some 8) with
  accessFlags := 16433
  interfaces := #[]
  cf := some (fileOf pool9 1 #[] #[{ accessFlags := 9, nameIndex := 47, descriptorIndex := 48, attributes := #[] }, { accessFlags := 9, nameIndex := 139, descriptorIndex := 140, attributes := #[] }] 16433 32 #[] #[{ accessFlags := 16409, nameIndex := 5, descriptorIndex := 6, attributes := #[] }, { accessFlags := 16409, nameIndex := 9, descriptorIndex := 6, attributes := #[] }, { accessFlags := 16409, nameIndex := 12, descriptorIndex := 6, attributes := #[] }, { accessFlags := 16409, nameIndex := 15, descriptorIndex := 6, attributes := #[] }, { accessFlags := 16409, nameIndex := 18, descriptorIndex := 6, attributes := #[] }, { accessFlags := 16409, nameIndex := 21, descriptorIndex := 6, attributes := #[] }, { accessFlags := 18, nameIndex := 43, descriptorIndex := 44, attributes := #[] }, { accessFlags := 4122, nameIndex := 24, descriptorIndex := 25, attributes := #[] }])
  fields := #[{ name := "EQUAL", type := (.object "com/example/esfahan/esfahan/model/Comparison"), accessFlags := 16409, slot := 0, constantValue := 0 }, { name := "NOT_EQUAL", type := (.object "com/example/esfahan/esfahan/model/Comparison"), accessFlags := 16409, slot := 1, constantValue := 0 }, { name := "LESS", type := (.object "com/example/esfahan/esfahan/model/Comparison"), accessFlags := 16409, slot := 2, constantValue := 0 }, { name := "AT_MOST", type := (.object "com/example/esfahan/esfahan/model/Comparison"), accessFlags := 16409, slot := 3, constantValue := 0 }, { name := "GREATER", type := (.object "com/example/esfahan/esfahan/model/Comparison"), accessFlags := 16409, slot := 4, constantValue := 0 }, { name := "AT_LEAST", type := (.object "com/example/esfahan/esfahan/model/Comparison"), accessFlags := 16409, slot := 5, constantValue := 0 }, { name := "symbol", type := (.object "java/lang/String"), accessFlags := 18, slot := 3, constantValue := 0 }, { name := "$VALUES", type := (.array (.object "com/example/esfahan/esfahan/model/Comparison")), accessFlags := 4122, slot := 6, constantValue := 0 }]
  methods := #[k9m0, k9m1]
  instanceTypes := #[(.object "java/lang/String"), .int, .int, (.object "java/lang/String")]
  staticTypes := #[(.object "com/example/esfahan/esfahan/model/Comparison"), (.object "com/example/esfahan/esfahan/model/Comparison"), (.object "com/example/esfahan/esfahan/model/Comparison"), (.object "com/example/esfahan/esfahan/model/Comparison"), (.object "com/example/esfahan/esfahan/model/Comparison"), (.object "com/example/esfahan/esfahan/model/Comparison"), (.array (.object "com/example/esfahan/esfahan/model/Comparison"))]
  resolved := Array.replicate 168 none
  statics := some 1 }

def pool10 : Array CpInfo := pool [(1, .class_ 2), (0, u "java/lang/Cloneable"), (0, .class_ 4), (0, u "java/lang/Object")] 2

/-- java/lang/Cloneable -/
def k10 : Class := { plain "java/lang/Cloneable" (some 0) with
  accessFlags := 1537
  interfaces := #[]
  cf := some (fileOf pool10 1 #[] #[] 1537 3 #[] #[])
  fields := #[]
  methods := #[]
  instanceTypes := #[]
  staticTypes := #[]
  resolved := Array.replicate 7 none
  statics := none }

def pool11 : Array CpInfo := pool [(4, .class_ 6), (1, u "java/lang/Object"), (0, u "<init>"), (0, u "()V"), (5, .class_ 16), (1, u "java/lang/StringLatin1"), (104, u "$assertionsDisabled"), (0, u "Z"), (98, .class_ 223), (1, u "java/lang/StringLatin1$LinesSpliterator"), (57, u "equals"), (0, u "([B[B)Z"), (107, .class_ 391), (0, u "java/lang/StringLatin1$CharsSpliterator")] 3

def k11m0 : Method := { name := "<init>", desc := "()V", sig := { parameters := [], returnType := none }, accessFlags := 0, code := none }
def k11c1 : Code := { maxStack := 3, maxLocals := 3, code := jdk_43_method_13_code, exceptionTable := #[], attributes := #[] }
def k11m1 : Method := { name := "equals", desc := "([B[B)Z", sig := { parameters := [(.array .byte), (.array .byte)], returnType := some .boolean }, accessFlags := 9, code := some k11c1 }
/-- java/lang/StringLatin1 -/
def k11 : Class := { plain "java/lang/StringLatin1" (some 0) with
  accessFlags := 48
  interfaces := #[]
  cf := some (fileOf pool11 14 #[.nestMembers #[390, 221]] #[{ accessFlags := 0, nameIndex := 7, descriptorIndex := 8, attributes := #[] }, { accessFlags := 9, nameIndex := 281, descriptorIndex := 282, attributes := #[] }] 48 4 #[] #[{ accessFlags := 4120, nameIndex := 121, descriptorIndex := 122, attributes := #[] }])
  fields := #[{ name := "$assertionsDisabled", type := .boolean, accessFlags := 4120, slot := 0, constantValue := 0 }]
  methods := #[k11m0, k11m1]
  instanceTypes := #[]
  staticTypes := #[.boolean]
  resolved := Array.replicate 395 none
  statics := none }

def pool12 : Array CpInfo := pool [(1, .fieldref 2 3), (0, .class_ 4), (0, .nameAndType 5 6), (0, u "java/util/Optional"), (0, u "EMPTY"), (0, u "Ljava/util/Optional;"), (0, .methodref 8 9), (0, .class_ 10), (0, .nameAndType 11 12), (0, u "java/lang/Object"), (0, u "<init>"), (0, u "()V"), (0, .fieldref 2 14), (0, .nameAndType 15 16), (0, u "value"), (0, u "Ljava/lang/Object;"), (0, .methodref 18 19), (0, .class_ 20), (0, .nameAndType 21 22), (0, u "java/util/Objects"), (0, u "requireNonNull"), (0, u "(Ljava/lang/Object;)Ljava/lang/Object;"), (0, .methodref 2 24), (0, .nameAndType 11 25), (0, u "(Ljava/lang/Object;)V"), (29, u "empty"), (0, u "()Ljava/util/Optional;"), (8, u "(Ljava/lang/Object;)Ljava/util/Optional;"), (16, u "of"), (82, u "orElse")] 21

def k12c0 : Code := { maxStack := 1, maxLocals := 1, code := jdk_32_method_1_code, exceptionTable := #[], attributes := #[] }
def k12m0 : Method := { name := "empty", desc := "()Ljava/util/Optional;", sig := { parameters := [], returnType := some (.object "java/util/Optional") }, accessFlags := 9, code := some k12c0 }
def k12c1 : Code := { maxStack := 2, maxLocals := 2, code := jdk_32_method_2_code, exceptionTable := #[], attributes := #[] }
def k12m1 : Method := { name := "<init>", desc := "(Ljava/lang/Object;)V", sig := { parameters := [(.object "java/lang/Object")], returnType := none }, accessFlags := 2, code := some k12c1 }
def k12c2 : Code := { maxStack := 3, maxLocals := 1, code := jdk_32_method_3_code, exceptionTable := #[], attributes := #[] }
def k12m2 : Method := { name := "of", desc := "(Ljava/lang/Object;)Ljava/util/Optional;", sig := { parameters := [(.object "java/lang/Object")], returnType := some (.object "java/util/Optional") }, accessFlags := 9, code := some k12c2 }
def k12c3 : Code := { maxStack := 1, maxLocals := 2, code := jdk_32_method_15_code, exceptionTable := #[], attributes := #[] }
def k12m3 : Method := { name := "orElse", desc := "(Ljava/lang/Object;)Ljava/lang/Object;", sig := { parameters := [(.object "java/lang/Object")], returnType := some (.object "java/lang/Object") }, accessFlags := 1, code := some k12c3 }
/-- java/util/Optional -/
def k12 : Class := { plain "java/util/Optional" (some 0) with
  accessFlags := 49
  interfaces := #[]
  cf := some (fileOf pool12 2 #[] #[{ accessFlags := 9, nameIndex := 55, descriptorIndex := 56, attributes := #[] }, { accessFlags := 2, nameIndex := 11, descriptorIndex := 25, attributes := #[] }, { accessFlags := 9, nameIndex := 82, descriptorIndex := 65, attributes := #[] }, { accessFlags := 1, nameIndex := 165, descriptorIndex := 22, attributes := #[] }] 49 8 #[] #[{ accessFlags := 26, nameIndex := 5, descriptorIndex := 6, attributes := #[] }, { accessFlags := 18, nameIndex := 15, descriptorIndex := 16, attributes := #[] }])
  fields := #[{ name := "EMPTY", type := (.object "java/util/Optional"), accessFlags := 26, slot := 0, constantValue := 0 }, { name := "value", type := (.object "java/lang/Object"), accessFlags := 18, slot := 0, constantValue := 0 }]
  methods := #[k12m0, k12m1, k12m2, k12m3]
  instanceTypes := #[(.object "java/lang/Object")]
  staticTypes := #[(.object "java/util/Optional")]
  resolved := Array.replicate 187 none
  statics := some 2 }

def pool13 : Array CpInfo := pool [(6, .class_ 8), (1, u "java/lang/Object"), (0, u "<init>"), (0, u "()V"), (1, .class_ 14), (1, u "java/lang/StringUTF16"), (31, u "$assertionsDisabled"), (0, u "Z"), (13, u "HI_BYTE_SHIFT"), (0, u "I"), (2, u "LO_BYTE_SHIFT"), (49, .methodref 12 116), (0, .nameAndType 117 118), (0, u "compress"), (0, u "([CI[BII)I"), (3, u "([CII)[B"), (138, u "coderFromArrayLen"), (0, u "([BI)B"), (106, .class_ 371), (1, u "java/lang/StringUTF16$LinesSpliterator"), (58, u "MAX_LENGTH"), (196, .class_ 628), (0, u "java/lang/StringUTF16$CodePointsSpliterator"), (0, .class_ 630), (0, u "java/lang/StringUTF16$CharsSpliterator")] 4

def k13m0 : Method := { name := "<init>", desc := "()V", sig := { parameters := [], returnType := none }, accessFlags := 0, code := none }
def k13c1 : Code := { maxStack := 2, maxLocals := 2, code := jdk_52_method_15_code, exceptionTable := #[], attributes := #[] }
def k13m1 : Method := { name := "coderFromArrayLen", desc := "([BI)B", sig := { parameters := [(.array .byte), .int], returnType := some .byte }, accessFlags := 8, code := some k13c1 }
def k13c2 : Code := { maxStack := 5, maxLocals := 6, code := jdk_52_method_16_code, exceptionTable := #[], attributes := #[] }
def k13m2 : Method := { name := "compress", desc := "([CII)[B", sig := { parameters := [(.array .char), .int, .int], returnType := some (.array .byte) }, accessFlags := 9, code := some k13c2 }
def k13c3 : Code := { maxStack := 3, maxLocals := 7, code := jdk_52_method_21_code, exceptionTable := #[], attributes := #[] }
def k13m3 : Method := { name := "compress", desc := "([CI[BII)I", sig := { parameters := [(.array .char), .int, (.array .byte), .int, .int], returnType := some .int }, accessFlags := 9, code := some k13c3 }
/-- java/lang/StringUTF16 -/
def k13 : Class := { plain "java/lang/StringUTF16" (some 0) with
  accessFlags := 48
  interfaces := #[]
  cf := some (fileOf pool13 12 #[.nestMembers #[627, 629, 369]] #[{ accessFlags := 0, nameIndex := 9, descriptorIndex := 10, attributes := #[] }, { accessFlags := 8, nameIndex := 261, descriptorIndex := 262, attributes := #[] }, { accessFlags := 9, nameIndex := 117, descriptorIndex := 122, attributes := #[] }, { accessFlags := 9, nameIndex := 117, descriptorIndex := 118, attributes := #[] }] 48 6 #[] #[{ accessFlags := 26, nameIndex := 61, descriptorIndex := 62, attributes := #[] }, { accessFlags := 26, nameIndex := 65, descriptorIndex := 62, attributes := #[] }, { accessFlags := 24, nameIndex := 430, descriptorIndex := 62, attributes := #[] }, { accessFlags := 4120, nameIndex := 46, descriptorIndex := 47, attributes := #[] }])
  fields := #[{ name := "HI_BYTE_SHIFT", type := .int, accessFlags := 26, slot := 0, constantValue := 0 }, { name := "LO_BYTE_SHIFT", type := .int, accessFlags := 26, slot := 1, constantValue := 0 }, { name := "MAX_LENGTH", type := .int, accessFlags := 24, slot := 2, constantValue := 0 }, { name := "$assertionsDisabled", type := .boolean, accessFlags := 4120, slot := 3, constantValue := 0 }]
  methods := #[k13m0, k13m1, k13m2, k13m3]
  instanceTypes := #[]
  staticTypes := #[.int, .int, .int, .boolean]
  resolved := Array.replicate 635 none
  statics := none }

def pool14 : Array CpInfo := pool [(2, .class_ 4), (1, u "java/lang/Object"), (0, u "<init>"), (0, u "()V"), (35, .class_ 44), (1, u "java/util/Objects"), (0, u "requireNonNull"), (0, u "(Ljava/lang/Object;)Ljava/lang/Object;")] 137

def k14m0 : Method := { name := "<init>", desc := "()V", sig := { parameters := [], returnType := none }, accessFlags := 2, code := none }
def k14c1 : Code := { maxStack := 2, maxLocals := 1, code := jdk_31_method_10_code, exceptionTable := #[], attributes := #[] }
def k14m1 : Method := { name := "requireNonNull", desc := "(Ljava/lang/Object;)Ljava/lang/Object;", sig := { parameters := [(.object "java/lang/Object")], returnType := some (.object "java/lang/Object") }, accessFlags := 9, code := some k14c1 }
/-- java/util/Objects -/
def k14 : Class := { plain "java/util/Objects" (some 0) with
  accessFlags := 49
  interfaces := #[]
  cf := some (fileOf pool14 42 #[] #[{ accessFlags := 2, nameIndex := 5, descriptorIndex := 6, attributes := #[] }, { accessFlags := 9, nameIndex := 45, descriptorIndex := 46, attributes := #[] }] 49 2 #[] #[])
  fields := #[]
  methods := #[k14m0, k14m1]
  instanceTypes := #[]
  staticTypes := #[]
  resolved := Array.replicate 184 none
  statics := none }

def pool15 : Array CpInfo := pool [(2, .class_ 4), (1, u "java/lang/Object"), (0, u "<init>"), (0, u "()V"), (17, .class_ 26), (1, u "jdk/internal/util/Preconditions"), (28, .class_ 56), (0, u "jdk/internal/util/Preconditions$4"), (57, .class_ 115), (0, u "jdk/internal/util/Preconditions$1"), (7, u "SIOOBE_FORMATTER"), (0, u "Ljava/util/function/BiFunction;"), (0, .class_ 126), (0, u "jdk/internal/util/Preconditions$2"), (3, u "AIOOBE_FORMATTER"), (0, .class_ 132), (0, u "jdk/internal/util/Preconditions$3"), (3, u "IOOBE_FORMATTER")] 57

def k15m0 : Method := { name := "<init>", desc := "()V", sig := { parameters := [], returnType := none }, accessFlags := 1, code := none }
/-- jdk/internal/util/Preconditions -/
def k15 : Class := { plain "jdk/internal/util/Preconditions" (some 0) with
  accessFlags := 33
  interfaces := #[]
  cf := some (fileOf pool15 24 #[.nestMembers #[55, 131, 125, 114]] #[{ accessFlags := 1, nameIndex := 5, descriptorIndex := 6, attributes := #[] }] 33 2 #[] #[{ accessFlags := 25, nameIndex := 123, descriptorIndex := 124, attributes := #[] }, { accessFlags := 25, nameIndex := 130, descriptorIndex := 124, attributes := #[] }, { accessFlags := 25, nameIndex := 136, descriptorIndex := 124, attributes := #[] }])
  fields := #[{ name := "SIOOBE_FORMATTER", type := (.object "java/util/function/BiFunction"), accessFlags := 25, slot := 0, constantValue := 0 }, { name := "AIOOBE_FORMATTER", type := (.object "java/util/function/BiFunction"), accessFlags := 25, slot := 1, constantValue := 0 }, { name := "IOOBE_FORMATTER", type := (.object "java/util/function/BiFunction"), accessFlags := 25, slot := 2, constantValue := 0 }]
  methods := #[k15m0]
  instanceTypes := #[]
  staticTypes := #[(.object "java/util/function/BiFunction"), (.object "java/util/function/BiFunction"), (.object "java/util/function/BiFunction")]
  resolved := Array.replicate 194 none
  statics := some 3 }

def pool16 : Array CpInfo := pool [(9, u "<init>"), (6, .class_ 18), (1, u "java/lang/Object"), (0, u "()V"), (1, .class_ 23), (1, u "jdk/internal/util/ArraysSupport"), (0, u "LOG2_ARRAY_LONG_INDEX_SCALE"), (0, u "I"), (2, u "U"), (0, u "Ljdk/internal/misc/Unsafe;"), (8, u "BIG_ENDIAN"), (0, u "Z"), (8, u "LOG2_BYTE_BIT_SIZE"), (4, u "LOG2_ARRAY_INT_INDEX_SCALE"), (54, u "JLA"), (0, u "Ljdk/internal/access/JavaLangAccess;"), (11, u "LOG2_ARRAY_BOOLEAN_INDEX_SCALE"), (9, u "LOG2_ARRAY_BYTE_INDEX_SCALE"), (5, u "LOG2_ARRAY_CHAR_INDEX_SCALE"), (5, u "LOG2_ARRAY_SHORT_INDEX_SCALE"), (18, u "LOG2_ARRAY_FLOAT_INDEX_SCALE"), (24, u "LOG2_ARRAY_DOUBLE_INDEX_SCALE"), (89, u "T_BOOLEAN"), (2, u "T_CHAR"), (1, u "T_FLOAT"), (1, u "T_DOUBLE"), (1, u "T_BYTE"), (1, u "T_SHORT"), (1, u "T_INT"), (1, u "T_LONG"), (1, u "SOFT_MAX_ARRAY_LENGTH")] 83

def k16m0 : Method := { name := "<init>", desc := "()V", sig := { parameters := [], returnType := none }, accessFlags := 2, code := none }
/-- jdk/internal/util/ArraysSupport -/
def k16 : Class := { plain "jdk/internal/util/ArraysSupport" (some 0) with
  accessFlags := 33
  interfaces := #[]
  cf := some (fileOf pool16 21 #[] #[{ accessFlags := 2, nameIndex := 9, descriptorIndex := 19, attributes := #[] }] 33 16 #[] #[{ accessFlags := 24, nameIndex := 28, descriptorIndex := 29, attributes := #[] }, { accessFlags := 26, nameIndex := 38, descriptorIndex := 39, attributes := #[] }, { accessFlags := 25, nameIndex := 121, descriptorIndex := 25, attributes := #[] }, { accessFlags := 25, nameIndex := 131, descriptorIndex := 25, attributes := #[] }, { accessFlags := 25, nameIndex := 137, descriptorIndex := 25, attributes := #[] }, { accessFlags := 25, nameIndex := 143, descriptorIndex := 25, attributes := #[] }, { accessFlags := 25, nameIndex := 53, descriptorIndex := 25, attributes := #[] }, { accessFlags := 25, nameIndex := 24, descriptorIndex := 25, attributes := #[] }, { accessFlags := 25, nameIndex := 162, descriptorIndex := 25, attributes := #[] }, { accessFlags := 25, nameIndex := 187, descriptorIndex := 25, attributes := #[] }, { accessFlags := 26, nameIndex := 48, descriptorIndex := 25, attributes := #[] }, { accessFlags := 25, nameIndex := 277, descriptorIndex := 25, attributes := #[] }, { accessFlags := 25, nameIndex := 280, descriptorIndex := 25, attributes := #[] }, { accessFlags := 25, nameIndex := 282, descriptorIndex := 25, attributes := #[] }, { accessFlags := 25, nameIndex := 284, descriptorIndex := 25, attributes := #[] }, { accessFlags := 25, nameIndex := 286, descriptorIndex := 25, attributes := #[] }, { accessFlags := 25, nameIndex := 288, descriptorIndex := 25, attributes := #[] }, { accessFlags := 25, nameIndex := 290, descriptorIndex := 25, attributes := #[] }, { accessFlags := 25, nameIndex := 292, descriptorIndex := 25, attributes := #[] }, { accessFlags := 26, nameIndex := 108, descriptorIndex := 109, attributes := #[] }, { accessFlags := 25, nameIndex := 294, descriptorIndex := 25, attributes := #[] }])
  fields := #[{ name := "U", type := (.object "jdk/internal/misc/Unsafe"), accessFlags := 24, slot := 0, constantValue := 0 }, { name := "BIG_ENDIAN", type := .boolean, accessFlags := 26, slot := 1, constantValue := 0 }, { name := "LOG2_ARRAY_BOOLEAN_INDEX_SCALE", type := .int, accessFlags := 25, slot := 2, constantValue := 0 }, { name := "LOG2_ARRAY_BYTE_INDEX_SCALE", type := .int, accessFlags := 25, slot := 3, constantValue := 0 }, { name := "LOG2_ARRAY_CHAR_INDEX_SCALE", type := .int, accessFlags := 25, slot := 4, constantValue := 0 }, { name := "LOG2_ARRAY_SHORT_INDEX_SCALE", type := .int, accessFlags := 25, slot := 5, constantValue := 0 }, { name := "LOG2_ARRAY_INT_INDEX_SCALE", type := .int, accessFlags := 25, slot := 6, constantValue := 0 }, { name := "LOG2_ARRAY_LONG_INDEX_SCALE", type := .int, accessFlags := 25, slot := 7, constantValue := 0 }, { name := "LOG2_ARRAY_FLOAT_INDEX_SCALE", type := .int, accessFlags := 25, slot := 8, constantValue := 0 }, { name := "LOG2_ARRAY_DOUBLE_INDEX_SCALE", type := .int, accessFlags := 25, slot := 9, constantValue := 0 }, { name := "LOG2_BYTE_BIT_SIZE", type := .int, accessFlags := 26, slot := 10, constantValue := 0 }, { name := "T_BOOLEAN", type := .int, accessFlags := 25, slot := 11, constantValue := 0 }, { name := "T_CHAR", type := .int, accessFlags := 25, slot := 12, constantValue := 0 }, { name := "T_FLOAT", type := .int, accessFlags := 25, slot := 13, constantValue := 0 }, { name := "T_DOUBLE", type := .int, accessFlags := 25, slot := 14, constantValue := 0 }, { name := "T_BYTE", type := .int, accessFlags := 25, slot := 15, constantValue := 0 }, { name := "T_SHORT", type := .int, accessFlags := 25, slot := 16, constantValue := 0 }, { name := "T_INT", type := .int, accessFlags := 25, slot := 17, constantValue := 0 }, { name := "T_LONG", type := .int, accessFlags := 25, slot := 18, constantValue := 0 }, { name := "JLA", type := (.object "jdk/internal/access/JavaLangAccess"), accessFlags := 26, slot := 19, constantValue := 0 }, { name := "SOFT_MAX_ARRAY_LENGTH", type := .int, accessFlags := 25, slot := 20, constantValue := 0 }]
  methods := #[k16m0]
  instanceTypes := #[]
  staticTypes := #[(.object "jdk/internal/misc/Unsafe"), .boolean, .int, .int, .int, .int, .int, .int, .int, .int, .int, .int, .int, .int, .int, .int, .int, .int, .int, (.object "jdk/internal/access/JavaLangAccess"), .int]
  resolved := Array.replicate 378 none
  statics := none }

/-- the primitive byte -/
def k17 : Class := { plain "byte" none with kind := .primitive 'B', accessFlags := 0x411 }
/-- [B -/
def k18 : Class := { plain "[B" (some 0) with kind := .array 17 .byte, interfaces := #[10, 2], accessFlags := 1041 }

/-- the primitive char -/
def k19 : Class := { plain "char" none with kind := .primitive 'C', accessFlags := 0x411 }
/-- [C -/
def k20 : Class := { plain "[C" (some 0) with kind := .array 19 .char, interfaces := #[10, 2], accessFlags := 1041 }

/-- the primitive int -/
def k21 : Class := { plain "int" none with kind := .primitive 'I', accessFlags := 0x411 }
/-- [I -/
def k22 : Class := { plain "[I" (some 0) with kind := .array 21 .int, interfaces := #[10, 2], accessFlags := 1041 }

/-- [Lcom/example/esfahan/esfahan/model/Comparison; -/
def k23 : Class := { plain "[Lcom/example/esfahan/esfahan/model/Comparison;" (some 0) with kind := .array 9 (.object "com/example/esfahan/esfahan/model/Comparison"), interfaces := #[10, 2], accessFlags := 1041 }

def heap : Heap := #[{ cls := 7, slots := #[.long 0, .int 1, .null, .int 0, .null, .int 0, .int 0], vm := .statics 7 },
  { cls := 9, slots := #[.ref 17, .ref 18, .ref 19, .ref 20, .ref 21, .ref 22, .ref 4], vm := .statics 9 },
  { cls := 12, slots := #[.ref 23], vm := .statics 12 },
  { cls := 15, slots := #[.null, .null, .null], vm := .statics 15 },
  { cls := 23, slots := #[.ref 17, .ref 18, .ref 19, .ref 20, .ref 21, .ref 22], vm := .none },
  { cls := 18, slots := #[.int 61, .int 61], vm := .none },
  { cls := 18, slots := #[.int 33, .int 61], vm := .none },
  { cls := 18, slots := #[.int 60], vm := .none },
  { cls := 18, slots := #[.int 60, .int 61], vm := .none },
  { cls := 18, slots := #[.int 62], vm := .none },
  { cls := 18, slots := #[.int 62, .int 61], vm := .none },
  { cls := 7, slots := #[.ref 5, .int 0, .int 0, .int 0], vm := .none },
  { cls := 7, slots := #[.ref 6, .int 0, .int 0, .int 0], vm := .none },
  { cls := 7, slots := #[.ref 7, .int 0, .int 0, .int 0], vm := .none },
  { cls := 7, slots := #[.ref 8, .int 0, .int 0, .int 0], vm := .none },
  { cls := 7, slots := #[.ref 9, .int 0, .int 0, .int 0], vm := .none },
  { cls := 7, slots := #[.ref 10, .int 0, .int 0, .int 0], vm := .none },
  { cls := 9, slots := #[.null, .int 0, .int 0, .ref 11], vm := .none },
  { cls := 9, slots := #[.null, .int 1, .int 0, .ref 12], vm := .none },
  { cls := 9, slots := #[.null, .int 2, .int 0, .ref 13], vm := .none },
  { cls := 9, slots := #[.null, .int 3, .int 0, .ref 14], vm := .none },
  { cls := 9, slots := #[.null, .int 4, .int 0, .ref 15], vm := .none },
  { cls := 9, slots := #[.null, .int 5, .int 0, .ref 16], vm := .none },
  { cls := 12, slots := #[.null], vm := .none }]
def classes : Array Class := #[k0, k1, k2, k3, k4, k5, k6, k7, k8, k9, k10, k11, k12, k13, k14, k15, k16, k17, k18, k19, k20, k21, k22, k23]
def interned : List (Array UInt16 × Addr) := []
def slotsUsed : Nat := 83
def theMethod : MethodId := ⟨1, 3⟩
def args0 : Array Value := #[.int 1, .int 2, .int 3, .int 4]
def aboutOver (below : List Frame) : State where
  vm := { classes := classes, interned := interned.toArray }
  heap := heap
  slotsUsed := slotsUsed
  threads := #[{ frames := .invoking theMethod args0 :: below }]
def below0 : List Frame := [.native { method := ⟨0, 0⟩, args := #[] }]
def about1 : State := aboutOver below0
def p0 : Program := .bare "" "" ""
def e0 : Env := launch0.env 0 0 0
theorem w_frames : about1.frames = Frame.invoking theMethod args0 :: below0 := rfl
set_option maxRecDepth 65536 in
theorem w_args : argsFit about1.vm theMethod args0 = true := by decide +kernel
set_option maxRecDepth 65536 in
theorem w_heap : heapFits about1 = true := by decide +kernel
set_option maxRecDepth 65536 in
theorem w_runnable : about1.curStatus? = some .runnable := by decide +kernel
set_option maxRecDepth 65536 in
theorem w_alone : about1.alone = true := by decide +kernel
set_option maxRecDepth 65536 in
theorem w_named : about1.methodNamed? x = some theMethod := by decide +kernel
set_option maxRecDepth 65536 in
theorem w_hears : about1.hears theMethod below0 = true := by decide +kernel
set_option maxRecDepth 65536 in
theorem w_ripe : about1.ripe theMethod args0 below0 = true := by decide +kernel
theorem w_running : about1.status = .running := rfl
set_option maxRecDepth 65536 in
theorem w_room : about1.hasRoom e0.platform room_1 = true :=
  launch0.hasRoom_least _ room_1 (by decide +kernel) (by decide +kernel) (by decide +kernel) (by decide +kernel) (by decide +kernel) (by decide +kernel)
theorem allAtoms_all (ts : List Jvm.Cond) (a : Array Jvm.Value) (st : Jvm.State) : (allAtoms ts).before a st = ts.all (fun c => c.before a st) := by
  induction ts with
  | nil => rfl
  | cons c t ih =>
    show (Jvm.Cond.and c (allAtoms t)).before a st = _
    rw [Jvm.Cond.before_and, ih, List.all_cons]
def words1 : List Jvm.Cond := Jvm.Cond.code x code maxLocals ret :: tables_1
/-- a 'code' word, met by the world's own term for the bytes: nothing is compared byte by byte -/
theorem code_word {y : MethodName} {bytes : ByteArray} {mx : Nat} {rt : Option FieldType} {a : Array Value} {s : State} {m : MethodId} {meth : Method} {c : Code} (h1 : s.methodNamed? y = some m) (h2 : s.vm.method? m = some meth) (h3 : meth.code = some c) (h4 : c.code = bytes)
    (h5 : (c.maxLocals == mx && c.exceptionTable.isEmpty && decide (c.maxStack ≤ mostOperands) && decide (meth.sig.returnType = rt) && !meth.locks && decide (parseMethodDescriptor y.desc = some meth.sig)) = true) : (Jvm.Cond.code y bytes mx rt).before a s = true := by
  simp only [Bool.and_eq_true, beq_iff_eq, Bool.not_eq_true', decide_eq_true_eq] at h5
  obtain ⟨⟨⟨⟨⟨g1, g2⟩, g3⟩, g4⟩, g5⟩, g6⟩ := h5
  simp [Cond.before, Cond.holds, Cond.value, h1, h2, h3, h4, g1, g2, g3, g4, g5, g6]
def isCode : Jvm.Cond → Bool
  | .code _ _ _ _ => true
  | _ => false
theorem all_split {L : List Jvm.Cond} {P : Jvm.Cond → Bool} (h1 : L.all (fun c => isCode c || P c) = true) (h2 : ∀ c ∈ L.filter isCode, P c = true) : L.all P = true := by
  refine List.all_eq_true.mpr fun c hc => ?_
  have h := List.all_eq_true.mp h1 c hc
  rcases Bool.eq_false_or_eq_true (isCode c) with hi | hi
  · exact h2 c (List.mem_filter.mpr ⟨hc, hi⟩)
  · simpa [hi] using h
set_option maxRecDepth 65536 in
theorem w_c0 : (Jvm.Cond.code x code maxLocals ret).before args0 about1 = true := code_word (m := ⟨1, 3⟩) (meth := k1m3) (c := k1c3) (by decide +kernel) rfl rfl rfl (by decide +kernel)
set_option maxRecDepth 65536 in
theorem w_c1 : (Jvm.Cond.code ({ cls := "com/example/esfahan/esfahan/model/ComparisonOfSymbolPinLaw", name := "pick", desc := "(I)C" } : Jvm.MethodName) method_2_code (2 : Nat) (Option.some Jvm.ClassFile.FieldType.char)).before args0 about1 = true := code_word (m := ⟨1, 1⟩) (meth := k1m1) (c := k1c1) (by decide +kernel) rfl rfl rfl (by decide +kernel)
set_option maxRecDepth 65536 in
theorem w_c2 : (Jvm.Cond.code ({ cls := "java/lang/String", name := "<init>", desc := "([C)V" } : Jvm.MethodName) jdk_42_method_3_code (2 : Nat) (Option.none : Option Jvm.ClassFile.FieldType)).before args0 about1 = true := code_word (m := ⟨7, 1⟩) (meth := k7m1) (c := k7c1) (by decide +kernel) rfl rfl rfl (by decide +kernel)
set_option maxRecDepth 65536 in
theorem w_c3 : (Jvm.Cond.code ({ cls := "java/lang/String", name := "<init>", desc := "([CIILjava/lang/Void;)V" } : Jvm.MethodName) jdk_42_method_149_code (6 : Nat) (Option.none : Option Jvm.ClassFile.FieldType)).before args0 about1 = true := code_word (m := ⟨7, 3⟩) (meth := k7m3) (c := k7c3) (by decide +kernel) rfl rfl rfl (by decide +kernel)
set_option maxRecDepth 65536 in
theorem w_c4 : (Jvm.Cond.code ({ cls := "java/lang/Object", name := "<init>", desc := "()V" } : Jvm.MethodName) object_method_1_code (1 : Nat) (Option.none : Option Jvm.ClassFile.FieldType)).before args0 about1 = true := code_word (m := ⟨0, 0⟩) (meth := k0m0) (c := k0c0) (by decide +kernel) rfl rfl rfl (by decide +kernel)
set_option maxRecDepth 65536 in
theorem w_c5 : (Jvm.Cond.code ({ cls := "com/example/esfahan/esfahan/model/ComparisonOfSymbolPinLaw", name := "expect", desc := "(ICC)Lcom/example/esfahan/esfahan/model/Comparison;" } : Jvm.MethodName) method_3_code (3 : Nat) (Option.some (Jvm.ClassFile.FieldType.object "com/example/esfahan/esfahan/model/Comparison"))).before args0 about1 = true := code_word (m := ⟨1, 2⟩) (meth := k1m2) (c := k1c2) (by decide +kernel) rfl rfl rfl (by decide +kernel)
set_option maxRecDepth 65536 in
theorem w_c6 : (Jvm.Cond.code ({ cls := "com/example/esfahan/esfahan/model/Comparison", name := "ofSymbol", desc := "(Ljava/lang/String;)Ljava/util/Optional;" } : Jvm.MethodName) prog_47_method_4_code (5 : Nat) (Option.some (Jvm.ClassFile.FieldType.object "java/util/Optional"))).before args0 about1 = true := code_word (m := ⟨9, 1⟩) (meth := k9m1) (c := k9c1) (by decide +kernel) rfl rfl rfl (by decide +kernel)
set_option maxRecDepth 65536 in
theorem w_c7 : (Jvm.Cond.code ({ cls := "com/example/esfahan/esfahan/model/Comparison", name := "values", desc := "()[Lcom/example/esfahan/esfahan/model/Comparison;" } : Jvm.MethodName) prog_47_method_1_code (0 : Nat) (Option.some (Jvm.ClassFile.FieldType.array (Jvm.ClassFile.FieldType.object "com/example/esfahan/esfahan/model/Comparison")))).before args0 about1 = true := code_word (m := ⟨9, 0⟩) (meth := k9m0) (c := k9c0) (by decide +kernel) rfl rfl rfl (by decide +kernel)
set_option maxRecDepth 65536 in
theorem w_c8 : (Jvm.Cond.code ({ cls := "java/lang/String", name := "equals", desc := "(Ljava/lang/Object;)Z" } : Jvm.MethodName) jdk_42_method_66_code (3 : Nat) (Option.some Jvm.ClassFile.FieldType.boolean)).before args0 about1 = true := code_word (m := ⟨7, 2⟩) (meth := k7m2) (c := k7c2) (by decide +kernel) rfl rfl rfl (by decide +kernel)
set_option maxRecDepth 65536 in
theorem w_c9 : (Jvm.Cond.code ({ cls := "java/lang/StringLatin1", name := "equals", desc := "([B[B)Z" } : Jvm.MethodName) jdk_43_method_13_code (3 : Nat) (Option.some Jvm.ClassFile.FieldType.boolean)).before args0 about1 = true := code_word (m := ⟨11, 1⟩) (meth := k11m1) (c := k11c1) (by decide +kernel) rfl rfl rfl (by decide +kernel)
set_option maxRecDepth 65536 in
theorem w_c10 : (Jvm.Cond.code ({ cls := "java/util/Optional", name := "empty", desc := "()Ljava/util/Optional;" } : Jvm.MethodName) jdk_32_method_1_code (1 : Nat) (Option.some (Jvm.ClassFile.FieldType.object "java/util/Optional"))).before args0 about1 = true := code_word (m := ⟨12, 0⟩) (meth := k12m0) (c := k12c0) (by decide +kernel) rfl rfl rfl (by decide +kernel)
set_option maxRecDepth 65536 in
theorem w_c11 : (Jvm.Cond.code ({ cls := "java/util/Optional", name := "orElse", desc := "(Ljava/lang/Object;)Ljava/lang/Object;" } : Jvm.MethodName) jdk_32_method_15_code (2 : Nat) (Option.some (Jvm.ClassFile.FieldType.object "java/lang/Object"))).before args0 about1 = true := code_word (m := ⟨12, 3⟩) (meth := k12m3) (c := k12c3) (by decide +kernel) rfl rfl rfl (by decide +kernel)
set_option maxRecDepth 65536 in
theorem w_c12 : (Jvm.Cond.code ({ cls := "java/lang/StringUTF16", name := "compress", desc := "([CII)[B" } : Jvm.MethodName) jdk_52_method_16_code (6 : Nat) (Option.some (Jvm.ClassFile.FieldType.array Jvm.ClassFile.FieldType.byte))).before args0 about1 = true := code_word (m := ⟨13, 2⟩) (meth := k13m2) (c := k13c2) (by decide +kernel) rfl rfl rfl (by decide +kernel)
set_option maxRecDepth 65536 in
theorem w_c13 : (Jvm.Cond.code ({ cls := "java/lang/StringUTF16", name := "compress", desc := "([CI[BII)I" } : Jvm.MethodName) jdk_52_method_21_code (7 : Nat) (Option.some Jvm.ClassFile.FieldType.int)).before args0 about1 = true := code_word (m := ⟨13, 3⟩) (meth := k13m3) (c := k13c3) (by decide +kernel) rfl rfl rfl (by decide +kernel)
set_option maxRecDepth 65536 in
theorem w_c14 : (Jvm.Cond.code ({ cls := "java/lang/StringUTF16", name := "coderFromArrayLen", desc := "([BI)B" } : Jvm.MethodName) jdk_52_method_15_code (2 : Nat) (Option.some Jvm.ClassFile.FieldType.byte)).before args0 about1 = true := code_word (m := ⟨13, 1⟩) (meth := k13m1) (c := k13c1) (by decide +kernel) rfl rfl rfl (by decide +kernel)
set_option maxRecDepth 65536 in
theorem w_c15 : (Jvm.Cond.code ({ cls := "java/util/Optional", name := "of", desc := "(Ljava/lang/Object;)Ljava/util/Optional;" } : Jvm.MethodName) jdk_32_method_3_code (1 : Nat) (Option.some (Jvm.ClassFile.FieldType.object "java/util/Optional"))).before args0 about1 = true := code_word (m := ⟨12, 2⟩) (meth := k12m2) (c := k12c2) (by decide +kernel) rfl rfl rfl (by decide +kernel)
set_option maxRecDepth 65536 in
theorem w_c16 : (Jvm.Cond.code ({ cls := "java/util/Objects", name := "requireNonNull", desc := "(Ljava/lang/Object;)Ljava/lang/Object;" } : Jvm.MethodName) jdk_31_method_10_code (1 : Nat) (Option.some (Jvm.ClassFile.FieldType.object "java/lang/Object"))).before args0 about1 = true := code_word (m := ⟨14, 1⟩) (meth := k14m1) (c := k14c1) (by decide +kernel) rfl rfl rfl (by decide +kernel)
set_option maxRecDepth 65536 in
theorem w_c17 : (Jvm.Cond.code ({ cls := "java/util/Optional", name := "<init>", desc := "(Ljava/lang/Object;)V" } : Jvm.MethodName) jdk_32_method_2_code (2 : Nat) (Option.none : Option Jvm.ClassFile.FieldType)).before args0 about1 = true := code_word (m := ⟨12, 1⟩) (meth := k12m1) (c := k12c1) (by decide +kernel) rfl rfl rfl (by decide +kernel)
def codes1 : List Jvm.Cond := [Jvm.Cond.code x code maxLocals ret, Jvm.Cond.code ({ cls := "com/example/esfahan/esfahan/model/ComparisonOfSymbolPinLaw", name := "pick", desc := "(I)C" } : Jvm.MethodName) method_2_code (2 : Nat) (Option.some Jvm.ClassFile.FieldType.char), Jvm.Cond.code ({ cls := "java/lang/String", name := "<init>", desc := "([C)V" } : Jvm.MethodName) jdk_42_method_3_code (2 : Nat) (Option.none : Option Jvm.ClassFile.FieldType), Jvm.Cond.code ({ cls := "java/lang/String", name := "<init>", desc := "([CIILjava/lang/Void;)V" } : Jvm.MethodName) jdk_42_method_149_code (6 : Nat) (Option.none : Option Jvm.ClassFile.FieldType), Jvm.Cond.code ({ cls := "java/lang/Object", name := "<init>", desc := "()V" } : Jvm.MethodName) object_method_1_code (1 : Nat) (Option.none : Option Jvm.ClassFile.FieldType), Jvm.Cond.code ({ cls := "com/example/esfahan/esfahan/model/ComparisonOfSymbolPinLaw", name := "expect", desc := "(ICC)Lcom/example/esfahan/esfahan/model/Comparison;" } : Jvm.MethodName) method_3_code (3 : Nat) (Option.some (Jvm.ClassFile.FieldType.object "com/example/esfahan/esfahan/model/Comparison")), Jvm.Cond.code ({ cls := "com/example/esfahan/esfahan/model/Comparison", name := "ofSymbol", desc := "(Ljava/lang/String;)Ljava/util/Optional;" } : Jvm.MethodName) prog_47_method_4_code (5 : Nat) (Option.some (Jvm.ClassFile.FieldType.object "java/util/Optional")), Jvm.Cond.code ({ cls := "com/example/esfahan/esfahan/model/Comparison", name := "values", desc := "()[Lcom/example/esfahan/esfahan/model/Comparison;" } : Jvm.MethodName) prog_47_method_1_code (0 : Nat) (Option.some (Jvm.ClassFile.FieldType.array (Jvm.ClassFile.FieldType.object "com/example/esfahan/esfahan/model/Comparison"))), Jvm.Cond.code ({ cls := "java/lang/String", name := "equals", desc := "(Ljava/lang/Object;)Z" } : Jvm.MethodName) jdk_42_method_66_code (3 : Nat) (Option.some Jvm.ClassFile.FieldType.boolean), Jvm.Cond.code ({ cls := "java/lang/StringLatin1", name := "equals", desc := "([B[B)Z" } : Jvm.MethodName) jdk_43_method_13_code (3 : Nat) (Option.some Jvm.ClassFile.FieldType.boolean), Jvm.Cond.code ({ cls := "java/util/Optional", name := "empty", desc := "()Ljava/util/Optional;" } : Jvm.MethodName) jdk_32_method_1_code (1 : Nat) (Option.some (Jvm.ClassFile.FieldType.object "java/util/Optional")), Jvm.Cond.code ({ cls := "java/util/Optional", name := "orElse", desc := "(Ljava/lang/Object;)Ljava/lang/Object;" } : Jvm.MethodName) jdk_32_method_15_code (2 : Nat) (Option.some (Jvm.ClassFile.FieldType.object "java/lang/Object")), Jvm.Cond.code ({ cls := "java/lang/StringUTF16", name := "compress", desc := "([CII)[B" } : Jvm.MethodName) jdk_52_method_16_code (6 : Nat) (Option.some (Jvm.ClassFile.FieldType.array Jvm.ClassFile.FieldType.byte)), Jvm.Cond.code ({ cls := "java/lang/StringUTF16", name := "compress", desc := "([CI[BII)I" } : Jvm.MethodName) jdk_52_method_21_code (7 : Nat) (Option.some Jvm.ClassFile.FieldType.int), Jvm.Cond.code ({ cls := "java/lang/StringUTF16", name := "coderFromArrayLen", desc := "([BI)B" } : Jvm.MethodName) jdk_52_method_15_code (2 : Nat) (Option.some Jvm.ClassFile.FieldType.byte), Jvm.Cond.code ({ cls := "java/util/Optional", name := "of", desc := "(Ljava/lang/Object;)Ljava/util/Optional;" } : Jvm.MethodName) jdk_32_method_3_code (1 : Nat) (Option.some (Jvm.ClassFile.FieldType.object "java/util/Optional")), Jvm.Cond.code ({ cls := "java/util/Objects", name := "requireNonNull", desc := "(Ljava/lang/Object;)Ljava/lang/Object;" } : Jvm.MethodName) jdk_31_method_10_code (1 : Nat) (Option.some (Jvm.ClassFile.FieldType.object "java/lang/Object")), Jvm.Cond.code ({ cls := "java/util/Optional", name := "<init>", desc := "(Ljava/lang/Object;)V" } : Jvm.MethodName) jdk_32_method_2_code (2 : Nat) (Option.none : Option Jvm.ClassFile.FieldType)]
set_option maxRecDepth 65536 in
theorem codes_eq : words1.filter isCode = codes1 := rfl
theorem w_codes : ∀ c ∈ words1.filter isCode, c.before args0 about1 = true := by
  rw [codes_eq]
  intro c hc
  simp only [codes1, List.mem_cons, List.not_mem_nil, or_false] at hc
  rcases hc with rfl | rfl | rfl | rfl | rfl | rfl | rfl | rfl | rfl | rfl | rfl | rfl | rfl | rfl | rfl | rfl | rfl | rfl
  · exact w_c0
  · exact w_c1
  · exact w_c2
  · exact w_c3
  · exact w_c4
  · exact w_c5
  · exact w_c6
  · exact w_c7
  · exact w_c8
  · exact w_c9
  · exact w_c10
  · exact w_c11
  · exact w_c12
  · exact w_c13
  · exact w_c14
  · exact w_c15
  · exact w_c16
  · exact w_c17
set_option maxRecDepth 65536 in
theorem w_t1 : (words1.take 24).all (fun c => isCode c || c.before args0 about1) = true := by decide +kernel
set_option maxRecDepth 65536 in
theorem w_t2 : ((words1.drop 24).take 24).all (fun c => isCode c || c.before args0 about1) = true := by decide +kernel
set_option maxRecDepth 65536 in
theorem w_t3 : (((words1.drop 24).drop 24).take 24).all (fun c => isCode c || c.before args0 about1) = true := by decide +kernel
set_option maxRecDepth 65536 in
theorem w_t4 : ((((words1.drop 24).drop 24).drop 24).take 24).all (fun c => isCode c || c.before args0 about1) = true := by decide +kernel
set_option maxRecDepth 65536 in
theorem w_t5 : ((((words1.drop 24).drop 24).drop 24).drop 24).all (fun c => isCode c || c.before args0 about1) = true := by decide +kernel
theorem w_tables : (allAtoms (Jvm.Cond.code x code maxLocals ret :: tables_1)).before args0 about1 = true := by
  rw [allAtoms_all]
  show words1.all (fun c => c.before args0 about1) = true
  refine all_split ?_ w_codes
  rw [← List.take_append_drop 24 words1, List.all_append, w_t1, ← List.take_append_drop 24 (words1.drop 24), List.all_append, w_t2, ← List.take_append_drop 24 ((words1.drop 24).drop 24), List.all_append, w_t3, ← List.take_append_drop 24 (((words1.drop 24).drop 24).drop 24), List.all_append, w_t4, w_t5]
  rfl
set_option maxRecDepth 65536 in
theorem w_rest : rest_1_c.before args0 about1 = true := by decide +kernel
set_option maxRecDepth 65536 in
theorem w_case : (Jvm.Cond.and given_1 narrow_1).before args0 about1 = true := by decide +kernel
set_option maxRecDepth 65536 in
theorem w_consts : constsHeld consts_1 about1 := Jvm.Lit.constsHeldB_iff.mp (by decide +kernel)
theorem w_applies : (headSpec (Jvm.Cond.code x code maxLocals ret :: tables_1) room_1).applies x e0.platform about1 = true :=
  (Spec.applies_iff w_frames).mpr ⟨w_running, w_runnable, w_alone, w_named, w_hears, w_ripe, w_room, w_tables⟩
theorem atStart : AtStart classFile x code maxLocals ret World_1 tables_1 room_1 Calls_1 rest_1 Pre_1 launch0 p0 e0 about1 theMethod args0 below0 :=
  ⟨lists_1, trivial, launch0.admits_env _ _ _, launch0.least_env, fairChoices_fair.cas, fairChoices_fair.clock, w_frames, w_args, w_heap, w_applies, ⟨w_consts, trivial⟩, w_rest, w_case⟩
end start1
theorem witness_1 : WitnessClaimed_1 := ⟨start1.p0, start1.e0, start1.about1, start1.theMethod, start1.args0, start1.below0, start1.atStart⟩
end Jvm.Pilot.@@N@@
