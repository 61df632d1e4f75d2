import JvmDerived
import JvmDerived.Pilot.@@N@@Statement
import JvmDerived.Pilot.@@N@@Code
set_option linter.unusedVariables false
set_option linter.unusedSimpArgs false
/- laws to paste: Road.backV (cut by pick.py; bodies as the Statement names them) -/
namespace Jvm.Pilot.@@N@@
namespace StrChars
open Jvm Sem ClassFile Op Lib Jvm.Stand Jvm.Free.XT Jvm.Free.ALB Jvm.Free.JM Jvm.Free
open Jvm.Lib.Cold (StaticIs)
/-- a char array whose places are chars -/
def Ch (a : Addr) (A : Cell) (U : State) : Prop := Arr .char a A U ∧ Typed .char A
theorem Ch.mv {a : Addr} {A : Cell} {U U' : State} (h : Ch a A U) (hal : U.vm.Alike U'.vm) (hh : U'.heap = U.heap) : Ch a A U' := ⟨h.1.mv hal hh, h.2⟩
theorem Ch.keep {a : Addr} {A : Cell} {U U' : State} (h : Ch a A U) (hal : U.vm.Alike U'.vm) (hk : U'.heap[a]? = some A) : Ch a A U' := ⟨h.1.keep hal hk, h.2⟩
/-- what place i of a char[]'s cell holds -/
def cv (A : Cell) (i : Nat) : Int32 := match A.slots[i]? with | some (.int x) => x | _ => 0
theorem Ch.get {a : Addr} {A : Cell} {U : State} (h : Ch a A U) {i : Nat} (hi : i < A.slots.size) : A.slots[i]? = some (.int (cv A i)) := by
  have e := Array.getElem?_eq_getElem hi
  have f := h.2 i _ e
  unfold cv; rw [e]
  generalize A.slots[i] = v at f
  cases v <;> simp [fits] at f ⊢
/-- the byte that i2b leaves of a char -/
def lo8 (x : Int32) : Int32 := x.toInt8.toInt32
theorem fits_lo8 (y : Int32) : fits .byte (.int (lo8 y)) = true := by
  have h1 := y.toInt8.le_toInt
  have h2 := y.toInt8.toInt_lt
  simp only [lo8, fits, Bool.and_eq_true, decide_eq_true_eq, Int32.le_iff_toInt_le, Int8.toInt_toInt32, show (-128 : Int32).toInt = -128 from by decide, show (127 : Int32).toInt = 127 from by decide]
  omega
/-- A' is A but that each place j of lo .. hi - 1 holds f j -/
def Laid (A A' : Cell) (lo hi : Nat) (f : Nat → Value) : Prop := A'.cls = A.cls ∧ A'.vm = A.vm ∧ A'.slots.size = A.slots.size ∧ ∀ i, A'.slots[i]? = if lo ≤ i ∧ i < hi then some (f i) else A.slots[i]?
theorem Laid.zero (A : Cell) (lo : Nat) (f : Nat → Value) : Laid A A lo (lo + 0) f := ⟨rfl, rfl, rfl, fun i => by rw [if_neg (by omega)]⟩
theorem Laid.step {A Ak : Cell} {lo k : Nat} {f : Nat → Value} {v : Value} (h : Laid A Ak lo k f) (hlo : lo ≤ k) (hk : k < Ak.slots.size) (hv : v = f k) : Laid A (Ak.setSlot k v) lo (k + 1) f := by
  refine ⟨h.1, h.2.1, by simpa [Cell.setSlot] using h.2.2.1, fun i => ?_⟩
  by_cases e : k = i
  · subst e; rw [Cell.slots_setSlot_self v hk, if_pos (by omega), hv]
  · rw [Cell.slots_setSlot_ne v e, h.2.2.2 i]
    by_cases q : lo ≤ i ∧ i < k
    · rw [if_pos q, if_pos (by omega)]
    · rw [if_neg q, if_neg (by omega)]
def U16 : String := "java/lang/StringUTF16"
namespace Cmp5
def yN : MethodName := ⟨"java/lang/StringUTF16", "compress", "([CI[BII)I"⟩
abbrev yB : ByteArray := jdk_52_method_21_code
theorem d0 : decode yB 0 = .ok (.iconst 0, 1) := by decide +kernel
theorem d1 : decode yB 1 = .ok (.istore 5, 2) := by decide +kernel
theorem d3 : decode yB 3 = .ok (.iload 5, 2) := by decide +kernel
theorem d5 : decode yB 5 = .ok (.iload 4, 2) := by decide +kernel
theorem d7 : decode yB 7 = .ok (.if_icmp (.ge) 37, 3) := by decide +kernel
theorem d10 : decode yB 10 = .ok (.aload_n 0, 1) := by decide +kernel
theorem d11 : decode yB 11 = .ok (.iload_n 1, 1) := by decide +kernel
theorem d12 : decode yB 12 = .ok (.caload, 1) := by decide +kernel
theorem d13 : decode yB 13 = .ok (.istore 6, 2) := by decide +kernel
theorem d15 : decode yB 15 = .ok (.iload 6, 2) := by decide +kernel
theorem d17 : decode yB 17 = .ok (.sipush 255, 3) := by decide +kernel
theorem d20 : decode yB 20 = .ok (.if_icmp (.le) 6, 3) := by decide +kernel
theorem d26 : decode yB 26 = .ok (.aload_n 2, 1) := by decide +kernel
theorem d27 : decode yB 27 = .ok (.iload_n 3, 1) := by decide +kernel
theorem d28 : decode yB 28 = .ok (.iload 6, 2) := by decide +kernel
theorem d30 : decode yB 30 = .ok (.i2b, 1) := by decide +kernel
theorem d31 : decode yB 31 = .ok (.bastore, 1) := by decide +kernel
theorem d32 : decode yB 32 = .ok (.iinc 1 1, 3) := by decide +kernel
theorem d35 : decode yB 35 = .ok (.iinc 3 1, 3) := by decide +kernel
theorem d38 : decode yB 38 = .ok (.iinc 5 1, 3) := by decide +kernel
theorem d41 : decode yB 41 = .ok (.goto (-38), 3) := by decide +kernel
theorem d44 : decode yB 44 = .ok (.iload 4, 2) := by decide +kernel
theorem d46 : decode yB 46 = .ok (.ireturn, 1) := by decide +kernel
def site : List Cond := []
def tab : Cond := tabOf yN yB 7 (some .int) site
def P (b : Addr) (A : Cell) (d : Addr) (B : Cell) (o q len : Nat) (args : Array Value) (s : State) : Prop := args = #[.ref b, .int (Int32.ofNat o), .ref d, .int (Int32.ofNat q), .int (Int32.ofNat len)] ∧ Ch b A s ∧ Arr .byte d B s ∧ b ≠ d ∧ o + len ≤ A.slots.size ∧ q + len ≤ B.slots.size ∧ ∀ i, i < len → ¬ 255 < cv A (o + i)
def E (b : Addr) (A : Cell) (d : Addr) (B : Cell) (o q len : Nat) (r : Option Value) (s u : State) : Prop := r = some (.int (Int32.ofNat len)) ∧ ∃ B', Put d B' s u ∧ Laid B B' q (q + len) (fun j => Value.int (lo8 (cv A (o + (j - q)))))
/-- no char of the range above 255: len; the places written hold each char's low byte -/
theorem law (l : Launch) (b : Addr) (A : Cell) (d : Addr) (B : Cell) (o q len : Nat) : Law l yN 5 5 0 0 yB 7 (some .int) site (P b A d B o q len) (E b A d B o q len) (copyLocs d q len) 0 0 := by
  refine Law.of_walk (plainFor_of_name (by decide +kernel)) (by decide +kernel) (by decide +kernel) (by decide) (fun _ _ h => by rw [h.1]; rfl) (fun _ U U' hal hh h => ⟨h.1, h.2.1.mv hal hh, h.2.2.1.mv hal hh, h.2.2.2⟩) (fun r U U' V V' h1 hal h2 h => ⟨h.1, h.2.elim fun B' q => ⟨B', q.1.mv h1 h2, q.2⟩⟩) ?_
  intro p e s m args below meth c s₁ X0 hexec hbytes hml hret hlk hnm hown hh0 W hP
  obtain ⟨rfl, hA, hB, hne, l1, l2, hp⟩ := hP
  have c1 : Steps p.tables e below (s₁.setTop (entryFrame m #[.ref b, .int (Int32.ofNat o), .ref d, .int (Int32.ofNat q), .int (Int32.ofNat len)] 7)) (s₁.setTop (mkF m 0 #[.val (.ref b), .val (.int (Int32.ofNat o)), .val (.ref d), .val (.int (Int32.ofNat q)), .val (.int (Int32.ofNat len)), .unset, .unset] [])) := entry rfl
  have hA0 := hA.1.mv X0.warmed.alike hh0
  have hB0 := hB.mv X0.warmed.alike hh0
  have a31 := hA.1.2.2.2
  have c2 : Steps p.tables e below (s₁.setTop (entryFrame m #[.ref b, .int (Int32.ofNat o), .ref d, .int (Int32.ofNat q), .int (Int32.ofNat len)] 7)) (s₁.setTop (mkF m 3 #[.val (.ref b), .val (.int (Int32.ofNat o)), .val (.ref d), .val (.int (Int32.ofNat q)), .val (.int (Int32.ofNat len)), .val (.int 0), .unset] [])) := c1.trans (by
    refine iconstV X0.here hexec rfl 0 (hb hbytes d0) (by decide) ?_
    refine XS.istore X0.here hexec rfl (hb hbytes d1) rfl rfl ?_
    exact Steps.refl _)
  have loop : ∀ (r i : Nat), i + r = len → ∀ (z : Slot), (z = .unset ∨ ∃ w, z = .val w ∧ w.category = 1) → ∀ (Tl : State) (Bk : Cell), Stand p l e { frames := 0, locals := 0, cells := 0, slots := 0 } s m #[.ref b, .int (Int32.ofNat o), .ref d, .int (Int32.ofNat q), .int (Int32.ofNat len)] below meth c Tl ([] ++ copyLocs d q i) 0 0 → Put d Bk s₁ Tl → Laid B Bk q (q + i) (fun j => Value.int (lo8 (cv A (o + (j - q))))) →
      Steps p.tables e below (s₁.setTop (entryFrame m #[.ref b, .int (Int32.ofNat o), .ref d, .int (Int32.ofNat q), .int (Int32.ofNat len)] 7)) (Tl.setTop (mkF m 3 #[.val (.ref b), .val (.int (Int32.ofNat (o + i))), .val (.ref d), .val (.int (Int32.ofNat (q + i))), .val (.int (Int32.ofNat len)), .val (.int (Int32.ofNat i)), z] [])) → ∃ (T' : State) (B' : Cell) (z' : Slot), Stand p l e { frames := 0, locals := 0, cells := 0, slots := 0 } s m #[.ref b, .int (Int32.ofNat o), .ref d, .int (Int32.ofNat q), .int (Int32.ofNat len)] below meth c T' ([] ++ copyLocs d q len) 0 0 ∧ Put d B' s₁ T' ∧ Laid B B' q (q + len) (fun j => Value.int (lo8 (cv A (o + (j - q))))) ∧
      Steps p.tables e below (s₁.setTop (entryFrame m #[.ref b, .int (Int32.ofNat o), .ref d, .int (Int32.ofNat q), .int (Int32.ofNat len)] 7)) (T'.setTop (mkF m 3 #[.val (.ref b), .val (.int (Int32.ofNat (o + len))), .val (.ref d), .val (.int (Int32.ofNat (q + len))), .val (.int (Int32.ofNat len)), .val (.int (Int32.ofNat len)), z'] [])) := by
    intro r
    induction r with
    | zero =>
      intro i hi z hz Tl Bk Xl pl fl cl
      have hil : i = len := by omega
      rw [hil] at Xl fl cl
      exact ⟨Tl, Bk, z, Xl, pl, fl, cl⟩
    | succ r ih =>
      intro i hi z hz Tl Bk Xl pl fl cl
      have all := X0.warmed.alike.symm.trans Xl.warmed.alike
      have hAl := hA0.keep all (pl.other hne hA0.1)
      have hBk := hB0.like all pl.1 fl.1 fl.2.1 fl.2.2.1
      have hlt : q + i < Bk.slots.size := by rw [fl.2.2.1]; omega
      have c3 : Steps p.tables e below (s₁.setTop (entryFrame m #[.ref b, .int (Int32.ofNat o), .ref d, .int (Int32.ofNat q), .int (Int32.ofNat len)] 7)) (Tl.setTop (mkF m 12 #[.val (.ref b), .val (.int (Int32.ofNat (o + i))), .val (.ref d), .val (.int (Int32.ofNat (q + i))), .val (.int (Int32.ofNat len)), .val (.int (Int32.ofNat i)), z] [.int (Int32.ofNat (o + i)), .ref b])) := cl.trans (by
        refine XS.iload Xl.here hexec rfl (hb hbytes d3) rfl ?_
        refine XS.iload Xl.here hexec rfl (hb hbytes d5) rfl ?_
        refine XS.icmpNo Xl.here hexec rfl (hb hbytes d7) rfl (ii_ge_f (lt32 (by omega) (by omega))) ?_
        refine XS.aloadN Xl.here hexec rfl (hb hbytes d10) rfl rfl ?_
        refine XS.iloadN Xl.here hexec rfl (hb hbytes d11) rfl ?_
        exact Steps.refl _)
      have c4 : Steps p.tables e below (s₁.setTop (entryFrame m #[.ref b, .int (Int32.ofNat o), .ref d, .int (Int32.ofNat q), .int (Int32.ofNat len)] 7)) (Tl.setTop (mkF m 13 #[.val (.ref b), .val (.int (Int32.ofNat (o + i))), .val (.ref d), .val (.int (Int32.ofNat (q + i))), .val (.int (Int32.ofNat len)), .val (.int (Int32.ofNat i)), z] [.int (cv A (o + i))])) := c3.trans (by
        refine Xl.aget hexec hAl rfl (hA.get (i := o + i) (by omega)) rfl rfl (hb hbytes d12) ?_
        exact Steps.refl _)
      have c5 : Steps p.tables e below (s₁.setTop (entryFrame m #[.ref b, .int (Int32.ofNat o), .ref d, .int (Int32.ofNat q), .int (Int32.ofNat len)] 7)) (Tl.setTop (mkF m 15 #[.val (.ref b), .val (.int (Int32.ofNat (o + i))), .val (.ref d), .val (.int (Int32.ofNat (q + i))), .val (.int (Int32.ofNat len)), .val (.int (Int32.ofNat i)), .val (.int (cv A (o + i)))] [])) := c4.trans (by
        refine XS.istoreS Xl.here hexec rfl (hb hbytes d13) rfl rfl hz ?_
        exact Steps.refl _)
      have c6 : Steps p.tables e below (s₁.setTop (entryFrame m #[.ref b, .int (Int32.ofNat o), .ref d, .int (Int32.ofNat q), .int (Int32.ofNat len)] 7)) (Tl.setTop (mkF m 31 #[.val (.ref b), .val (.int (Int32.ofNat (o + i))), .val (.ref d), .val (.int (Int32.ofNat (q + i))), .val (.int (Int32.ofNat len)), .val (.int (Int32.ofNat i)), .val (.int (cv A (o + i)))] [.int (lo8 (cv A (o + i))), .int (Int32.ofNat (q + i)), .ref d])) := c5.trans (by
        refine XS.iload Xl.here hexec rfl (hb hbytes d15) rfl ?_
        refine sipushV Xl.here hexec rfl 255 (hb hbytes d17) (by decide) ?_
        refine XS.icmpYes Xl.here hexec rfl (pc0 := 20) rfl (hb hbytes d20) rfl (ii_le_t (hp i (by omega))) (by decide) rfl ?_
        refine XS.aloadN Xl.here hexec rfl (hb hbytes d26) rfl rfl ?_
        refine XS.iloadN Xl.here hexec rfl (hb hbytes d27) rfl ?_
        refine XS.iload Xl.here hexec rfl (hb hbytes d28) rfl ?_
        refine i2b Xl.here hexec rfl (hb hbytes d30) rfl ?_
        exact Steps.refl _)
      obtain ⟨T7, X7, p7, st7⟩ := Xl.aput hexec hBk rfl hlt rfl (fits_lo8 (cv A (o + i))) (g := (mkF m 31 #[.val (.ref b), .val (.int (Int32.ofNat (o + i))), .val (.ref d), .val (.int (Int32.ofNat (q + i))), .val (.int (Int32.ofNat len)), .val (.int (Int32.ofNat i)), .val (.int (cv A (o + i)))] [.int (lo8 (cv A (o + i))), .int (Int32.ofNat (q + i)), .ref d])) rfl (rest := []) rfl (hb hbytes d31)
      have c8 : Steps p.tables e below (s₁.setTop (entryFrame m #[.ref b, .int (Int32.ofNat o), .ref d, .int (Int32.ofNat q), .int (Int32.ofNat len)] 7)) (T7.setTop (mkF m 32 #[.val (.ref b), .val (.int (Int32.ofNat (o + i))), .val (.ref d), .val (.int (Int32.ofNat (q + i))), .val (.int (Int32.ofNat len)), .val (.int (Int32.ofNat i)), .val (.int (cv A (o + i)))] [])) := c6.trans (st7 _ (Steps.refl _))
      have c9 : Steps p.tables e below (s₁.setTop (entryFrame m #[.ref b, .int (Int32.ofNat o), .ref d, .int (Int32.ofNat q), .int (Int32.ofNat len)] 7)) (T7.setTop (mkF m 3 #[.val (.ref b), .val (.int (Int32.ofNat (o + i) + 1)), .val (.ref d), .val (.int (Int32.ofNat (q + i) + 1)), .val (.int (Int32.ofNat len)), .val (.int (Int32.ofNat i + 1)), .val (.int (cv A (o + i)))] [])) := c8.trans (by
        refine iincV X7.here hexec rfl 1 (hb hbytes d32) (by decide) rfl rfl ?_
        refine iincV X7.here hexec rfl 1 (hb hbytes d35) (by decide) rfl rfl ?_
        refine iincV X7.here hexec rfl 1 (hb hbytes d38) (by decide) rfl rfl ?_
        refine XS.goto X7.here hexec rfl (pc0 := 41) rfl (hb hbytes d41) (by decide) rfl ?_
        exact Steps.refl _)
      have c10 : Steps p.tables e below (s₁.setTop (entryFrame m #[.ref b, .int (Int32.ofNat o), .ref d, .int (Int32.ofNat q), .int (Int32.ofNat len)] 7)) (T7.setTop (mkF m 3 #[.val (.ref b), .val (.int (Int32.ofNat (o + (i + 1)))), .val (.ref d), .val (.int (Int32.ofNat (q + (i + 1)))), .val (.int (Int32.ofNat len)), .val (.int (Int32.ofNat (i + 1))), .val (.int (cv A (o + i)))] [])) := by
        have := c9
        rw [succ32, succ32, succ32] at this
        exact this
      exact ih (i + 1) (by omega) _ (Or.inr ⟨_, rfl, rfl⟩) T7 _ (by rw [copyLocs_step, ← List.append_assoc]; exact X7) (pl.trans p7) (fl.step (by omega) hlt (by simp)) c10
  obtain ⟨T9, B9, z9, X9, p9, f9, g9⟩ := loop len 0 (by omega) .unset (Or.inl rfl) s₁ B (by simpa [copyLocs] using X0) ⟨hB0.1, fun _ _ => rfl, rfl⟩ (Laid.zero _ _ _) c2
  have c11 : Steps p.tables e below (s₁.setTop (entryFrame m #[.ref b, .int (Int32.ofNat o), .ref d, .int (Int32.ofNat q), .int (Int32.ofNat len)] 7)) (T9.setTop (mkF m 46 #[.val (.ref b), .val (.int (Int32.ofNat (o + len))), .val (.ref d), .val (.int (Int32.ofNat (q + len))), .val (.int (Int32.ofNat len)), .val (.int (Int32.ofNat len)), z9] [.int (Int32.ofNat len)])) := g9.trans (by
    refine XS.iload X9.here hexec rfl (hb hbytes d3) rfl ?_
    refine XS.iload X9.here hexec rfl (hb hbytes d5) rfl ?_
    refine XS.icmpYes X9.here hexec rfl (pc0 := 7) rfl (hb hbytes d7) rfl (ii_ge_t (nlt32 (by omega) (Nat.le_refl _))) (by decide) rfl ?_
    refine XS.iload X9.here hexec rfl (hb hbytes d44) rfl ?_
    exact Steps.refl _)
  exact ⟨T9, some (.int (Int32.ofNat len)), _, _, _, X9, by simp, rfl, rfl, (fun h => by cases h), ⟨rfl, B9, p9.from hh0, f9⟩, fun fs hl => c11.trans (X9.ireturnOut hexec hret rfl (Or.inl rfl) (hb hbytes d46) hl)⟩
end Cmp5
namespace Cmp3
def yN : MethodName := ⟨"java/lang/StringUTF16", "compress", "([CII)[B"⟩
abbrev yB : ByteArray := jdk_52_method_16_code
theorem d0 : decode yB 0 = .ok (.iload_n 2, 1) := by decide +kernel
theorem d1 : decode yB 1 = .ok (.newarray .byte, 2) := by decide +kernel
theorem d3 : decode yB 3 = .ok (.astore_n 3, 1) := by decide +kernel
theorem d4 : decode yB 4 = .ok (.aload_n 0, 1) := by decide +kernel
theorem d5 : decode yB 5 = .ok (.iload_n 1, 1) := by decide +kernel
theorem d6 : decode yB 6 = .ok (.aload_n 3, 1) := by decide +kernel
theorem d7 : decode yB 7 = .ok (.iconst 0, 1) := by decide +kernel
theorem d8 : decode yB 8 = .ok (.iload_n 2, 1) := by decide +kernel
theorem d9 : decode yB 9 = .ok (.invokestatic 115, 3) := by decide +kernel
theorem d12 : decode yB 12 = .ok (.istore 4, 2) := by decide +kernel
theorem d14 : decode yB 14 = .ok (.iload 4, 2) := by decide +kernel
theorem d16 : decode yB 16 = .ok (.iload_n 2, 1) := by decide +kernel
theorem d17 : decode yB 17 = .ok (.if_icmp (.eq) 40, 3) := by decide +kernel
theorem d57 : decode yB 57 = .ok (.aload_n 3, 1) := by decide +kernel
theorem d58 : decode yB 58 = .ok (.areturn, 1) := by decide +kernel
def site : List Cond := [.arrayClass .byte, Cmp5.tab] ++ staticW U16 115 Cmp5.yN
def tab : Cond := tabOf yN yB 6 (some (.array .byte)) site
def P (b : Addr) (A : Cell) (o len : Nat) (args : Array Value) (s : State) : Prop := args = #[.ref b, .int (Int32.ofNat o), .int (Int32.ofNat len)] ∧ Ch b A s ∧ o + len ≤ A.slots.size ∧ len ≤ 536870912 ∧ ∀ i, i < len → ¬ 255 < cv A (o + i)
def E (b : Addr) (A : Cell) (o len : Nat) (r : Option Value) (s u : State) : Prop := NewArr .byte "[B" len (fun j => .int (lo8 (cv A (o + j)))) r s u ∧ u.heap.size = s.heap.size + 1
/-- no char of the range above 255: a new byte[] of their low bytes -/
theorem law (l : Launch) (b : Addr) (A : Cell) (o len : Nat) : Law l yN 3 3 1 18 yB 6 (some (.array .byte)) site (P b A o len) (E b A o len) [] 1 len := by
  refine Law.of_walk (plainFor_of_name (by decide +kernel)) (by decide +kernel) (by decide +kernel) (by decide) (fun _ _ h => by rw [h.1]; rfl) (fun _ U U' hal hh h => ⟨h.1, h.2.1.mv hal hh, h.2.2⟩) (fun r U U' V V' h1 hal h2 h => ⟨NewArr.mv r U U' V V' h1 hal h2 h.1, by rw [h1, h2]; exact h.2⟩) ?_
  intro p e s m args below meth c s₁ X0 hexec hbytes hml hret hlk hnm hown hh0 W hP
  obtain ⟨rfl, hA, l1, l2, hp⟩ := hP
  have a31 := hA.1.2.2.2
  have c1 : Steps p.tables e below (s₁.setTop (entryFrame m #[.ref b, .int (Int32.ofNat o), .int (Int32.ofNat len)] 6)) (s₁.setTop (mkF m 0 #[.val (.ref b), .val (.int (Int32.ofNat o)), .val (.int (Int32.ofNat len)), .unset, .unset, .unset] [])) := entry rfl
  have c2 : Steps p.tables e below (s₁.setTop (entryFrame m #[.ref b, .int (Int32.ofNat o), .int (Int32.ofNat len)] 6)) (s₁.setTop (mkF m 1 #[.val (.ref b), .val (.int (Int32.ofNat o)), .val (.int (Int32.ofNat len)), .unset, .unset, .unset] [.int (Int32.ofNat len)])) := c1.trans (by
    refine XS.iloadN X0.here hexec rfl (hb hbytes d0) rfl ?_
    exact Steps.refl _)
  obtain ⟨T3, B3, X3, ba3, bs3, bv3, bh3, bf3, st3⟩ := X0.anew hexec (atype := .byte) (wk W (.arrayClass .byte)) rfl (by show len * 1 ≤ _; omega) (by omega) (g := (mkF m 1 #[.val (.ref b), .val (.int (Int32.ofNat o)), .val (.int (Int32.ofNat len)), .unset, .unset, .unset] [.int (Int32.ofNat len)])) rfl (hb hbytes d1) (rest := []) rfl (Nat.le_refl _) (by show 0 + len ≤ len; omega)
  rw [hh0] at ba3 st3
  have kp3 : XT.Kept s T3 := (XT.Kept.of_eq hh0).push bh3
  have hA3 := hA.keep X3.warmed.alike (kp3 _ _ hA.1.1)
  have hne : b ≠ s.heap.size := hA.1.ne
  have c4 : Steps p.tables e below (s₁.setTop (entryFrame m #[.ref b, .int (Int32.ofNat o), .int (Int32.ofNat len)] 6)) (T3.setTop (mkF m 3 #[.val (.ref b), .val (.int (Int32.ofNat o)), .val (.int (Int32.ofNat len)), .unset, .unset, .unset] [.ref s.heap.size])) := c2.trans (st3 _ (Steps.refl _))
  have c5 : Steps p.tables e below (s₁.setTop (entryFrame m #[.ref b, .int (Int32.ofNat o), .int (Int32.ofNat len)] 6)) (T3.setTop (mkF m 9 #[.val (.ref b), .val (.int (Int32.ofNat o)), .val (.int (Int32.ofNat len)), .val (.ref s.heap.size), .unset, .unset] [.int (Int32.ofNat len), .int 0, .ref s.heap.size, .int (Int32.ofNat o), .ref b])) := c4.trans (by
    refine XS.astoreN X3.here hexec rfl (hb hbytes d3) rfl rfl rfl ?_
    refine XS.aloadN X3.here hexec rfl (hb hbytes d4) rfl rfl ?_
    refine XS.iloadN X3.here hexec rfl (hb hbytes d5) rfl ?_
    refine XS.aloadN X3.here hexec rfl (hb hbytes d6) rfl rfl ?_
    refine iconstV X3.here hexec rfl 0 (hb hbytes d7) (by decide) ?_
    refine XS.iloadN X3.here hexec rfl (hb hbytes d8) rfl ?_
    exact Steps.refl _)
  obtain ⟨v6, T6, X6, E6, g6⟩ := X3.callS hexec (Cmp5.law l b A s.heap.size B3 o 0 len) hown (wks W (staticW U16 115 Cmp5.yN)) (wk W Cmp5.tab) (W := 0) (Nat.le_of_ble_eq_true rfl) (Nat.le_of_ble_eq_true rfl) (Nat.le_refl _) (by show 0 + len + 0 ≤ len; omega) (g := (mkF m 9 #[.val (.ref b), .val (.int (Int32.ofNat o)), .val (.int (Int32.ofNat len)), .val (.ref s.heap.size), .unset, .unset] [.int (Int32.ofNat len), .int (Int32.ofNat 0), .ref s.heap.size, .int (Int32.ofNat o), .ref b])) rfl (by rw [hml]; rfl) c5 (argsL := [.ref b, .int (Int32.ofNat o), .ref s.heap.size, .int (Int32.ofNat 0), .int (Int32.ofNat len)]) (rest := []) rfl rfl (by show 2 * 0 + 0 ≤ _; decide) (hb hbytes d9) (⟨rfl, hA3, ba3, hne, l1, by rw [bs3]; simp, hp⟩)
  obtain ⟨rfl, B6, p6, f6⟩ := E6
  have c7 : Steps p.tables e below (s₁.setTop (entryFrame m #[.ref b, .int (Int32.ofNat o), .int (Int32.ofNat len)] 6)) (T6.setTop (mkF m 12 #[.val (.ref b), .val (.int (Int32.ofNat o)), .val (.int (Int32.ofNat len)), .val (.ref s.heap.size), .unset, .unset] [.int (Int32.ofNat len)])) := g6
  have c8 : Steps p.tables e below (s₁.setTop (entryFrame m #[.ref b, .int (Int32.ofNat o), .int (Int32.ofNat len)] 6)) (T6.setTop (mkF m 58 #[.val (.ref b), .val (.int (Int32.ofNat o)), .val (.int (Int32.ofNat len)), .val (.ref s.heap.size), .val (.int (Int32.ofNat len)), .unset] [.ref s.heap.size])) := c7.trans (by
    refine XS.istore X6.here hexec rfl (hb hbytes d12) rfl rfl ?_
    refine XS.iload X6.here hexec rfl (hb hbytes d14) rfl ?_
    refine XS.iloadN X6.here hexec rfl (hb hbytes d16) rfl ?_
    refine XS.icmpYes X6.here hexec rfl (pc0 := 17) rfl (hb hbytes d17) rfl (ii_eq_t rfl) (by decide) rfl ?_
    refine XS.aloadN X6.here hexec rfl (hb hbytes d57) rfl rfl ?_
    exact Steps.refl _)
  have X8 := X6.wide (L' := []) (cells' := 1) (slots' := len) (fun x hx hlt => by
    simp only [List.nil_append, copyLocs, List.mem_map, List.mem_range] at hx
    obtain ⟨i, -, rfl⟩ := hx
    exact absurd hlt (Nat.lt_irrefl _)) (Nat.le_refl _) (by omega)
  exact ⟨T6, some (.ref s.heap.size), _, _, _, X8, rfl, rfl, rfl, (fun h => by cases h), ⟨⟨rfl, B6, ba3.like (X3.warmed.alike.symm.trans X6.warmed.alike) p6.1 f6.1 f6.2.1 f6.2.2.1, f6.2.1.trans bv3, by rw [X6.warmed.alike.findClass, f6.1]; exact bf3, by rw [f6.2.2.1, bs3]; simp, fun j hj => by rw [f6.2.2.2 j, if_pos (by omega)]; rfl, kp3.put p6 (Nat.le_refl _)⟩, by rw [p6.2.2, bh3, hh0]; simp⟩, fun fs hl => c8.trans (X8.areturnOut hexec rfl hret rfl (hb hbytes d58) hl)⟩
end Cmp3
namespace CodL
def yN : MethodName := ⟨"java/lang/StringUTF16", "coderFromArrayLen", "([BI)B"⟩
abbrev yB : ByteArray := jdk_52_method_15_code
theorem d0 : decode yB 0 = .ok (.iload_n 1, 1) := by decide +kernel
theorem d1 : decode yB 1 = .ok (.aload_n 0, 1) := by decide +kernel
theorem d2 : decode yB 2 = .ok (.arraylength, 1) := by decide +kernel
theorem d3 : decode yB 3 = .ok (.isub, 1) := by decide +kernel
theorem d4 : decode yB 4 = .ok (.bipush 31, 2) := by decide +kernel
theorem d6 : decode yB 6 = .ok (.iushr, 1) := by decide +kernel
theorem d7 : decode yB 7 = .ok (.i2b, 1) := by decide +kernel
theorem d8 : decode yB 8 = .ok (.ireturn, 1) := by decide +kernel
def site : List Cond := []
def tab : Cond := tabOf yN yB 2 (some .byte) site
def P (d : Addr) (B : Cell) (args : Array Value) (s : State) : Prop := args = #[.ref d, .int (Int32.ofNat B.slots.size)] ∧ Arr .byte d B s
def E (r : Option Value) (s u : State) : Prop := XT.PureE (some (.int 0)) r s u
/-- an array as long as the number of chars: LATIN1 -/
theorem law (l : Launch) (d : Addr) (B : Cell) : Law l yN 2 2 0 0 yB 2 (some .byte) site (P d B) E [] 0 0 := by
  refine Law.of_walk (plainFor_of_name (by decide +kernel)) (by decide +kernel) (by decide +kernel) (by decide) (fun _ _ h => by rw [h.1]; rfl) (fun _ U U' hal hh h => ⟨h.1, h.2.mv hal hh⟩) (fun r U U' V V' h1 hal h2 h => XT.PureE.mv r U U' V V' h1 hal h2 h) ?_
  intro p e s m args below meth c s₁ X0 hexec hbytes hml hret hlk hnm hown hh0 W hP
  obtain ⟨rfl, hB⟩ := hP
  have hB0 := hB.mv X0.warmed.alike hh0
  have c1 : Steps p.tables e below (s₁.setTop (entryFrame m #[.ref d, .int (Int32.ofNat B.slots.size)] 2)) (s₁.setTop (mkF m 0 #[.val (.ref d), .val (.int (Int32.ofNat B.slots.size))] [])) := entry rfl
  have c2 : Steps p.tables e below (s₁.setTop (entryFrame m #[.ref d, .int (Int32.ofNat B.slots.size)] 2)) (s₁.setTop (mkF m 2 #[.val (.ref d), .val (.int (Int32.ofNat B.slots.size))] [.ref d, .int (Int32.ofNat B.slots.size)])) := c1.trans (by
    refine XS.iloadN X0.here hexec rfl (hb hbytes d0) rfl ?_
    refine XS.aloadN X0.here hexec rfl (hb hbytes d1) rfl rfl ?_
    exact Steps.refl _)
  have c3 : Steps p.tables e below (s₁.setTop (entryFrame m #[.ref d, .int (Int32.ofNat B.slots.size)] 2)) (s₁.setTop (mkF m 8 #[.val (.ref d), .val (.int (Int32.ofNat B.slots.size))] [.int (lo8 (ushr (Int32.ofNat B.slots.size - Int32.ofNat B.slots.size) 31))])) := c2.trans (by
    refine X0.alen hexec hB0 rfl rfl (hb hbytes d2) ?_
    refine XS.isub X0.here hexec rfl (hb hbytes d3) rfl ?_
    refine bipushV X0.here hexec rfl 31 (hb hbytes d4) (by decide) ?_
    refine iushr X0.here hexec rfl (hb hbytes d6) rfl ?_
    refine i2b X0.here hexec rfl (hb hbytes d7) rfl ?_
    exact Steps.refl _)
  have e0 : lo8 (ushr (Int32.ofNat B.slots.size - Int32.ofNat B.slots.size) 31) = 0 := by rw [Int32.sub_self]; decide
  rw [e0] at c3
  exact ⟨s₁, some (.int 0), _, _, _, X0, rfl, rfl, rfl, (fun h => by cases h), ⟨rfl, hh0⟩, fun fs hl => c3.trans (X0.ireturnOut hexec hret rfl (Or.inr (Or.inr (Or.inl rfl))) (hb hbytes d8) hl)⟩
end CodL
/-- the String at a is Latin-1 over a new byte[] (the heap's one new cell): the low bytes of the len chars of A from o on; every cell but a is kept -/
def Got (a : Addr) (D : Cell) (fV fC : Field) (A : Cell) (o len : Nat) (r : Option Value) (s u : State) : Prop := r = none ∧ ∃ D' V : Cell, Blank "java/lang/String" a D' u ∧ Same D D' [fV.slot, fC.slot] ∧ D'.slots[fV.slot]? = some (.ref s.heap.size) ∧ D'.slots[fC.slot]? = some (.int 0) ∧ Arr .byte s.heap.size V u ∧ V.vm = .none ∧ u.vm.findClass "[B" = some V.cls ∧ V.slots.size = len ∧ (∀ j, j < len → V.slots[j]? = some (.int (lo8 (cv A (o + j))))) ∧ (∀ (y : Addr) (c : Cell), y ≠ a → s.heap[y]? = some c → u.heap[y]? = some c) ∧ u.heap.size = s.heap.size + 1
theorem Got.mv {a : Addr} {D A : Cell} {fV fC : Field} {o len : Nat} : ∀ r (U U' V V' : State), U'.heap = U.heap → V.vm.Alike V'.vm → V'.heap = V.heap → Got a D fV fC A o len r U V → Got a D fV fC A o len r U' V' :=
  fun r U U' V V' h1 hal h2 ⟨e0, D', X, a1, a2, a3, a4, a5, a6, a7, a8, a9, a10, a11⟩ => ⟨e0, D', X, a1.mv hal h2, a2, by rw [h1]; exact a3, a4, by rw [h1]; exact a5.mv hal h2, a6, by rw [hal.findClass]; exact a7, a8, a9, by rw [h1, h2]; exact a10, by rw [h1, h2]; exact a11⟩
namespace New4
def yN : MethodName := ⟨"java/lang/String", "<init>", "([CIILjava/lang/Void;)V"⟩
abbrev yB : ByteArray := jdk_42_method_149_code
theorem d0 : decode yB 0 = .ok (.aload_n 0, 1) := by decide +kernel
theorem d1 : decode yB 1 = .ok (.invokespecial 1, 3) := by decide +kernel
theorem d4 : decode yB 4 = .ok (.iload_n 3, 1) := by decide +kernel
theorem d5 : decode yB 5 = .ok (.ifCond (.ne) 22, 3) := by decide +kernel
theorem d27 : decode yB 27 = .ok (.getstatic 38, 3) := by decide +kernel
theorem d30 : decode yB 30 = .ok (.ifCond (.eq) 28, 3) := by decide +kernel
theorem d33 : decode yB 33 = .ok (.aload_n 1, 1) := by decide +kernel
theorem d34 : decode yB 34 = .ok (.iload_n 2, 1) := by decide +kernel
theorem d35 : decode yB 35 = .ok (.iload_n 3, 1) := by decide +kernel
theorem d36 : decode yB 36 = .ok (.invokestatic 177, 3) := by decide +kernel
theorem d39 : decode yB 39 = .ok (.astore 5, 2) := by decide +kernel
theorem d41 : decode yB 41 = .ok (.aload_n 0, 1) := by decide +kernel
theorem d42 : decode yB 42 = .ok (.aload 5, 2) := by decide +kernel
theorem d44 : decode yB 44 = .ok (.iload_n 3, 1) := by decide +kernel
theorem d45 : decode yB 45 = .ok (.invokestatic 47, 3) := by decide +kernel
theorem d48 : decode yB 48 = .ok (.putfield 15, 3) := by decide +kernel
theorem d51 : decode yB 51 = .ok (.aload_n 0, 1) := by decide +kernel
theorem d52 : decode yB 52 = .ok (.aload 5, 2) := by decide +kernel
theorem d54 : decode yB 54 = .ok (.putfield 9, 3) := by decide +kernel
theorem d57 : decode yB 57 = .ok (.return_, 1) := by decide +kernel
def site : List Cond := [.fieldLink "java/lang/String" 38 "java/lang/String" "COMPACT_STRINGS" "Z", Cmp3.tab, CodL.tab, .laysFinal "java/lang/String" "java/lang/String" "value" "[B", .fieldLink "java/lang/String" 9 "java/lang/String" "value" "[B", .laysFinal "java/lang/String" "java/lang/String" "coder" "B", .fieldLink "java/lang/String" 15 "java/lang/String" "coder" "B"] ++ objW "java/lang/String" 1 ++ staticW "java/lang/String" 177 Cmp3.yN ++ staticW "java/lang/String" 47 CodL.yN
def tab : Cond := tabOf yN yB 6 none site
def P (a : Addr) (D : Cell) (fV fC : Field) (b : Addr) (A : Cell) (z : Int32) (o len : Nat) (args : Array Value) (s : State) : Prop := args = #[.ref a, .ref b, .int (Int32.ofNat o), .int (Int32.ofNat len), .null] ∧ Blank "java/lang/String" a D s ∧ Found "java/lang/String" "value" "[B" fV s ∧ Found "java/lang/String" "coder" "B" fC s ∧ Ch b A s ∧ StaticIs s "java/lang/String" "COMPACT_STRINGS" "Z" (.int z) ∧ ¬ z = 0 ∧ 0 < len ∧ o + len ≤ A.slots.size ∧ len ≤ 536870912 ∧ ∀ i, i < len → ¬ 255 < cv A (o + i)
def E (a : Addr) (D : Cell) (fV fC : Field) (A : Cell) (o len : Nat) (r : Option Value) (s u : State) : Prop := Got a D fV fC A o len r s u
/-- len > 0, no char of the range above 255: a Latin-1 String of their low bytes -/
theorem law (l : Launch) (a : Addr) (D : Cell) (fV fC : Field) (b : Addr) (A : Cell) (z : Int32) (o len : Nat) : Law l yN 5 4 2 35 yB 6 none site (P a D fV fC b A z o len) (E a D fV fC A o len) [⟨a, fC.slot⟩, ⟨a, fV.slot⟩] 1 len := by
  refine Law.of_walk (plainFor_of_name (by decide +kernel)) (by decide +kernel) (by decide +kernel) (by decide) (fun _ _ h => by rw [h.1]; rfl) (fun _ U U' hal hh h => ⟨h.1, h.2.1.mv hal hh, h.2.2.1.al hal, h.2.2.2.1.al hal, h.2.2.2.2.1.mv hal hh, h.2.2.2.2.2.1.there hal hh, h.2.2.2.2.2.2⟩) (fun r U U' V V' h1 hal h2 h => Got.mv r U U' V V' h1 hal h2 h) ?_
  intro p e s m args below meth c s₁ X0 hexec hbytes hml hret hlk hnm hown hh0 W hP
  obtain ⟨rfl, hB, f1, f2, hA, s1, hz, l0, l1, l2, hp⟩ := hP
  have a31 := hA.1.2.2.2
  have c1 : Steps p.tables e below (s₁.setTop (entryFrame m #[.ref a, .ref b, .int (Int32.ofNat o), .int (Int32.ofNat len), .null] 6)) (s₁.setTop (mkF m 0 #[.val (.ref a), .val (.ref b), .val (.int (Int32.ofNat o)), .val (.int (Int32.ofNat len)), .val .null, .unset] [])) := entry rfl
  have c2 : Steps p.tables e below (s₁.setTop (entryFrame m #[.ref a, .ref b, .int (Int32.ofNat o), .int (Int32.ofNat len), .null] 6)) (s₁.setTop (mkF m 1 #[.val (.ref a), .val (.ref b), .val (.int (Int32.ofNat o)), .val (.int (Int32.ofNat len)), .val .null, .unset] [.ref a])) := c1.trans (by
    refine XS.aloadN X0.here hexec rfl (hb hbytes d0) rfl rfl ?_
    exact Steps.refl _)
  obtain ⟨T3, X3, q3, st3⟩ := X0.oinit hexec hown (wks W (objW "java/lang/String" 1)) (g := (mkF m 1 #[.val (.ref a), .val (.ref b), .val (.int (Int32.ofNat o)), .val (.int (Int32.ofNat len)), .val .null, .unset] [.ref a])) rfl (by rw [hml]; rfl) (rest := []) rfl (hb hbytes d1) (W := 0) (by show 2 * 0 + 0 ≤ _; decide) (Nat.le_of_ble_eq_true rfl) (Nat.le_of_ble_eq_true rfl)
  have hh3 := q3.trans hh0
  have c4 : Steps p.tables e below (s₁.setTop (entryFrame m #[.ref a, .ref b, .int (Int32.ofNat o), .int (Int32.ofNat len), .null] 6)) (T3.setTop (mkF m 27 #[.val (.ref a), .val (.ref b), .val (.int (Int32.ofNat o)), .val (.int (Int32.ofNat len)), .val .null, .unset] [])) := (c2.trans (st3 _ (Steps.refl _))).trans (by
    refine XS.iloadN X3.here hexec rfl (hb hbytes d4) rfl ?_
    refine XS.ifYes X3.here hexec rfl (pc0 := 5) rfl (hb hbytes d5) rfl (i0_ne_t (nz32 (by omega) l0)) (by decide) rfl ?_
    exact Steps.refl _)
  obtain ⟨T5, X5, q5, st5⟩ := X3.sget hexec hown (wk W (.fieldLink "java/lang/String" 38 "java/lang/String" "COMPACT_STRINGS" "Z")) s1 (fun _ _ h => by rw [hh3]; exact h) (g := (mkF m 27 #[.val (.ref a), .val (.ref b), .val (.int (Int32.ofNat o)), .val (.int (Int32.ofNat len)), .val .null, .unset] [])) rfl (hb hbytes d27)
  have hh5 := q5.trans hh3
  have c6 : Steps p.tables e below (s₁.setTop (entryFrame m #[.ref a, .ref b, .int (Int32.ofNat o), .int (Int32.ofNat len), .null] 6)) (T5.setTop (mkF m 30 #[.val (.ref a), .val (.ref b), .val (.int (Int32.ofNat o)), .val (.int (Int32.ofNat len)), .val .null, .unset] [.int z])) := c4.trans (st5 _ (Steps.refl _))
  have c7 : Steps p.tables e below (s₁.setTop (entryFrame m #[.ref a, .ref b, .int (Int32.ofNat o), .int (Int32.ofNat len), .null] 6)) (T5.setTop (mkF m 36 #[.val (.ref a), .val (.ref b), .val (.int (Int32.ofNat o)), .val (.int (Int32.ofNat len)), .val .null, .unset] [.int (Int32.ofNat len), .int (Int32.ofNat o), .ref b])) := c6.trans (by
    refine XS.ifNo X5.here hexec rfl (hb hbytes d30) rfl (i0_eq_f hz) ?_
    refine XS.aloadN X5.here hexec rfl (hb hbytes d33) rfl rfl ?_
    refine XS.iloadN X5.here hexec rfl (hb hbytes d34) rfl ?_
    refine XS.iloadN X5.here hexec rfl (hb hbytes d35) rfl ?_
    exact Steps.refl _)
  obtain ⟨v8, T8, X8, E8, g8⟩ := X5.callS hexec (Cmp3.law l b A o len) hown (wks W (staticW "java/lang/String" 177 Cmp3.yN)) (wk W Cmp3.tab) (W := 0) (Nat.le_of_ble_eq_true rfl) (Nat.le_of_ble_eq_true rfl) (Nat.le_refl _) (by show 0 + len ≤ len; omega) (g := (mkF m 36 #[.val (.ref a), .val (.ref b), .val (.int (Int32.ofNat o)), .val (.int (Int32.ofNat len)), .val .null, .unset] [.int (Int32.ofNat len), .int (Int32.ofNat o), .ref b])) rfl (by rw [hml]; rfl) c7 (argsL := [.ref b, .int (Int32.ofNat o), .int (Int32.ofNat len)]) (rest := []) rfl rfl (by show 2 * 0 + 0 ≤ _; decide) (hb hbytes d36) (⟨rfl, hA.mv X5.warmed.alike hh5, l1, l2, hp⟩)
  obtain ⟨e8, z8⟩ := E8
  obtain ⟨rfl, N, n1, n2, n3, n4, n5, n6⟩ := NewArr.mv _ T5 s _ _ hh5.symm (Vm.Alike.refl _) rfl e8
  rw [hh5] at z8
  have hB1 := hB.keep X8.warmed.alike (n6 _ _ hB.1)
  have hne : s.heap.size ≠ a := (Nat.ne_of_lt (Array.getElem?_eq_some_iff.mp hB.1).1).symm
  have c9 : Steps p.tables e below (s₁.setTop (entryFrame m #[.ref a, .ref b, .int (Int32.ofNat o), .int (Int32.ofNat len), .null] 6)) (T8.setTop (mkF m 39 #[.val (.ref a), .val (.ref b), .val (.int (Int32.ofNat o)), .val (.int (Int32.ofNat len)), .val .null, .unset] [.ref s.heap.size])) := g8
  have c10 : Steps p.tables e below (s₁.setTop (entryFrame m #[.ref a, .ref b, .int (Int32.ofNat o), .int (Int32.ofNat len), .null] 6)) (T8.setTop (mkF m 45 #[.val (.ref a), .val (.ref b), .val (.int (Int32.ofNat o)), .val (.int (Int32.ofNat len)), .val .null, .val (.ref s.heap.size)] [.int (Int32.ofNat N.slots.size), .ref s.heap.size, .ref a])) := by
    have hc : Steps p.tables e below (s₁.setTop (entryFrame m #[.ref a, .ref b, .int (Int32.ofNat o), .int (Int32.ofNat len), .null] 6)) (T8.setTop (mkF m 45 #[.val (.ref a), .val (.ref b), .val (.int (Int32.ofNat o)), .val (.int (Int32.ofNat len)), .val .null, .val (.ref s.heap.size)] [.int (Int32.ofNat len), .ref s.heap.size, .ref a])) := c9.trans (by
      refine XS.astore X8.here hexec rfl (hb hbytes d39) rfl rfl rfl ?_
      refine XS.aloadN X8.here hexec rfl (hb hbytes d41) rfl rfl ?_
      refine XS.aload X8.here hexec rfl (hb hbytes d42) rfl rfl ?_
      refine XS.iloadN X8.here hexec rfl (hb hbytes d44) rfl ?_
      exact Steps.refl _)
    rw [n4]; exact hc
  obtain ⟨v11, T11, X11, E11, g11⟩ := X8.callS hexec (CodL.law l s.heap.size N) hown (wks W (staticW "java/lang/String" 47 CodL.yN)) (wk W CodL.tab) (W := 1) (Nat.le_of_ble_eq_true rfl) (Nat.le_of_ble_eq_true rfl) (Nat.le_refl _) (by show 0 + len + 0 ≤ len; omega) (g := (mkF m 45 #[.val (.ref a), .val (.ref b), .val (.int (Int32.ofNat o)), .val (.int (Int32.ofNat len)), .val .null, .val (.ref s.heap.size)] [.int (Int32.ofNat N.slots.size), .ref s.heap.size, .ref a])) rfl (by rw [hml]; rfl) c10 (argsL := [.ref s.heap.size, .int (Int32.ofNat N.slots.size)]) (rest := [.ref a]) rfl rfl (by show 2 * 0 + (1 + 0) ≤ _; decide) (hb hbytes d45) (⟨rfl, n1⟩)
  obtain ⟨rfl, q11⟩ := E11
  have hB11 := hB1.mv (X8.warmed.alike.symm.trans X11.warmed.alike) q11
  have c12 : Steps p.tables e below (s₁.setTop (entryFrame m #[.ref a, .ref b, .int (Int32.ofNat o), .int (Int32.ofNat len), .null] 6)) (T11.setTop (mkF m 48 #[.val (.ref a), .val (.ref b), .val (.int (Int32.ofNat o)), .val (.int (Int32.ofNat len)), .val .null, .val (.ref s.heap.size)] [.int 0, .ref a])) := g11
  obtain ⟨T13, X13, p13, bl13, sl13, st13⟩ := X11.finit hexec hown (wk W (.fieldLink "java/lang/String" 15 "java/lang/String" "coder" "B")) (Or.inr ⟨_, (wk W (.laysFinal "java/lang/String" "java/lang/String" "coder" "B"))⟩) (Or.inl ⟨rfl, hnm⟩) f2 (Or.inl rfl) hB11 (t := .byte) (by decide +kernel) rfl (g := (mkF m 48 #[.val (.ref a), .val (.ref b), .val (.int (Int32.ofNat o)), .val (.int (Int32.ofNat len)), .val .null, .val (.ref s.heap.size)] [.int 0, .ref a])) rfl (rest := []) rfl (hb hbytes d48)
  have c14 : Steps p.tables e below (s₁.setTop (entryFrame m #[.ref a, .ref b, .int (Int32.ofNat o), .int (Int32.ofNat len), .null] 6)) (T13.setTop (mkF m 54 #[.val (.ref a), .val (.ref b), .val (.int (Int32.ofNat o)), .val (.int (Int32.ofNat len)), .val .null, .val (.ref s.heap.size)] [.ref s.heap.size, .ref a])) := (c12.trans (st13 _ (Steps.refl _))).trans (by
    refine XS.aloadN X13.here hexec rfl (hb hbytes d51) rfl rfl ?_
    refine XS.aload X13.here hexec rfl (hb hbytes d52) rfl rfl ?_
    exact Steps.refl _)
  obtain ⟨T15, X15, p15, bl15, sl15, st15⟩ := X13.finit hexec hown (wk W (.fieldLink "java/lang/String" 9 "java/lang/String" "value" "[B")) (Or.inr ⟨_, (wk W (.laysFinal "java/lang/String" "java/lang/String" "value" "[B"))⟩) (Or.inl ⟨rfl, hnm⟩) f1 (Or.inl rfl) bl13 (t := (.array .byte)) (by decide +kernel) rfl (g := (mkF m 54 #[.val (.ref a), .val (.ref b), .val (.int (Int32.ofNat o)), .val (.int (Int32.ofNat len)), .val .null, .val (.ref s.heap.size)] [.ref s.heap.size, .ref a])) rfl (rest := []) rfl (hb hbytes d54)
  have c16 : Steps p.tables e below (s₁.setTop (entryFrame m #[.ref a, .ref b, .int (Int32.ofNat o), .int (Int32.ofNat len), .null] 6)) (T15.setTop (mkF m 57 #[.val (.ref a), .val (.ref b), .val (.int (Int32.ofNat o)), .val (.int (Int32.ofNat len)), .val .null, .val (.ref s.heap.size)] [])) := c14.trans (st15 _ (Steps.refl _))
  have ap := apart (Or.inr ⟨_, (wk W (.laysFinal "java/lang/String" "java/lang/String" "value" "[B"))⟩) (Or.inr ⟨_, (wk W (.laysFinal "java/lang/String" "java/lang/String" "coder" "B"))⟩) f1 f2 (t₁ := .array .byte) (t₂ := .byte) (by decide +kernel) (by decide +kernel) (by decide)
  have al := X8.warmed.alike.symm.trans X15.warmed.alike
  have n7 : T11.heap[s.heap.size]? = some N := by rw [q11]; exact n1.1
  exact ⟨T15, none, _, _, _, X15, by simp, rfl, by omega, (fun _ => rfl), ⟨rfl, _, N, bl15, ((Same.refl D _).set _ (by simp)).set _ (by simp), sl15, (Cell.slots_setSlot_ne _ ap).trans sl13, n1.keep al (p15.other hne (p13.other hne n7)), n2, by rw [al.findClass]; exact n3, n4, n5, fun y c h1 h2 => p15.other h1 (p13.other h1 (by rw [q11]; exact n6 y c h2)), by rw [p15.2.2, p13.2.2, q11]; exact z8⟩, fun fs hl => c16.trans (X15.returnOut hexec hret (hb hbytes d57) hl)⟩
end New4
namespace New1
def yN : MethodName := ⟨"java/lang/String", "<init>", "([C)V"⟩
abbrev yB : ByteArray := jdk_42_method_3_code
theorem d0 : decode yB 0 = .ok (.aload_n 0, 1) := by decide +kernel
theorem d1 : decode yB 1 = .ok (.aload_n 1, 1) := by decide +kernel
theorem d2 : decode yB 2 = .ok (.iconst 0, 1) := by decide +kernel
theorem d3 : decode yB 3 = .ok (.aload_n 1, 1) := by decide +kernel
theorem d4 : decode yB 4 = .ok (.arraylength, 1) := by decide +kernel
theorem d5 : decode yB 5 = .ok (.aconst_null, 1) := by decide +kernel
theorem d6 : decode yB 6 = .ok (.invokespecial 27, 3) := by decide +kernel
theorem d9 : decode yB 9 = .ok (.return_, 1) := by decide +kernel
def site : List Cond := [New4.tab] ++ initW "java/lang/String" 27 New4.yN
def tab : Cond := tabOf yN yB 2 none site
def P (a : Addr) (D : Cell) (fV fC : Field) (b : Addr) (A : Cell) (z : Int32) (args : Array Value) (s : State) : Prop := args = #[.ref a, .ref b] ∧ Blank "java/lang/String" a D s ∧ Found "java/lang/String" "value" "[B" fV s ∧ Found "java/lang/String" "coder" "B" fC s ∧ Ch b A s ∧ StaticIs s "java/lang/String" "COMPACT_STRINGS" "Z" (.int z) ∧ ¬ z = 0 ∧ 0 < A.slots.size ∧ A.slots.size ≤ 536870912 ∧ ∀ i, i < A.slots.size → ¬ 255 < cv A i
def E (a : Addr) (D : Cell) (fV fC : Field) (A : Cell) (r : Option Value) (s u : State) : Prop := Got a D fV fC A 0 A.slots.size r s u
/-- new String(chars), not empty, no char above 255: a Latin-1 String of their low bytes -/
theorem law (l : Launch) (a : Addr) (D : Cell) (fV fC : Field) (b : Addr) (A : Cell) (z : Int32) : Law l yN 2 1 3 52 yB 2 none site (P a D fV fC b A z) (E a D fV fC A) [⟨a, fC.slot⟩, ⟨a, fV.slot⟩] 1 A.slots.size := by
  refine Law.of_walk (plainFor_of_name (by decide +kernel)) (by decide +kernel) (by decide +kernel) (by decide) (fun _ _ h => by rw [h.1]; rfl) (fun _ U U' hal hh h => ⟨h.1, h.2.1.mv hal hh, h.2.2.1.al hal, h.2.2.2.1.al hal, h.2.2.2.2.1.mv hal hh, h.2.2.2.2.2.1.there hal hh, h.2.2.2.2.2.2⟩) (fun r U U' V V' h1 hal h2 h => Got.mv r U U' V V' h1 hal h2 h) ?_
  intro p e s m args below meth c s₁ X0 hexec hbytes hml hret hlk hnm hown hh0 W hP
  obtain ⟨rfl, hB, f1, f2, hA, s1, hz, l0, l2, hp⟩ := hP
  have c1 : Steps p.tables e below (s₁.setTop (entryFrame m #[.ref a, .ref b] 2)) (s₁.setTop (mkF m 0 #[.val (.ref a), .val (.ref b)] [])) := entry rfl
  have c2 : Steps p.tables e below (s₁.setTop (entryFrame m #[.ref a, .ref b] 2)) (s₁.setTop (mkF m 6 #[.val (.ref a), .val (.ref b)] [.null, .int (Int32.ofNat A.slots.size), .int 0, .ref b, .ref a])) := c1.trans (by
    refine XS.aloadN X0.here hexec rfl (hb hbytes d0) rfl rfl ?_
    refine XS.aloadN X0.here hexec rfl (hb hbytes d1) rfl rfl ?_
    refine iconstV X0.here hexec rfl 0 (hb hbytes d2) (by decide) ?_
    refine XS.aloadN X0.here hexec rfl (hb hbytes d3) rfl rfl ?_
    refine X0.alen hexec (hA.1.mv X0.warmed.alike hh0) rfl rfl (hb hbytes d4) ?_
    refine XS.aconstNull X0.here hexec rfl (hb hbytes d5) ?_
    exact Steps.refl _)
  obtain ⟨v3, T3, X3, E3, g3⟩ := X0.callN hexec (New4.law l a D fV fC b A z 0 A.slots.size) rfl hown (wks W (initW "java/lang/String" 27 New4.yN)) (W New4.tab (by simp only [site, List.mem_cons, List.mem_append, true_or, or_true])) (W := 0) (Nat.le_of_ble_eq_true rfl) (Nat.le_of_ble_eq_true rfl) (Nat.le_refl _) (by show 0 + A.slots.size ≤ A.slots.size; omega) (g := (mkF m 6 #[.val (.ref a), .val (.ref b)] [.null, .int (Int32.ofNat A.slots.size), .int (Int32.ofNat 0), .ref b, .ref a])) rfl (by rw [hml]; rfl) c2 (argsL := [.ref b, .int (Int32.ofNat 0), .int (Int32.ofNat A.slots.size), .null]) (rest := []) rfl rfl (by show 2 * 0 + 0 ≤ _; decide) (hb hbytes d6) (⟨rfl, hB.mv X0.warmed.alike hh0, f1.al X0.warmed.alike, f2.al X0.warmed.alike, hA.mv X0.warmed.alike hh0, s1.there X0.warmed.alike hh0, hz, l0, by omega, l2, fun i hi => by rw [Nat.zero_add]; exact hp i hi⟩)
  have e0 := Got.mv _ s₁ s _ _ hh0.symm (Vm.Alike.refl _) rfl E3
  obtain rfl := e0.1
  have c4 : Steps p.tables e below (s₁.setTop (entryFrame m #[.ref a, .ref b] 2)) (T3.setTop (mkF m 9 #[.val (.ref a), .val (.ref b)] [])) := g3
  exact ⟨T3, none, _, _, _, X3, by simp, rfl, by omega, (fun _ => rfl), e0, fun fs hl => c4.trans (X3.returnOut hexec hret (hb hbytes d9) hl)⟩
theorem pays {l : Launch} {R : Room} {p : Program} {e : Env} {below : List Frame} {s : State} {sargs : Array Value} {len W : Nat} (a : Addr) (D : Cell) (fV fC : Field) (b : Addr) (A : Cell) (z : Int32) (htab : tab.before sargs s = true) (hfr : 4 ≤ R.frames) (hlo : W + 65 ≤ R.locals) :
    Back l R p e below s sargs yN len W (fun A₁ a₁ => A₁.cells + 1 ≤ R.cells ∧ A₁.slots + A.slots.size ≤ R.slots ∧ P a D fV fC b A z a₁ A₁.U) (fun A₁ _ v₁ B₁ => E a D fV fC A v₁ A₁.U B₁.U ∧ B₁.locs = A₁.locs ++ [⟨a, fC.slot⟩, ⟨a, fV.slot⟩] ∧ B₁.cells = A₁.cells + 1 ∧ B₁.slots = A₁.slots + A.slots.size) :=
  (law l a D fV fC b A z).pays htab hfr (by omega)
end New1
end StrChars
namespace StrChars.Road
open Jvm Sem ClassFile Op Lib Jvm.Stand Jvm.Free Jvm.Free.XT
open Jvm.Lib.Cold (StaticIs)
abbrev ST : String := "java/lang/String"
/-- every table word that New1's law asks, flat -/
abbrev words : List Jvm.Cond := [.code New1.yN New1.yB 2 none, .initialized ST, .methodLink ST 27 New4.yN, .instanceMethod New4.yN,
  .code New4.yN New4.yB 6 none, .fieldLink ST 38 ST "COMPACT_STRINGS" "Z", .laysFinal ST ST "value" "[B", .fieldLink ST 9 ST "value" "[B", .laysFinal ST ST "coder" "B", .fieldLink ST 15 ST "coder" "B",
  .methodLink ST 1 Lib.objectInit, .instanceMethod Lib.objectInit, .code Lib.objectInit ⟨#[0xb1]⟩ 1 none, .methodLink ST 177 Cmp3.yN, .static Cmp3.yN, .methodLink ST 47 CodL.yN, .static CodL.yN,
  .code Cmp3.yN Cmp3.yB 6 (some (.array .byte)), .initialized U16, .arrayClass .byte, .methodLink U16 115 Cmp5.yN, .static Cmp5.yN, .code Cmp5.yN Cmp5.yB 7 (some .int), .code CodL.yN CodL.yB 2 (some .byte)]
theorem tab_of {a : Array Value} {s : State} (h : ∀ w ∈ words, w.before a s = true) : New1.tab.before a s = true := by
  have h5 : Cmp5.tab.before a s = true := unparts (wk h (.code Cmp5.yN Cmp5.yB 7 (some .int))) (wks h (.initialized Cmp5.yN.cls :: Cmp5.site))
  have hc : CodL.tab.before a s = true := unparts (wk h (.code CodL.yN CodL.yB 2 (some .byte))) (wks h (.initialized CodL.yN.cls :: CodL.site))
  have q5 : ∀ w ∈ Cmp5.tab :: words, w.before a s = true := fun w hw => (List.mem_cons.mp hw).elim (fun e => e ▸ h5) (h w)
  have h3 : Cmp3.tab.before a s = true := unparts (wk q5 (.code Cmp3.yN Cmp3.yB 6 (some (.array .byte)))) (wks q5 (.initialized Cmp3.yN.cls :: Cmp3.site))
  have q3 : ∀ w ∈ Cmp3.tab :: CodL.tab :: words, w.before a s = true := fun w hw => (List.mem_cons.mp hw).elim (fun e => e ▸ h3) fun hw => (List.mem_cons.mp hw).elim (fun e => e ▸ hc) (h w)
  have h4 : New4.tab.before a s = true := unparts (wk q3 (.code New4.yN New4.yB 6 none)) (wks q3 (.initialized New4.yN.cls :: New4.site))
  have q4 : ∀ w ∈ New4.tab :: words, w.before a s = true := fun w hw => (List.mem_cons.mp hw).elim (fun e => e ▸ h4) (h w)
  exact unparts (wk q4 (.code New1.yN New1.yB 2 none)) (wks q4 (.initialized New1.yN.cls :: New1.site))
/-- the words ride from the start Z to the walk's own state -/
theorem moved {Z s : State} {a0 args : Array Value} (hZ : Z.Warmed39 s.vm) (hw : ∀ d ∈ words, d.before a0 Z = true) : ∀ d ∈ words, d.before args s = true := fun d hd => by
  have q := hw d hd
  have t : ∀ d ∈ words, d = .arrayClass .byte ∨ (d.onTables && d.keepsFace) = true := by decide +kernel
  rcases t d hd with rfl | t
  · exact RoadKit.mvA hZ q
  · exact RoadKit.mv hZ q t
/-- WHAT COMES BACK, over the tables of the start Z: h the heap at the call, h' behind it -/
def Q (Z : State) (x : Addr) (A : Cell) (h : Heap) (v : Option Value) (h' : Heap) (L : List Loc) : Prop := v = none ∧ (∀ y ∈ L, y.base = x) ∧ RoadKit.Keep h h' [x] ∧ h'.size = h.size + 1 ∧ RoadKit.Exa Z h' x ST ∧ RoadKit.Fld Z h' x ST "value" "[B" (.ref h.size) ∧ RoadKit.Fld Z h' x ST "coder" "B" (.int 0) ∧
  (∃ V : Cell, RoadKit.Arr Z h' h.size V .byte ∧ V.vm = .none ∧ Z.vm.findClass "[B" = some V.cls ∧ V.slots.size = A.slots.size ∧ ∀ j, j < A.slots.size → V.slots[j]? = some (.int (lo8 (cv A j)))) ∧
  ∀ (O n d : String) (w : Value), RoadKit.Fld Z h x O n d w → RoadKit.slotOf Z O n d ≠ RoadKit.slotOf Z ST "value" "[B" → RoadKit.slotOf Z O n d ≠ RoadKit.slotOf Z ST "coder" "B" → RoadKit.Fld Z h' x O n d w
/-- **new String(chars) AT A CALL, IN THE ROAD'S FORM**: for specialBack behind newO: x the fresh String, b the char[] with the cell A -/
theorem back {p : Program} {l : Launch} {e : Env} {R : Room} {s : State} {args : Array Value} {below : List Frame} {len W : Nat} {Z : State} {a0 : Array Value} {h : Heap} (hZ : Z.Warmed39 s.vm) (hw : ∀ d ∈ words, d.before a0 Z = true) {kI : Nat} (wi : (Jvm.Cond.instantiable ST kI).before a0 Z = true)
    {x b : Addr} {A : Cell} {z : Int32} {v0 c0 : Value} (E : RoadKit.Exa Z h x ST) (V : RoadKit.Fld Z h x ST "value" "[B" v0) (C : RoadKit.Fld Z h x ST "coder" "B" c0) (K : RoadKit.Arr Z h b A .char) (hty : Typed .char A) (S : RoadKit.Sta Z h ST "COMPACT_STRINGS" "Z" (.int z)) (hz : ¬ z = 0)
    (l0 : 0 < A.slots.size) (l2 : A.slots.size ≤ 536870912) (hp : ∀ i, i < A.slots.size → ¬ 255 < cv A i) (hfr : 4 ≤ R.frames) (hlo : W + 65 ≤ R.locals) :
    Back l R p e below s args New1.yN len W (fun P a => a = #[.ref x, .ref b] ∧ P.U.heap = h ∧ P.cells + 1 ≤ R.cells ∧ P.slots + A.slots.size ≤ R.slots)
      (fun P _ v B => ∃ L, Q Z x A h v B.U.heap L ∧ B.locs = P.locs ++ L ∧ B.cells = P.cells + 1 ∧ B.slots = P.slots + A.slots.size) := by
  intro m meth c P g ig mk a X hg hsize hdg hW hn hp'
  obtain ⟨rfl, rfl, r1, r2⟩ := hp'
  have al : Z.vm.Alike P.U.vm := hZ.alike.trans X.warmed.alike
  obtain ⟨D, cfV, kV, iV, fV, hD, gV, stV, knV, obV, asV, slV⟩ := id V
  obtain ⟨D', cfC, kC, iC, fC, hD', gC, stC, -, -, asC, slC⟩ := id C
  cases hD.symm.trans hD'
  obtain ⟨D2, kD, e1, e2, e3, e4, e5⟩ := id E
  cases hD.symm.trans e1
  obtain ⟨c2, k2, i1, i2, i3, -⟩ := Cond.instantiable_spec wi
  cases e2.symm.trans i1
  cases e3.symm.trans i2
  obtain ⟨kU, u1, u2⟩ := al.2.2 _ _ e3
  have hB : Blank ST x D P.U := ⟨hD, ⟨knV, fun q hq => by rw [hq] at obV; cases obV⟩, by rw [al.findClass]; exact e2, kU, u1, by rw [u2]; exact i3, by rw [u2]; exact e5 i3⟩
  have F1 : Found ST "value" "[B" fV P.U := ⟨SBG.found_only al ⟨cfV, kV, iV, gV⟩, stV⟩
  have F2 : Found ST "coder" "B" fC P.U := ⟨SBG.found_only al ⟨cfC, kC, iC, gC⟩, stC⟩
  have hA : Ch b A P.U := ⟨⟨K.1, State.isArrayOf_alike al K.2.1, K.2.2, by omega⟩, hty⟩
  have hS : StaticIs P.U ST "COMPACT_STRINGS" "Z" (.int z) := by
    obtain ⟨cfS, iS, kS, fS, st, cS, t1, t2, t3, t4, t5, t6, t7⟩ := S
    exact StaticIs.there (s := { Z with heap := P.U.heap }) ⟨cfS, iS, kS, fS, st, cS, t1, t2, t3, t4, t5, (fun q => by rw [q] at t6; cases t6), t7⟩ al rfl
  obtain ⟨v, B, X', ⟨⟨hv, E', V', q1, q2, q3, q4, q5, q6, q7, q8, q9, q10, q11⟩, hl, hc, hs⟩, st⟩ := New1.pays x D fV fC b A z (tab_of (moved hZ hw)) hfr hlo m meth c P g ig mk _ X hg hsize hdg hW hn ⟨r1, r2, rfl, hB, F1, F2, hA, hS, hz, l0, l2, hp⟩
  have al' : Z.vm.Alike B.U.vm := hZ.alike.trans X'.warmed.alike
  have hsz : E'.slots.size = D.slots.size := by
    obtain ⟨-, -, -, kB, w1, w2, w3⟩ := q1
    obtain ⟨kB', y1, y2⟩ := al'.2.2 _ _ e3
    rw [q2.2.1] at w1
    cases w1.symm.trans y1
    rw [w3, e5 i3, y2]
  refine ⟨v, B, X', ⟨_, ⟨hv, ?_, ⟨by omega, fun y cy hy hn' => q10 y cy (by simpa using hn') hy, fun y cy hy => ?_⟩, q11, ⟨E', _, q1.1, by rw [q2.2.1]; exact e2, by rw [q2.2.1]; exact e3, by rw [q2.1]; exact obV, fun _ => by rw [hsz]; exact e5 i3⟩,
    ⟨E', cfV, kV, iV, fV, q1.1, gV, stV, by rw [q2.1]; exact knV, by rw [q2.1]; exact obV, by rw [q2.2.1]; exact asV, q3⟩, ⟨E', cfC, kC, iC, fC, q1.1, gC, stC, by rw [q2.1]; exact knV, by rw [q2.1]; exact obV, by rw [q2.2.1]; exact asC, q4⟩,
    ⟨V', ⟨q5.1, State.isArrayOf_alike al'.symm q5.2.1, q5.2.2.1⟩, q6, by rw [← al'.findClass]; exact q7, q8, fun j hj => by have := q9 j hj; rwa [Nat.zero_add] at this⟩, fun O n d w F n1 n2 => ?_⟩, hl, hc, hs⟩, st⟩
  · intro y hy
    simp only [List.mem_cons, List.not_mem_nil, or_false] at hy
    rcases hy with rfl | rfl <;> rfl
  · by_cases q : y = x
    · subst q
      cases hD.symm.trans hy
      exact ⟨E', q1.1, q2.2.1, q2.1, hsz⟩
    · exact ⟨cy, q10 y cy q hy, rfl, rfl, rfl⟩
  · obtain ⟨D3, cf, k, i, f, g1, g2, g3, g4, g5, g6, g7⟩ := F
    cases hD.symm.trans g1
    simp only [RoadKit.slotOf, g2, gV, gC, Option.map_some, Option.getD_some] at n1 n2
    exact ⟨E', cf, k, i, f, q1.1, g2, g3, by rw [q2.1]; exact g4, by rw [q2.1]; exact g5, by rw [q2.2.1]; exact g6, by rw [q2.2.2 f.slot (by simp [n1, n2])]; exact g7⟩
end StrChars.Road
namespace StrChars.Road
open Jvm Sem ClassFile Op Lib Jvm.Stand Jvm.Free Jvm.Free.XT
/-- WHAT COMES BACK, the byte[] as a list of values -/
def QA (Z : State) (x : Addr) (zn : Int32) (cs : List Int32) (h : Heap) (v : Option Value) (h' : Heap) (L : List Loc) : Prop := v = none ∧ (∀ y ∈ L, y.base = x) ∧ RoadKit.Keep h h' [x] ∧ h'.size = h.size + 1 ∧ RoadKit.Exa Z h' x ST ∧ RoadKit.Fld Z h' x ST "value" "[B" (.ref h.size) ∧ RoadKit.Fld Z h' x ST "coder" "B" (.int 0) ∧
  (∃ kb, Z.vm.findClass "[B" = some kb ∧ RoadKit.Arv Z h' h.size kb .byte zn (cs.map fun c => .int (lo8 c)) (.int 0)) ∧
  ∀ (O n d : String) (w : Value), RoadKit.Fld Z h x O n d w → RoadKit.slotOf Z O n d ≠ RoadKit.slotOf Z ST "value" "[B" → RoadKit.slotOf Z O n d ≠ RoadKit.slotOf Z ST "coder" "B" → RoadKit.Fld Z h' x O n d w
/-- **new String(chars) AT A CALL, THE ARRAYS AS LISTS**: the char[] at b holds cs, not empty, no char above 255 -/
theorem backArv {p : Program} {l : Launch} {e : Env} {R : Room} {s : State} {args : Array Value} {below : List Frame} {len W : Nat} {Z : State} {a0 : Array Value} {h : Heap} (hZ : Z.Warmed39 s.vm) (hw : ∀ d ∈ words, d.before a0 Z = true) {kI : Nat} (wi : (Jvm.Cond.instantiable ST kI).before a0 Z = true)
    {x b : Addr} {k : ClassId} {zn z : Int32} {cs : List Int32} {dv v0 c0 : Value} (E : RoadKit.Exa Z h x ST) (V : RoadKit.Fld Z h x ST "value" "[B" v0) (C : RoadKit.Fld Z h x ST "coder" "B" c0) (K : RoadKit.Arv Z h b k .char zn (cs.map Value.int) dv) (S : RoadKit.Sta Z h ST "COMPACT_STRINGS" "Z" (.int z)) (hz : ¬ z = 0)
    (hlen : zn.toNatClampNeg = cs.length) (h0 : 0 < cs.length) (hbig : cs.length ≤ 536870912) (hall : ∀ c ∈ cs, ¬ 255 < c) (hfr : 4 ≤ R.frames) (hlo : W + 65 ≤ R.locals) :
    Back l R p e below s args New1.yN len W (fun P a => a = #[.ref x, .ref b] ∧ P.U.heap = h ∧ P.cells + 1 ≤ R.cells ∧ P.slots + cs.length ≤ R.slots)
      (fun P _ v B => ∃ L, QA Z x zn cs h v B.U.heap L ∧ B.locs = P.locs ++ L ∧ B.cells = P.cells + 1 ∧ B.slots = P.slots + cs.length) := by
  obtain ⟨A, K1, K2, K3, K4, K5, K6⟩ := K
  have e : A.slots.size = cs.length := K3.trans hlen
  have hat : ∀ (i : Nat) (hi : i < cs.length), A.slots[i]? = some (.int cs[i]) := fun i hi => by rw [K5 i (by omega)]; simp [List.getD_eq_getElem?_getD, hi]
  have hcv : ∀ (i : Nat) (hi : i < cs.length), cv A i = cs[i] := fun i hi => by unfold cv; rw [hat i hi]
  have hty : Typed .char A := fun i v hv => by
    have hi : i < A.slots.size := (Array.getElem?_eq_some_iff.mp hv).1
    have q := K5 i hi
    rw [hv] at q
    rw [Option.some.inj q]
    exact K6 i hi
  refine Back.mono (back hZ hw wi E V C K1 hty S hz (by omega) (by omega) (fun i hi => by rw [hcv i (by omega)]; exact hall _ (List.getElem_mem _)) hfr hlo) (fun P a hp => ⟨hp.1, hp.2.1, hp.2.2.1, by rw [e]; exact hp.2.2.2⟩) (fun P a v B hp hq => ?_)
  obtain ⟨L, ⟨q1, q2, q3, q4, q5, q6, q7, ⟨V', v1, v2, v3, v4, v5⟩, q9⟩, hl, hc, hs⟩ := hq
  refine ⟨L, ⟨q1, q2, q3, q4, q5, q6, q7, ⟨V'.cls, v3, V', v1, rfl, by rw [v4, e, hlen], K4, fun i hi => ?_, fun i hi => ?_⟩, q9⟩, hl, hc, by rw [hs, e]⟩
  · have hi' : i < cs.length := by omega
    rw [v5 i (by omega), hcv i hi']; simp [List.getD_eq_getElem?_getD, hi']
  · have hi' : i < cs.length := by omega
    simp only [List.getD_eq_getElem?_getD, List.getElem?_map, List.getElem?_eq_getElem hi', Option.map_some, Option.getD_some]
    exact fits_lo8 _
end StrChars.Road
namespace StrChars.Road
open Jvm Sem ClassFile Op Lib Jvm.Stand Jvm.Free Jvm.Free.XT
/-- WHAT COMES BACK, in the writer's own shape -/
def QV (Z : State) (x : Addr) (N : Int32) (bs : List Int32) (h : Heap) (n0 : Nat) (v : Option Value) (h' : Heap) (L : List Loc) : Prop := v = none ∧ RoadKit.Fr n0 L ∧ RoadKit.Keep h h' [x] ∧ RoadKit.Exa Z h' x ST ∧ RoadKit.Fld Z h' x ST "coder" "B" (.int 0) ∧
  ∃ (t : Addr) (kb : ClassId), n0 ≤ t ∧ h.size ≤ t ∧ ¬ t = x ∧ RoadKit.Fld Z h' x ST "value" "[B" (.ref t) ∧ RoadKit.Arv Z h' t kb .byte N (bs.map Value.int) (.int 0)
/-- **new String(chars) AT A CALL, FOR THE WRITER**: a char[] of n known ints, each 0 to 255 -/
theorem backV {p : Program} {l : Launch} {e : Env} {R : Room} {s : State} {args : Array Value} {below : List Frame} {len W : Nat} {Z : State} {a0 : Array Value} {h : Heap} (hZ : Z.Warmed39 s.vm) (hw : ∀ d ∈ words, d.before a0 Z = true) {kI : Nat} (wi : (Jvm.Cond.instantiable ST kI).before a0 Z = true)
    {x b : Addr} {kC : ClassId} {cs bs : List Int32} {d v0 c0 : Value} {z N : Int32} {n n0 : Nat} (hx0 : n0 ≤ x) (hh0 : n0 ≤ h.size) (E : RoadKit.Exa Z h x ST) (V : RoadKit.Fld Z h x ST "value" "[B" v0) (C : RoadKit.Fld Z h x ST "coder" "B" c0) (K : RoadKit.Arv Z h b kC .char N (cs.map Value.int) d) (S : RoadKit.Sta Z h ST "COMPACT_STRINGS" "Z" (.int z)) (hz : ¬ z = 0)
    (hn : cs.length = n) (hN : N = Int32.ofNat n) (l0 : 0 < n) (l2 : n ≤ 4000) (hp : ∀ c ∈ cs, ¬ c < 0 ∧ ¬ (255 : Int32) < c) (hb : bs = cs.map (fun c => c.toInt8.toInt32)) (hfr : 4 ≤ R.frames) (hlo : W + 65 ≤ R.locals) :
    Back l R p e below s args (⟨"java/lang/String", "<init>", "([C)V"⟩ : MethodName) len W (fun P a => a = #[.ref x, .ref b] ∧ P.U.heap = h ∧ P.cells + 1 ≤ R.cells ∧ P.slots + n ≤ R.slots)
      (fun P _ v B => ∃ L, QV Z x N bs h n0 v B.U.heap L ∧ B.locs = P.locs ++ L ∧ B.cells = P.cells + 1 ∧ B.slots = P.slots + n) := by
  subst hn hN hb
  refine Back.mono (backArv hZ hw wi E V C K S hz (n32 (by omega)) l0 (by omega) (fun c hc => (hp c hc).2) hfr hlo) (fun P a hp => hp) (fun P a v B hp hq => ?_)
  obtain ⟨L, ⟨q1, q2, q3, q4, q5, q6, q7, ⟨kb, v1, v2⟩, q9⟩, hl, hc, hs⟩ := hq
  exact ⟨L, ⟨q1, fun y hy => by rw [q2 y hy]; exact hx0, q3, q5, q7, h.size, kb, hh0, Nat.le_refl _, Nat.ne_of_gt E.lt, q6, by rw [List.map_map]; exact v2⟩, hl, hc, hs⟩
end StrChars.Road
end Jvm.Pilot.@@N@@

namespace Jvm.Pilot.@@N@@
open Jvm Jvm.ClassFile Sem Op Lib Jvm.Free Jvm.Stand Jvm.LawKit Jvm.RoadKit Bundle Jvm.Pilot.@@N@@.Jvm.D
theorem own_lt {x y : Int32} (h : x < y) : if_icmp.holds .lt x y = true ∧ if_icmp.holds .ge x y = false := by simp [if_icmp.holds, h, Int32.not_le.mpr h]
def own_Goes (p : Program) (e : Env) (below : List Frame) (s : State) (Q : Option Value → Heap → List Loc → Prop) (kc ks : Nat) (U : State) : Prop :=
  ∃ t o, Steps p.tables e below U t ∧ t.status = .running ∧ Ended t below o ∧ ∃ v L, o = .returned v ∧ Q v t.heap L ∧ FrameEnd s o t L kc ks
theorem own_go {p : Program} {e : Env} {below : List Frame} {s : State} {Q : Option Value → Heap → List Loc → Prop} {kc ks : Nat} {U V : State} (h : ∀ t, Steps p.tables e below V t → Steps p.tables e below U t) (g : own_Goes p e below s Q kc ks V) : own_Goes p e below s Q kc ks U := by
  obtain ⟨t, o, h1, r⟩ := g
  exact ⟨t, o, h t h1, r⟩
theorem own_out {p : Program} {l : Launch} {e : Env} {R : Room} {s : State} {m : MethodId} {args : Array Value} {below : List Frame} {meth : Method} {c : Code} {T : State} {locs : List Loc} {cells slots : Nat} {h : Heap} {Q : Option Value → Heap → List Loc → Prop} {kc ks : Nat} {U : State} {v : Option Value}
    (X : Stand p l e R s m args below meth c T locs cells slots) (hlk : meth.locks = false) (hv : meth.sig.returnType = none → v = none)
    (hs : ∀ fs, (∀ (f : JFrame) (acts : List Action), f.method = m → f.locked = none → f.entered = [] → (doReturn e (T.setTop f) acts v).1 = T.setFrames fs) → Steps p.tables e below U (T.setFrames fs))
    (eT : T.heap = h) (hQ : Q v h locs) (hc : cells ≤ kc) (hsl : slots ≤ ks) : own_Goes p e below s Q kc ks U := by
  obtain ⟨fs, hr, hrun, hended, hW, hsame⟩ := X.leave hv hlk
  subst eT
  exact ⟨_, _, hs fs hr, hrun, hended, _, _, rfl, hQ, ⟨_, rfl⟩, hW, hsame.mono hc hsl⟩
theorem own_ks {h0 h : Heap} {ws : List Addr} (K : Keep h0 h ws) : h0.size ≤ h.size := K.1
theorem own_cmpL (x : Int64) : XT.cmpL x x = 0 := by simp [XT.cmpL]
theorem own_vne {a b : Int32} (h : a ≠ b) : Value.int a ≠ .int b := fun q => h (Value.int.inj q)
theorem own_nn (x : Int32) : ¬ (x &&& 2147483647) < 0 := fun h => absurd ((XT.and_neg32 x 2147483647).mp h).2 (by decide)
theorem own_ns {Z : State} {n0 : Nat} {h : Heap} (O : Old Z n0 h) : n0 ≤ h.size := O.1 ▸ O.2.1
theorem own_lk {p : Program} {l : Launch} {x : MethodName} {S : Spec} {code : ByteArray} {maxLocals : Nat} {ret : Option FieldType} {e : Env} {s : State} {m : MethodId} {args : Array Value} {below : List Frame} {meth : Method} {c : Code} {s₁ : State} (B : BodyLoose p l x S code maxLocals ret e s m args below meth c s₁) : meth.locks = false := B.notSynchronized
theorem own_if (cd : ClassFile.Cond) {x : Int32} {b : Bool} (h : if_icmp.holds cd x 0 = b) : ifCond.holds cd x = b := by rw [if0]; exact h
theorem own_aeq {a b : Addr} (h : a = b) : XT.acmp .eq (.ref a) (.ref b) = true ∧ XT.acmp .ne (.ref a) (.ref b) = false := by subst h; exact ⟨XT.aa_eq_t rfl, XT.aa_ne_f rfl⟩
theorem own_ane {a b : Addr} (h : ¬ a = b) : XT.acmp .eq (.ref a) (.ref b) = false ∧ XT.acmp .ne (.ref a) (.ref b) = true := ⟨XT.aa_eq_f (fun q => h (Value.ref.inj q)), XT.aa_ne_t (fun q => h (Value.ref.inj q))⟩
theorem own_eqI {args : Array Value} {s : State} {u : Term} {k : Int32} (h : (Jvm.Cond.eq u (.int k)).value args s none s [] = some true) : u.eval args s none [] s = some (.int k) := by
  simp only [Jvm.Cond.value] at h
  cases hf : u.eval args s none [] s with
  | none => simp [hf] at h
  | some v => cases v <;> simp [hf, Term.eval] at h; subst h; rfl
theorem own_eqJ {args : Array Value} {s : State} {u : Term} {k : Int64} (h : (Jvm.Cond.eq u (.long k)).value args s none s [] = some true) : u.eval args s none [] s = some (.long k) := by
  simp only [Jvm.Cond.value] at h
  cases hf : u.eval args s none [] s with
  | none => simp [hf] at h
  | some v => cases v <;> simp [hf, Term.eval] at h; subst h; rfl
theorem own_cl_gt (x y : Int64) : 0 < XT.cmpL x y ↔ y < x := by
  unfold XT.cmpL
  by_cases h : y < x
  · simp [h]
  · by_cases g : x = y
    · subst g; simp [h]
    · simp [h, g]
theorem own_cl_lt (x y : Int64) : XT.cmpL x y < 0 ↔ x < y := by
  unfold XT.cmpL
  by_cases h : y < x
  · have : ¬ x < y := fun q => by rw [Int64.lt_iff_toInt_lt] at h q; omega
    simp [h, this]
  · by_cases g : x = y
    · subst g; simp [h]
    · have : x < y := by
        rw [Int64.lt_iff_toInt_lt] at h ⊢
        have ne : x.toInt ≠ y.toInt := fun q => g (Int64.toInt_inj.mp q)
        omega
      simp [h, g, this]
theorem own_privateBack {p : Program} {l : Launch} {e : Env} {R : Room} {s : State} {m : MethodId} {args : Array Value} {below : List Frame} {meth : Method} {c : Code} {T : State} {locs : List Loc} {cells slots : Nat}
    (X : Stand p l e R s m args below meth c T locs cells slots) (hexec : p.tables.exec = Jvm.exec) {own : String} {index k : Nat} {y : MethodName} {bytes : ByteArray} {maxL : Nat} {ret : Option FieldType}
    (hown : s.vm.findClass own = some m.cls) (hlink : (Jvm.Cond.methodLink own index y).before args s = true) (hinst : (Jvm.Cond.instanceMethod y).before args s = true) (hmk : (Jvm.Cond.instantiable y.cls k).before args s = true)
    (hpriv : s.PrivateAt y) (hcode : (Jvm.Cond.code y bytes maxL ret).before args s = true) (hy : y.cls ≠ "java/lang/invoke/MethodHandle" ∧ y.cls ≠ "java/lang/invoke/VarHandle")
    {W : Nat} {Pre : Free.Pt → Array Value → Prop} {Post : Free.Pt → Array Value → Option Value → Free.Pt → Prop} (hK : Free.Back l R p e below s args y 3 W Pre Post)
    {g : JFrame} (hg : g.method = m) (hsize : g.locals.size = c.maxLocals) {s₀ : State} (hcome : Steps p.tables e below s₀ (T.setTop g)) {a : Addr} {cell : Cell} (hcell : T.heap[a]? = some cell) (hobj : ∀ q, cell.vm ≠ .statics q)
    {argsL rest : List Value} (hlen : ∀ sig, parseMethodDescriptor y.desc = some sig → argsL.length = sig.parameters.length)
    (hstack : g.stack = argsL.reverse ++ .ref a :: rest) (hW : 2 * g.monitorRoom + (rest.map fun v => v.category).sum ≤ W) (hdg : decode c.code g.pc = .ok (.invokevirtual index, 3))
    (hpre : ∀ vm₁, s.WarmedH vm₁ → Pre ⟨T.setVm vm₁, locs, cells, slots⟩ (.ref a :: argsL).toArray) :
    ∃ (v : Option Value) (vm₁ : Vm) (B : Free.Pt), s.WarmedH vm₁ ∧ Stand p l e R s m args below meth c B.U B.locs B.cells B.slots ∧ Post ⟨T.setVm vm₁, locs, cells, slots⟩ (.ref a :: argsL).toArray v B ∧
      Steps p.tables e below s₀ (B.U.setTop { g with pc := g.pc + 3, stack := v.toList ++ rest }) := by
  obtain ⟨mk, r, named, found, inst, abs⟩ := Cond.instanceMethod_spec hinst
  obtain ⟨r', cM, found', -, -, -, -, -, -, sig⟩ := Cond.code_spec named hcode
  cases found.symm.trans found'
  obtain ⟨cC, kC, k1, k2, -, k4, -⟩ := Cond.instantiable_spec hmk
  cases (findClass_of_methodNamed named).symm.trans k1
  have face : kC.isInterface = false := (Bool.or_eq_false_iff.mp k4).1
  have sel : selectMethod e.platform s.vm cell.cls mk = .method mk := selectMethod_private found (hpriv mk r named found)
  obtain ⟨vm₁, X₁, go⟩ := X.invokevirtual hexec hown hlink named found inst k2 face hy (a := a) (cell := cell) hcell hobj sel found abs k2 face (g := g) hg (argsL := argsL) (rest := rest) (hlen _ sig) hstack hdg
  obtain ⟨v, B, X', post, back⟩ := hK m meth c ⟨T.setVm vm₁, locs, cells, slots⟩ { g with stack := rest } (.invokevirtual index) mk (.ref a :: argsL).toArray X₁ hg hsize hdg hW (X₁.named named) (hpre vm₁ X₁.warmed)
  exact ⟨v, vm₁, B, X₁.warmed, X', post, (hcome.trans (go _ fun acts => by rw [doInvoke_state]; exact Steps.refl _)).trans back⟩
theorem own_fitR {C : String} {v : Value} (h : v.isRef = true) : fits (.object C) v = true := by rcases ref_cases h with rfl | ⟨a, rfl⟩ <;> rfl
theorem own_fI {args : Array Value} {s : State} {t : Term} {a : Addr} {O n d : String} {k : Int32} (ev : t.eval args s none [] s = some (.ref a)) (h : (Jvm.Cond.eq (.field t O n d) (.int k)).value args s none s [] = some true) : Fld s s.heap a O n d (.int k) := by
  refine Fld.start ?_
  simp only [Jvm.Cond.value, fld_at ev] at h
  cases hf : s.fieldOf? a O n d with
  | none => simp [hf] at h
  | some v => cases v <;> simp [hf, Term.eval] at h; subst h; rfl
theorem own_fJ {args : Array Value} {s : State} {t : Term} {a : Addr} {O n d : String} {k : Int64} (ev : t.eval args s none [] s = some (.ref a)) (h : (Jvm.Cond.eq (.field t O n d) (.long k)).value args s none s [] = some true) : Fld s s.heap a O n d (.long k) := by
  refine Fld.start ?_
  simp only [Jvm.Cond.value, fld_at ev] at h
  cases hf : s.fieldOf? a O n d with
  | none => simp [hf] at h
  | some v => cases v <;> simp [hf, Term.eval] at h; subst h; rfl
theorem own_fN {args : Array Value} {s : State} {t : Term} {a : Addr} {O n d : String} (ev : t.eval args s none [] s = some (.ref a)) (h : (Jvm.Cond.eq (.field t O n d) .null).value args s none s [] = some true) : Fld s s.heap a O n d .null := Fld.start ((fld_at ev).symm.trans (null_v h))
def own_GoesW (p : Program) (e : Env) (below : List Frame) (s : State) (Q : Option Value → Heap → Vm → List Loc → Prop) (kc ks : Nat) (U : State) : Prop :=
  ∃ t o, Steps p.tables e below U t ∧ t.status = .running ∧ Ended t below o ∧ ∃ v L, o = .returned v ∧ Q v t.heap t.vm L ∧ ReturnedEndW s o t L kc ks
theorem own_goW {p : Program} {e : Env} {below : List Frame} {s : State} {Q : Option Value → Heap → Vm → List Loc → Prop} {kc ks : Nat} {U V : State} (h : ∀ t, Steps p.tables e below V t → Steps p.tables e below U t) (g : own_GoesW p e below s Q kc ks V) : own_GoesW p e below s Q kc ks U := by
  obtain ⟨t, o, h1, r⟩ := g
  exact ⟨t, o, h t h1, r⟩
theorem own_outW {p : Program} {l : Launch} {e : Env} {R : Room} {s : State} {m : MethodId} {args : Array Value} {below : List Frame} {meth : Method} {c : Code} {T : State} {locs : List Loc} {cells slots : Nat} {h : Heap} {Q : Option Value → Heap → Vm → List Loc → Prop} {kc ks : Nat} {U : State} {v : Option Value} {vm0 : Vm} {k0 : Nat}
    (X : Stand p l e R (s.setVm vm0) m args below meth c T locs cells slots) (hS : s.Since vm0 k0) (hk : k0 ≤ h.size) (hlk : meth.locks = false) (hv : meth.sig.returnType = none → v = none)
    (hs : ∀ fs, (∀ (f : JFrame) (acts : List Action), f.method = m → f.locked = none → f.entered = [] → (doReturn e (T.setTop f) acts v).1 = T.setFrames fs) → Steps p.tables e below U (T.setFrames fs))
    (eT : T.heap = h) (hQ : Q v h T.vm locs) (hc : cells ≤ kc) (hsl : slots ≤ ks) : own_GoesW p e below s Q kc ks U := by
  subst eT
  obtain ⟨fs, hr, hrun, hended, hE⟩ := X.leaveW hS hk hv hlk
  exact ⟨_, _, hs fs hr, hrun, hended, _, _, rfl, hQ, hE.1, hE.2.1, hE.2.2.1, hE.2.2.2.mono hc hsl⟩
theorem own_backV {p : Program} {l : Launch} {e : Env} {R : Room} {s : State} {args : Array Value} {below : List Frame} {Z : State} {a0 : Array Value} {h : Heap} {y : MethodName} {bytes : ByteArray} {maxL : Nat} {ret : Option FieldType} {rm : Room} {len W : Nat} {as' : Array Value} {VI : Vm → Prop} {Q : Option Value → Heap → Vm → List Loc → Prop}
    (hM : MetFree l y (head1 [Jvm.Cond.code y bytes maxL ret] rm) (fun a U => a = as' ∧ Z.Warmed39 U.vm ∧ U.heap = h ∧ VI U.vm) (fun _ _ _ _ _ => True) (fun _ U o U' => ∃ v L, o = .returned v ∧ Q v U'.heap U'.vm L ∧ ReturnedEndW U o U' L rm.cells rm.slots))
    (hZ : Z.Warmed39 s.vm) (hV : ∀ vm₁, s.WarmedH vm₁ → VI vm₁) (wc : (Jvm.Cond.code y bytes maxL ret).before a0 Z = true) (wz : (Jvm.Cond.initialized y.cls).before a0 Z = true) (hf : rm.frames + 1 ≤ R.frames) (hl : W + (maxL + 11) + rm.locals ≤ R.locals) :
    BackS l R p e below s args y len W (fun A a => a = as' ∧ A.U.heap = h ∧ A.cells + rm.cells ≤ R.cells ∧ A.slots + rm.slots ≤ R.slots)
      (fun A _ v B => ∃ L, Q v B.U.heap B.U.vm L ∧ B.locs = A.locs ++ L ∧ B.cells = A.cells + rm.cells ∧ B.slots = A.slots + rm.slots) :=
  BackS.of_freeW (bytes := bytes) (maxL := maxL) (ret := ret) (E := fun _ _ o t L k n => k = rm.cells ∧ n = rm.slots ∧ ∃ v, o = .returned v ∧ Q v t.heap t.vm L) hM hf hl
    (fun m meth c A a Y hp => ⟨by show (Jvm.Cond.and _ .tt).before a A.U = true; rw [Cond.before_and, mv (wtrans hZ Y.warmed) wc]; rfl, mv (wtrans hZ Y.warmed) wc, mv (wtrans hZ Y.warmed) wz, hp.2.2.1, hp.2.2.2⟩)
    (fun m meth c A a g mk Y hp => ⟨hp.1, wtrans hZ Y.warmed, hp.2.1, hV _ Y.warmed⟩) (fun _ _ _ _ _ _ _ _ _ => trivial)
    (fun _ _ _ _ ⟨v, L, h1, h2, h3⟩ => ⟨L, _, _, h3, rfl, rfl, v, h1, h2⟩)
    (fun m meth c A a g mk v t L k n Y hp _ _ ⟨e1, e2, v', e3, e4⟩ => by cases e3; subst e1 e2; exact ⟨L, e4, rfl, rfl, rfl⟩)
theorem own_IBw {Z b : State} {vm : Vm} {Ts : List String} (h : b.WarmedH vm) (I : IB Z b.vm Ts) : IB Z vm Ts := by
  obtain ⟨more, h1, h2⟩ := I
  exact ⟨more, by rw [h.interned_eq]; exact h1, h2⟩
theorem own_Litw {b : State} {vm0 vm : Vm} {own : String} {i : Nat} {a : Addr} (h : (b.setVm vm0).WarmedH vm) (L : Lit (b.setVm vm0) own i a) : Lit (b.setVm vm) own i a := Lit.stays L h.wide
abbrev own_y0 : MethodName := ⟨"java/util/AbstractCollection", "<init>", "()V"⟩
abbrev own_y1 : MethodName := ⟨"java/util/ImmutableCollections$AbstractImmutableCollection", "<init>", "()V"⟩
abbrev own_y2 : MethodName := ⟨"java/util/ImmutableCollections$AbstractImmutableList", "<init>", "()V"⟩
abbrev own_y3 : MethodName := ⟨"com/example/navlint/navlint/model/HashedValue", "<init>", "()V"⟩
abbrev own_y4 : MethodName := ⟨"java/util/AbstractList", "<init>", "()V"⟩
abbrev own_y5 : MethodName := ⟨"java/util/ArrayList", "<init>", "()V"⟩
abbrev own_y6 : MethodName := ⟨"java/lang/Math", "max", "(II)I"⟩
abbrev own_y7 : MethodName := ⟨"java/lang/Math", "min", "(II)I"⟩
abbrev own_y8 : MethodName := ⟨"java/util/ArrayList", "grow", "(I)[Ljava/lang/Object;"⟩
abbrev own_y9 : MethodName := ⟨"java/util/ArrayList", "grow", "()[Ljava/lang/Object;"⟩
abbrev own_y10 : MethodName := ⟨"java/util/ArrayList", "add", "(Ljava/lang/Object;[Ljava/lang/Object;I)V"⟩
abbrev own_y11 : MethodName := ⟨"java/util/ArrayList", "add", "(Ljava/lang/Object;)Z"⟩
abbrev own_y12 : MethodName := ⟨"java/util/Arrays", "copyOf", "([Ljava/lang/Object;ILjava/lang/Class;)[Ljava/lang/Object;"⟩
abbrev own_y13 : MethodName := ⟨"java/util/Arrays", "copyOf", "([Ljava/lang/Object;I)[Ljava/lang/Object;"⟩
abbrev own_y14 : MethodName := ⟨"java/util/ArrayList", "toArray", "()[Ljava/lang/Object;"⟩
abbrev own_y15 : MethodName := ⟨"java/util/Objects", "requireNonNull", "(Ljava/lang/Object;)Ljava/lang/Object;"⟩
abbrev own_y16 : MethodName := ⟨"java/util/Objects", "requireNonNull", "(Ljava/lang/Object;Ljava/lang/String;)Ljava/lang/Object;"⟩
abbrev own_y17 : MethodName := ⟨"java/util/ImmutableCollections$List12", "<init>", "(Ljava/lang/Object;)V"⟩
abbrev own_y18 : MethodName := ⟨"java/util/List", "of", "([Ljava/lang/Object;)Ljava/util/List;"⟩
abbrev own_y19 : MethodName := ⟨"java/util/List", "of", "()Ljava/util/List;"⟩
abbrev own_y20 : MethodName := ⟨"java/util/ArrayList", "isEmpty", "()Z"⟩
abbrev own_y21 : MethodName := ⟨"java/util/Collection", "isEmpty", "()Z"⟩
abbrev own_y22 : MethodName := ⟨"java/util/ImmutableCollections", "listCopy", "(Ljava/util/Collection;)Ljava/util/List;"⟩
abbrev own_y23 : MethodName := ⟨"java/util/List", "copyOf", "(Ljava/util/Collection;)Ljava/util/List;"⟩
abbrev own_y24 : MethodName := ⟨"java/util/Collection", "toArray", "()[Ljava/lang/Object;"⟩
abbrev own_y25 : MethodName := ⟨"java/util/Map", "of", "()Ljava/util/Map;"⟩
abbrev own_y26 : MethodName := ⟨"java/util/Map", "copyOf", "(Ljava/util/Map;)Ljava/util/Map;"⟩
abbrev own_y27 : MethodName := ⟨"com/example/navlint/navlint/model/Entry", "<init>", "(Ljava/lang/String;Ljava/util/List;Ljava/util/Map;Lcom/example/navlint/navlint/model/Request;)V"⟩
abbrev own_y28 : MethodName := ⟨"com/example/navlint/navlint/model/State$Tab", "<init>", "(Lcom/example/navlint/navlint/model/Entry;Ljava/util/List;Ljava/util/List;)V"⟩
abbrev own_y29 : MethodName := ⟨"com/example/navlint/navlint/model/State$Tab", "waiting", "()Lcom/example/navlint/navlint/model/State$Tab;"⟩
abbrev own_y30 : MethodName := ⟨"com/example/navlint/navlint/model/State$Tab", "showing", "(Lcom/example/navlint/navlint/model/Entry;)Lcom/example/navlint/navlint/model/State$Tab;"⟩
abbrev own_y31 : MethodName := ⟨"com/example/navlint/navlint/model/State$Tab", "waits", "()Z"⟩
abbrev own_y32 : MethodName := ⟨"com/example/navlint/navlint/model/State$Tab", "entry", "()Lcom/example/navlint/navlint/model/Entry;"⟩
abbrev own_y33 : MethodName := ⟨"java/lang/String", "<init>", "([C)V"⟩
theorem pn_0 : plainName "java/util/AbstractCollection" = true := by first | (simp [plainName, overriddenIn]; done) | decide +kernel
theorem pn_1 : plainName "java/util/ImmutableCollections$AbstractImmutableCollection" = true := by first | (simp [plainName, overriddenIn]; done) | decide +kernel
theorem pn_2 : plainName "java/util/ImmutableCollections$AbstractImmutableList" = true := by first | (simp [plainName, overriddenIn]; done) | decide +kernel
theorem pn_3 : plainName "com/example/navlint/navlint/model/HashedValue" = true := by first | (simp [plainName, overriddenIn]; done) | decide +kernel
theorem pn_4 : plainName "java/util/AbstractList" = true := by first | (simp [plainName, overriddenIn]; done) | decide +kernel
theorem pn_5 : plainName "java/util/ArrayList" = true := by first | (simp [plainName, overriddenIn]; done) | decide +kernel
theorem pn_6 : plainName "java/util/Arrays" = true := by first | (simp [plainName, overriddenIn]; done) | decide +kernel
theorem pn_7 : plainName "java/util/Objects" = true := by first | (simp [plainName, overriddenIn]; done) | decide +kernel
theorem pn_8 : plainName "java/util/ImmutableCollections$List12" = true := by first | (simp [plainName, overriddenIn]; done) | decide +kernel
theorem pn_9 : plainName "java/util/List" = true := by first | (simp [plainName, overriddenIn]; done) | decide +kernel
theorem pn_10 : plainName "java/util/ImmutableCollections" = true := by first | (simp [plainName, overriddenIn]; done) | decide +kernel
theorem pn_11 : plainName "java/util/Map" = true := by first | (simp [plainName, overriddenIn]; done) | decide +kernel
theorem pn_12 : plainName "com/example/navlint/navlint/model/Entry" = true := by first | (simp [plainName, overriddenIn]; done) | decide +kernel
theorem pn_13 : plainName "com/example/navlint/navlint/model/State$Tab" = true := by first | (simp [plainName, overriddenIn]; done) | decide +kernel
theorem pn_14 : plainName "com/example/navlint/navlint/model/TabWaitsPinLaw" = true := by first | (simp [plainName, overriddenIn]; done) | decide +kernel
theorem pd_0 : parseMethodDescriptor "()V" = some ⟨[], none⟩ := by decide +kernel
theorem pd_1 : parseMethodDescriptor "(II)I" = some ⟨[.int, .int], some .int⟩ := by decide +kernel
theorem pd_2 : parseMethodDescriptor "(I)[Ljava/lang/Object;" = some ⟨[.int], some (.array (.object "java/lang/Object"))⟩ := by decide +kernel
theorem pd_3 : parseMethodDescriptor "()[Ljava/lang/Object;" = some ⟨[], some (.array (.object "java/lang/Object"))⟩ := by decide +kernel
theorem pd_4 : parseMethodDescriptor "(Ljava/lang/Object;[Ljava/lang/Object;I)V" = some ⟨[(.object "java/lang/Object"), (.array (.object "java/lang/Object")), .int], none⟩ := by decide +kernel
theorem pd_5 : parseMethodDescriptor "([Ljava/lang/Object;ILjava/lang/Class;)[Ljava/lang/Object;" = some ⟨[(.array (.object "java/lang/Object")), .int, (.object "java/lang/Class")], some (.array (.object "java/lang/Object"))⟩ := by decide +kernel
theorem pd_6 : parseMethodDescriptor "([Ljava/lang/Object;I)[Ljava/lang/Object;" = some ⟨[(.array (.object "java/lang/Object")), .int], some (.array (.object "java/lang/Object"))⟩ := by decide +kernel
theorem pd_7 : parseMethodDescriptor "(Ljava/lang/Object;)Ljava/lang/Object;" = some ⟨[(.object "java/lang/Object")], some (.object "java/lang/Object")⟩ := by decide +kernel
theorem pd_8 : parseMethodDescriptor "(Ljava/lang/Object;)V" = some ⟨[(.object "java/lang/Object")], none⟩ := by decide +kernel
theorem pd_9 : parseMethodDescriptor "()Z" = some ⟨[], some .boolean⟩ := by decide +kernel
theorem pd_10 : parseMethodDescriptor "()Ljava/util/List;" = some ⟨[], some (.object "java/util/List")⟩ := by decide +kernel
theorem pd_11 : parseMethodDescriptor "(Ljava/util/Collection;)Ljava/util/List;" = some ⟨[(.object "java/util/Collection")], some (.object "java/util/List")⟩ := by decide +kernel
theorem pd_12 : parseMethodDescriptor "([Ljava/lang/Object;)Ljava/util/List;" = some ⟨[(.array (.object "java/lang/Object"))], some (.object "java/util/List")⟩ := by decide +kernel
theorem pd_13 : parseMethodDescriptor "(Ljava/lang/Object;Ljava/lang/String;)Ljava/lang/Object;" = some ⟨[(.object "java/lang/Object"), (.object "java/lang/String")], some (.object "java/lang/Object")⟩ := by decide +kernel
theorem pd_14 : parseMethodDescriptor "(Ljava/util/Map;)Ljava/util/Map;" = some ⟨[(.object "java/util/Map")], some (.object "java/util/Map")⟩ := by decide +kernel
theorem pd_15 : parseMethodDescriptor "(Lcom/example/navlint/navlint/model/Entry;Ljava/util/List;Ljava/util/List;)V" = some ⟨[(.object "com/example/navlint/navlint/model/Entry"), (.object "java/util/List"), (.object "java/util/List")], none⟩ := by decide +kernel
theorem pd_16 : parseMethodDescriptor "([C)V" = some ⟨[(.array .char)], none⟩ := by decide +kernel
theorem pd_17 : parseMethodDescriptor "()Ljava/util/Map;" = some ⟨[], some (.object "java/util/Map")⟩ := by decide +kernel
theorem pd_18 : parseMethodDescriptor "(Ljava/lang/String;Ljava/util/List;Ljava/util/Map;Lcom/example/navlint/navlint/model/Request;)V" = some ⟨[(.object "java/lang/String"), (.object "java/util/List"), (.object "java/util/Map"), (.object "com/example/navlint/navlint/model/Request")], none⟩ := by decide +kernel
theorem pd_19 : parseMethodDescriptor "()Lcom/example/navlint/navlint/model/Entry;" = some ⟨[], some (.object "com/example/navlint/navlint/model/Entry")⟩ := by decide +kernel
theorem pd_20 : parseMethodDescriptor "()Lcom/example/navlint/navlint/model/State$Tab;" = some ⟨[], some (.object "com/example/navlint/navlint/model/State$Tab")⟩ := by decide +kernel
theorem pd_21 : parseMethodDescriptor "(Lcom/example/navlint/navlint/model/Entry;)Lcom/example/navlint/navlint/model/State$Tab;" = some ⟨[(.object "com/example/navlint/navlint/model/Entry")], some (.object "com/example/navlint/navlint/model/State$Tab")⟩ := by decide +kernel
theorem pd_22 : parseMethodDescriptor "(Ljava/lang/Object;)Z" = some ⟨[(.object "java/lang/Object")], some .boolean⟩ := by decide +kernel
theorem own_allc {P : Int32 → Prop} {y : Int32} {L : List Int32} (q : P y) (r : ∀ x ∈ L, P x) : ∀ x ∈ y :: L, P x := fun x z => (List.mem_cons.mp z).elim (fun u => u ▸ q) (r x)
theorem own_words {a0 : Array Value} {Z : State} (hw : ∀ d ∈ tables_1, d.before a0 Z = true) : ∀ d ∈ StrChars.Road.words, d.before a0 Z = true := fun d hd => hw d ((by decide +kernel : ∀ d ∈ StrChars.Road.words, d ∈ tables_1) d hd)
theorem own_wS {a0 : Array Value} {Z : State} (hw : ∀ d ∈ tables_1, d.before a0 Z = true) : ∀ a ∈ Bundle.stringAtoms, a.before a0 Z = true := by
  intro a ha
  simp only [Bundle.stringAtoms, List.mem_cons, List.not_mem_nil, or_false] at ha
  rcases ha with rfl | rfl | rfl | rfl | rfl | rfl | rfl
  · exact (hw _ (List.mem_of_getElem? (i := 6) rfl))
  · exact (hw _ (List.mem_of_getElem? (i := 5) rfl))
  · exact (hw _ (List.mem_of_getElem? (i := 22) rfl))
  · exact (hw _ (List.mem_of_getElem? (i := 32) rfl))
  · exact (hw _ (List.mem_of_getElem? (i := 30) rfl))
  · exact (hw _ (List.mem_of_getElem? (i := 73) rfl))
  · exact (hw _ (List.mem_of_getElem? (i := 74) rfl))
theorem own_up {cs : List Int32} (h : ∀ c ∈ cs, ¬ c < 0 ∧ ¬ (255 : Int32) < c) : ∀ c ∈ cs, ¬ c < 0 ∧ ¬ (65535 : Int32) < c := fun c hc => ⟨(h c hc).1, fun q => (h c hc).2 (by rw [Int32.lt_iff_toInt_lt] at q ⊢; have e1 : (65535 : Int32).toInt = 65535 := rfl; have e2 : (255 : Int32).toInt = 255 := rfl; omega)⟩
theorem own_chr (x : Int32) : ¬ ((x &&& (255 : Int32)).toUInt32.toUInt16.toUInt32.toInt32) < 0 ∧ ¬ (255 : Int32) < ((x &&& (255 : Int32)).toUInt32.toUInt16.toUInt32.toInt32) := by
  have t : ∀ k : Fin 256, ¬ ((Int32.ofNat k.val).toUInt32.toUInt16.toUInt32.toInt32) < 0 ∧ ¬ (255 : Int32) < ((Int32.ofNat k.val).toUInt32.toUInt16.toUInt32.toInt32) := by decide +kernel
  have h : (x &&& 255).toBitVec.toNat < 256 := by
    simp only [Int32.toBitVec_and, BitVec.toNat_and]
    exact Nat.lt_succ_of_le Nat.and_le_right
  have e : (x &&& 255) = Int32.ofNat (x &&& 255).toBitVec.toNat := by
    apply Int32.toBitVec_inj.mp
    show _ = BitVec.ofNat 32 _
    rw [BitVec.ofNat_toNat]; simp
  rw [e]
  exact t ⟨_, h⟩
theorem own_narc {r : Int32} (h : ¬ r < 0 ∧ ¬ (255 : Int32) < r) : nar .char r = r := by
  have t : ∀ k : Fin 256, nar .char (Int32.ofNat k.val) = Int32.ofNat k.val := by decide +kernel
  have e255 : (255 : Int32).toInt = 255 := rfl
  have h1 := h.1
  have h2 := h.2
  rw [XT.negI32] at h1
  rw [Int32.lt_iff_toInt_lt, e255] at h2
  have e : r = Int32.ofNat r.toInt.toNat := by
    apply Int32.toInt_inj.mp
    rw [Int32.toInt_ofNat_of_lt (by omega)]
    omega
  rw [e]
  exact t ⟨r.toInt.toNat, by omega⟩
theorem own_compact {args : Array Value} {s : State} (h1 : (Jvm.Cond.isInt (.static "java/lang/String" "COMPACT_STRINGS" "Z")).value args s none s [] = some true) (h2 : (Jvm.Cond.not (.eq (.static "java/lang/String" "COMPACT_STRINGS" "Z") (.int 0))).value args s none s [] = some true) (h3 : (Jvm.Cond.initializedFor "java/lang/String" "COMPACT_STRINGS" "Z").before args s = true) :
    ∃ z : Int32, Sta s s.heap "java/lang/String" "COMPACT_STRINGS" "Z" (.int z) ∧ ¬ z = 0 := by
  obtain ⟨z, ev⟩ := is_v h1
  refine ⟨z, Sta.start ev (Or.inl h3), fun q => ?_⟩
  have h4 := not_v h2
  rw [eq_i ev (Term.int_eval (0)) (by rw [q])] at h4
  cases h4
theorem own_w {a0 : Array Value} {Z : State} (hw : ∀ d ∈ tables_1, d.before a0 Z = true) (i : Nat) {d : Jvm.Cond} (e : tables_1[i]? = some d) : d.before a0 Z = true := hw _ (List.mem_of_getElem? e)
theorem own_rootI {Z : State} {a0 : Array Value} {O K : String} {n : Nat} (w : (Jvm.Cond.noSuperclass O).before a0 Z = true) (wk : (Jvm.Cond.instantiable K n).before a0 Z = true) (hn : O ≠ K) : NS Z O K := by
  obtain ⟨c, k, h1, h2, h3, -, -⟩ := Cond.noSuperclass_spec w
  obtain ⟨t, -, g1, -⟩ := Cond.instantiable_spec wk
  have ne := ids_ne h1 g1 hn
  refine ⟨c, t, h1, g1, fun fuel => ?_⟩
  cases fuel with
  | zero => rfl
  | succ f => simp [Vm.isSubclassAux, ne, h2, h3]
theorem own_noI {Z : State} {a0 : Array Value} {C S K : String} {n : Nat} (w : (Jvm.Cond.superclass C S).before a0 Z = true) (wk : (Jvm.Cond.instantiable K n).before a0 Z = true) (N : NS Z C K) (hn : C ≠ K) : ∃ c t, Z.vm.findClass C = some c ∧ Z.vm.findClass K = some t ∧ Z.vm.assignable c t = false := by
  obtain ⟨c, t, h0, g0, n3⟩ := N
  obtain ⟨p, k, kp, h1, h2, h3, h4, h5, -, h7⟩ := Cond.superclass_spec h0 w
  obtain ⟨t', k', g1, g2, g5, g7, -⟩ := Cond.instantiable_spec wk
  cases g0.symm.trans g1
  have g8 : k'.isInterface = false := (Bool.or_eq_false_iff.mp g7).1
  have ne := ids_ne h0 g0 hn
  refine ⟨c, t, h0, g0, ?_⟩
  show Z.vm.assignableAux (255 + 1) c t = false
  simp [Vm.assignableAux, ne, h2, g2, h5, g5, g8, Vm.isSubclass, n3]
theorem own_ldcM {p : Program} {l : Launch} {e : Env} {R : Room} {s : State} {m : MethodId} {args : Array Value} {below : List Frame} {meth : Method} {c : Code} {T : State} {locs : List Loc} {cells slots : Nat} {Z : State} {h : Heap}
    (X : Stand p l e R s m args below meth c T locs cells slots) (hx : p.tables.exec = Jvm.exec) (hZ : Z.Warmed39 s.vm) {a0 : Array Value} {own C : String} {index : Nat} (hown : s.vm.findClass own = some m.cls) (w : (Jvm.Cond.classLink own index C).before a0 Z = true) (eT : T.heap = h) {mr : Addr} (M : Mir Z C mr)
    {g : JFrame} (hg : g.method = m) (hd : decode c.code g.pc = .ok (.ldc index, 2)) :
    ∃ T', Stand p l e R s m args below meth c T' locs cells slots ∧ T'.heap = h ∧ ∀ target, Steps p.tables e below (T'.setTop { g with pc := g.pc + 2, stack := .ref mr :: g.stack }) target → Steps p.tables e below (T.setTop g) target := by
  obtain ⟨cc, kc, m1, m2, m3, -⟩ := M
  obtain ⟨k', q, ek⟩ := hZ.alike.2.2 _ _ m2
  have f1 : s.vm.findClass C = some cc := by rw [hZ.alike.findClass]; exact m1
  have f3 : k'.mirror = some mr := by rw [ek]; exact m3
  obtain ⟨vm', X', st⟩ := X.ldcMirror hx hown (mv hZ w) (a := mr) (by simp [Term.eval, f1, q, f3]) hg hd
  exact ⟨_, X', eT, st⟩
theorem d9_0 : decode jdk_22_method_1_code 0 = .ok (.aload_n 0, 1) := by decide +kernel
theorem d9_1 : decode jdk_22_method_1_code 1 = .ok (.invokespecial 1, 3) := by decide +kernel
theorem d9_4 : decode jdk_22_method_1_code 4 = .ok (.return_, 1) := by decide +kernel
theorem ef_acinit (m : MethodId) (a : Addr) : entryFrame m #[(.ref a)] 1 = mkF m 0 #[.val (.ref a)] [] := by
  first | (simp [entryFrame, mkF, argsToLocals, Value.category]; done) | rfl
def Q_acinit (Z : State) (a : Addr) (h0 : Heap) (n0 : Nat) (v : Option Value) (h : Heap) (L : List Loc) : Prop := v = none ∧ Fr n0 L ∧ h = h0
set_option maxRecDepth 65536 in
set_option maxHeartbeats 40000000 in
theorem rm_acinit (l : Launch) (Z : State) (a0 : Array Value) (hw : ∀ d ∈ tables_1, d.before a0 Z = true) (ws : List Jvm.Cond) (a : Addr) (h0 : Heap) (n0 : Nat) (O0 : Old Z n0 h0) :
    MetFree l own_y0 (head1 (Jvm.Cond.code own_y0 jdk_22_method_1_code 1 none :: ws) ({ frames := 1, cells := 0, slots := 0, locals := 12 } : Room)) (fun av_ U => av_ = #[(.ref a)] ∧ Z.Warmed39 U.vm ∧ U.heap = h0) (fun _ _ _ _ _ => True) (fun _ U o_ U' => ∃ v L, o_ = .returned v ∧ Q_acinit Z a h0 n0 v U'.heap L ∧ FrameEnd U o_ U' L ({ frames := 1, cells := 0, slots := 0, locals := 12 } : Room).cells ({ frames := 1, cells := 0, slots := 0, locals := 12 } : Room).slots) := by
  refine MetFree.of_bodySF (plainFor_of_name pn_0) hisR ?_
  intro p e s m args below meth c s₁ Bd hml0 hP hK
  obtain ⟨rfl, hZ, hh⟩ := hP
  have hx := Bd.exec
  have hby := Bd.bytes
  have hml : c.maxLocals = 1 := hml0
  have hown : s.vm.findClass "java/util/AbstractCollection" = some m.cls := findClass_of_methodNamed Bd.named
  have hnm := (name_of_methodNamed Bd.named Bd.method).1
  have hlk := own_lk Bd
  have hret := Bd.returns
  have X0 : Stand p l e ({ frames := 1, cells := 0, slots := 0, locals := 12 } : Room) s m #[(.ref a)] below meth c s₁ [] 0 0 := Stand.of_body Bd
  have e0 : s₁.heap = h0 := by rw [← hh, Bd.state]; rfl
  have N0 := Fr.nil n0
  show own_Goes p e below s (Q_acinit Z a h0 n0) ({ frames := 1, cells := 0, slots := 0, locals := 12 } : Room).cells ({ frames := 1, cells := 0, slots := 0, locals := 12 } : Room).slots (s₁.setTop (entryFrame m #[(.ref a)] 1))
  refine own_go (fun _ ww => castTop (ef_acinit m a) ww) ?_
  show own_Goes _ _ _ _ _ _ _ (s₁.setTop (mkF m 0 #[.val (.ref a)] []))
  refine own_go (fun _ ww => XS.aloadN X0.here hx rfl (hb hby d9_0) rfl rfl ww) ?_
  show own_Goes _ _ _ _ _ _ _ (s₁.setTop (mkF m 1 #[.val (.ref a)] [(.ref a)]))
  obtain ⟨T1, X1, e1, st1⟩ := initO X0 hx hZ hown (own_w hw 51 rfl) (own_w hw 15 rfl) (own_w hw 16 rfl) e0 (g := (mkF m 1 #[.val (.ref a)] [(.ref a)])) rfl (by rw [hml]; rfl) rfl (hb hby d9_1) (by decide) (W := 0) (by show 2 * 0 + _ ≤ _; exact Nat.le_of_eq rfl) (by decide)
  refine own_go st1 ?_
  show own_Goes _ _ _ _ _ _ _ (T1.setTop (mkF m 4 #[.val (.ref a)] []))
  exact own_out X1 hlk (v := none) (fun _ => rfl) (fun fs hr => X1.returnOut hx hret (hb hby d9_4) hr) e1 ⟨rfl, N0, rfl⟩ (by decide) (by decide)
theorem d36_0 : decode jdk_47_method_1_code 0 = .ok (.aload_n 0, 1) := by decide +kernel
theorem d36_1 : decode jdk_47_method_1_code 1 = .ok (.invokespecial 1, 3) := by decide +kernel
theorem d36_4 : decode jdk_47_method_1_code 4 = .ok (.return_, 1) := by decide +kernel
theorem ef_aicinit (m : MethodId) (a : Addr) : entryFrame m #[(.ref a)] 1 = mkF m 0 #[.val (.ref a)] [] := by
  first | (simp [entryFrame, mkF, argsToLocals, Value.category]; done) | rfl
def Q_aicinit (Z : State) (a : Addr) (h0 : Heap) (n0 : Nat) (v : Option Value) (h : Heap) (L : List Loc) : Prop := v = none ∧ Fr n0 L ∧ h = h0
set_option maxRecDepth 65536 in
set_option maxHeartbeats 40000000 in
theorem rm_aicinit (l : Launch) (Z : State) (a0 : Array Value) (hw : ∀ d ∈ tables_1, d.before a0 Z = true) (ws : List Jvm.Cond) (a : Addr) (h0 : Heap) (n0 : Nat) (O0 : Old Z n0 h0) :
    MetFree l own_y1 (head1 (Jvm.Cond.code own_y1 jdk_47_method_1_code 1 none :: ws) ({ frames := 2, cells := 0, slots := 0, locals := 24 } : Room)) (fun av_ U => av_ = #[(.ref a)] ∧ Z.Warmed39 U.vm ∧ U.heap = h0) (fun _ _ _ _ _ => True) (fun _ U o_ U' => ∃ v L, o_ = .returned v ∧ Q_aicinit Z a h0 n0 v U'.heap L ∧ FrameEnd U o_ U' L ({ frames := 2, cells := 0, slots := 0, locals := 24 } : Room).cells ({ frames := 2, cells := 0, slots := 0, locals := 24 } : Room).slots) := by
  refine MetFree.of_bodySF (plainFor_of_name pn_1) hisR ?_
  intro p e s m args below meth c s₁ Bd hml0 hP hK
  obtain ⟨rfl, hZ, hh⟩ := hP
  have hx := Bd.exec
  have hby := Bd.bytes
  have hml : c.maxLocals = 1 := hml0
  have hown : s.vm.findClass "java/util/ImmutableCollections$AbstractImmutableCollection" = some m.cls := findClass_of_methodNamed Bd.named
  have hnm := (name_of_methodNamed Bd.named Bd.method).1
  have hlk := own_lk Bd
  have hret := Bd.returns
  have X0 : Stand p l e ({ frames := 2, cells := 0, slots := 0, locals := 24 } : Room) s m #[(.ref a)] below meth c s₁ [] 0 0 := Stand.of_body Bd
  have e0 : s₁.heap = h0 := by rw [← hh, Bd.state]; rfl
  have N0 := Fr.nil n0
  show own_Goes p e below s (Q_aicinit Z a h0 n0) ({ frames := 2, cells := 0, slots := 0, locals := 24 } : Room).cells ({ frames := 2, cells := 0, slots := 0, locals := 24 } : Room).slots (s₁.setTop (entryFrame m #[(.ref a)] 1))
  refine own_go (fun _ ww => castTop (ef_aicinit m a) ww) ?_
  show own_Goes _ _ _ _ _ _ _ (s₁.setTop (mkF m 0 #[.val (.ref a)] []))
  refine own_go (fun _ ww => XS.aloadN X0.here hx rfl (hb hby d36_0) rfl rfl ww) ?_
  show own_Goes _ _ _ _ _ _ _ (s₁.setTop (mkF m 1 #[.val (.ref a)] [(.ref a)]))
  obtain ⟨_, _, ⟨T2, L2, k2, n2⟩, -, X2, ⟨Lc2, hQ2, l2, y2, z2⟩, st2⟩ := X0.specialBack hx (y := own_y0) rfl hown (mvT hZ (own_w hw 246 rfl)) (mvT hZ (own_w hw 46 rfl)) (mvT hZ (own_w hw 50 rfl)) (by decide) (backOf (W := 0) (rm_acinit l Z a0 hw [] a h0 n0 O0 ) hZ (own_w hw 50 rfl) (own_w hw 49 rfl) (by decide) (by decide)) (g := (mkF m 1 #[.val (.ref a)] [(.ref a)])) rfl (by rw [hml]; rfl) (Steps.refl _) (a := a) (argsL := []) (rest := []) (lenOf pd_0 rfl) rfl (by show 2 * 0 + _ ≤ _; exact Nat.le_of_eq rfl) (hb hby d36_1) (fun _ _ => ⟨rfl, e0, (by decide : 0 + 0 ≤ _), (by decide : 0 + 0 ≤ _)⟩)
  dsimp only [Pt.U, Pt.locs, Pt.cells, Pt.slots] at X2 l2 y2 z2 st2 hQ2
  subst l2 y2 z2
  obtain ⟨rfl, N2q, e2⟩ := hQ2
  have N2 := Fr.app N0 N2q
  refine own_go (fun _ ww => Steps.trans st2 ww) ?_
  show own_Goes _ _ _ _ _ _ _ (T2.setTop (mkF m 4 #[.val (.ref a)] []))
  exact own_out X2 hlk (v := none) (fun _ => rfl) (fun fs hr => X2.returnOut hx hret (hb hby d36_4) hr) e2 ⟨rfl, N2, rfl⟩ (by decide) (by decide)
theorem d35_0 : decode jdk_46_method_1_code 0 = .ok (.aload_n 0, 1) := by decide +kernel
theorem d35_1 : decode jdk_46_method_1_code 1 = .ok (.invokespecial 1, 3) := by decide +kernel
theorem d35_4 : decode jdk_46_method_1_code 4 = .ok (.return_, 1) := by decide +kernel
theorem ef_ailinit (m : MethodId) (a : Addr) : entryFrame m #[(.ref a)] 1 = mkF m 0 #[.val (.ref a)] [] := by
  first | (simp [entryFrame, mkF, argsToLocals, Value.category]; done) | rfl
def Q_ailinit (Z : State) (a : Addr) (h0 : Heap) (n0 : Nat) (v : Option Value) (h : Heap) (L : List Loc) : Prop := v = none ∧ Fr n0 L ∧ h = h0
set_option maxRecDepth 65536 in
set_option maxHeartbeats 40000000 in
theorem rm_ailinit (l : Launch) (Z : State) (a0 : Array Value) (hw : ∀ d ∈ tables_1, d.before a0 Z = true) (ws : List Jvm.Cond) (a : Addr) (h0 : Heap) (n0 : Nat) (O0 : Old Z n0 h0) :
    MetFree l own_y2 (head1 (Jvm.Cond.code own_y2 jdk_46_method_1_code 1 none :: ws) ({ frames := 3, cells := 0, slots := 0, locals := 36 } : Room)) (fun av_ U => av_ = #[(.ref a)] ∧ Z.Warmed39 U.vm ∧ U.heap = h0) (fun _ _ _ _ _ => True) (fun _ U o_ U' => ∃ v L, o_ = .returned v ∧ Q_ailinit Z a h0 n0 v U'.heap L ∧ FrameEnd U o_ U' L ({ frames := 3, cells := 0, slots := 0, locals := 36 } : Room).cells ({ frames := 3, cells := 0, slots := 0, locals := 36 } : Room).slots) := by
  refine MetFree.of_bodySF (plainFor_of_name pn_2) hisR ?_
  intro p e s m args below meth c s₁ Bd hml0 hP hK
  obtain ⟨rfl, hZ, hh⟩ := hP
  have hx := Bd.exec
  have hby := Bd.bytes
  have hml : c.maxLocals = 1 := hml0
  have hown : s.vm.findClass "java/util/ImmutableCollections$AbstractImmutableList" = some m.cls := findClass_of_methodNamed Bd.named
  have hnm := (name_of_methodNamed Bd.named Bd.method).1
  have hlk := own_lk Bd
  have hret := Bd.returns
  have X0 : Stand p l e ({ frames := 3, cells := 0, slots := 0, locals := 36 } : Room) s m #[(.ref a)] below meth c s₁ [] 0 0 := Stand.of_body Bd
  have e0 : s₁.heap = h0 := by rw [← hh, Bd.state]; rfl
  have N0 := Fr.nil n0
  show own_Goes p e below s (Q_ailinit Z a h0 n0) ({ frames := 3, cells := 0, slots := 0, locals := 36 } : Room).cells ({ frames := 3, cells := 0, slots := 0, locals := 36 } : Room).slots (s₁.setTop (entryFrame m #[(.ref a)] 1))
  refine own_go (fun _ ww => castTop (ef_ailinit m a) ww) ?_
  show own_Goes _ _ _ _ _ _ _ (s₁.setTop (mkF m 0 #[.val (.ref a)] []))
  refine own_go (fun _ ww => XS.aloadN X0.here hx rfl (hb hby d35_0) rfl rfl ww) ?_
  show own_Goes _ _ _ _ _ _ _ (s₁.setTop (mkF m 1 #[.val (.ref a)] [(.ref a)]))
  obtain ⟨_, _, ⟨T3, L3, k3, n3⟩, -, X3, ⟨Lc3, hQ3, l3, y3, z3⟩, st3⟩ := X0.specialBack hx (y := own_y1) rfl hown (mvT hZ (own_w hw 240 rfl)) (mvT hZ (own_w hw 241 rfl)) (mvT hZ (own_w hw 245 rfl)) (by decide) (backOf (W := 0) (rm_aicinit l Z a0 hw [] a h0 n0 O0 ) hZ (own_w hw 245 rfl) (own_w hw 244 rfl) (by decide) (by decide)) (g := (mkF m 1 #[.val (.ref a)] [(.ref a)])) rfl (by rw [hml]; rfl) (Steps.refl _) (a := a) (argsL := []) (rest := []) (lenOf pd_0 rfl) rfl (by show 2 * 0 + _ ≤ _; exact Nat.le_of_eq rfl) (hb hby d35_1) (fun _ _ => ⟨rfl, e0, (by decide : 0 + 0 ≤ _), (by decide : 0 + 0 ≤ _)⟩)
  dsimp only [Pt.U, Pt.locs, Pt.cells, Pt.slots] at X3 l3 y3 z3 st3 hQ3
  subst l3 y3 z3
  obtain ⟨rfl, N3q, e3⟩ := hQ3
  have N3 := Fr.app N0 N3q
  refine own_go (fun _ ww => Steps.trans st3 ww) ?_
  show own_Goes _ _ _ _ _ _ _ (T3.setTop (mkF m 4 #[.val (.ref a)] []))
  exact own_out X3 hlk (v := none) (fun _ => rfl) (fun fs hr => X3.returnOut hx hret (hb hby d35_4) hr) e3 ⟨rfl, N3, rfl⟩ (by decide) (by decide)
theorem d12_0 : decode prog_74_method_1_code 0 = .ok (.aload_n 0, 1) := by decide +kernel
theorem d12_1 : decode prog_74_method_1_code 1 = .ok (.invokespecial 1, 3) := by decide +kernel
theorem d12_4 : decode prog_74_method_1_code 4 = .ok (.return_, 1) := by decide +kernel
theorem ef_hvinit (m : MethodId) (a : Addr) : entryFrame m #[(.ref a)] 1 = mkF m 0 #[.val (.ref a)] [] := by
  first | (simp [entryFrame, mkF, argsToLocals, Value.category]; done) | rfl
def Q_hvinit (Z : State) (a : Addr) (h0 : Heap) (n0 : Nat) (v : Option Value) (h : Heap) (L : List Loc) : Prop := v = none ∧ Fr n0 L ∧ h = h0
set_option maxRecDepth 65536 in
set_option maxHeartbeats 40000000 in
theorem rm_hvinit (l : Launch) (Z : State) (a0 : Array Value) (hw : ∀ d ∈ tables_1, d.before a0 Z = true) (ws : List Jvm.Cond) (a : Addr) (h0 : Heap) (n0 : Nat) (O0 : Old Z n0 h0) :
    MetFree l own_y3 (head1 (Jvm.Cond.code own_y3 prog_74_method_1_code 1 none :: ws) ({ frames := 1, cells := 0, slots := 0, locals := 12 } : Room)) (fun av_ U => av_ = #[(.ref a)] ∧ Z.Warmed39 U.vm ∧ U.heap = h0) (fun _ _ _ _ _ => True) (fun _ U o_ U' => ∃ v L, o_ = .returned v ∧ Q_hvinit Z a h0 n0 v U'.heap L ∧ FrameEnd U o_ U' L ({ frames := 1, cells := 0, slots := 0, locals := 12 } : Room).cells ({ frames := 1, cells := 0, slots := 0, locals := 12 } : Room).slots) := by
  refine MetFree.of_bodySF (plainFor_of_name pn_3) hisR ?_
  intro p e s m args below meth c s₁ Bd hml0 hP hK
  obtain ⟨rfl, hZ, hh⟩ := hP
  have hx := Bd.exec
  have hby := Bd.bytes
  have hml : c.maxLocals = 1 := hml0
  have hown : s.vm.findClass "com/example/navlint/navlint/model/HashedValue" = some m.cls := findClass_of_methodNamed Bd.named
  have hnm := (name_of_methodNamed Bd.named Bd.method).1
  have hlk := own_lk Bd
  have hret := Bd.returns
  have X0 : Stand p l e ({ frames := 1, cells := 0, slots := 0, locals := 12 } : Room) s m #[(.ref a)] below meth c s₁ [] 0 0 := Stand.of_body Bd
  have e0 : s₁.heap = h0 := by rw [← hh, Bd.state]; rfl
  have N0 := Fr.nil n0
  show own_Goes p e below s (Q_hvinit Z a h0 n0) ({ frames := 1, cells := 0, slots := 0, locals := 12 } : Room).cells ({ frames := 1, cells := 0, slots := 0, locals := 12 } : Room).slots (s₁.setTop (entryFrame m #[(.ref a)] 1))
  refine own_go (fun _ ww => castTop (ef_hvinit m a) ww) ?_
  show own_Goes _ _ _ _ _ _ _ (s₁.setTop (mkF m 0 #[.val (.ref a)] []))
  refine own_go (fun _ ww => XS.aloadN X0.here hx rfl (hb hby d12_0) rfl rfl ww) ?_
  show own_Goes _ _ _ _ _ _ _ (s₁.setTop (mkF m 1 #[.val (.ref a)] [(.ref a)]))
  obtain ⟨T4, X4, e4, st4⟩ := initO X0 hx hZ hown (own_w hw 71 rfl) (own_w hw 15 rfl) (own_w hw 16 rfl) e0 (g := (mkF m 1 #[.val (.ref a)] [(.ref a)])) rfl (by rw [hml]; rfl) rfl (hb hby d12_1) (by decide) (W := 0) (by show 2 * 0 + _ ≤ _; exact Nat.le_of_eq rfl) (by decide)
  refine own_go st4 ?_
  show own_Goes _ _ _ _ _ _ _ (T4.setTop (mkF m 4 #[.val (.ref a)] []))
  exact own_out X4 hlk (v := none) (fun _ => rfl) (fun fs hr => X4.returnOut hx hret (hb hby d12_4) hr) e4 ⟨rfl, N0, rfl⟩ (by decide) (by decide)
theorem d8_0 : decode jdk_39_method_1_code 0 = .ok (.aload_n 0, 1) := by decide +kernel
theorem d8_1 : decode jdk_39_method_1_code 1 = .ok (.invokespecial 1, 3) := by decide +kernel
theorem d8_4 : decode jdk_39_method_1_code 4 = .ok (.aload_n 0, 1) := by decide +kernel
theorem d8_5 : decode jdk_39_method_1_code 5 = .ok (.iconst 0, 1) := by decide +kernel
theorem d8_6 : decode jdk_39_method_1_code 6 = .ok (.putfield 7, 3) := by decide +kernel
theorem d8_9 : decode jdk_39_method_1_code 9 = .ok (.return_, 1) := by decide +kernel
theorem ef_aainit (m : MethodId) (a : Addr) : entryFrame m #[(.ref a)] 1 = mkF m 0 #[.val (.ref a)] [] := by
  first | (simp [entryFrame, mkF, argsToLocals, Value.category]; done) | rfl
def Q_aainit (Z : State) (a : Addr) (h0 : Heap) (n0 : Nat) (v : Option Value) (h : Heap) (L : List Loc) : Prop := v = none ∧ Fr n0 L ∧ Keep h0 h [a] ∧ Fld Z h a "java/util/AbstractList" "modCount" "I" (.int (0 : Int32)) ∧ Fld Z h a "java/util/ArrayList" "elementData" "[Ljava/lang/Object;" .null ∧ Fld Z h a "java/util/ArrayList" "size" "I" (.int (0 : Int32))
set_option maxRecDepth 65536 in
set_option maxHeartbeats 40000000 in
theorem rm_aainit (l : Launch) (Z : State) (a0 : Array Value) (hw : ∀ d ∈ tables_1, d.before a0 Z = true) (ws : List Jvm.Cond) (a : Addr) (h0 : Heap) (n0 : Nat) (O0 : Old Z n0 h0) (F0 : Fld Z h0 a "java/util/AbstractList" "modCount" "I" (.int (0 : Int32))) (F1 : Fld Z h0 a "java/util/ArrayList" "elementData" "[Ljava/lang/Object;" .null) (F2 : Fld Z h0 a "java/util/ArrayList" "size" "I" (.int (0 : Int32))) (Ea : Exa Z h0 a "java/util/ArrayList") (g_a : n0 ≤ a) :
    MetFree l own_y4 (head1 (Jvm.Cond.code own_y4 jdk_39_method_1_code 1 none :: ws) ({ frames := 2, cells := 0, slots := 0, locals := 24 } : Room)) (fun av_ U => av_ = #[(.ref a)] ∧ Z.Warmed39 U.vm ∧ U.heap = h0) (fun _ _ _ _ _ => True) (fun _ U o_ U' => ∃ v L, o_ = .returned v ∧ Q_aainit Z a h0 n0 v U'.heap L ∧ FrameEnd U o_ U' L ({ frames := 2, cells := 0, slots := 0, locals := 24 } : Room).cells ({ frames := 2, cells := 0, slots := 0, locals := 24 } : Room).slots) := by
  refine MetFree.of_bodySF (plainFor_of_name pn_4) hisR ?_
  intro p e s m args below meth c s₁ Bd hml0 hP hK
  obtain ⟨rfl, hZ, hh⟩ := hP
  have hx := Bd.exec
  have hby := Bd.bytes
  have hml : c.maxLocals = 1 := hml0
  have hown : s.vm.findClass "java/util/AbstractList" = some m.cls := findClass_of_methodNamed Bd.named
  have hnm := (name_of_methodNamed Bd.named Bd.method).1
  have hlk := own_lk Bd
  have hret := Bd.returns
  have X0 : Stand p l e ({ frames := 2, cells := 0, slots := 0, locals := 24 } : Room) s m #[(.ref a)] below meth c s₁ [] 0 0 := Stand.of_body Bd
  have e0 : s₁.heap = h0 := by rw [← hh, Bd.state]; rfl
  have N0 := Fr.nil n0
  show own_Goes p e below s (Q_aainit Z a h0 n0) ({ frames := 2, cells := 0, slots := 0, locals := 24 } : Room).cells ({ frames := 2, cells := 0, slots := 0, locals := 24 } : Room).slots (s₁.setTop (entryFrame m #[(.ref a)] 1))
  refine own_go (fun _ ww => castTop (ef_aainit m a) ww) ?_
  show own_Goes _ _ _ _ _ _ _ (s₁.setTop (mkF m 0 #[.val (.ref a)] []))
  refine own_go (fun _ ww => XS.aloadN X0.here hx rfl (hb hby d8_0) rfl rfl ww) ?_
  show own_Goes _ _ _ _ _ _ _ (s₁.setTop (mkF m 1 #[.val (.ref a)] [(.ref a)]))
  obtain ⟨_, _, ⟨T5, L5, k5, n5⟩, -, X5, ⟨Lc5, hQ5, l5, y5, z5⟩, st5⟩ := X0.specialBack hx (y := own_y0) rfl hown (mvT hZ (own_w hw 45 rfl)) (mvT hZ (own_w hw 46 rfl)) (mvT hZ (own_w hw 50 rfl)) (by decide) (backOf (W := 0) (rm_acinit l Z a0 hw [] a h0 n0 O0 ) hZ (own_w hw 50 rfl) (own_w hw 49 rfl) (by decide) (by decide)) (g := (mkF m 1 #[.val (.ref a)] [(.ref a)])) rfl (by rw [hml]; rfl) (Steps.refl _) (a := a) (argsL := []) (rest := []) (lenOf pd_0 rfl) rfl (by show 2 * 0 + _ ≤ _; exact Nat.le_of_eq rfl) (hb hby d8_1) (fun _ _ => ⟨rfl, e0, (by decide : 0 + 0 ≤ _), (by decide : 0 + 0 ≤ _)⟩)
  dsimp only [Pt.U, Pt.locs, Pt.cells, Pt.slots] at X5 l5 y5 z5 st5 hQ5
  subst l5 y5 z5
  obtain ⟨rfl, N5q, e5⟩ := hQ5
  have N5 := Fr.app N0 N5q
  refine own_go (fun _ ww => Steps.trans st5 ww) ?_
  show own_Goes _ _ _ _ _ _ _ (T5.setTop (mkF m 4 #[.val (.ref a)] []))
  refine own_go (fun _ ww => XS.aloadN X5.here hx rfl (hb hby d8_4) rfl rfl ww) ?_
  show own_Goes _ _ _ _ _ _ _ (T5.setTop (mkF m 5 #[.val (.ref a)] [(.ref a)]))
  refine own_go (fun _ ww => XS.iconst X5.here hx rfl (hb hby d8_5) ww) ?_
  show own_Goes _ _ _ _ _ _ _ (T5.setTop (mkF m 6 #[.val (.ref a)] [(.int (0 : Int32)), (.ref a)]))
  obtain ⟨T6, h6, X6, e6, W6, st6⟩ := putF X5 hx hZ hown (host := "") (Or.inl (own_w hw 52 rfl)) Via.refl e5 F0 Ea (Or.inl (own_w hw 53 rfl)) (own_w hw 34 rfl) (ty := .int) (by decide) rfl rfl (g := (mkF m 6 #[.val (.ref a)] [(.int (0 : Int32)), (.ref a)])) rfl rfl (hb hby d8_6)
  have f7 : Fld Z h6 a "java/util/AbstractList" "modCount" "I" (.int (0 : Int32)) := (F0.same W6)
  have f8 := (F1.other W6 (Or.inr (slot_ne (Or.inl (own_w hw 56 rfl)) (Or.inl (own_w hw 53 rfl)) (by decide) (t := (.array (.object "java/lang/Object"))) (t' := .int) (by decide) (by decide))))
  have f9 := (F2.other W6 (Or.inr (slot_ne (Or.inl (own_w hw 105 rfl)) (Or.inl (own_w hw 53 rfl)) (by decide) (t := .int) (t' := .int) (by decide) (by decide))))
  have f10 := (Ea.wr W6)
  have N6 := Fr.snoc X6 N5 g_a
  have O6 := O0.wr W6 g_a
  have K6 := (Keep.refl h0 [a]).wr W6 (Or.inl (List.mem_of_getElem? (i := 0) rfl))
  refine own_go st6 ?_
  show own_Goes _ _ _ _ _ _ _ (T6.setTop (mkF m 9 #[.val (.ref a)] []))
  exact own_out X6 hlk (v := none) (fun _ => rfl) (fun fs hr => X6.returnOut hx hret (hb hby d8_9) hr) e6 ⟨rfl, N6, K6, f7, f8, f9⟩ (by decide) (by decide)
theorem d7_0 : decode jdk_38_method_2_code 0 = .ok (.aload_n 0, 1) := by decide +kernel
theorem d7_1 : decode jdk_38_method_2_code 1 = .ok (.invokespecial 1, 3) := by decide +kernel
theorem d7_4 : decode jdk_38_method_2_code 4 = .ok (.aload_n 0, 1) := by decide +kernel
theorem d7_5 : decode jdk_38_method_2_code 5 = .ok (.getstatic 39, 3) := by decide +kernel
theorem d7_8 : decode jdk_38_method_2_code 8 = .ok (.putfield 9, 3) := by decide +kernel
theorem d7_11 : decode jdk_38_method_2_code 11 = .ok (.return_, 1) := by decide +kernel
theorem ef_alinit (m : MethodId) (a : Addr) (aD : Addr) : entryFrame m #[(.ref a)] 1 = mkF m 0 #[.val (.ref a)] [] := by
  first | (simp [entryFrame, mkF, argsToLocals, Value.category]; done) | rfl
def Q_alinit (Z : State) (a : Addr) (aD : Addr) (h0 : Heap) (n0 : Nat) (v : Option Value) (h : Heap) (L : List Loc) : Prop := v = none ∧ Fr n0 L ∧ Keep h0 h [a] ∧ Fld Z h a "java/util/AbstractList" "modCount" "I" (.int (0 : Int32)) ∧ Fld Z h a "java/util/ArrayList" "elementData" "[Ljava/lang/Object;" (.ref aD) ∧ Fld Z h a "java/util/ArrayList" "size" "I" (.int (0 : Int32))
set_option maxRecDepth 65536 in
set_option maxHeartbeats 40000000 in
theorem rm_alinit (l : Launch) (Z : State) (a0 : Array Value) (hw : ∀ d ∈ tables_1, d.before a0 Z = true) (ws : List Jvm.Cond) (a : Addr) (aD : Addr) (h0 : Heap) (n0 : Nat) (O0 : Old Z n0 h0) (F0 : Fld Z h0 a "java/util/AbstractList" "modCount" "I" (.int (0 : Int32))) (F1 : Fld Z h0 a "java/util/ArrayList" "elementData" "[Ljava/lang/Object;" .null) (F2 : Fld Z h0 a "java/util/ArrayList" "size" "I" (.int (0 : Int32))) (Ea : Exa Z h0 a "java/util/ArrayList") (g_a : n0 ≤ a) (SD : Sta Z Z.heap "java/util/ArrayList" "DEFAULTCAPACITY_EMPTY_ELEMENTDATA" "[Ljava/lang/Object;" (.ref aD)) :
    MetFree l own_y5 (head1 (Jvm.Cond.code own_y5 jdk_38_method_2_code 1 none :: ws) ({ frames := 3, cells := 0, slots := 0, locals := 36 } : Room)) (fun av_ U => av_ = #[(.ref a)] ∧ Z.Warmed39 U.vm ∧ U.heap = h0) (fun _ _ _ _ _ => True) (fun _ U o_ U' => ∃ v L, o_ = .returned v ∧ Q_alinit Z a aD h0 n0 v U'.heap L ∧ FrameEnd U o_ U' L ({ frames := 3, cells := 0, slots := 0, locals := 36 } : Room).cells ({ frames := 3, cells := 0, slots := 0, locals := 36 } : Room).slots) := by
  refine MetFree.of_bodySF (plainFor_of_name pn_5) hisR ?_
  intro p e s m args below meth c s₁ Bd hml0 hP hK
  obtain ⟨rfl, hZ, hh⟩ := hP
  have hx := Bd.exec
  have hby := Bd.bytes
  have hml : c.maxLocals = 1 := hml0
  have hown : s.vm.findClass "java/util/ArrayList" = some m.cls := findClass_of_methodNamed Bd.named
  have hnm := (name_of_methodNamed Bd.named Bd.method).1
  have hlk := own_lk Bd
  have hret := Bd.returns
  have X0 : Stand p l e ({ frames := 3, cells := 0, slots := 0, locals := 36 } : Room) s m #[(.ref a)] below meth c s₁ [] 0 0 := Stand.of_body Bd
  have e0 : s₁.heap = h0 := by rw [← hh, Bd.state]; rfl
  have N0 := Fr.nil n0
  show own_Goes p e below s (Q_alinit Z a aD h0 n0) ({ frames := 3, cells := 0, slots := 0, locals := 36 } : Room).cells ({ frames := 3, cells := 0, slots := 0, locals := 36 } : Room).slots (s₁.setTop (entryFrame m #[(.ref a)] 1))
  refine own_go (fun _ ww => castTop (ef_alinit m a aD) ww) ?_
  show own_Goes _ _ _ _ _ _ _ (s₁.setTop (mkF m 0 #[.val (.ref a)] []))
  refine own_go (fun _ ww => XS.aloadN X0.here hx rfl (hb hby d7_0) rfl rfl ww) ?_
  show own_Goes _ _ _ _ _ _ _ (s₁.setTop (mkF m 1 #[.val (.ref a)] [(.ref a)]))
  obtain ⟨_, _, ⟨T11, L11, k11, n11⟩, -, X11, ⟨Lc11, hQ11, l11, y11, z11⟩, st11⟩ := X0.specialBack hx (y := own_y4) rfl hown (mvT hZ (own_w hw 39 rfl)) (mvT hZ (own_w hw 40 rfl)) (mvT hZ (own_w hw 44 rfl)) (by decide) (backOf (W := 0) (rm_aainit l Z a0 hw [] a h0 n0 O0 F0 F1 F2 Ea g_a) hZ (own_w hw 44 rfl) (own_w hw 43 rfl) (by decide) (by decide)) (g := (mkF m 1 #[.val (.ref a)] [(.ref a)])) rfl (by rw [hml]; rfl) (Steps.refl _) (a := a) (argsL := []) (rest := []) (lenOf pd_0 rfl) rfl (by show 2 * 0 + _ ≤ _; exact Nat.le_of_eq rfl) (hb hby d7_1) (fun _ _ => ⟨rfl, e0, (by decide : 0 + 0 ≤ _), (by decide : 0 + 0 ≤ _)⟩)
  dsimp only [Pt.U, Pt.locs, Pt.cells, Pt.slots] at X11 l11 y11 z11 st11 hQ11
  subst l11 y11 z11
  obtain ⟨rfl, N11q, K11q, P11, Q11, R11⟩ := hQ11
  have N11 := Fr.app N0 N11q
  have f12 := (Ea.keep K11q)
  have O11 := O0.keep K11q (allS g_a all0)
  have K11 := (Keep.refl h0 [a]).trans K11q (allS (Or.inl (List.mem_of_getElem? (i := 0) rfl)) all0)
  refine own_go (fun _ ww => Steps.trans st11 ww) ?_
  show own_Goes _ _ _ _ _ _ _ (T11.setTop (mkF m 4 #[.val (.ref a)] []))
  refine own_go (fun _ ww => XS.aloadN X11.here hx rfl (hb hby d7_4) rfl rfl ww) ?_
  show own_Goes _ _ _ _ _ _ _ (T11.setTop (mkF m 5 #[.val (.ref a)] [(.ref a)]))
  obtain ⟨T13, X13, e13, st13⟩ := getS X11 hx hZ hown (host := "") (own_w hw 54 rfl) Via.refl rfl (SD.ext O11.2) (g := (mkF m 5 #[.val (.ref a)] [(.ref a)])) rfl (hb hby d7_5)
  refine own_go st13 ?_
  show own_Goes _ _ _ _ _ _ _ (T13.setTop (mkF m 8 #[.val (.ref a)] [(.ref aD), (.ref a)]))
  obtain ⟨T14, h14, X14, e14, W14, st14⟩ := putF X13 hx hZ hown (host := "") (Or.inl (own_w hw 55 rfl)) Via.refl e13 Q11 f12 (Or.inl (own_w hw 56 rfl)) (own_w hw 34 rfl) (ty := (.array (.object "java/lang/Object"))) (by decide) rfl rfl (g := (mkF m 8 #[.val (.ref a)] [(.ref aD), (.ref a)])) rfl rfl (hb hby d7_8)
  have f15 := (f12.wr W14)
  have f16 := (P11.other W14 (Or.inr (slot_ne (Or.inl (own_w hw 53 rfl)) (Or.inl (own_w hw 56 rfl)) (by decide) (t := .int) (t' := (.array (.object "java/lang/Object"))) (by decide) (by decide))))
  have f17 : Fld Z h14 a "java/util/ArrayList" "elementData" "[Ljava/lang/Object;" (.ref aD) := (Q11.same W14)
  have f18 := (R11.other W14 (Or.inr (slot_ne (Or.inl (own_w hw 105 rfl)) (Or.inl (own_w hw 56 rfl)) (by decide) (t := .int) (t' := (.array (.object "java/lang/Object"))) (by decide) (by decide))))
  have N14 := Fr.snoc X14 N11 g_a
  have O14 := O11.wr W14 g_a
  have K14 := K11.wr W14 (Or.inl (List.mem_of_getElem? (i := 0) rfl))
  refine own_go st14 ?_
  show own_Goes _ _ _ _ _ _ _ (T14.setTop (mkF m 11 #[.val (.ref a)] []))
  exact own_out X14 hlk (v := none) (fun _ => rfl) (fun fs hr => X14.returnOut hx hret (hb hby d7_11) hr) e14 ⟨rfl, N14, K14, f16, f17, f18⟩ (by decide) (by decide)
theorem d28_0 : decode jdk_29_method_65_code 0 = .ok (.iload_n 0, 1) := by decide +kernel
theorem d28_1 : decode jdk_29_method_65_code 1 = .ok (.iload_n 1, 1) := by decide +kernel
theorem d28_2 : decode jdk_29_method_65_code 2 = .ok (.if_icmp .lt 7, 3) := by decide +kernel
theorem d28_5 : decode jdk_29_method_65_code 5 = .ok (.iload_n 0, 1) := by decide +kernel
theorem d28_6 : decode jdk_29_method_65_code 6 = .ok (.goto 4, 3) := by decide +kernel
theorem d28_10 : decode jdk_29_method_65_code 10 = .ok (.ireturn, 1) := by decide +kernel
theorem ef_max (m : MethodId)  : entryFrame m #[(.int (10 : Int32)), (.int (1 : Int32))] 2 = mkF m 0 #[.val (.int (10 : Int32)), .val (.int (1 : Int32))] [] := by
  first | (simp [entryFrame, mkF, argsToLocals, Value.category]; done) | rfl
def Q_max (Z : State)  (h0 : Heap) (n0 : Nat) (v : Option Value) (h : Heap) (L : List Loc) : Prop := v = some (.int (10 : Int32)) ∧ Fr n0 L ∧ h = h0
set_option maxRecDepth 65536 in
set_option maxHeartbeats 40000000 in
theorem rm_max (l : Launch) (Z : State) (a0 : Array Value) (hw : ∀ d ∈ tables_1, d.before a0 Z = true) (ws : List Jvm.Cond)  (h0 : Heap) (n0 : Nat) (O0 : Old Z n0 h0) :
    MetFree l own_y6 (head1 (Jvm.Cond.code own_y6 jdk_29_method_65_code 2 (some .int) :: ws) ({ frames := 0, cells := 0, slots := 0, locals := 0 } : Room)) (fun av_ U => av_ = #[(.int (10 : Int32)), (.int (1 : Int32))] ∧ Z.Warmed39 U.vm ∧ U.heap = h0) (fun _ _ _ _ _ => True) (fun _ U o_ U' => ∃ v L, o_ = .returned v ∧ Q_max Z  h0 n0 v U'.heap L ∧ FrameEnd U o_ U' L ({ frames := 0, cells := 0, slots := 0, locals := 0 } : Room).cells ({ frames := 0, cells := 0, slots := 0, locals := 0 } : Room).slots) := by
  refine MetFree.of_bodySF (Jvm.Free.JP.mathPlain rfl (by decide +kernel)) hisR ?_
  intro p e s m args below meth c s₁ Bd hml0 hP hK
  obtain ⟨rfl, hZ, hh⟩ := hP
  have hx := Bd.exec
  have hby := Bd.bytes
  have hml : c.maxLocals = 2 := hml0
  have hown : s.vm.findClass "java/lang/Math" = some m.cls := findClass_of_methodNamed Bd.named
  have hnm := (name_of_methodNamed Bd.named Bd.method).1
  have hlk := own_lk Bd
  have hret := Bd.returns
  have X0 : Stand p l e ({ frames := 0, cells := 0, slots := 0, locals := 0 } : Room) s m #[(.int (10 : Int32)), (.int (1 : Int32))] below meth c s₁ [] 0 0 := Stand.of_body Bd
  have e0 : s₁.heap = h0 := by rw [← hh, Bd.state]; rfl
  have N0 := Fr.nil n0
  show own_Goes p e below s (Q_max Z  h0 n0) ({ frames := 0, cells := 0, slots := 0, locals := 0 } : Room).cells ({ frames := 0, cells := 0, slots := 0, locals := 0 } : Room).slots (s₁.setTop (entryFrame m #[(.int (10 : Int32)), (.int (1 : Int32))] 2))
  refine own_go (fun _ ww => castTop (ef_max m ) ww) ?_
  show own_Goes _ _ _ _ _ _ _ (s₁.setTop (mkF m 0 #[.val (.int (10 : Int32)), .val (.int (1 : Int32))] []))
  refine own_go (fun _ ww => XS.iloadN X0.here hx rfl (hb hby d28_0) rfl  ww) ?_
  show own_Goes _ _ _ _ _ _ _ (s₁.setTop (mkF m 1 #[.val (.int (10 : Int32)), .val (.int (1 : Int32))] [(.int (10 : Int32))]))
  refine own_go (fun _ ww => XS.iloadN X0.here hx rfl (hb hby d28_1) rfl  ww) ?_
  show own_Goes _ _ _ _ _ _ _ (s₁.setTop (mkF m 2 #[.val (.int (10 : Int32)), .val (.int (1 : Int32))] [(.int (1 : Int32)), (.int (10 : Int32))]))
  refine own_go (fun _ ww => XS.icmpNo X0.here hx rfl (hb hby d28_2) rfl (flt (by decide : ¬ ((10 : Int32) < (1 : Int32)))).1 ww) ?_
  show own_Goes _ _ _ _ _ _ _ (s₁.setTop (mkF m 5 #[.val (.int (10 : Int32)), .val (.int (1 : Int32))] []))
  refine own_go (fun _ ww => XS.iloadN X0.here hx rfl (hb hby d28_5) rfl  ww) ?_
  show own_Goes _ _ _ _ _ _ _ (s₁.setTop (mkF m 6 #[.val (.int (10 : Int32)), .val (.int (1 : Int32))] [(.int (10 : Int32))]))
  refine own_go (fun _ ww => XS.goto X0.here hx rfl (pc0 := 6) (pc' := 10) rfl (hb hby d28_6) (by decide) (by decide) ww) ?_
  show own_Goes _ _ _ _ _ _ _ (s₁.setTop (mkF m 10 #[.val (.int (10 : Int32)), .val (.int (1 : Int32))] [(.int (10 : Int32))]))
  exact own_out X0 hlk (v := some (.int (10 : Int32))) (fun h => by rw [hret] at h; cases h) (fun fs hr => retOut X0 hx (t := .int) hret rfl (Or.inl ⟨rfl, by simp, _, rfl⟩) (hb hby d28_10) hr) e0 ⟨rfl, N0, rfl⟩ (by decide) (by decide)
theorem d32_0 : decode jdk_29_method_69_code 0 = .ok (.iload_n 0, 1) := by decide +kernel
theorem d32_1 : decode jdk_29_method_69_code 1 = .ok (.iload_n 1, 1) := by decide +kernel
theorem d32_2 : decode jdk_29_method_69_code 2 = .ok (.if_icmp .gt 7, 3) := by decide +kernel
theorem d32_9 : decode jdk_29_method_69_code 9 = .ok (.iload_n 1, 1) := by decide +kernel
theorem d32_10 : decode jdk_29_method_69_code 10 = .ok (.ireturn, 1) := by decide +kernel
theorem ef_min (m : MethodId)  : entryFrame m #[(.int (10 : Int32)), (.int (1 : Int32))] 2 = mkF m 0 #[.val (.int (10 : Int32)), .val (.int (1 : Int32))] [] := by
  first | (simp [entryFrame, mkF, argsToLocals, Value.category]; done) | rfl
def Q_min (Z : State)  (h0 : Heap) (n0 : Nat) (v : Option Value) (h : Heap) (L : List Loc) : Prop := v = some (.int (1 : Int32)) ∧ Fr n0 L ∧ h = h0
set_option maxRecDepth 65536 in
set_option maxHeartbeats 40000000 in
theorem rm_min (l : Launch) (Z : State) (a0 : Array Value) (hw : ∀ d ∈ tables_1, d.before a0 Z = true) (ws : List Jvm.Cond)  (h0 : Heap) (n0 : Nat) (O0 : Old Z n0 h0) :
    MetFree l own_y7 (head1 (Jvm.Cond.code own_y7 jdk_29_method_69_code 2 (some .int) :: ws) ({ frames := 0, cells := 0, slots := 0, locals := 0 } : Room)) (fun av_ U => av_ = #[(.int (10 : Int32)), (.int (1 : Int32))] ∧ Z.Warmed39 U.vm ∧ U.heap = h0) (fun _ _ _ _ _ => True) (fun _ U o_ U' => ∃ v L, o_ = .returned v ∧ Q_min Z  h0 n0 v U'.heap L ∧ FrameEnd U o_ U' L ({ frames := 0, cells := 0, slots := 0, locals := 0 } : Room).cells ({ frames := 0, cells := 0, slots := 0, locals := 0 } : Room).slots) := by
  refine MetFree.of_bodySF (Jvm.Free.JP.mathPlain rfl (by decide +kernel)) hisR ?_
  intro p e s m args below meth c s₁ Bd hml0 hP hK
  obtain ⟨rfl, hZ, hh⟩ := hP
  have hx := Bd.exec
  have hby := Bd.bytes
  have hml : c.maxLocals = 2 := hml0
  have hown : s.vm.findClass "java/lang/Math" = some m.cls := findClass_of_methodNamed Bd.named
  have hnm := (name_of_methodNamed Bd.named Bd.method).1
  have hlk := own_lk Bd
  have hret := Bd.returns
  have X0 : Stand p l e ({ frames := 0, cells := 0, slots := 0, locals := 0 } : Room) s m #[(.int (10 : Int32)), (.int (1 : Int32))] below meth c s₁ [] 0 0 := Stand.of_body Bd
  have e0 : s₁.heap = h0 := by rw [← hh, Bd.state]; rfl
  have N0 := Fr.nil n0
  show own_Goes p e below s (Q_min Z  h0 n0) ({ frames := 0, cells := 0, slots := 0, locals := 0 } : Room).cells ({ frames := 0, cells := 0, slots := 0, locals := 0 } : Room).slots (s₁.setTop (entryFrame m #[(.int (10 : Int32)), (.int (1 : Int32))] 2))
  refine own_go (fun _ ww => castTop (ef_min m ) ww) ?_
  show own_Goes _ _ _ _ _ _ _ (s₁.setTop (mkF m 0 #[.val (.int (10 : Int32)), .val (.int (1 : Int32))] []))
  refine own_go (fun _ ww => XS.iloadN X0.here hx rfl (hb hby d32_0) rfl  ww) ?_
  show own_Goes _ _ _ _ _ _ _ (s₁.setTop (mkF m 1 #[.val (.int (10 : Int32)), .val (.int (1 : Int32))] [(.int (10 : Int32))]))
  refine own_go (fun _ ww => XS.iloadN X0.here hx rfl (hb hby d32_1) rfl  ww) ?_
  show own_Goes _ _ _ _ _ _ _ (s₁.setTop (mkF m 2 #[.val (.int (10 : Int32)), .val (.int (1 : Int32))] [(.int (1 : Int32)), (.int (10 : Int32))]))
  refine own_go (fun _ ww => XS.icmpYes X0.here hx rfl (pc0 := 2) (pc' := 9) rfl (hb hby d32_2) rfl (tlt (by decide : (1 : Int32) < (10 : Int32))).2.2.1 (by decide) (by decide) ww) ?_
  show own_Goes _ _ _ _ _ _ _ (s₁.setTop (mkF m 9 #[.val (.int (10 : Int32)), .val (.int (1 : Int32))] []))
  refine own_go (fun _ ww => XS.iloadN X0.here hx rfl (hb hby d32_9) rfl  ww) ?_
  show own_Goes _ _ _ _ _ _ _ (s₁.setTop (mkF m 10 #[.val (.int (10 : Int32)), .val (.int (1 : Int32))] [(.int (1 : Int32))]))
  exact own_out X0 hlk (v := some (.int (1 : Int32))) (fun h => by rw [hret] at h; cases h) (fun fs hr => retOut X0 hx (t := .int) hret rfl (Or.inl ⟨rfl, by simp, _, rfl⟩) (hb hby d32_10) hr) e0 ⟨rfl, N0, rfl⟩ (by decide) (by decide)
theorem d27_0 : decode jdk_38_method_6_code 0 = .ok (.aload_n 0, 1) := by decide +kernel
theorem d27_1 : decode jdk_38_method_6_code 1 = .ok (.getfield 9, 3) := by decide +kernel
theorem d27_4 : decode jdk_38_method_6_code 4 = .ok (.arraylength, 1) := by decide +kernel
theorem d27_5 : decode jdk_38_method_6_code 5 = .ok (.istore_n 2, 1) := by decide +kernel
theorem d27_6 : decode jdk_38_method_6_code 6 = .ok (.iload_n 2, 1) := by decide +kernel
theorem d27_7 : decode jdk_38_method_6_code 7 = .ok (.ifCond .gt 13, 3) := by decide +kernel
theorem d27_10 : decode jdk_38_method_6_code 10 = .ok (.aload_n 0, 1) := by decide +kernel
theorem d27_11 : decode jdk_38_method_6_code 11 = .ok (.getfield 9, 3) := by decide +kernel
theorem d27_14 : decode jdk_38_method_6_code 14 = .ok (.getstatic 39, 3) := by decide +kernel
theorem d27_17 : decode jdk_38_method_6_code 17 = .ok (.if_acmp .eq 28, 3) := by decide +kernel
theorem d27_45 : decode jdk_38_method_6_code 45 = .ok (.aload_n 0, 1) := by decide +kernel
theorem d27_46 : decode jdk_38_method_6_code 46 = .ok (.bipush 10, 2) := by decide +kernel
theorem d27_48 : decode jdk_38_method_6_code 48 = .ok (.iload_n 1, 1) := by decide +kernel
theorem d27_49 : decode jdk_38_method_6_code 49 = .ok (.invokestatic 79, 3) := by decide +kernel
theorem d27_52 : decode jdk_38_method_6_code 52 = .ok (.anewarray 7, 3) := by decide +kernel
theorem d27_55 : decode jdk_38_method_6_code 55 = .ok (.dup_x1, 1) := by decide +kernel
theorem d27_56 : decode jdk_38_method_6_code 56 = .ok (.putfield 9, 3) := by decide +kernel
theorem d27_59 : decode jdk_38_method_6_code 59 = .ok (.areturn, 1) := by decide +kernel
theorem ef_grow1 (m : MethodId) (a : Addr) (aD : Addr) (kD : ClassId) : entryFrame m #[(.ref a), (.int (1 : Int32))] 4 = mkF m 0 #[.val (.ref a), .val (.int (1 : Int32)), .unset, .unset] [] := by
  first | (simp [entryFrame, mkF, argsToLocals, Value.category]; done) | rfl
def Q_grow1 (Z : State) (a : Addr) (aD : Addr) (kD : ClassId) (h0 : Heap) (n0 : Nat) (v : Option Value) (h : Heap) (L : List Loc) : Prop := ∃ (t : Addr) (kk : ClassId), v = some (.ref t) ∧ Fr n0 L ∧ h0.size ≤ t ∧ Keep h0 h [a] ∧ Fld Z h a "java/util/AbstractList" "modCount" "I" (.int (1 : Int32)) ∧ Fld Z h a "java/util/ArrayList" "elementData" "[Ljava/lang/Object;" (.ref t) ∧ Fld Z h a "java/util/ArrayList" "size" "I" (.int (0 : Int32)) ∧ Arv Z h t kk (.object "java/lang/Object") (10 : Int32) [.null, .null, .null, .null, .null, .null, .null, .null, .null, .null] .null ∧ Exa Z h t "[Ljava/lang/Object;" ∧ Ovr Z kk "java/lang/Object"
set_option maxRecDepth 65536 in
set_option maxHeartbeats 40000000 in
theorem rm_grow1 (l : Launch) (Z : State) (a0 : Array Value) (hw : ∀ d ∈ tables_1, d.before a0 Z = true) (ws : List Jvm.Cond) (a : Addr) (aD : Addr) (kD : ClassId) (h0 : Heap) (n0 : Nat) (O0 : Old Z n0 h0) (F0 : Fld Z h0 a "java/util/AbstractList" "modCount" "I" (.int (1 : Int32))) (F1 : Fld Z h0 a "java/util/ArrayList" "elementData" "[Ljava/lang/Object;" (.ref aD)) (F2 : Fld Z h0 a "java/util/ArrayList" "size" "I" (.int (0 : Int32))) (Ea : Exa Z h0 a "java/util/ArrayList") (g_a : n0 ≤ a) (SD : Sta Z Z.heap "java/util/ArrayList" "DEFAULTCAPACITY_EMPTY_ELEMENTDATA" "[Ljava/lang/Object;" (.ref aD)) (VD : Arv Z Z.heap aD kD (.object "java/lang/Object") (0 : Int32) [] .null) :
    MetFree l own_y8 (head1 (Jvm.Cond.code own_y8 jdk_38_method_6_code 4 (some (.array (.object "java/lang/Object"))) :: ws) ({ frames := 1, cells := 1, slots := 10, locals := 14 } : Room)) (fun av_ U => av_ = #[(.ref a), (.int (1 : Int32))] ∧ Z.Warmed39 U.vm ∧ U.heap = h0) (fun _ _ _ _ _ => True) (fun _ U o_ U' => ∃ v L, o_ = .returned v ∧ Q_grow1 Z a aD kD h0 n0 v U'.heap L ∧ FrameEnd U o_ U' L ({ frames := 1, cells := 1, slots := 10, locals := 14 } : Room).cells ({ frames := 1, cells := 1, slots := 10, locals := 14 } : Room).slots) := by
  refine MetFree.of_bodySF (plainFor_of_name pn_5) hisR ?_
  intro p e s m args below meth c s₁ Bd hml0 hP hK
  obtain ⟨rfl, hZ, hh⟩ := hP
  have hx := Bd.exec
  have hby := Bd.bytes
  have hml : c.maxLocals = 4 := hml0
  have hown : s.vm.findClass "java/util/ArrayList" = some m.cls := findClass_of_methodNamed Bd.named
  have hnm := (name_of_methodNamed Bd.named Bd.method).1
  have hlk := own_lk Bd
  have hret := Bd.returns
  have X0 : Stand p l e ({ frames := 1, cells := 1, slots := 10, locals := 14 } : Room) s m #[(.ref a), (.int (1 : Int32))] below meth c s₁ [] 0 0 := Stand.of_body Bd
  have e0 : s₁.heap = h0 := by rw [← hh, Bd.state]; rfl
  have N0 := Fr.nil n0
  show own_Goes p e below s (Q_grow1 Z a aD kD h0 n0) ({ frames := 1, cells := 1, slots := 10, locals := 14 } : Room).cells ({ frames := 1, cells := 1, slots := 10, locals := 14 } : Room).slots (s₁.setTop (entryFrame m #[(.ref a), (.int (1 : Int32))] 4))
  refine own_go (fun _ ww => castTop (ef_grow1 m a aD kD) ww) ?_
  show own_Goes _ _ _ _ _ _ _ (s₁.setTop (mkF m 0 #[.val (.ref a), .val (.int (1 : Int32)), .unset, .unset] []))
  refine own_go (fun _ ww => XS.aloadN X0.here hx rfl (hb hby d27_0) rfl rfl ww) ?_
  show own_Goes _ _ _ _ _ _ _ (s₁.setTop (mkF m 1 #[.val (.ref a), .val (.int (1 : Int32)), .unset, .unset] [(.ref a)]))
  obtain ⟨T19, X19, e19, st19⟩ := getF X0 hx hZ hown (host := "") (Or.inl (own_w hw 55 rfl)) Via.refl e0 F1 (g := (mkF m 1 #[.val (.ref a), .val (.int (1 : Int32)), .unset, .unset] [(.ref a)])) rfl rfl (hb hby d27_1)
  refine own_go st19 ?_
  show own_Goes _ _ _ _ _ _ _ (T19.setTop (mkF m 4 #[.val (.ref a), .val (.int (1 : Int32)), .unset, .unset] [(.ref aD)]))
  obtain ⟨cl20, Ar20, -, S20, Ng20, -, -⟩ := id (VD.ext O0.2)
  refine own_go (fun _ ww => X19.arraylength hx (by rw [e19]; exact Ar20.1) (State.isArrayOf_alike hZ.alike Ar20.2.1) (g := (mkF m 4 #[.val (.ref a), .val (.int (1 : Int32)), .unset, .unset] [(.ref aD)])) rfl rfl (hb hby d27_4) _ ww) ?_
  rw [len_of S20 Ng20]
  show own_Goes _ _ _ _ _ _ _ (T19.setTop (mkF m 5 #[.val (.ref a), .val (.int (1 : Int32)), .unset, .unset] [(.int (0 : Int32))]))
  refine own_go (fun _ ww => XS.istoreN X19.here hx rfl (hb hby d27_5) rfl (l' := #[.val (.ref a), .val (.int (1 : Int32)), .val (.int (0 : Int32)), .unset]) rfl ww) ?_
  show own_Goes _ _ _ _ _ _ _ (T19.setTop (mkF m 6 #[.val (.ref a), .val (.int (1 : Int32)), .val (.int (0 : Int32)), .unset] []))
  refine own_go (fun _ ww => XS.iloadN X19.here hx rfl (hb hby d27_6) rfl  ww) ?_
  show own_Goes _ _ _ _ _ _ _ (T19.setTop (mkF m 7 #[.val (.ref a), .val (.int (1 : Int32)), .val (.int (0 : Int32)), .unset] [(.int (0 : Int32))]))
  refine own_go (fun _ ww => XS.ifNo X19.here hx rfl (hb hby d27_7) rfl (own_if .gt (flt (by decide : ¬ ((0 : Int32) < (0 : Int32)))).2.2.1) ww) ?_
  show own_Goes _ _ _ _ _ _ _ (T19.setTop (mkF m 10 #[.val (.ref a), .val (.int (1 : Int32)), .val (.int (0 : Int32)), .unset] []))
  refine own_go (fun _ ww => XS.aloadN X19.here hx rfl (hb hby d27_10) rfl rfl ww) ?_
  show own_Goes _ _ _ _ _ _ _ (T19.setTop (mkF m 11 #[.val (.ref a), .val (.int (1 : Int32)), .val (.int (0 : Int32)), .unset] [(.ref a)]))
  obtain ⟨T21, X21, e21, st21⟩ := getF X19 hx hZ hown (host := "") (Or.inl (own_w hw 55 rfl)) Via.refl e19 F1 (g := (mkF m 11 #[.val (.ref a), .val (.int (1 : Int32)), .val (.int (0 : Int32)), .unset] [(.ref a)])) rfl rfl (hb hby d27_11)
  refine own_go st21 ?_
  show own_Goes _ _ _ _ _ _ _ (T21.setTop (mkF m 14 #[.val (.ref a), .val (.int (1 : Int32)), .val (.int (0 : Int32)), .unset] [(.ref aD)]))
  obtain ⟨T22, X22, e22, st22⟩ := getS X21 hx hZ hown (host := "") (own_w hw 54 rfl) Via.refl e21 (SD.ext O0.2) (g := (mkF m 14 #[.val (.ref a), .val (.int (1 : Int32)), .val (.int (0 : Int32)), .unset] [(.ref aD)])) rfl (hb hby d27_14)
  refine own_go st22 ?_
  show own_Goes _ _ _ _ _ _ _ (T22.setTop (mkF m 17 #[.val (.ref a), .val (.int (1 : Int32)), .val (.int (0 : Int32)), .unset] [(.ref aD), (.ref aD)]))
  refine own_go (fun _ ww => XT.acmpYes X22.here hx rfl (pc0 := 17) (pc' := 45) rfl (hb hby d27_17) rfl rfl rfl (own_aeq (rfl : aD = aD)).1 (by decide) (by decide) ww) ?_
  show own_Goes _ _ _ _ _ _ _ (T22.setTop (mkF m 45 #[.val (.ref a), .val (.int (1 : Int32)), .val (.int (0 : Int32)), .unset] []))
  refine own_go (fun _ ww => XS.aloadN X22.here hx rfl (hb hby d27_45) rfl rfl ww) ?_
  show own_Goes _ _ _ _ _ _ _ (T22.setTop (mkF m 46 #[.val (.ref a), .val (.int (1 : Int32)), .val (.int (0 : Int32)), .unset] [(.ref a)]))
  refine own_go (fun _ ww => XS.bipush X22.here hx rfl (hb hby d27_46) ww) ?_
  show own_Goes _ _ _ _ _ _ _ (T22.setTop (mkF m 48 #[.val (.ref a), .val (.int (1 : Int32)), .val (.int (0 : Int32)), .unset] [(.int (10 : Int32)), (.ref a)]))
  refine own_go (fun _ ww => XS.iloadN X22.here hx rfl (hb hby d27_48) rfl  ww) ?_
  show own_Goes _ _ _ _ _ _ _ (T22.setTop (mkF m 49 #[.val (.ref a), .val (.int (1 : Int32)), .val (.int (0 : Int32)), .unset] [(.int (1 : Int32)), (.int (10 : Int32)), (.ref a)]))
  obtain ⟨_, _, ⟨T23, L23, k23, n23⟩, -, X23, ⟨Lc23, hQ23, l23, y23, z23⟩, st23⟩ := Jvm.LawKit.callS X22 hx (y := own_y6) hown (mvT hZ (own_w hw 187 rfl)) (mvT hZ (own_w hw 188 rfl)) (mvT hZ (own_w hw 189 rfl)) (mvT hZ (own_w hw 190 rfl)) (by decide) (backOf (W := 1) (rm_max l Z a0 hw []  h0 n0 O0 ) hZ (own_w hw 190 rfl) (own_w hw 189 rfl) (by decide) (by decide)) (g := (mkF m 49 #[.val (.ref a), .val (.int (1 : Int32)), .val (.int (0 : Int32)), .unset] [(.int (1 : Int32)), (.int (10 : Int32)), (.ref a)])) rfl (by rw [hml]; rfl) (argsL := [(.int (10 : Int32)), (.int (1 : Int32))]) (rest := [(.ref a)]) (lenOf pd_1 rfl) rfl (by show 2 * 0 + _ ≤ _; exact Nat.le_of_eq rfl) (hb hby d27_49) (fun _ _ => ⟨rfl, e22, (by decide : 0 + 0 ≤ _), (by decide : 0 + 0 ≤ _)⟩)
  dsimp only [Pt.U, Pt.locs, Pt.cells, Pt.slots] at X23 l23 y23 z23 st23 hQ23
  subst l23 y23 z23
  obtain ⟨rfl, N23q, e23⟩ := hQ23
  have N23 := Fr.app N0 N23q
  refine own_go st23 ?_
  show own_Goes _ _ _ _ _ _ _ (T23.setTop (mkF m 52 #[.val (.ref a), .val (.int (1 : Int32)), .val (.int (0 : Int32)), .unset] [(.int (10 : Int32)), (.ref a)]))
  obtain ⟨T24, h24, k24, X24, e24, E24, A24, Q24, Ov24, st24⟩ := newRE X23 hx hZ hown (own_w hw 191 rfl) (own_w hw 192 rfl) e23 (g := (mkF m 52 #[.val (.ref a), .val (.int (1 : Int32)), .val (.int (0 : Int32)), .unset] [(.int (10 : Int32)), (.ref a)])) rfl (hb hby d27_52) rfl (by decide) (cap := 10) (by decide) (by decide) (by decide) (by decide) (ad := "[Ljava/lang/Object;") (by decide)
  obtain ⟨b24, g24⟩ : ∃ z, z = h0.size := ⟨_, rfl⟩
  rw [← g24] at A24 Q24 st24
  have ne_a_b24 : a ≠ b24 := Nat.ne_of_lt (Nat.lt_of_lt_of_le F0.lt (Nat.le_of_eq g24.symm))
  have ne_aD_b24 : aD ≠ b24 := Nat.ne_of_lt (Nat.lt_of_lt_of_le (VD.ext O0.2).lt (Nat.le_of_eq g24.symm))
  have g_b24 : n0 ≤ b24 := Nat.le_trans (O0.1 ▸ O0.2.1) (Nat.le_of_eq g24.symm)
  have f25 := (F0.ext E24)
  have f26 := (F1.ext E24)
  have f27 := (F2.ext E24)
  have f28 := (Ea.ext E24)
  have O24 := O0.ext E24
  have sz_b24 : h0.size ≤ b24 := Nat.le_trans (own_ks (Keep.refl h0 [a])) (Nat.le_of_eq g24.symm)
  have K24 := (Keep.refl h0 [a]).ext E24
  have V24 : Arv Z h24 b24 k24 (.object "java/lang/Object") (10 : Int32) [.null, .null, .null, .null, .null, .null, .null, .null, .null, .null] .null := (Arv.new A24 (by decide)).pad (pad_rep [] .null 10)
  refine own_go st24 ?_
  show own_Goes _ _ _ _ _ _ _ (T24.setTop (mkF m 55 #[.val (.ref a), .val (.int (1 : Int32)), .val (.int (0 : Int32)), .unset] [(.ref b24), (.ref a)]))
  refine own_go (fun _ ww => XT.dupX1 X24.here hx rfl (hb hby d27_55) rfl rfl rfl ww) ?_
  show own_Goes _ _ _ _ _ _ _ (T24.setTop (mkF m 56 #[.val (.ref a), .val (.int (1 : Int32)), .val (.int (0 : Int32)), .unset] [(.ref b24), (.ref a), (.ref b24)]))
  obtain ⟨T29, h29, X29, e29, W29, st29⟩ := putF X24 hx hZ hown (host := "") (Or.inl (own_w hw 55 rfl)) Via.refl e24 f26 f28 (Or.inl (own_w hw 56 rfl)) (own_w hw 34 rfl) (ty := (.array (.object "java/lang/Object"))) (by decide) rfl rfl (g := (mkF m 56 #[.val (.ref a), .val (.int (1 : Int32)), .val (.int (0 : Int32)), .unset] [(.ref b24), (.ref a), (.ref b24)])) rfl rfl (hb hby d27_56)
  have f30 := (f25.other W29 (Or.inr (slot_ne (Or.inl (own_w hw 53 rfl)) (Or.inl (own_w hw 56 rfl)) (by decide) (t := .int) (t' := (.array (.object "java/lang/Object"))) (by decide) (by decide))))
  have f31 : Fld Z h29 a "java/util/ArrayList" "elementData" "[Ljava/lang/Object;" (.ref b24) := (f26.same W29)
  have f32 := (f27.other W29 (Or.inr (slot_ne (Or.inl (own_w hw 105 rfl)) (Or.inl (own_w hw 56 rfl)) (by decide) (t := .int) (t' := (.array (.object "java/lang/Object"))) (by decide) (by decide))))
  have f33 := (f28.wr W29)
  have f34 : Arv Z h29 b24 k24 (.object "java/lang/Object") (10 : Int32) [.null, .null, .null, .null, .null, .null, .null, .null, .null, .null] .null := (V24.other W29 (Ne.symm ne_a_b24))
  have f35 := (Q24.wr W29)
  have N29 := Fr.snoc X29 N23 g_a
  have O29 := O24.wr W29 g_a
  have K29 := K24.wr W29 (Or.inl (List.mem_of_getElem? (i := 0) rfl))
  refine own_go st29 ?_
  show own_Goes _ _ _ _ _ _ _ (T29.setTop (mkF m 59 #[.val (.ref a), .val (.int (1 : Int32)), .val (.int (0 : Int32)), .unset] [(.ref b24)]))
  exact own_out X29 hlk (v := some (.ref b24)) (fun h => by rw [hret] at h; cases h) (fun fs hr => retOut X29 hx (t := (.array (.object "java/lang/Object"))) hret rfl (Or.inr (Or.inr (Or.inr (Or.inr ⟨rfl, rfl, rfl⟩)))) (hb hby d27_59) hr) e29 ⟨_, k24, rfl, N29, sz_b24, K29, f30, f31, f32, f34, f35, Ov24⟩ (by decide) (by decide)
theorem d26_0 : decode jdk_38_method_7_code 0 = .ok (.aload_n 0, 1) := by decide +kernel
theorem d26_1 : decode jdk_38_method_7_code 1 = .ok (.aload_n 0, 1) := by decide +kernel
theorem d26_2 : decode jdk_38_method_7_code 2 = .ok (.getfield 48, 3) := by decide +kernel
theorem d26_5 : decode jdk_38_method_7_code 5 = .ok (.iconst 1, 1) := by decide +kernel
theorem d26_6 : decode jdk_38_method_7_code 6 = .ok (.iadd, 1) := by decide +kernel
theorem d26_7 : decode jdk_38_method_7_code 7 = .ok (.invokevirtual 69, 3) := by decide +kernel
theorem d26_10 : decode jdk_38_method_7_code 10 = .ok (.areturn, 1) := by decide +kernel
theorem ef_grow0 (m : MethodId) (a : Addr) (aD : Addr) (kD : ClassId) : entryFrame m #[(.ref a)] 1 = mkF m 0 #[.val (.ref a)] [] := by
  first | (simp [entryFrame, mkF, argsToLocals, Value.category]; done) | rfl
def Q_grow0 (Z : State) (a : Addr) (aD : Addr) (kD : ClassId) (h0 : Heap) (n0 : Nat) (v : Option Value) (h : Heap) (L : List Loc) : Prop := ∃ (t : Addr) (kk : ClassId), v = some (.ref t) ∧ Fr n0 L ∧ h0.size ≤ t ∧ Keep h0 h [a] ∧ Fld Z h a "java/util/AbstractList" "modCount" "I" (.int (1 : Int32)) ∧ Fld Z h a "java/util/ArrayList" "elementData" "[Ljava/lang/Object;" (.ref t) ∧ Fld Z h a "java/util/ArrayList" "size" "I" (.int (0 : Int32)) ∧ Arv Z h t kk (.object "java/lang/Object") (10 : Int32) [.null, .null, .null, .null, .null, .null, .null, .null, .null, .null] .null ∧ Exa Z h t "[Ljava/lang/Object;" ∧ Ovr Z kk "java/lang/Object"
set_option maxRecDepth 65536 in
set_option maxHeartbeats 40000000 in
theorem rm_grow0 (l : Launch) (Z : State) (a0 : Array Value) (hw : ∀ d ∈ tables_1, d.before a0 Z = true) (ws : List Jvm.Cond) (a : Addr) (aD : Addr) (kD : ClassId) (h0 : Heap) (n0 : Nat) (O0 : Old Z n0 h0) (F0 : Fld Z h0 a "java/util/AbstractList" "modCount" "I" (.int (1 : Int32))) (F1 : Fld Z h0 a "java/util/ArrayList" "elementData" "[Ljava/lang/Object;" (.ref aD)) (F2 : Fld Z h0 a "java/util/ArrayList" "size" "I" (.int (0 : Int32))) (Ea : Exa Z h0 a "java/util/ArrayList") (g_a : n0 ≤ a) (SD : Sta Z Z.heap "java/util/ArrayList" "DEFAULTCAPACITY_EMPTY_ELEMENTDATA" "[Ljava/lang/Object;" (.ref aD)) (VD : Arv Z Z.heap aD kD (.object "java/lang/Object") (0 : Int32) [] .null) :
    MetFree l own_y9 (head1 (Jvm.Cond.code own_y9 jdk_38_method_7_code 1 (some (.array (.object "java/lang/Object"))) :: ws) ({ frames := 2, cells := 1, slots := 10, locals := 29 } : Room)) (fun av_ U => av_ = #[(.ref a)] ∧ Z.Warmed39 U.vm ∧ U.heap = h0) (fun _ _ _ _ _ => True) (fun _ U o_ U' => ∃ v L, o_ = .returned v ∧ Q_grow0 Z a aD kD h0 n0 v U'.heap L ∧ FrameEnd U o_ U' L ({ frames := 2, cells := 1, slots := 10, locals := 29 } : Room).cells ({ frames := 2, cells := 1, slots := 10, locals := 29 } : Room).slots) := by
  refine MetFree.of_bodySF (plainFor_of_name pn_5) hisR ?_
  intro p e s m args below meth c s₁ Bd hml0 hP hK
  obtain ⟨rfl, hZ, hh⟩ := hP
  have hx := Bd.exec
  have hby := Bd.bytes
  have hml : c.maxLocals = 1 := hml0
  have hown : s.vm.findClass "java/util/ArrayList" = some m.cls := findClass_of_methodNamed Bd.named
  have hnm := (name_of_methodNamed Bd.named Bd.method).1
  have hlk := own_lk Bd
  have hret := Bd.returns
  have X0 : Stand p l e ({ frames := 2, cells := 1, slots := 10, locals := 29 } : Room) s m #[(.ref a)] below meth c s₁ [] 0 0 := Stand.of_body Bd
  have e0 : s₁.heap = h0 := by rw [← hh, Bd.state]; rfl
  have N0 := Fr.nil n0
  show own_Goes p e below s (Q_grow0 Z a aD kD h0 n0) ({ frames := 2, cells := 1, slots := 10, locals := 29 } : Room).cells ({ frames := 2, cells := 1, slots := 10, locals := 29 } : Room).slots (s₁.setTop (entryFrame m #[(.ref a)] 1))
  refine own_go (fun _ ww => castTop (ef_grow0 m a aD kD) ww) ?_
  show own_Goes _ _ _ _ _ _ _ (s₁.setTop (mkF m 0 #[.val (.ref a)] []))
  refine own_go (fun _ ww => XS.aloadN X0.here hx rfl (hb hby d26_0) rfl rfl ww) ?_
  show own_Goes _ _ _ _ _ _ _ (s₁.setTop (mkF m 1 #[.val (.ref a)] [(.ref a)]))
  refine own_go (fun _ ww => XS.aloadN X0.here hx rfl (hb hby d26_1) rfl rfl ww) ?_
  show own_Goes _ _ _ _ _ _ _ (s₁.setTop (mkF m 2 #[.val (.ref a)] [(.ref a), (.ref a)]))
  obtain ⟨T36, X36, e36, st36⟩ := getF X0 hx hZ hown (host := "") (Or.inl (own_w hw 104 rfl)) Via.refl e0 F2 (g := (mkF m 2 #[.val (.ref a)] [(.ref a), (.ref a)])) rfl rfl (hb hby d26_2)
  refine own_go st36 ?_
  show own_Goes _ _ _ _ _ _ _ (T36.setTop (mkF m 5 #[.val (.ref a)] [(.int (0 : Int32)), (.ref a)]))
  refine own_go (fun _ ww => XS.iconst X36.here hx rfl (hb hby d26_5) ww) ?_
  show own_Goes _ _ _ _ _ _ _ (T36.setTop (mkF m 6 #[.val (.ref a)] [(.int (1 : Int32)), (.int (0 : Int32)), (.ref a)]))
  refine own_go (fun _ ww => XS.iadd X36.here hx rfl (hb hby d26_6) rfl ww) ?_
  show own_Goes _ _ _ _ _ _ _ (T36.setTop (mkF m 7 #[.val (.ref a)] [(.int ((0 : Int32) + (1 : Int32))), (.ref a)]))
  rw [(by decide : ((0 : Int32) + (1 : Int32)) = (1 : Int32))]
  show own_Goes _ _ _ _ _ _ _ (T36.setTop (mkF m 7 #[.val (.ref a)] [(.int (1 : Int32)), (.ref a)]))
  obtain ⟨cq37, q37, q37'⟩ := Exa.cell Ea
  obtain ⟨_, _, ⟨T37, L37, k37, n37⟩, -, X37, ⟨Lc37, hQ37, l37, y37, z37⟩, st37⟩ := own_privateBack X36 hx (y := own_y8) hown (mvT hZ (own_w hw 182 rfl)) (mvT hZ (own_w hw 183 rfl)) (mvT hZ (own_w hw 34 rfl)) (Cond.privateMethod_at (mvP hZ (own_w hw 184 rfl) (args := #[]))) (mvT hZ (own_w hw 186 rfl)) (by decide) (backOf (W := 0) (rm_grow1 l Z a0 hw [] a aD kD h0 n0 O0 F0 F1 F2 Ea g_a SD VD) hZ (own_w hw 186 rfl) (own_w hw 35 rfl) (by decide) (by decide)) (g := (mkF m 7 #[.val (.ref a)] [(.int (1 : Int32)), (.ref a)])) rfl (by rw [hml]; rfl) (Steps.refl _) (a := a) (by rw [e36]; exact q37) q37' (argsL := [(.int (1 : Int32))]) (rest := []) (lenOf pd_2 rfl) rfl (by show 2 * 0 + _ ≤ _; exact Nat.le_of_eq rfl) (hb hby d26_7) (fun _ _ => ⟨rfl, e36, (by decide : 0 + 1 ≤ _), (by decide : 0 + 10 ≤ _)⟩)
  dsimp only [Pt.U, Pt.locs, Pt.cells, Pt.slots] at X37 l37 y37 z37 st37 hQ37
  subst l37 y37 z37
  obtain ⟨t37, kk37, rfl, N37q, B37, K37q, P37, Q37, R37, V37q, E37q, Ov37⟩ := hQ37
  have N37 := Fr.app N0 N37q
  have ne_a_t37 : a ≠ t37 := Nat.ne_of_lt (Nat.lt_of_lt_of_le F0.lt B37)
  have ne_aD_t37 : aD ≠ t37 := Nat.ne_of_lt (Nat.lt_of_lt_of_le (VD.ext O0.2).lt B37)
  have g_t37 : n0 ≤ t37 := Nat.le_trans (O0.1 ▸ O0.2.1) B37
  have sz_t37 : h0.size ≤ t37 := Nat.le_trans (own_ks (Keep.refl h0 [a])) B37
  have f38 := (Ea.keep K37q)
  have O37 := O0.keep K37q (allS g_a all0)
  have K37 := (Keep.refl h0 [a]).trans K37q (allS (Or.inl (List.mem_of_getElem? (i := 0) rfl)) all0)
  refine own_go (fun _ ww => Steps.trans st37 ww) ?_
  show own_Goes _ _ _ _ _ _ _ (T37.setTop (mkF m 10 #[.val (.ref a)] [(.ref t37)]))
  exact own_out X37 hlk (v := some (.ref t37)) (fun h => by rw [hret] at h; cases h) (fun fs hr => retOut X37 hx (t := (.array (.object "java/lang/Object"))) hret rfl (Or.inr (Or.inr (Or.inr (Or.inr ⟨rfl, rfl, rfl⟩)))) (hb hby d26_10) hr) rfl ⟨_, kk37, rfl, N37, sz_t37, K37, P37, Q37, R37, V37q, E37q, Ov37⟩ (by decide) (by decide)
theorem d25_0 : decode jdk_38_method_24_code 0 = .ok (.iload_n 3, 1) := by decide +kernel
theorem d25_1 : decode jdk_38_method_24_code 1 = .ok (.aload_n 2, 1) := by decide +kernel
theorem d25_2 : decode jdk_38_method_24_code 2 = .ok (.arraylength, 1) := by decide +kernel
theorem d25_3 : decode jdk_38_method_24_code 3 = .ok (.if_icmp .ne 8, 3) := by decide +kernel
theorem d25_6 : decode jdk_38_method_24_code 6 = .ok (.aload_n 0, 1) := by decide +kernel
theorem d25_7 : decode jdk_38_method_24_code 7 = .ok (.invokevirtual 129, 3) := by decide +kernel
theorem d25_10 : decode jdk_38_method_24_code 10 = .ok (.astore_n 2, 1) := by decide +kernel
theorem d25_11 : decode jdk_38_method_24_code 11 = .ok (.aload_n 2, 1) := by decide +kernel
theorem d25_12 : decode jdk_38_method_24_code 12 = .ok (.iload_n 3, 1) := by decide +kernel
theorem d25_13 : decode jdk_38_method_24_code 13 = .ok (.aload_n 1, 1) := by decide +kernel
theorem d25_14 : decode jdk_38_method_24_code 14 = .ok (.aastore, 1) := by decide +kernel
theorem d25_15 : decode jdk_38_method_24_code 15 = .ok (.aload_n 0, 1) := by decide +kernel
theorem d25_16 : decode jdk_38_method_24_code 16 = .ok (.iload_n 3, 1) := by decide +kernel
theorem d25_17 : decode jdk_38_method_24_code 17 = .ok (.iconst 1, 1) := by decide +kernel
theorem d25_18 : decode jdk_38_method_24_code 18 = .ok (.iadd, 1) := by decide +kernel
theorem d25_19 : decode jdk_38_method_24_code 19 = .ok (.putfield 48, 3) := by decide +kernel
theorem d25_22 : decode jdk_38_method_24_code 22 = .ok (.return_, 1) := by decide +kernel
theorem ef_add3 (m : MethodId) (a : Addr) (aD : Addr) (kD : ClassId) (e_ : Addr) : entryFrame m #[(.ref a), (.ref e_), (.ref aD), (.int (0 : Int32))] 4 = mkF m 0 #[.val (.ref a), .val (.ref e_), .val (.ref aD), .val (.int (0 : Int32))] [] := by
  first | (simp [entryFrame, mkF, argsToLocals, Value.category]; done) | rfl
def Q_add3 (Z : State) (a : Addr) (aD : Addr) (kD : ClassId) (e_ : Addr) (h0 : Heap) (n0 : Nat) (v : Option Value) (h : Heap) (L : List Loc) : Prop := ∃ (t : Addr) (kk : ClassId), v = none ∧ Fr n0 L ∧ h0.size ≤ t ∧ Keep h0 h [a] ∧ Fld Z h a "java/util/AbstractList" "modCount" "I" (.int (1 : Int32)) ∧ Fld Z h a "java/util/ArrayList" "elementData" "[Ljava/lang/Object;" (.ref t) ∧ Fld Z h a "java/util/ArrayList" "size" "I" (.int (1 : Int32)) ∧ Arv Z h t kk (.object "java/lang/Object") (10 : Int32) [(.ref e_), .null, .null, .null, .null, .null, .null, .null, .null, .null] .null ∧ Exa Z h t "[Ljava/lang/Object;"
set_option maxRecDepth 65536 in
set_option maxHeartbeats 40000000 in
theorem rm_add3 (l : Launch) (Z : State) (a0 : Array Value) (hw : ∀ d ∈ tables_1, d.before a0 Z = true) (ws : List Jvm.Cond) (a : Addr) (aD : Addr) (kD : ClassId) (e_ : Addr) (h0 : Heap) (n0 : Nat) (O0 : Old Z n0 h0) (F0 : Fld Z h0 a "java/util/AbstractList" "modCount" "I" (.int (1 : Int32))) (F1 : Fld Z h0 a "java/util/ArrayList" "elementData" "[Ljava/lang/Object;" (.ref aD)) (F2 : Fld Z h0 a "java/util/ArrayList" "size" "I" (.int (0 : Int32))) (Ea : Exa Z h0 a "java/util/ArrayList") (g_a : n0 ≤ a) (SD : Sta Z Z.heap "java/util/ArrayList" "DEFAULTCAPACITY_EMPTY_ELEMENTDATA" "[Ljava/lang/Object;" (.ref aD)) (VD : Arv Z Z.heap aD kD (.object "java/lang/Object") (0 : Int32) [] .null) (Ee : Exa Z h0 e_ "com/example/navlint/navlint/model/Entry") :
    MetFree l own_y10 (head1 (Jvm.Cond.code own_y10 jdk_38_method_24_code 4 none :: ws) ({ frames := 3, cells := 1, slots := 10, locals := 41 } : Room)) (fun av_ U => av_ = #[(.ref a), (.ref e_), (.ref aD), (.int (0 : Int32))] ∧ Z.Warmed39 U.vm ∧ U.heap = h0) (fun _ _ _ _ _ => True) (fun _ U o_ U' => ∃ v L, o_ = .returned v ∧ Q_add3 Z a aD kD e_ h0 n0 v U'.heap L ∧ FrameEnd U o_ U' L ({ frames := 3, cells := 1, slots := 10, locals := 41 } : Room).cells ({ frames := 3, cells := 1, slots := 10, locals := 41 } : Room).slots) := by
  refine MetFree.of_bodySF (plainFor_of_name pn_5) hisR ?_
  intro p e s m args below meth c s₁ Bd hml0 hP hK
  obtain ⟨rfl, hZ, hh⟩ := hP
  have hx := Bd.exec
  have hby := Bd.bytes
  have hml : c.maxLocals = 4 := hml0
  have hown : s.vm.findClass "java/util/ArrayList" = some m.cls := findClass_of_methodNamed Bd.named
  have hnm := (name_of_methodNamed Bd.named Bd.method).1
  have hlk := own_lk Bd
  have hret := Bd.returns
  have X0 : Stand p l e ({ frames := 3, cells := 1, slots := 10, locals := 41 } : Room) s m #[(.ref a), (.ref e_), (.ref aD), (.int (0 : Int32))] below meth c s₁ [] 0 0 := Stand.of_body Bd
  have e0 : s₁.heap = h0 := by rw [← hh, Bd.state]; rfl
  have N0 := Fr.nil n0
  show own_Goes p e below s (Q_add3 Z a aD kD e_ h0 n0) ({ frames := 3, cells := 1, slots := 10, locals := 41 } : Room).cells ({ frames := 3, cells := 1, slots := 10, locals := 41 } : Room).slots (s₁.setTop (entryFrame m #[(.ref a), (.ref e_), (.ref aD), (.int (0 : Int32))] 4))
  refine own_go (fun _ ww => castTop (ef_add3 m a aD kD e_) ww) ?_
  show own_Goes _ _ _ _ _ _ _ (s₁.setTop (mkF m 0 #[.val (.ref a), .val (.ref e_), .val (.ref aD), .val (.int (0 : Int32))] []))
  refine own_go (fun _ ww => XS.iloadN X0.here hx rfl (hb hby d25_0) rfl  ww) ?_
  show own_Goes _ _ _ _ _ _ _ (s₁.setTop (mkF m 1 #[.val (.ref a), .val (.ref e_), .val (.ref aD), .val (.int (0 : Int32))] [(.int (0 : Int32))]))
  refine own_go (fun _ ww => XS.aloadN X0.here hx rfl (hb hby d25_1) rfl rfl ww) ?_
  show own_Goes _ _ _ _ _ _ _ (s₁.setTop (mkF m 2 #[.val (.ref a), .val (.ref e_), .val (.ref aD), .val (.int (0 : Int32))] [(.ref aD), (.int (0 : Int32))]))
  obtain ⟨cl39, Ar39, -, S39, Ng39, -, -⟩ := id (VD.ext O0.2)
  refine own_go (fun _ ww => X0.arraylength hx (by rw [e0]; exact Ar39.1) (State.isArrayOf_alike hZ.alike Ar39.2.1) (g := (mkF m 2 #[.val (.ref a), .val (.ref e_), .val (.ref aD), .val (.int (0 : Int32))] [(.ref aD), (.int (0 : Int32))])) rfl rfl (hb hby d25_2) _ ww) ?_
  rw [len_of S39 Ng39]
  show own_Goes _ _ _ _ _ _ _ (s₁.setTop (mkF m 3 #[.val (.ref a), .val (.ref e_), .val (.ref aD), .val (.int (0 : Int32))] [(.int (0 : Int32)), (.int (0 : Int32))]))
  refine own_go (fun _ ww => XS.icmpNo X0.here hx rfl (hb hby d25_3) rfl (teq (by decide : (0 : Int32) = (0 : Int32))).2 ww) ?_
  show own_Goes _ _ _ _ _ _ _ (s₁.setTop (mkF m 6 #[.val (.ref a), .val (.ref e_), .val (.ref aD), .val (.int (0 : Int32))] []))
  refine own_go (fun _ ww => XS.aloadN X0.here hx rfl (hb hby d25_6) rfl rfl ww) ?_
  show own_Goes _ _ _ _ _ _ _ (s₁.setTop (mkF m 7 #[.val (.ref a), .val (.ref e_), .val (.ref aD), .val (.int (0 : Int32))] [(.ref a)]))
  obtain ⟨cq40, q40, q40'⟩ := Exa.cell Ea
  obtain ⟨_, _, ⟨T40, L40, k40, n40⟩, -, X40, ⟨Lc40, hQ40, l40, y40, z40⟩, st40⟩ := own_privateBack X0 hx (y := own_y9) hown (mvT hZ (own_w hw 177 rfl)) (mvT hZ (own_w hw 178 rfl)) (mvT hZ (own_w hw 34 rfl)) (Cond.privateMethod_at (mvP hZ (own_w hw 179 rfl) (args := #[]))) (mvT hZ (own_w hw 181 rfl)) (by decide) (backOf (W := 0) (rm_grow0 l Z a0 hw [] a aD kD h0 n0 O0 F0 F1 F2 Ea g_a SD VD) hZ (own_w hw 181 rfl) (own_w hw 35 rfl) (by decide) (by decide)) (g := (mkF m 7 #[.val (.ref a), .val (.ref e_), .val (.ref aD), .val (.int (0 : Int32))] [(.ref a)])) rfl (by rw [hml]; rfl) (Steps.refl _) (a := a) (by rw [e0]; exact q40) q40' (argsL := []) (rest := []) (lenOf pd_3 rfl) rfl (by show 2 * 0 + _ ≤ _; exact Nat.le_of_eq rfl) (hb hby d25_7) (fun _ _ => ⟨rfl, e0, (by decide : 0 + 1 ≤ _), (by decide : 0 + 10 ≤ _)⟩)
  dsimp only [Pt.U, Pt.locs, Pt.cells, Pt.slots] at X40 l40 y40 z40 st40 hQ40
  subst l40 y40 z40
  obtain ⟨t40, kk40, rfl, N40q, B40, K40q, P40, Q40, R40, V40q, E40q, Ov40⟩ := hQ40
  have N40 := Fr.app N0 N40q
  have ne_a_t40 : a ≠ t40 := Nat.ne_of_lt (Nat.lt_of_lt_of_le F0.lt B40)
  have ne_e__t40 : e_ ≠ t40 := Nat.ne_of_lt (Nat.lt_of_lt_of_le Ee.lt B40)
  have ne_aD_t40 : aD ≠ t40 := Nat.ne_of_lt (Nat.lt_of_lt_of_le (VD.ext O0.2).lt B40)
  have g_t40 : n0 ≤ t40 := Nat.le_trans (O0.1 ▸ O0.2.1) B40
  have sz_t40 : h0.size ≤ t40 := Nat.le_trans (own_ks (Keep.refl h0 [a])) B40
  have f41 := (Ea.keep K40q)
  have f42 := (Ee.keep K40q)
  have O40 := O0.keep K40q (allS g_a all0)
  have K40 := (Keep.refl h0 [a]).trans K40q (allS (Or.inl (List.mem_of_getElem? (i := 0) rfl)) all0)
  refine own_go (fun _ ww => Steps.trans st40 ww) ?_
  show own_Goes _ _ _ _ _ _ _ (T40.setTop (mkF m 10 #[.val (.ref a), .val (.ref e_), .val (.ref aD), .val (.int (0 : Int32))] [(.ref t40)]))
  refine own_go (fun _ ww => XS.astoreN X40.here hx rfl (hb hby d25_10) rfl rfl (l' := #[.val (.ref a), .val (.ref e_), .val (.ref t40), .val (.int (0 : Int32))]) rfl ww) ?_
  show own_Goes _ _ _ _ _ _ _ (T40.setTop (mkF m 11 #[.val (.ref a), .val (.ref e_), .val (.ref t40), .val (.int (0 : Int32))] []))
  refine own_go (fun _ ww => XS.aloadN X40.here hx rfl (hb hby d25_11) rfl rfl ww) ?_
  show own_Goes _ _ _ _ _ _ _ (T40.setTop (mkF m 12 #[.val (.ref a), .val (.ref e_), .val (.ref t40), .val (.int (0 : Int32))] [(.ref t40)]))
  refine own_go (fun _ ww => XS.iloadN X40.here hx rfl (hb hby d25_12) rfl  ww) ?_
  show own_Goes _ _ _ _ _ _ _ (T40.setTop (mkF m 13 #[.val (.ref a), .val (.ref e_), .val (.ref t40), .val (.int (0 : Int32))] [(.int (0 : Int32)), (.ref t40)]))
  refine own_go (fun _ ww => XS.aloadN X40.here hx rfl (hb hby d25_13) rfl rfl ww) ?_
  show own_Goes _ _ _ _ _ _ _ (T40.setTop (mkF m 14 #[.val (.ref a), .val (.ref e_), .val (.ref t40), .val (.int (0 : Int32))] [(.ref e_), (.int (0 : Int32)), (.ref t40)]))
  obtain ⟨cl43, Ar43, q43, S43, M43, H43, U43⟩ := id V40q
  obtain ⟨T43, h43, X43, e43, W43, st43⟩ := stR X40 hx hZ rfl Ar43 (j := (0 : Int32)) (inb_of S43 ⟨by decide, by decide⟩) rfl (Sto.ofV Ar43 q43 Ov40 (Ins.of_exa f42 (own_w hw 193 rfl))) (g := (mkF m 14 #[.val (.ref a), .val (.ref e_), .val (.ref t40), .val (.int (0 : Int32))] [(.ref e_), (.int (0 : Int32)), (.ref t40)])) rfl rfl (hb hby d25_14)
  have f44 := (f41.wr W43)
  have f45 := (f42.wr W43)
  have f46 := (P40.other W43 (Or.inl ne_a_t40))
  have f47 := (Q40.other W43 (Or.inl ne_a_t40))
  have f48 := (R40.other W43 (Or.inl ne_a_t40))
  have f49 : Arv Z h43 t40 kk40 (.object "java/lang/Object") (10 : Int32) [(.ref e_), .null, .null, .null, .null, .null, .null, .null, .null, .null] .null := (Arv.set Ar43 q43 S43 M43 H43 U43 rfl W43 0 rfl (Nat.le_of_ble_eq_true rfl))
  have f50 := (E40q.wr W43)
  have N43 := Fr.snoc X43 N40 g_t40
  have O43 := O40.wr W43 g_t40
  have K43 := K40.wr W43 (Or.inr sz_t40)
  refine own_go st43 ?_
  show own_Goes _ _ _ _ _ _ _ (T43.setTop (mkF m 15 #[.val (.ref a), .val (.ref e_), .val (.ref t40), .val (.int (0 : Int32))] []))
  refine own_go (fun _ ww => XS.aloadN X43.here hx rfl (hb hby d25_15) rfl rfl ww) ?_
  show own_Goes _ _ _ _ _ _ _ (T43.setTop (mkF m 16 #[.val (.ref a), .val (.ref e_), .val (.ref t40), .val (.int (0 : Int32))] [(.ref a)]))
  refine own_go (fun _ ww => XS.iloadN X43.here hx rfl (hb hby d25_16) rfl  ww) ?_
  show own_Goes _ _ _ _ _ _ _ (T43.setTop (mkF m 17 #[.val (.ref a), .val (.ref e_), .val (.ref t40), .val (.int (0 : Int32))] [(.int (0 : Int32)), (.ref a)]))
  refine own_go (fun _ ww => XS.iconst X43.here hx rfl (hb hby d25_17) ww) ?_
  show own_Goes _ _ _ _ _ _ _ (T43.setTop (mkF m 18 #[.val (.ref a), .val (.ref e_), .val (.ref t40), .val (.int (0 : Int32))] [(.int (1 : Int32)), (.int (0 : Int32)), (.ref a)]))
  refine own_go (fun _ ww => XS.iadd X43.here hx rfl (hb hby d25_18) rfl ww) ?_
  show own_Goes _ _ _ _ _ _ _ (T43.setTop (mkF m 19 #[.val (.ref a), .val (.ref e_), .val (.ref t40), .val (.int (0 : Int32))] [(.int ((0 : Int32) + (1 : Int32))), (.ref a)]))
  rw [(by decide : ((0 : Int32) + (1 : Int32)) = (1 : Int32))]
  show own_Goes _ _ _ _ _ _ _ (T43.setTop (mkF m 19 #[.val (.ref a), .val (.ref e_), .val (.ref t40), .val (.int (0 : Int32))] [(.int (1 : Int32)), (.ref a)]))
  obtain ⟨T51, h51, X51, e51, W51, st51⟩ := putF X43 hx hZ hown (host := "") (Or.inl (own_w hw 104 rfl)) Via.refl e43 f48 f44 (Or.inl (own_w hw 105 rfl)) (own_w hw 34 rfl) (ty := .int) (by decide) rfl rfl (g := (mkF m 19 #[.val (.ref a), .val (.ref e_), .val (.ref t40), .val (.int (0 : Int32))] [(.int (1 : Int32)), (.ref a)])) rfl rfl (hb hby d25_19)
  have f52 := (f44.wr W51)
  have f53 := (f45.wr W51)
  have f54 := (f46.other W51 (Or.inr (slot_ne (Or.inl (own_w hw 53 rfl)) (Or.inl (own_w hw 105 rfl)) (by decide) (t := .int) (t' := .int) (by decide) (by decide))))
  have f55 := (f47.other W51 (Or.inr (slot_ne (Or.inl (own_w hw 56 rfl)) (Or.inl (own_w hw 105 rfl)) (by decide) (t := (.array (.object "java/lang/Object"))) (t' := .int) (by decide) (by decide))))
  have f56 : Fld Z h51 a "java/util/ArrayList" "size" "I" (.int (1 : Int32)) := (f48.same W51)
  have f57 : Arv Z h51 t40 kk40 (.object "java/lang/Object") (10 : Int32) [(.ref e_), .null, .null, .null, .null, .null, .null, .null, .null, .null] .null := (f49.other W51 (Ne.symm ne_a_t40))
  have f58 := (f50.wr W51)
  have N51 := Fr.snoc X51 N43 g_a
  have O51 := O43.wr W51 g_a
  have K51 := K43.wr W51 (Or.inl (List.mem_of_getElem? (i := 0) rfl))
  refine own_go st51 ?_
  show own_Goes _ _ _ _ _ _ _ (T51.setTop (mkF m 22 #[.val (.ref a), .val (.ref e_), .val (.ref t40), .val (.int (0 : Int32))] []))
  exact own_out X51 hlk (v := none) (fun _ => rfl) (fun fs hr => X51.returnOut hx hret (hb hby d25_22) hr) e51 ⟨t40, kk40, rfl, N51, sz_t40, K51, f54, f55, f56, f57, f58⟩ (by decide) (by decide)
theorem d24_0 : decode jdk_38_method_25_code 0 = .ok (.aload_n 0, 1) := by decide +kernel
theorem d24_1 : decode jdk_38_method_25_code 1 = .ok (.dup, 1) := by decide +kernel
theorem d24_2 : decode jdk_38_method_25_code 2 = .ok (.getfield 63, 3) := by decide +kernel
theorem d24_5 : decode jdk_38_method_25_code 5 = .ok (.iconst 1, 1) := by decide +kernel
theorem d24_6 : decode jdk_38_method_25_code 6 = .ok (.iadd, 1) := by decide +kernel
theorem d24_7 : decode jdk_38_method_25_code 7 = .ok (.putfield 63, 3) := by decide +kernel
theorem d24_10 : decode jdk_38_method_25_code 10 = .ok (.aload_n 0, 1) := by decide +kernel
theorem d24_11 : decode jdk_38_method_25_code 11 = .ok (.aload_n 1, 1) := by decide +kernel
theorem d24_12 : decode jdk_38_method_25_code 12 = .ok (.aload_n 0, 1) := by decide +kernel
theorem d24_13 : decode jdk_38_method_25_code 13 = .ok (.getfield 9, 3) := by decide +kernel
theorem d24_16 : decode jdk_38_method_25_code 16 = .ok (.aload_n 0, 1) := by decide +kernel
theorem d24_17 : decode jdk_38_method_25_code 17 = .ok (.getfield 48, 3) := by decide +kernel
theorem d24_20 : decode jdk_38_method_25_code 20 = .ok (.invokevirtual 131, 3) := by decide +kernel
theorem d24_23 : decode jdk_38_method_25_code 23 = .ok (.iconst 1, 1) := by decide +kernel
theorem d24_24 : decode jdk_38_method_25_code 24 = .ok (.ireturn, 1) := by decide +kernel
theorem ef_add1 (m : MethodId) (a : Addr) (aD : Addr) (kD : ClassId) (e_ : Addr) : entryFrame m #[(.ref a), (.ref e_)] 2 = mkF m 0 #[.val (.ref a), .val (.ref e_)] [] := by
  first | (simp [entryFrame, mkF, argsToLocals, Value.category]; done) | rfl
def Q_add1 (Z : State) (a : Addr) (aD : Addr) (kD : ClassId) (e_ : Addr) (h0 : Heap) (n0 : Nat) (v : Option Value) (h : Heap) (L : List Loc) : Prop := ∃ (t : Addr) (kk : ClassId), v = some (.int (1 : Int32)) ∧ Fr n0 L ∧ h0.size ≤ t ∧ Keep h0 h [a] ∧ Fld Z h a "java/util/AbstractList" "modCount" "I" (.int (1 : Int32)) ∧ Fld Z h a "java/util/ArrayList" "elementData" "[Ljava/lang/Object;" (.ref t) ∧ Fld Z h a "java/util/ArrayList" "size" "I" (.int (1 : Int32)) ∧ Arv Z h t kk (.object "java/lang/Object") (10 : Int32) [(.ref e_), .null, .null, .null, .null, .null, .null, .null, .null, .null] .null ∧ Exa Z h t "[Ljava/lang/Object;"
set_option maxRecDepth 65536 in
set_option maxHeartbeats 40000000 in
theorem rm_add1 (l : Launch) (Z : State) (a0 : Array Value) (hw : ∀ d ∈ tables_1, d.before a0 Z = true) (ws : List Jvm.Cond) (a : Addr) (aD : Addr) (kD : ClassId) (e_ : Addr) (h0 : Heap) (n0 : Nat) (O0 : Old Z n0 h0) (F0 : Fld Z h0 a "java/util/AbstractList" "modCount" "I" (.int (0 : Int32))) (F1 : Fld Z h0 a "java/util/ArrayList" "elementData" "[Ljava/lang/Object;" (.ref aD)) (F2 : Fld Z h0 a "java/util/ArrayList" "size" "I" (.int (0 : Int32))) (Ea : Exa Z h0 a "java/util/ArrayList") (g_a : n0 ≤ a) (SD : Sta Z Z.heap "java/util/ArrayList" "DEFAULTCAPACITY_EMPTY_ELEMENTDATA" "[Ljava/lang/Object;" (.ref aD)) (VD : Arv Z Z.heap aD kD (.object "java/lang/Object") (0 : Int32) [] .null) (Ee : Exa Z h0 e_ "com/example/navlint/navlint/model/Entry") :
    MetFree l own_y11 (head1 (Jvm.Cond.code own_y11 jdk_38_method_25_code 2 (some .boolean) :: ws) ({ frames := 4, cells := 1, slots := 10, locals := 56 } : Room)) (fun av_ U => av_ = #[(.ref a), (.ref e_)] ∧ Z.Warmed39 U.vm ∧ U.heap = h0) (fun _ _ _ _ _ => True) (fun _ U o_ U' => ∃ v L, o_ = .returned v ∧ Q_add1 Z a aD kD e_ h0 n0 v U'.heap L ∧ FrameEnd U o_ U' L ({ frames := 4, cells := 1, slots := 10, locals := 56 } : Room).cells ({ frames := 4, cells := 1, slots := 10, locals := 56 } : Room).slots) := by
  refine MetFree.of_bodySF (plainFor_of_name pn_5) hisR ?_
  intro p e s m args below meth c s₁ Bd hml0 hP hK
  obtain ⟨rfl, hZ, hh⟩ := hP
  have hx := Bd.exec
  have hby := Bd.bytes
  have hml : c.maxLocals = 2 := hml0
  have hown : s.vm.findClass "java/util/ArrayList" = some m.cls := findClass_of_methodNamed Bd.named
  have hnm := (name_of_methodNamed Bd.named Bd.method).1
  have hlk := own_lk Bd
  have hret := Bd.returns
  have X0 : Stand p l e ({ frames := 4, cells := 1, slots := 10, locals := 56 } : Room) s m #[(.ref a), (.ref e_)] below meth c s₁ [] 0 0 := Stand.of_body Bd
  have e0 : s₁.heap = h0 := by rw [← hh, Bd.state]; rfl
  have N0 := Fr.nil n0
  show own_Goes p e below s (Q_add1 Z a aD kD e_ h0 n0) ({ frames := 4, cells := 1, slots := 10, locals := 56 } : Room).cells ({ frames := 4, cells := 1, slots := 10, locals := 56 } : Room).slots (s₁.setTop (entryFrame m #[(.ref a), (.ref e_)] 2))
  refine own_go (fun _ ww => castTop (ef_add1 m a aD kD e_) ww) ?_
  show own_Goes _ _ _ _ _ _ _ (s₁.setTop (mkF m 0 #[.val (.ref a), .val (.ref e_)] []))
  refine own_go (fun _ ww => XS.aloadN X0.here hx rfl (hb hby d24_0) rfl rfl ww) ?_
  show own_Goes _ _ _ _ _ _ _ (s₁.setTop (mkF m 1 #[.val (.ref a), .val (.ref e_)] [(.ref a)]))
  refine own_go (fun _ ww => XS.dup X0.here hx rfl (hb hby d24_1) rfl rfl ww) ?_
  show own_Goes _ _ _ _ _ _ _ (s₁.setTop (mkF m 2 #[.val (.ref a), .val (.ref e_)] [(.ref a), (.ref a)]))
  obtain ⟨T59, X59, e59, st59⟩ := getF X0 hx hZ hown (host := "") (Or.inl (own_w hw 170 rfl)) (Via.of (own_w hw 171 rfl)) e0 F0 (g := (mkF m 2 #[.val (.ref a), .val (.ref e_)] [(.ref a), (.ref a)])) rfl rfl (hb hby d24_2)
  refine own_go st59 ?_
  show own_Goes _ _ _ _ _ _ _ (T59.setTop (mkF m 5 #[.val (.ref a), .val (.ref e_)] [(.int (0 : Int32)), (.ref a)]))
  refine own_go (fun _ ww => XS.iconst X59.here hx rfl (hb hby d24_5) ww) ?_
  show own_Goes _ _ _ _ _ _ _ (T59.setTop (mkF m 6 #[.val (.ref a), .val (.ref e_)] [(.int (1 : Int32)), (.int (0 : Int32)), (.ref a)]))
  refine own_go (fun _ ww => XS.iadd X59.here hx rfl (hb hby d24_6) rfl ww) ?_
  show own_Goes _ _ _ _ _ _ _ (T59.setTop (mkF m 7 #[.val (.ref a), .val (.ref e_)] [(.int ((0 : Int32) + (1 : Int32))), (.ref a)]))
  rw [(by decide : ((0 : Int32) + (1 : Int32)) = (1 : Int32))]
  show own_Goes _ _ _ _ _ _ _ (T59.setTop (mkF m 7 #[.val (.ref a), .val (.ref e_)] [(.int (1 : Int32)), (.ref a)]))
  obtain ⟨T60, h60, X60, e60, W60, st60⟩ := putF X59 hx hZ hown (host := "") (Or.inl (own_w hw 170 rfl)) (Via.of (own_w hw 171 rfl)) e59 F0 Ea (Or.inl (own_w hw 53 rfl)) (own_w hw 34 rfl) (ty := .int) (by decide) rfl rfl (g := (mkF m 7 #[.val (.ref a), .val (.ref e_)] [(.int (1 : Int32)), (.ref a)])) rfl rfl (hb hby d24_7)
  have f61 : Fld Z h60 a "java/util/AbstractList" "modCount" "I" (.int (1 : Int32)) := (F0.same W60)
  have f62 := (F1.other W60 (Or.inr (slot_ne (Or.inl (own_w hw 56 rfl)) (Or.inl (own_w hw 53 rfl)) (by decide) (t := (.array (.object "java/lang/Object"))) (t' := .int) (by decide) (by decide))))
  have f63 := (F2.other W60 (Or.inr (slot_ne (Or.inl (own_w hw 105 rfl)) (Or.inl (own_w hw 53 rfl)) (by decide) (t := .int) (t' := .int) (by decide) (by decide))))
  have f64 := (Ea.wr W60)
  have f65 := (Ee.wr W60)
  have N60 := Fr.snoc X60 N0 g_a
  have O60 := O0.wr W60 g_a
  have K60 := (Keep.refl h0 [a]).wr W60 (Or.inl (List.mem_of_getElem? (i := 0) rfl))
  refine own_go st60 ?_
  show own_Goes _ _ _ _ _ _ _ (T60.setTop (mkF m 10 #[.val (.ref a), .val (.ref e_)] []))
  refine own_go (fun _ ww => XS.aloadN X60.here hx rfl (hb hby d24_10) rfl rfl ww) ?_
  show own_Goes _ _ _ _ _ _ _ (T60.setTop (mkF m 11 #[.val (.ref a), .val (.ref e_)] [(.ref a)]))
  refine own_go (fun _ ww => XS.aloadN X60.here hx rfl (hb hby d24_11) rfl rfl ww) ?_
  show own_Goes _ _ _ _ _ _ _ (T60.setTop (mkF m 12 #[.val (.ref a), .val (.ref e_)] [(.ref e_), (.ref a)]))
  refine own_go (fun _ ww => XS.aloadN X60.here hx rfl (hb hby d24_12) rfl rfl ww) ?_
  show own_Goes _ _ _ _ _ _ _ (T60.setTop (mkF m 13 #[.val (.ref a), .val (.ref e_)] [(.ref a), (.ref e_), (.ref a)]))
  obtain ⟨T66, X66, e66, st66⟩ := getF X60 hx hZ hown (host := "") (Or.inl (own_w hw 55 rfl)) Via.refl e60 f62 (g := (mkF m 13 #[.val (.ref a), .val (.ref e_)] [(.ref a), (.ref e_), (.ref a)])) rfl rfl (hb hby d24_13)
  refine own_go st66 ?_
  show own_Goes _ _ _ _ _ _ _ (T66.setTop (mkF m 16 #[.val (.ref a), .val (.ref e_)] [(.ref aD), (.ref e_), (.ref a)]))
  refine own_go (fun _ ww => XS.aloadN X66.here hx rfl (hb hby d24_16) rfl rfl ww) ?_
  show own_Goes _ _ _ _ _ _ _ (T66.setTop (mkF m 17 #[.val (.ref a), .val (.ref e_)] [(.ref a), (.ref aD), (.ref e_), (.ref a)]))
  obtain ⟨T67, X67, e67, st67⟩ := getF X66 hx hZ hown (host := "") (Or.inl (own_w hw 104 rfl)) Via.refl e66 f63 (g := (mkF m 17 #[.val (.ref a), .val (.ref e_)] [(.ref a), (.ref aD), (.ref e_), (.ref a)])) rfl rfl (hb hby d24_17)
  refine own_go st67 ?_
  show own_Goes _ _ _ _ _ _ _ (T67.setTop (mkF m 20 #[.val (.ref a), .val (.ref e_)] [(.int (0 : Int32)), (.ref aD), (.ref e_), (.ref a)]))
  obtain ⟨cq68, q68, q68'⟩ := Exa.cell f64
  obtain ⟨_, _, ⟨T68, L68, k68, n68⟩, -, X68, ⟨Lc68, hQ68, l68, y68, z68⟩, st68⟩ := own_privateBack X67 hx (y := own_y10) hown (mvT hZ (own_w hw 172 rfl)) (mvT hZ (own_w hw 173 rfl)) (mvT hZ (own_w hw 34 rfl)) (Cond.privateMethod_at (mvP hZ (own_w hw 174 rfl) (args := #[]))) (mvT hZ (own_w hw 176 rfl)) (by decide) (backOf (W := 0) (rm_add3 l Z a0 hw [] a aD kD e_ h60 n0 O60 f61 f62 f63 f64 g_a SD VD f65) hZ (own_w hw 176 rfl) (own_w hw 35 rfl) (by decide) (by decide)) (g := (mkF m 20 #[.val (.ref a), .val (.ref e_)] [(.int (0 : Int32)), (.ref aD), (.ref e_), (.ref a)])) rfl (by rw [hml]; rfl) (Steps.refl _) (a := a) (by rw [e67]; exact q68) q68' (argsL := [(.ref e_), (.ref aD), (.int (0 : Int32))]) (rest := []) (lenOf pd_4 rfl) rfl (by show 2 * 0 + _ ≤ _; exact Nat.le_of_eq rfl) (hb hby d24_20) (fun _ _ => ⟨rfl, e67, (by decide : 0 + 1 ≤ _), (by decide : 0 + 10 ≤ _)⟩)
  dsimp only [Pt.U, Pt.locs, Pt.cells, Pt.slots] at X68 l68 y68 z68 st68 hQ68
  subst l68 y68 z68
  obtain ⟨t68, kk68, rfl, N68q, B68, K68q, P68, Q68, R68, V68q, E68q⟩ := hQ68
  have N68 := Fr.app N60 N68q
  have ne_a_t68 : a ≠ t68 := Nat.ne_of_lt (Nat.lt_of_lt_of_le f61.lt B68)
  have ne_e__t68 : e_ ≠ t68 := Nat.ne_of_lt (Nat.lt_of_lt_of_le f65.lt B68)
  have ne_aD_t68 : aD ≠ t68 := Nat.ne_of_lt (Nat.lt_of_lt_of_le (VD.ext O60.2).lt B68)
  have g_t68 : n0 ≤ t68 := Nat.le_trans (O60.1 ▸ O60.2.1) B68
  have sz_t68 : h0.size ≤ t68 := Nat.le_trans (own_ks K60) B68
  have f69 := (f64.keep K68q)
  have f70 := (f65.keep K68q)
  have O68 := O60.keep K68q (allS g_a all0)
  have K68 := K60.trans K68q (allS (Or.inl (List.mem_of_getElem? (i := 0) rfl)) all0)
  refine own_go (fun _ ww => Steps.trans st68 ww) ?_
  show own_Goes _ _ _ _ _ _ _ (T68.setTop (mkF m 23 #[.val (.ref a), .val (.ref e_)] []))
  refine own_go (fun _ ww => XS.iconst X68.here hx rfl (hb hby d24_23) ww) ?_
  show own_Goes _ _ _ _ _ _ _ (T68.setTop (mkF m 24 #[.val (.ref a), .val (.ref e_)] [(.int (1 : Int32))]))
  exact own_out X68 hlk (v := some (.int (1 : Int32))) (fun h => by rw [hret] at h; cases h) (fun fs hr => retOut X68 hx (t := .boolean) hret (by decide) (Or.inl ⟨rfl, by simp, _, rfl⟩) (hb hby d24_24) hr) rfl ⟨t68, kk68, rfl, N68, sz_t68, K68, P68, Q68, R68, V68q, E68q⟩ (by decide) (by decide)
theorem d31_0 : decode jdk_65_method_120_code 0 = .ok (.aload_n 2, 1) := by decide +kernel
theorem d31_1 : decode jdk_65_method_120_code 1 = .ok (.ldc 110, 2) := by decide +kernel
theorem d31_3 : decode jdk_65_method_120_code 3 = .ok (.if_acmp .ne 10, 3) := by decide +kernel
theorem d31_6 : decode jdk_65_method_120_code 6 = .ok (.iload_n 1, 1) := by decide +kernel
theorem d31_7 : decode jdk_65_method_120_code 7 = .ok (.anewarray 2, 3) := by decide +kernel
theorem d31_10 : decode jdk_65_method_120_code 10 = .ok (.goto 14, 3) := by decide +kernel
theorem d31_24 : decode jdk_65_method_120_code 24 = .ok (.astore_n 3, 1) := by decide +kernel
theorem d31_25 : decode jdk_65_method_120_code 25 = .ok (.aload_n 0, 1) := by decide +kernel
theorem d31_26 : decode jdk_65_method_120_code 26 = .ok (.iconst 0, 1) := by decide +kernel
theorem d31_27 : decode jdk_65_method_120_code 27 = .ok (.aload_n 3, 1) := by decide +kernel
theorem d31_28 : decode jdk_65_method_120_code 28 = .ok (.iconst 0, 1) := by decide +kernel
theorem d31_29 : decode jdk_65_method_120_code 29 = .ok (.aload_n 0, 1) := by decide +kernel
theorem d31_30 : decode jdk_65_method_120_code 30 = .ok (.arraylength, 1) := by decide +kernel
theorem d31_31 : decode jdk_65_method_120_code 31 = .ok (.iload_n 1, 1) := by decide +kernel
theorem d31_32 : decode jdk_65_method_120_code 32 = .ok (.invokestatic 304, 3) := by decide +kernel
theorem d31_35 : decode jdk_65_method_120_code 35 = .ok (.invokestatic 150, 3) := by decide +kernel
theorem d31_38 : decode jdk_65_method_120_code 38 = .ok (.aload_n 3, 1) := by decide +kernel
theorem d31_39 : decode jdk_65_method_120_code 39 = .ok (.areturn, 1) := by decide +kernel
theorem ef_cp3 (m : MethodId) (t : Addr) (kk : ClassId) (e_ : Addr) (mr : Addr) : entryFrame m #[(.ref t), (.int (1 : Int32)), (.ref mr)] 4 = mkF m 0 #[.val (.ref t), .val (.int (1 : Int32)), .val (.ref mr), .unset] [] := by
  first | (simp [entryFrame, mkF, argsToLocals, Value.category]; done) | rfl
def Q_cp3 (Z : State) (t : Addr) (kk : ClassId) (e_ : Addr) (mr : Addr) (h0 : Heap) (n0 : Nat) (v : Option Value) (h : Heap) (L : List Loc) : Prop := ∃ (b : Addr) (kb : ClassId), v = some (.ref b) ∧ Fr n0 L ∧ h0.size ≤ b ∧ Keep h0 h [] ∧ Arv Z h b kb (.object "java/lang/Object") (1 : Int32) [(.ref e_)] .null
set_option maxRecDepth 65536 in
set_option maxHeartbeats 40000000 in
theorem rm_cp3 (l : Launch) (Z : State) (a0 : Array Value) (hw : ∀ d ∈ tables_1, d.before a0 Z = true) (ws : List Jvm.Cond) (t : Addr) (kk : ClassId) (e_ : Addr) (mr : Addr) (h0 : Heap) (n0 : Nat) (O0 : Old Z n0 h0) (Vt : Arv Z h0 t kk (.object "java/lang/Object") (10 : Int32) [(.ref e_), .null, .null, .null, .null, .null, .null, .null, .null, .null] .null) (Et : Exa Z h0 t "[Ljava/lang/Object;") (Ee : Exa Z h0 e_ "com/example/navlint/navlint/model/Entry") (MK : Mir Z "[Ljava/lang/Object;" mr) :
    MetFree l own_y12 (head1 (Jvm.Cond.code own_y12 jdk_65_method_120_code 4 (some (.array (.object "java/lang/Object"))) :: ws) ({ frames := 1, cells := 1, slots := 1, locals := 40 } : Room)) (fun av_ U => av_ = #[(.ref t), (.int (1 : Int32)), (.ref mr)] ∧ Z.Warmed39 U.vm ∧ U.heap = h0) (fun _ _ _ _ _ => True) (fun _ U o_ U' => ∃ v L, o_ = .returned v ∧ Q_cp3 Z t kk e_ mr h0 n0 v U'.heap L ∧ FrameEnd U o_ U' L ({ frames := 1, cells := 1, slots := 1, locals := 40 } : Room).cells ({ frames := 1, cells := 1, slots := 1, locals := 40 } : Room).slots) := by
  refine MetFree.of_bodySF (plainFor_of_name pn_6) hisR ?_
  intro p e s m args below meth c s₁ Bd hml0 hP hK
  obtain ⟨rfl, hZ, hh⟩ := hP
  have hx := Bd.exec
  have hby := Bd.bytes
  have hml : c.maxLocals = 4 := hml0
  have hown : s.vm.findClass "java/util/Arrays" = some m.cls := findClass_of_methodNamed Bd.named
  have hnm := (name_of_methodNamed Bd.named Bd.method).1
  have hlk := own_lk Bd
  have hret := Bd.returns
  have X0 : Stand p l e ({ frames := 1, cells := 1, slots := 1, locals := 40 } : Room) s m #[(.ref t), (.int (1 : Int32)), (.ref mr)] below meth c s₁ [] 0 0 := Stand.of_body Bd
  have e0 : s₁.heap = h0 := by rw [← hh, Bd.state]; rfl
  have N0 := Fr.nil n0
  show own_Goes p e below s (Q_cp3 Z t kk e_ mr h0 n0) ({ frames := 1, cells := 1, slots := 1, locals := 40 } : Room).cells ({ frames := 1, cells := 1, slots := 1, locals := 40 } : Room).slots (s₁.setTop (entryFrame m #[(.ref t), (.int (1 : Int32)), (.ref mr)] 4))
  refine own_go (fun _ ww => castTop (ef_cp3 m t kk e_ mr) ww) ?_
  show own_Goes _ _ _ _ _ _ _ (s₁.setTop (mkF m 0 #[.val (.ref t), .val (.int (1 : Int32)), .val (.ref mr), .unset] []))
  refine own_go (fun _ ww => XS.aloadN X0.here hx rfl (hb hby d31_0) rfl rfl ww) ?_
  show own_Goes _ _ _ _ _ _ _ (s₁.setTop (mkF m 1 #[.val (.ref t), .val (.int (1 : Int32)), .val (.ref mr), .unset] [(.ref mr)]))
  obtain ⟨T71, X71, e71, st71⟩ := own_ldcM X0 hx hZ hown (own_w hw 215 rfl) e0 MK (g := (mkF m 1 #[.val (.ref t), .val (.int (1 : Int32)), .val (.ref mr), .unset] [(.ref mr)])) rfl (hb hby d31_1)
  refine own_go st71 ?_
  show own_Goes _ _ _ _ _ _ _ (T71.setTop (mkF m 3 #[.val (.ref t), .val (.int (1 : Int32)), .val (.ref mr), .unset] [(.ref mr), (.ref mr)]))
  refine own_go (fun _ ww => XT.acmpNo X71.here hx rfl (hb hby d31_3) rfl rfl rfl (own_aeq (rfl : mr = mr)).2 ww) ?_
  show own_Goes _ _ _ _ _ _ _ (T71.setTop (mkF m 6 #[.val (.ref t), .val (.int (1 : Int32)), .val (.ref mr), .unset] []))
  refine own_go (fun _ ww => XS.iloadN X71.here hx rfl (hb hby d31_6) rfl  ww) ?_
  show own_Goes _ _ _ _ _ _ _ (T71.setTop (mkF m 7 #[.val (.ref t), .val (.int (1 : Int32)), .val (.ref mr), .unset] [(.int (1 : Int32))]))
  obtain ⟨T72, h72, k72, X72, e72, E72, A72, Q72, Ov72, st72⟩ := newRE X71 hx hZ hown (own_w hw 216 rfl) (own_w hw 192 rfl) e71 (g := (mkF m 7 #[.val (.ref t), .val (.int (1 : Int32)), .val (.ref mr), .unset] [(.int (1 : Int32))])) rfl (hb hby d31_7) rfl (by decide) (cap := 1) (by decide) (by decide) (by decide) (by decide) (ad := "[Ljava/lang/Object;") (by decide)
  obtain ⟨b72, g72⟩ : ∃ z, z = h0.size := ⟨_, rfl⟩
  rw [← g72] at A72 Q72 st72
  have ne_t_b72 : t ≠ b72 := Nat.ne_of_lt (Nat.lt_of_lt_of_le Vt.lt (Nat.le_of_eq g72.symm))
  have ne_e__b72 : e_ ≠ b72 := Nat.ne_of_lt (Nat.lt_of_lt_of_le Ee.lt (Nat.le_of_eq g72.symm))
  have g_b72 : n0 ≤ b72 := Nat.le_trans (O0.1 ▸ O0.2.1) (Nat.le_of_eq g72.symm)
  have f73 : Arv Z h72 t kk (.object "java/lang/Object") (10 : Int32) [(.ref e_), .null, .null, .null, .null, .null, .null, .null, .null, .null] .null := (Arv.ext Vt E72)
  have f74 := (Et.ext E72)
  have f75 := (Ee.ext E72)
  have O72 := O0.ext E72
  have sz_b72 : h0.size ≤ b72 := Nat.le_trans (own_ks (Keep.refl h0 [])) (Nat.le_of_eq g72.symm)
  have K72 := (Keep.refl h0 []).ext E72
  have V72 : Arv Z h72 b72 k72 (.object "java/lang/Object") (1 : Int32) [.null] .null := (Arv.new A72 (by decide)).pad (pad_rep [] .null 1)
  refine own_go st72 ?_
  show own_Goes _ _ _ _ _ _ _ (T72.setTop (mkF m 10 #[.val (.ref t), .val (.int (1 : Int32)), .val (.ref mr), .unset] [(.ref b72)]))
  refine own_go (fun _ ww => XS.goto X72.here hx rfl (pc0 := 10) (pc' := 24) rfl (hb hby d31_10) (by decide) (by decide) ww) ?_
  show own_Goes _ _ _ _ _ _ _ (T72.setTop (mkF m 24 #[.val (.ref t), .val (.int (1 : Int32)), .val (.ref mr), .unset] [(.ref b72)]))
  refine own_go (fun _ ww => XS.astoreN X72.here hx rfl (hb hby d31_24) rfl rfl (l' := #[.val (.ref t), .val (.int (1 : Int32)), .val (.ref mr), .val (.ref b72)]) rfl ww) ?_
  show own_Goes _ _ _ _ _ _ _ (T72.setTop (mkF m 25 #[.val (.ref t), .val (.int (1 : Int32)), .val (.ref mr), .val (.ref b72)] []))
  refine own_go (fun _ ww => XS.aloadN X72.here hx rfl (hb hby d31_25) rfl rfl ww) ?_
  show own_Goes _ _ _ _ _ _ _ (T72.setTop (mkF m 26 #[.val (.ref t), .val (.int (1 : Int32)), .val (.ref mr), .val (.ref b72)] [(.ref t)]))
  refine own_go (fun _ ww => XS.iconst X72.here hx rfl (hb hby d31_26) ww) ?_
  show own_Goes _ _ _ _ _ _ _ (T72.setTop (mkF m 27 #[.val (.ref t), .val (.int (1 : Int32)), .val (.ref mr), .val (.ref b72)] [(.int (0 : Int32)), (.ref t)]))
  refine own_go (fun _ ww => XS.aloadN X72.here hx rfl (hb hby d31_27) rfl rfl ww) ?_
  show own_Goes _ _ _ _ _ _ _ (T72.setTop (mkF m 28 #[.val (.ref t), .val (.int (1 : Int32)), .val (.ref mr), .val (.ref b72)] [(.ref b72), (.int (0 : Int32)), (.ref t)]))
  refine own_go (fun _ ww => XS.iconst X72.here hx rfl (hb hby d31_28) ww) ?_
  show own_Goes _ _ _ _ _ _ _ (T72.setTop (mkF m 29 #[.val (.ref t), .val (.int (1 : Int32)), .val (.ref mr), .val (.ref b72)] [(.int (0 : Int32)), (.ref b72), (.int (0 : Int32)), (.ref t)]))
  refine own_go (fun _ ww => XS.aloadN X72.here hx rfl (hb hby d31_29) rfl rfl ww) ?_
  show own_Goes _ _ _ _ _ _ _ (T72.setTop (mkF m 30 #[.val (.ref t), .val (.int (1 : Int32)), .val (.ref mr), .val (.ref b72)] [(.ref t), (.int (0 : Int32)), (.ref b72), (.int (0 : Int32)), (.ref t)]))
  obtain ⟨cl76, Ar76, -, S76, Ng76, -, -⟩ := id f73
  refine own_go (fun _ ww => X72.arraylength hx (by rw [e72]; exact Ar76.1) (State.isArrayOf_alike hZ.alike Ar76.2.1) (g := (mkF m 30 #[.val (.ref t), .val (.int (1 : Int32)), .val (.ref mr), .val (.ref b72)] [(.ref t), (.int (0 : Int32)), (.ref b72), (.int (0 : Int32)), (.ref t)])) rfl rfl (hb hby d31_30) _ ww) ?_
  rw [len_of S76 Ng76]
  show own_Goes _ _ _ _ _ _ _ (T72.setTop (mkF m 31 #[.val (.ref t), .val (.int (1 : Int32)), .val (.ref mr), .val (.ref b72)] [(.int (10 : Int32)), (.int (0 : Int32)), (.ref b72), (.int (0 : Int32)), (.ref t)]))
  refine own_go (fun _ ww => XS.iloadN X72.here hx rfl (hb hby d31_31) rfl  ww) ?_
  show own_Goes _ _ _ _ _ _ _ (T72.setTop (mkF m 32 #[.val (.ref t), .val (.int (1 : Int32)), .val (.ref mr), .val (.ref b72)] [(.int (1 : Int32)), (.int (10 : Int32)), (.int (0 : Int32)), (.ref b72), (.int (0 : Int32)), (.ref t)]))
  obtain ⟨_, _, ⟨T77, L77, k77, n77⟩, -, X77, ⟨Lc77, hQ77, l77, y77, z77⟩, st77⟩ := Jvm.LawKit.callS X72 hx (y := own_y7) hown (mvT hZ (own_w hw 217 rfl)) (mvT hZ (own_w hw 218 rfl)) (mvT hZ (own_w hw 189 rfl)) (mvT hZ (own_w hw 219 rfl)) (by decide) (backOf (W := 4) (rm_min l Z a0 hw []  h72 n0 O72 ) hZ (own_w hw 219 rfl) (own_w hw 189 rfl) (by decide) (by decide)) (g := (mkF m 32 #[.val (.ref t), .val (.int (1 : Int32)), .val (.ref mr), .val (.ref b72)] [(.int (1 : Int32)), (.int (10 : Int32)), (.int (0 : Int32)), (.ref b72), (.int (0 : Int32)), (.ref t)])) rfl (by rw [hml]; rfl) (argsL := [(.int (10 : Int32)), (.int (1 : Int32))]) (rest := [(.int (0 : Int32)), (.ref b72), (.int (0 : Int32)), (.ref t)]) (lenOf pd_1 rfl) rfl (by show 2 * 0 + _ ≤ _; exact Nat.le_of_eq rfl) (hb hby d31_32) (fun _ _ => ⟨rfl, e72, (by decide : 1 + 0 ≤ _), (by decide : 1 + 0 ≤ _)⟩)
  dsimp only [Pt.U, Pt.locs, Pt.cells, Pt.slots] at X77 l77 y77 z77 st77 hQ77
  subst l77 y77 z77
  obtain ⟨rfl, N77q, e77⟩ := hQ77
  have N77 := Fr.app N0 N77q
  refine own_go st77 ?_
  show own_Goes _ _ _ _ _ _ _ (T77.setTop (mkF m 35 #[.val (.ref t), .val (.int (1 : Int32)), .val (.ref mr), .val (.ref b72)] [(.int (1 : Int32)), (.int (0 : Int32)), (.ref b72), (.int (0 : Int32)), (.ref t)]))
  obtain ⟨cb78, Ab78, qb78, -⟩ := id V72
  obtain ⟨T78, h78, L78, X78, e78, N78, K78q, V78q, st78⟩ := cpA X77 hx hZ hown (own_w hw 220 rfl) (own_w hw 223 rfl) (own_w hw 221 rfl) (own_w hw 222 rfl) e77 f73 V72 (Or.inr ⟨rfl, rfl, (Sto.ofV Ab78 qb78 Ov72 (Ins.of_exa f75 (own_w hw 193 rfl))), trivial⟩) (us := [(.ref e_)]) (by decide) (by decide) (by decide) (by decide) (by decide) rfl (by decide) N77 g_b72 (g := (mkF m 35 #[.val (.ref t), .val (.int (1 : Int32)), .val (.ref mr), .val (.ref b72)] [(.int (1 : Int32)), (.int (0 : Int32)), (.ref b72), (.int (0 : Int32)), (.ref t)])) rfl (by rw [hml]; rfl) rfl (hb hby d31_35) (by decide) (W := 0) (by show 2 * 0 + _ ≤ _; exact Nat.le_of_eq rfl) (by decide)
  have f79 : Arv Z h78 t kk (.object "java/lang/Object") (10 : Int32) [(.ref e_), .null, .null, .null, .null, .null, .null, .null, .null, .null] .null := (f73.keep K78q (ninS ne_t_b72 nin0))
  have f80 := (f74.keep K78q)
  have f81 := (f75.keep K78q)
  have f82 : Arv Z h78 b72 k72 (.object "java/lang/Object") (1 : Int32) [(.ref e_)] .null := V78q
  have f83 := (Q72.keep K78q)
  have O78 := O72.keep K78q (allS g_b72 all0)
  have K78 := K72.trans K78q (allS (Or.inr sz_b72) all0)
  refine own_go st78 ?_
  show own_Goes _ _ _ _ _ _ _ (T78.setTop (mkF m 38 #[.val (.ref t), .val (.int (1 : Int32)), .val (.ref mr), .val (.ref b72)] []))
  refine own_go (fun _ ww => XS.aloadN X78.here hx rfl (hb hby d31_38) rfl rfl ww) ?_
  show own_Goes _ _ _ _ _ _ _ (T78.setTop (mkF m 39 #[.val (.ref t), .val (.int (1 : Int32)), .val (.ref mr), .val (.ref b72)] [(.ref b72)]))
  exact own_out X78 hlk (v := some (.ref b72)) (fun h => by rw [hret] at h; cases h) (fun fs hr => retOut X78 hx (t := (.array (.object "java/lang/Object"))) hret rfl (Or.inr (Or.inr (Or.inr (Or.inr ⟨rfl, rfl, rfl⟩)))) (hb hby d31_39) hr) e78 ⟨_, k72, rfl, N78, sz_b72, K78, f82⟩ (by decide) (by decide)
theorem d30_0 : decode jdk_65_method_119_code 0 = .ok (.aload_n 0, 1) := by decide +kernel
theorem d30_1 : decode jdk_65_method_119_code 1 = .ok (.iload_n 1, 1) := by decide +kernel
theorem d30_2 : decode jdk_65_method_119_code 2 = .ok (.aload_n 0, 1) := by decide +kernel
theorem d30_3 : decode jdk_65_method_119_code 3 = .ok (.invokevirtual 86, 3) := by decide +kernel
theorem d30_6 : decode jdk_65_method_119_code 6 = .ok (.invokestatic 300, 3) := by decide +kernel
theorem d30_9 : decode jdk_65_method_119_code 9 = .ok (.areturn, 1) := by decide +kernel
theorem ef_cp2 (m : MethodId) (t : Addr) (kk : ClassId) (e_ : Addr) (mr : Addr) : entryFrame m #[(.ref t), (.int (1 : Int32))] 2 = mkF m 0 #[.val (.ref t), .val (.int (1 : Int32))] [] := by
  first | (simp [entryFrame, mkF, argsToLocals, Value.category]; done) | rfl
def Q_cp2 (Z : State) (t : Addr) (kk : ClassId) (e_ : Addr) (mr : Addr) (h0 : Heap) (n0 : Nat) (v : Option Value) (h : Heap) (L : List Loc) : Prop := ∃ (b : Addr) (kb : ClassId), v = some (.ref b) ∧ Fr n0 L ∧ h0.size ≤ b ∧ Keep h0 h [] ∧ Arv Z h b kb (.object "java/lang/Object") (1 : Int32) [(.ref e_)] .null
set_option maxRecDepth 65536 in
set_option maxHeartbeats 40000000 in
theorem rm_cp2 (l : Launch) (Z : State) (a0 : Array Value) (hw : ∀ d ∈ tables_1, d.before a0 Z = true) (ws : List Jvm.Cond) (t : Addr) (kk : ClassId) (e_ : Addr) (mr : Addr) (h0 : Heap) (n0 : Nat) (O0 : Old Z n0 h0) (Vt : Arv Z h0 t kk (.object "java/lang/Object") (10 : Int32) [(.ref e_), .null, .null, .null, .null, .null, .null, .null, .null, .null] .null) (Et : Exa Z h0 t "[Ljava/lang/Object;") (Ee : Exa Z h0 e_ "com/example/navlint/navlint/model/Entry") (MK : Mir Z "[Ljava/lang/Object;" mr) :
    MetFree l own_y13 (head1 (Jvm.Cond.code own_y13 jdk_65_method_119_code 2 (some (.array (.object "java/lang/Object"))) :: ws) ({ frames := 2, cells := 1, slots := 1, locals := 55 } : Room)) (fun av_ U => av_ = #[(.ref t), (.int (1 : Int32))] ∧ Z.Warmed39 U.vm ∧ U.heap = h0) (fun _ _ _ _ _ => True) (fun _ U o_ U' => ∃ v L, o_ = .returned v ∧ Q_cp2 Z t kk e_ mr h0 n0 v U'.heap L ∧ FrameEnd U o_ U' L ({ frames := 2, cells := 1, slots := 1, locals := 55 } : Room).cells ({ frames := 2, cells := 1, slots := 1, locals := 55 } : Room).slots) := by
  refine MetFree.of_bodySF (plainFor_of_name pn_6) hisR ?_
  intro p e s m args below meth c s₁ Bd hml0 hP hK
  obtain ⟨rfl, hZ, hh⟩ := hP
  have hx := Bd.exec
  have hby := Bd.bytes
  have hml : c.maxLocals = 2 := hml0
  have hown : s.vm.findClass "java/util/Arrays" = some m.cls := findClass_of_methodNamed Bd.named
  have hnm := (name_of_methodNamed Bd.named Bd.method).1
  have hlk := own_lk Bd
  have hret := Bd.returns
  have X0 : Stand p l e ({ frames := 2, cells := 1, slots := 1, locals := 55 } : Room) s m #[(.ref t), (.int (1 : Int32))] below meth c s₁ [] 0 0 := Stand.of_body Bd
  have e0 : s₁.heap = h0 := by rw [← hh, Bd.state]; rfl
  have N0 := Fr.nil n0
  show own_Goes p e below s (Q_cp2 Z t kk e_ mr h0 n0) ({ frames := 2, cells := 1, slots := 1, locals := 55 } : Room).cells ({ frames := 2, cells := 1, slots := 1, locals := 55 } : Room).slots (s₁.setTop (entryFrame m #[(.ref t), (.int (1 : Int32))] 2))
  refine own_go (fun _ ww => castTop (ef_cp2 m t kk e_ mr) ww) ?_
  show own_Goes _ _ _ _ _ _ _ (s₁.setTop (mkF m 0 #[.val (.ref t), .val (.int (1 : Int32))] []))
  refine own_go (fun _ ww => XS.aloadN X0.here hx rfl (hb hby d30_0) rfl rfl ww) ?_
  show own_Goes _ _ _ _ _ _ _ (s₁.setTop (mkF m 1 #[.val (.ref t), .val (.int (1 : Int32))] [(.ref t)]))
  refine own_go (fun _ ww => XS.iloadN X0.here hx rfl (hb hby d30_1) rfl  ww) ?_
  show own_Goes _ _ _ _ _ _ _ (s₁.setTop (mkF m 2 #[.val (.ref t), .val (.int (1 : Int32))] [(.int (1 : Int32)), (.ref t)]))
  refine own_go (fun _ ww => XS.aloadN X0.here hx rfl (hb hby d30_2) rfl rfl ww) ?_
  show own_Goes _ _ _ _ _ _ _ (s₁.setTop (mkF m 3 #[.val (.ref t), .val (.int (1 : Int32))] [(.ref t), (.int (1 : Int32)), (.ref t)]))
  obtain ⟨T84, X84, e84, st84⟩ := gcls X0 hx hZ hown (own_w hw 206 rfl) (own_w hw 207 rfl) (own_w hw 93 rfl) (own_w hw 209 rfl) (own_w hw 208 rfl) (own_w hw 210 rfl) e0 Et MK (g := (mkF m 3 #[.val (.ref t), .val (.int (1 : Int32))] [(.ref t), (.int (1 : Int32)), (.ref t)])) rfl (by rw [hml]; rfl) rfl (hb hby d30_3) (by decide) (W := 2) (by show 2 * 0 + _ ≤ _; exact Nat.le_of_eq rfl) (by decide)
  refine own_go st84 ?_
  show own_Goes _ _ _ _ _ _ _ (T84.setTop (mkF m 6 #[.val (.ref t), .val (.int (1 : Int32))] [(.ref mr), (.int (1 : Int32)), (.ref t)]))
  obtain ⟨_, _, ⟨T85, L85, k85, n85⟩, -, X85, ⟨Lc85, hQ85, l85, y85, z85⟩, st85⟩ := Jvm.LawKit.callS X84 hx (y := own_y12) hown (mvT hZ (own_w hw 212 rfl)) (mvT hZ (own_w hw 213 rfl)) (mvT hZ (own_w hw 204 rfl)) (mvT hZ (own_w hw 214 rfl)) (by decide) (backOf (W := 0) (rm_cp3 l Z a0 hw [] t kk e_ mr h0 n0 O0 Vt Et Ee MK) hZ (own_w hw 214 rfl) (own_w hw 204 rfl) (by decide) (by decide)) (g := (mkF m 6 #[.val (.ref t), .val (.int (1 : Int32))] [(.ref mr), (.int (1 : Int32)), (.ref t)])) rfl (by rw [hml]; rfl) (argsL := [(.ref t), (.int (1 : Int32)), (.ref mr)]) (rest := []) (lenOf pd_5 rfl) rfl (by show 2 * 0 + _ ≤ _; exact Nat.le_of_eq rfl) (hb hby d30_6) (fun _ _ => ⟨rfl, e84, (by decide : 0 + 1 ≤ _), (by decide : 0 + 1 ≤ _)⟩)
  dsimp only [Pt.U, Pt.locs, Pt.cells, Pt.slots] at X85 l85 y85 z85 st85 hQ85
  subst l85 y85 z85
  obtain ⟨b85, kb85, rfl, N85q, B85, K85q, V85q⟩ := hQ85
  have N85 := Fr.app N0 N85q
  have ne_t_b85 : t ≠ b85 := Nat.ne_of_lt (Nat.lt_of_lt_of_le Vt.lt B85)
  have ne_e__b85 : e_ ≠ b85 := Nat.ne_of_lt (Nat.lt_of_lt_of_le Ee.lt B85)
  have g_b85 : n0 ≤ b85 := Nat.le_trans (O0.1 ▸ O0.2.1) B85
  have sz_b85 : h0.size ≤ b85 := Nat.le_trans (own_ks (Keep.refl h0 [])) B85
  have f86 : Arv Z T85.heap t kk (.object "java/lang/Object") (10 : Int32) [(.ref e_), .null, .null, .null, .null, .null, .null, .null, .null, .null] .null := (Vt.keep K85q nin0)
  have f87 := (Et.keep K85q)
  have f88 := (Ee.keep K85q)
  have O85 := O0.keep K85q all0
  have K85 := (Keep.refl h0 []).trans K85q all0
  refine own_go st85 ?_
  show own_Goes _ _ _ _ _ _ _ (T85.setTop (mkF m 9 #[.val (.ref t), .val (.int (1 : Int32))] [(.ref b85)]))
  exact own_out X85 hlk (v := some (.ref b85)) (fun h => by rw [hret] at h; cases h) (fun fs hr => retOut X85 hx (t := (.array (.object "java/lang/Object"))) hret rfl (Or.inr (Or.inr (Or.inr (Or.inr ⟨rfl, rfl, rfl⟩)))) (hb hby d30_9) hr) rfl ⟨_, kb85, rfl, N85, sz_b85, K85, V85q⟩ (by decide) (by decide)
theorem d29_0 : decode jdk_38_method_16_code 0 = .ok (.aload_n 0, 1) := by decide +kernel
theorem d29_1 : decode jdk_38_method_16_code 1 = .ok (.getfield 9, 3) := by decide +kernel
theorem d29_4 : decode jdk_38_method_16_code 4 = .ok (.aload_n 0, 1) := by decide +kernel
theorem d29_5 : decode jdk_38_method_16_code 5 = .ok (.getfield 48, 3) := by decide +kernel
theorem d29_8 : decode jdk_38_method_16_code 8 = .ok (.invokestatic 66, 3) := by decide +kernel
theorem d29_11 : decode jdk_38_method_16_code 11 = .ok (.areturn, 1) := by decide +kernel
theorem ef_toarr (m : MethodId) (a : Addr) (t : Addr) (kk : ClassId) (e_ : Addr) (mr : Addr) : entryFrame m #[(.ref a)] 1 = mkF m 0 #[.val (.ref a)] [] := by
  first | (simp [entryFrame, mkF, argsToLocals, Value.category]; done) | rfl
def Q_toarr (Z : State) (a : Addr) (t : Addr) (kk : ClassId) (e_ : Addr) (mr : Addr) (h0 : Heap) (n0 : Nat) (v : Option Value) (h : Heap) (L : List Loc) : Prop := ∃ (b : Addr) (kb : ClassId), v = some (.ref b) ∧ Fr n0 L ∧ h0.size ≤ b ∧ Keep h0 h [] ∧ Arv Z h b kb (.object "java/lang/Object") (1 : Int32) [(.ref e_)] .null
set_option maxRecDepth 65536 in
set_option maxHeartbeats 40000000 in
theorem rm_toarr (l : Launch) (Z : State) (a0 : Array Value) (hw : ∀ d ∈ tables_1, d.before a0 Z = true) (ws : List Jvm.Cond) (a : Addr) (t : Addr) (kk : ClassId) (e_ : Addr) (mr : Addr) (h0 : Heap) (n0 : Nat) (O0 : Old Z n0 h0) (F1 : Fld Z h0 a "java/util/ArrayList" "elementData" "[Ljava/lang/Object;" (.ref t)) (F2 : Fld Z h0 a "java/util/ArrayList" "size" "I" (.int (1 : Int32))) (Ea : Exa Z h0 a "java/util/ArrayList") (Vt : Arv Z h0 t kk (.object "java/lang/Object") (10 : Int32) [(.ref e_), .null, .null, .null, .null, .null, .null, .null, .null, .null] .null) (Et : Exa Z h0 t "[Ljava/lang/Object;") (Ee : Exa Z h0 e_ "com/example/navlint/navlint/model/Entry") (MK : Mir Z "[Ljava/lang/Object;" mr) :
    MetFree l own_y14 (head1 (Jvm.Cond.code own_y14 jdk_38_method_16_code 1 (some (.array (.object "java/lang/Object"))) :: ws) ({ frames := 3, cells := 1, slots := 1, locals := 68 } : Room)) (fun av_ U => av_ = #[(.ref a)] ∧ Z.Warmed39 U.vm ∧ U.heap = h0) (fun _ _ _ _ _ => True) (fun _ U o_ U' => ∃ v L, o_ = .returned v ∧ Q_toarr Z a t kk e_ mr h0 n0 v U'.heap L ∧ FrameEnd U o_ U' L ({ frames := 3, cells := 1, slots := 1, locals := 68 } : Room).cells ({ frames := 3, cells := 1, slots := 1, locals := 68 } : Room).slots) := by
  refine MetFree.of_bodySF (plainFor_of_name pn_5) hisR ?_
  intro p e s m args below meth c s₁ Bd hml0 hP hK
  obtain ⟨rfl, hZ, hh⟩ := hP
  have hx := Bd.exec
  have hby := Bd.bytes
  have hml : c.maxLocals = 1 := hml0
  have hown : s.vm.findClass "java/util/ArrayList" = some m.cls := findClass_of_methodNamed Bd.named
  have hnm := (name_of_methodNamed Bd.named Bd.method).1
  have hlk := own_lk Bd
  have hret := Bd.returns
  have X0 : Stand p l e ({ frames := 3, cells := 1, slots := 1, locals := 68 } : Room) s m #[(.ref a)] below meth c s₁ [] 0 0 := Stand.of_body Bd
  have e0 : s₁.heap = h0 := by rw [← hh, Bd.state]; rfl
  have N0 := Fr.nil n0
  show own_Goes p e below s (Q_toarr Z a t kk e_ mr h0 n0) ({ frames := 3, cells := 1, slots := 1, locals := 68 } : Room).cells ({ frames := 3, cells := 1, slots := 1, locals := 68 } : Room).slots (s₁.setTop (entryFrame m #[(.ref a)] 1))
  refine own_go (fun _ ww => castTop (ef_toarr m a t kk e_ mr) ww) ?_
  show own_Goes _ _ _ _ _ _ _ (s₁.setTop (mkF m 0 #[.val (.ref a)] []))
  refine own_go (fun _ ww => XS.aloadN X0.here hx rfl (hb hby d29_0) rfl rfl ww) ?_
  show own_Goes _ _ _ _ _ _ _ (s₁.setTop (mkF m 1 #[.val (.ref a)] [(.ref a)]))
  obtain ⟨T89, X89, e89, st89⟩ := getF X0 hx hZ hown (host := "") (Or.inl (own_w hw 55 rfl)) Via.refl e0 F1 (g := (mkF m 1 #[.val (.ref a)] [(.ref a)])) rfl rfl (hb hby d29_1)
  refine own_go st89 ?_
  show own_Goes _ _ _ _ _ _ _ (T89.setTop (mkF m 4 #[.val (.ref a)] [(.ref t)]))
  refine own_go (fun _ ww => XS.aloadN X89.here hx rfl (hb hby d29_4) rfl rfl ww) ?_
  show own_Goes _ _ _ _ _ _ _ (T89.setTop (mkF m 5 #[.val (.ref a)] [(.ref a), (.ref t)]))
  obtain ⟨T90, X90, e90, st90⟩ := getF X89 hx hZ hown (host := "") (Or.inl (own_w hw 104 rfl)) Via.refl e89 F2 (g := (mkF m 5 #[.val (.ref a)] [(.ref a), (.ref t)])) rfl rfl (hb hby d29_5)
  refine own_go st90 ?_
  show own_Goes _ _ _ _ _ _ _ (T90.setTop (mkF m 8 #[.val (.ref a)] [(.int (1 : Int32)), (.ref t)]))
  obtain ⟨_, _, ⟨T91, L91, k91, n91⟩, -, X91, ⟨Lc91, hQ91, l91, y91, z91⟩, st91⟩ := Jvm.LawKit.callS X90 hx (y := own_y13) hown (mvT hZ (own_w hw 202 rfl)) (mvT hZ (own_w hw 203 rfl)) (mvT hZ (own_w hw 204 rfl)) (mvT hZ (own_w hw 205 rfl)) (by decide) (backOf (W := 0) (rm_cp2 l Z a0 hw [] t kk e_ mr h0 n0 O0 Vt Et Ee MK) hZ (own_w hw 205 rfl) (own_w hw 204 rfl) (by decide) (by decide)) (g := (mkF m 8 #[.val (.ref a)] [(.int (1 : Int32)), (.ref t)])) rfl (by rw [hml]; rfl) (argsL := [(.ref t), (.int (1 : Int32))]) (rest := []) (lenOf pd_6 rfl) rfl (by show 2 * 0 + _ ≤ _; exact Nat.le_of_eq rfl) (hb hby d29_8) (fun _ _ => ⟨rfl, e90, (by decide : 0 + 1 ≤ _), (by decide : 0 + 1 ≤ _)⟩)
  dsimp only [Pt.U, Pt.locs, Pt.cells, Pt.slots] at X91 l91 y91 z91 st91 hQ91
  subst l91 y91 z91
  obtain ⟨b91, kb91, rfl, N91q, B91, K91q, V91q⟩ := hQ91
  have N91 := Fr.app N0 N91q
  have ne_a_b91 : a ≠ b91 := Nat.ne_of_lt (Nat.lt_of_lt_of_le F1.lt B91)
  have ne_t_b91 : t ≠ b91 := Nat.ne_of_lt (Nat.lt_of_lt_of_le Vt.lt B91)
  have ne_e__b91 : e_ ≠ b91 := Nat.ne_of_lt (Nat.lt_of_lt_of_le Ee.lt B91)
  have g_b91 : n0 ≤ b91 := Nat.le_trans (O0.1 ▸ O0.2.1) B91
  have sz_b91 : h0.size ≤ b91 := Nat.le_trans (own_ks (Keep.refl h0 [])) B91
  have f92 := (F1.keep K91q nin0)
  have f93 := (F2.keep K91q nin0)
  have f94 := (Ea.keep K91q)
  have f95 : Arv Z T91.heap t kk (.object "java/lang/Object") (10 : Int32) [(.ref e_), .null, .null, .null, .null, .null, .null, .null, .null, .null] .null := (Vt.keep K91q nin0)
  have f96 := (Et.keep K91q)
  have f97 := (Ee.keep K91q)
  have O91 := O0.keep K91q all0
  have K91 := (Keep.refl h0 []).trans K91q all0
  refine own_go st91 ?_
  show own_Goes _ _ _ _ _ _ _ (T91.setTop (mkF m 11 #[.val (.ref a)] [(.ref b91)]))
  exact own_out X91 hlk (v := some (.ref b91)) (fun h => by rw [hret] at h; cases h) (fun fs hr => retOut X91 hx (t := (.array (.object "java/lang/Object"))) hret rfl (Or.inr (Or.inr (Or.inr (Or.inr ⟨rfl, rfl, rfl⟩)))) (hb hby d29_11) hr) rfl ⟨_, kb91, rfl, N91, sz_b91, K91, V91q⟩ (by decide) (by decide)
theorem d37_0 : decode jdk_31_method_10_code 0 = .ok (.aload_n 0, 1) := by decide +kernel
theorem d37_1 : decode jdk_31_method_10_code 1 = .ok (.ifnonnull 11, 3) := by decide +kernel
theorem d37_12 : decode jdk_31_method_10_code 12 = .ok (.aload_n 0, 1) := by decide +kernel
theorem d37_13 : decode jdk_31_method_10_code 13 = .ok (.areturn, 1) := by decide +kernel
theorem ef_rnn (m : MethodId) (a : Addr) : entryFrame m #[(.ref a)] 1 = mkF m 0 #[.val (.ref a)] [] := by
  first | (simp [entryFrame, mkF, argsToLocals, Value.category]; done) | rfl
def Q_rnn (Z : State) (a : Addr) (h0 : Heap) (n0 : Nat) (v : Option Value) (h : Heap) (L : List Loc) : Prop := v = some (.ref a) ∧ Fr n0 L ∧ h = h0
set_option maxRecDepth 65536 in
set_option maxHeartbeats 40000000 in
theorem rm_rnn (l : Launch) (Z : State) (a0 : Array Value) (hw : ∀ d ∈ tables_1, d.before a0 Z = true) (ws : List Jvm.Cond) (a : Addr) (h0 : Heap) (n0 : Nat) (O0 : Old Z n0 h0) :
    MetFree l own_y15 (head1 (Jvm.Cond.code own_y15 jdk_31_method_10_code 1 (some (.object "java/lang/Object")) :: ws) ({ frames := 0, cells := 0, slots := 0, locals := 0 } : Room)) (fun av_ U => av_ = #[(.ref a)] ∧ Z.Warmed39 U.vm ∧ U.heap = h0) (fun _ _ _ _ _ => True) (fun _ U o_ U' => ∃ v L, o_ = .returned v ∧ Q_rnn Z a h0 n0 v U'.heap L ∧ FrameEnd U o_ U' L ({ frames := 0, cells := 0, slots := 0, locals := 0 } : Room).cells ({ frames := 0, cells := 0, slots := 0, locals := 0 } : Room).slots) := by
  refine MetFree.of_bodySF (plainFor_of_name pn_7) hisR ?_
  intro p e s m args below meth c s₁ Bd hml0 hP hK
  obtain ⟨rfl, hZ, hh⟩ := hP
  have hx := Bd.exec
  have hby := Bd.bytes
  have hml : c.maxLocals = 1 := hml0
  have hown : s.vm.findClass "java/util/Objects" = some m.cls := findClass_of_methodNamed Bd.named
  have hnm := (name_of_methodNamed Bd.named Bd.method).1
  have hlk := own_lk Bd
  have hret := Bd.returns
  have X0 : Stand p l e ({ frames := 0, cells := 0, slots := 0, locals := 0 } : Room) s m #[(.ref a)] below meth c s₁ [] 0 0 := Stand.of_body Bd
  have e0 : s₁.heap = h0 := by rw [← hh, Bd.state]; rfl
  have N0 := Fr.nil n0
  show own_Goes p e below s (Q_rnn Z a h0 n0) ({ frames := 0, cells := 0, slots := 0, locals := 0 } : Room).cells ({ frames := 0, cells := 0, slots := 0, locals := 0 } : Room).slots (s₁.setTop (entryFrame m #[(.ref a)] 1))
  refine own_go (fun _ ww => castTop (ef_rnn m a) ww) ?_
  show own_Goes _ _ _ _ _ _ _ (s₁.setTop (mkF m 0 #[.val (.ref a)] []))
  refine own_go (fun _ ww => XS.aloadN X0.here hx rfl (hb hby d37_0) rfl rfl ww) ?_
  show own_Goes _ _ _ _ _ _ _ (s₁.setTop (mkF m 1 #[.val (.ref a)] [(.ref a)]))
  refine own_go (fun _ ww => XT.ifnonnullYes X0.here hx rfl (pc0 := 1) (pc' := 12) rfl (hb hby d37_1) rfl (by decide) (by decide) ww) ?_
  show own_Goes _ _ _ _ _ _ _ (s₁.setTop (mkF m 12 #[.val (.ref a)] []))
  refine own_go (fun _ ww => XS.aloadN X0.here hx rfl (hb hby d37_12) rfl rfl ww) ?_
  show own_Goes _ _ _ _ _ _ _ (s₁.setTop (mkF m 13 #[.val (.ref a)] [(.ref a)]))
  exact own_out X0 hlk (v := some (.ref a)) (fun h => by rw [hret] at h; cases h) (fun fs hr => retOut X0 hx (t := (.object "java/lang/Object")) hret rfl (Or.inr (Or.inr (Or.inr (Or.inr ⟨rfl, rfl, rfl⟩)))) (hb hby d37_13) hr) e0 ⟨rfl, N0, rfl⟩ (by decide) (by decide)
theorem d13_0 : decode jdk_31_method_11_code 0 = .ok (.aload_n 0, 1) := by decide +kernel
theorem d13_1 : decode jdk_31_method_11_code 1 = .ok (.ifnonnull 12, 3) := by decide +kernel
theorem d13_13 : decode jdk_31_method_11_code 13 = .ok (.aload_n 0, 1) := by decide +kernel
theorem d13_14 : decode jdk_31_method_11_code 14 = .ok (.areturn, 1) := by decide +kernel
theorem ef_rnn2 (m : MethodId) (a : Addr) (b : Addr) : entryFrame m #[(.ref a), (.ref b)] 2 = mkF m 0 #[.val (.ref a), .val (.ref b)] [] := by
  first | (simp [entryFrame, mkF, argsToLocals, Value.category]; done) | rfl
def Q_rnn2 (Z : State) (a : Addr) (b : Addr) (h0 : Heap) (n0 : Nat) (v : Option Value) (h : Heap) (L : List Loc) : Prop := v = some (.ref a) ∧ Fr n0 L ∧ h = h0
set_option maxRecDepth 65536 in
set_option maxHeartbeats 40000000 in
theorem rm_rnn2 (l : Launch) (Z : State) (a0 : Array Value) (hw : ∀ d ∈ tables_1, d.before a0 Z = true) (ws : List Jvm.Cond) (a : Addr) (b : Addr) (h0 : Heap) (n0 : Nat) (O0 : Old Z n0 h0) :
    MetFree l own_y16 (head1 (Jvm.Cond.code own_y16 jdk_31_method_11_code 2 (some (.object "java/lang/Object")) :: ws) ({ frames := 0, cells := 0, slots := 0, locals := 0 } : Room)) (fun av_ U => av_ = #[(.ref a), (.ref b)] ∧ Z.Warmed39 U.vm ∧ U.heap = h0) (fun _ _ _ _ _ => True) (fun _ U o_ U' => ∃ v L, o_ = .returned v ∧ Q_rnn2 Z a b h0 n0 v U'.heap L ∧ FrameEnd U o_ U' L ({ frames := 0, cells := 0, slots := 0, locals := 0 } : Room).cells ({ frames := 0, cells := 0, slots := 0, locals := 0 } : Room).slots) := by
  refine MetFree.of_bodySF (plainFor_of_name pn_7) hisR ?_
  intro p e s m args below meth c s₁ Bd hml0 hP hK
  obtain ⟨rfl, hZ, hh⟩ := hP
  have hx := Bd.exec
  have hby := Bd.bytes
  have hml : c.maxLocals = 2 := hml0
  have hown : s.vm.findClass "java/util/Objects" = some m.cls := findClass_of_methodNamed Bd.named
  have hnm := (name_of_methodNamed Bd.named Bd.method).1
  have hlk := own_lk Bd
  have hret := Bd.returns
  have X0 : Stand p l e ({ frames := 0, cells := 0, slots := 0, locals := 0 } : Room) s m #[(.ref a), (.ref b)] below meth c s₁ [] 0 0 := Stand.of_body Bd
  have e0 : s₁.heap = h0 := by rw [← hh, Bd.state]; rfl
  have N0 := Fr.nil n0
  show own_Goes p e below s (Q_rnn2 Z a b h0 n0) ({ frames := 0, cells := 0, slots := 0, locals := 0 } : Room).cells ({ frames := 0, cells := 0, slots := 0, locals := 0 } : Room).slots (s₁.setTop (entryFrame m #[(.ref a), (.ref b)] 2))
  refine own_go (fun _ ww => castTop (ef_rnn2 m a b) ww) ?_
  show own_Goes _ _ _ _ _ _ _ (s₁.setTop (mkF m 0 #[.val (.ref a), .val (.ref b)] []))
  refine own_go (fun _ ww => XS.aloadN X0.here hx rfl (hb hby d13_0) rfl rfl ww) ?_
  show own_Goes _ _ _ _ _ _ _ (s₁.setTop (mkF m 1 #[.val (.ref a), .val (.ref b)] [(.ref a)]))
  refine own_go (fun _ ww => XT.ifnonnullYes X0.here hx rfl (pc0 := 1) (pc' := 13) rfl (hb hby d13_1) rfl (by decide) (by decide) ww) ?_
  show own_Goes _ _ _ _ _ _ _ (s₁.setTop (mkF m 13 #[.val (.ref a), .val (.ref b)] []))
  refine own_go (fun _ ww => XS.aloadN X0.here hx rfl (hb hby d13_13) rfl rfl ww) ?_
  show own_Goes _ _ _ _ _ _ _ (s₁.setTop (mkF m 14 #[.val (.ref a), .val (.ref b)] [(.ref a)]))
  exact own_out X0 hlk (v := some (.ref a)) (fun h => by rw [hret] at h; cases h) (fun fs hr => retOut X0 hx (t := (.object "java/lang/Object")) hret rfl (Or.inr (Or.inr (Or.inr (Or.inr ⟨rfl, rfl, rfl⟩)))) (hb hby d13_14) hr) e0 ⟨rfl, N0, rfl⟩ (by decide) (by decide)
theorem d34_0 : decode jdk_44_method_1_code 0 = .ok (.aload_n 0, 1) := by decide +kernel
theorem d34_1 : decode jdk_44_method_1_code 1 = .ok (.invokespecial 1, 3) := by decide +kernel
theorem d34_4 : decode jdk_44_method_1_code 4 = .ok (.aload_n 0, 1) := by decide +kernel
theorem d34_5 : decode jdk_44_method_1_code 5 = .ok (.aload_n 1, 1) := by decide +kernel
theorem d34_6 : decode jdk_44_method_1_code 6 = .ok (.invokestatic 7, 3) := by decide +kernel
theorem d34_9 : decode jdk_44_method_1_code 9 = .ok (.putfield 13, 3) := by decide +kernel
theorem d34_12 : decode jdk_44_method_1_code 12 = .ok (.aload_n 0, 1) := by decide +kernel
theorem d34_13 : decode jdk_44_method_1_code 13 = .ok (.getstatic 19, 3) := by decide +kernel
theorem d34_16 : decode jdk_44_method_1_code 16 = .ok (.putfield 24, 3) := by decide +kernel
theorem d34_19 : decode jdk_44_method_1_code 19 = .ok (.return_, 1) := by decide +kernel
theorem ef_l12i (m : MethodId) (x : Addr) (e_ : Addr) (aX : Addr) : entryFrame m #[(.ref x), (.ref e_)] 2 = mkF m 0 #[.val (.ref x), .val (.ref e_)] [] := by
  first | (simp [entryFrame, mkF, argsToLocals, Value.category]; done) | rfl
def Q_l12i (Z : State) (x : Addr) (e_ : Addr) (aX : Addr) (h0 : Heap) (n0 : Nat) (v : Option Value) (h : Heap) (L : List Loc) : Prop := v = none ∧ Fr n0 L ∧ Keep h0 h [x]
set_option maxRecDepth 65536 in
set_option maxHeartbeats 40000000 in
theorem rm_l12i (l : Launch) (Z : State) (a0 : Array Value) (hw : ∀ d ∈ tables_1, d.before a0 Z = true) (ws : List Jvm.Cond) (x : Addr) (e_ : Addr) (aX : Addr) (h0 : Heap) (n0 : Nat) (O0 : Old Z n0 h0) (F0 : Fld Z h0 x "java/util/ImmutableCollections$List12" "e0" "Ljava/lang/Object;" .null) (F1 : Fld Z h0 x "java/util/ImmutableCollections$List12" "e1" "Ljava/lang/Object;" .null) (Ex : Exa Z h0 x "java/util/ImmutableCollections$List12") (g_x : n0 ≤ x) (SX : Sta Z Z.heap "java/util/ImmutableCollections" "EMPTY" "Ljava/lang/Object;" (.ref aX)) :
    MetFree l own_y17 (head1 (Jvm.Cond.code own_y17 jdk_44_method_1_code 2 none :: ws) ({ frames := 4, cells := 0, slots := 0, locals := 48 } : Room)) (fun av_ U => av_ = #[(.ref x), (.ref e_)] ∧ Z.Warmed39 U.vm ∧ U.heap = h0) (fun _ _ _ _ _ => True) (fun _ U o_ U' => ∃ v L, o_ = .returned v ∧ Q_l12i Z x e_ aX h0 n0 v U'.heap L ∧ FrameEnd U o_ U' L ({ frames := 4, cells := 0, slots := 0, locals := 48 } : Room).cells ({ frames := 4, cells := 0, slots := 0, locals := 48 } : Room).slots) := by
  refine MetFree.of_bodySF (plainFor_of_name pn_8) hisR ?_
  intro p e s m args below meth c s₁ Bd hml0 hP hK
  obtain ⟨rfl, hZ, hh⟩ := hP
  have hx := Bd.exec
  have hby := Bd.bytes
  have hml : c.maxLocals = 2 := hml0
  have hown : s.vm.findClass "java/util/ImmutableCollections$List12" = some m.cls := findClass_of_methodNamed Bd.named
  have hnm := (name_of_methodNamed Bd.named Bd.method).1
  have hlk := own_lk Bd
  have hret := Bd.returns
  have X0 : Stand p l e ({ frames := 4, cells := 0, slots := 0, locals := 48 } : Room) s m #[(.ref x), (.ref e_)] below meth c s₁ [] 0 0 := Stand.of_body Bd
  have e0 : s₁.heap = h0 := by rw [← hh, Bd.state]; rfl
  have N0 := Fr.nil n0
  show own_Goes p e below s (Q_l12i Z x e_ aX h0 n0) ({ frames := 4, cells := 0, slots := 0, locals := 48 } : Room).cells ({ frames := 4, cells := 0, slots := 0, locals := 48 } : Room).slots (s₁.setTop (entryFrame m #[(.ref x), (.ref e_)] 2))
  refine own_go (fun _ ww => castTop (ef_l12i m x e_ aX) ww) ?_
  show own_Goes _ _ _ _ _ _ _ (s₁.setTop (mkF m 0 #[.val (.ref x), .val (.ref e_)] []))
  refine own_go (fun _ ww => XS.aloadN X0.here hx rfl (hb hby d34_0) rfl rfl ww) ?_
  show own_Goes _ _ _ _ _ _ _ (s₁.setTop (mkF m 1 #[.val (.ref x), .val (.ref e_)] [(.ref x)]))
  obtain ⟨_, _, ⟨T98, L98, k98, n98⟩, -, X98, ⟨Lc98, hQ98, l98, y98, z98⟩, st98⟩ := X0.specialBack hx (y := own_y2) rfl hown (mvT hZ (own_w hw 234 rfl)) (mvT hZ (own_w hw 235 rfl)) (mvT hZ (own_w hw 239 rfl)) (by decide) (backOf (W := 0) (rm_ailinit l Z a0 hw [] x h0 n0 O0 ) hZ (own_w hw 239 rfl) (own_w hw 238 rfl) (by decide) (by decide)) (g := (mkF m 1 #[.val (.ref x), .val (.ref e_)] [(.ref x)])) rfl (by rw [hml]; rfl) (Steps.refl _) (a := x) (argsL := []) (rest := []) (lenOf pd_0 rfl) rfl (by show 2 * 0 + _ ≤ _; exact Nat.le_of_eq rfl) (hb hby d34_1) (fun _ _ => ⟨rfl, e0, (by decide : 0 + 0 ≤ _), (by decide : 0 + 0 ≤ _)⟩)
  dsimp only [Pt.U, Pt.locs, Pt.cells, Pt.slots] at X98 l98 y98 z98 st98 hQ98
  subst l98 y98 z98
  obtain ⟨rfl, N98q, e98⟩ := hQ98
  have N98 := Fr.app N0 N98q
  refine own_go (fun _ ww => Steps.trans st98 ww) ?_
  show own_Goes _ _ _ _ _ _ _ (T98.setTop (mkF m 4 #[.val (.ref x), .val (.ref e_)] []))
  refine own_go (fun _ ww => XS.aloadN X98.here hx rfl (hb hby d34_4) rfl rfl ww) ?_
  show own_Goes _ _ _ _ _ _ _ (T98.setTop (mkF m 5 #[.val (.ref x), .val (.ref e_)] [(.ref x)]))
  refine own_go (fun _ ww => XS.aloadN X98.here hx rfl (hb hby d34_5) rfl rfl ww) ?_
  show own_Goes _ _ _ _ _ _ _ (T98.setTop (mkF m 6 #[.val (.ref x), .val (.ref e_)] [(.ref e_), (.ref x)]))
  obtain ⟨_, _, ⟨T99, L99, k99, n99⟩, -, X99, ⟨Lc99, hQ99, l99, y99, z99⟩, st99⟩ := Jvm.LawKit.callS X98 hx (y := own_y15) hown (mvT hZ (own_w hw 248 rfl)) (mvT hZ (own_w hw 249 rfl)) (mvT hZ (own_w hw 77 rfl)) (mvT hZ (own_w hw 250 rfl)) (by decide) (backOf (W := 1) (rm_rnn l Z a0 hw [] e_ h0 n0 O0 ) hZ (own_w hw 250 rfl) (own_w hw 77 rfl) (by decide) (by decide)) (g := (mkF m 6 #[.val (.ref x), .val (.ref e_)] [(.ref e_), (.ref x)])) rfl (by rw [hml]; rfl) (argsL := [(.ref e_)]) (rest := [(.ref x)]) (lenOf pd_7 rfl) rfl (by show 2 * 0 + _ ≤ _; exact Nat.le_of_eq rfl) (hb hby d34_6) (fun _ _ => ⟨rfl, e98, (by decide : 0 + 0 ≤ _), (by decide : 0 + 0 ≤ _)⟩)
  dsimp only [Pt.U, Pt.locs, Pt.cells, Pt.slots] at X99 l99 y99 z99 st99 hQ99
  subst l99 y99 z99
  obtain ⟨rfl, N99q, e99⟩ := hQ99
  have N99 := Fr.app N98 N99q
  refine own_go st99 ?_
  show own_Goes _ _ _ _ _ _ _ (T99.setTop (mkF m 9 #[.val (.ref x), .val (.ref e_)] [(.ref e_), (.ref x)]))
  obtain ⟨T100, h100, X100, e100, W100, st100⟩ := putF X99 hx hZ hown (host := "") (Or.inl (own_w hw 251 rfl)) Via.refl e99 F0 Ex (Or.inr ⟨(own_w hw 252 rfl), rfl, hnm⟩) (own_w hw 228 rfl) (ty := (.object "java/lang/Object")) (by decide) rfl rfl (g := (mkF m 9 #[.val (.ref x), .val (.ref e_)] [(.ref e_), (.ref x)])) rfl rfl (hb hby d34_9)
  have f101 : Fld Z h100 x "java/util/ImmutableCollections$List12" "e0" "Ljava/lang/Object;" (.ref e_) := (F0.same W100)
  have f102 := (F1.other W100 (Or.inr (slot_ne (Or.inr (own_w hw 255 rfl)) (Or.inr (own_w hw 252 rfl)) (by decide) (t := (.object "java/lang/Object")) (t' := (.object "java/lang/Object")) (by decide) (by decide))))
  have f103 := (Ex.wr W100)
  have N100 := Fr.snoc X100 N99 g_x
  have O100 := O0.wr W100 g_x
  have K100 := (Keep.refl h0 [x]).wr W100 (Or.inl (List.mem_of_getElem? (i := 0) rfl))
  refine own_go st100 ?_
  show own_Goes _ _ _ _ _ _ _ (T100.setTop (mkF m 12 #[.val (.ref x), .val (.ref e_)] []))
  refine own_go (fun _ ww => XS.aloadN X100.here hx rfl (hb hby d34_12) rfl rfl ww) ?_
  show own_Goes _ _ _ _ _ _ _ (T100.setTop (mkF m 13 #[.val (.ref x), .val (.ref e_)] [(.ref x)]))
  obtain ⟨T104, X104, e104, st104⟩ := getS2 X100 hx hZ hown (Or.inr (own_w hw 253 rfl)) Via.refl e100 (SX.ext O100.2) (g := (mkF m 13 #[.val (.ref x), .val (.ref e_)] [(.ref x)])) rfl (hb hby d34_13)
  refine own_go st104 ?_
  show own_Goes _ _ _ _ _ _ _ (T104.setTop (mkF m 16 #[.val (.ref x), .val (.ref e_)] [(.ref aX), (.ref x)]))
  obtain ⟨T105, h105, X105, e105, W105, st105⟩ := putF X104 hx hZ hown (host := "") (Or.inl (own_w hw 254 rfl)) Via.refl e104 f102 f103 (Or.inr ⟨(own_w hw 255 rfl), rfl, hnm⟩) (own_w hw 228 rfl) (ty := (.object "java/lang/Object")) (by decide) rfl rfl (g := (mkF m 16 #[.val (.ref x), .val (.ref e_)] [(.ref aX), (.ref x)])) rfl rfl (hb hby d34_16)
  have f106 := (f101.other W105 (Or.inr (slot_ne (Or.inr (own_w hw 252 rfl)) (Or.inr (own_w hw 255 rfl)) (by decide) (t := (.object "java/lang/Object")) (t' := (.object "java/lang/Object")) (by decide) (by decide))))
  have f107 : Fld Z h105 x "java/util/ImmutableCollections$List12" "e1" "Ljava/lang/Object;" (.ref aX) := (f102.same W105)
  have f108 := (f103.wr W105)
  have N105 := Fr.snoc X105 N100 g_x
  have O105 := O100.wr W105 g_x
  have K105 := K100.wr W105 (Or.inl (List.mem_of_getElem? (i := 0) rfl))
  refine own_go st105 ?_
  show own_Goes _ _ _ _ _ _ _ (T105.setTop (mkF m 19 #[.val (.ref x), .val (.ref e_)] []))
  exact own_out X105 hlk (v := none) (fun _ => rfl) (fun fs hr => X105.returnOut hx hret (hb hby d34_19) hr) e105 ⟨rfl, N105, K105⟩ (by decide) (by decide)
theorem d33_0 : decode jdk_40_method_47_code 0 = .ok (.aload_n 0, 1) := by decide +kernel
theorem d33_1 : decode jdk_40_method_47_code 1 = .ok (.arraylength, 1) := by decide +kernel
theorem d33_2 : decode jdk_40_method_47_code 2 = .ok (.tableswitch 57 0 2 #[26, 32, 43], 26) := by decide +kernel
theorem d33_34 : decode jdk_40_method_47_code 34 = .ok (.new 96, 3) := by decide +kernel
theorem d33_37 : decode jdk_40_method_47_code 37 = .ok (.dup, 1) := by decide +kernel
theorem d33_38 : decode jdk_40_method_47_code 38 = .ok (.aload_n 0, 1) := by decide +kernel
theorem d33_39 : decode jdk_40_method_47_code 39 = .ok (.iconst 0, 1) := by decide +kernel
theorem d33_40 : decode jdk_40_method_47_code 40 = .ok (.aaload, 1) := by decide +kernel
theorem d33_41 : decode jdk_40_method_47_code 41 = .ok (.invokespecial 98, 3) := by decide +kernel
theorem d33_44 : decode jdk_40_method_47_code 44 = .ok (.areturn, 1) := by decide +kernel
theorem ef_lofa (m : MethodId) (t : Addr) (kk : ClassId) (e_ : Addr) (aX : Addr) : entryFrame m #[(.ref t)] 2 = mkF m 0 #[.val (.ref t), .unset] [] := by
  first | (simp [entryFrame, mkF, argsToLocals, Value.category]; done) | rfl
def Q_lofa (Z : State) (t : Addr) (kk : ClassId) (e_ : Addr) (aX : Addr) (h0 : Heap) (n0 : Nat) (v : Option Value) (h : Heap) (L : List Loc) : Prop := ∃ r : Addr, v = some (.ref r) ∧ Fr n0 L ∧ h0.size ≤ r ∧ Keep h0 h [] ∧ Exa Z h r "java/util/ImmutableCollections$List12"
set_option maxRecDepth 65536 in
set_option maxHeartbeats 40000000 in
theorem rm_lofa (l : Launch) (Z : State) (a0 : Array Value) (hw : ∀ d ∈ tables_1, d.before a0 Z = true) (ws : List Jvm.Cond) (t : Addr) (kk : ClassId) (e_ : Addr) (aX : Addr) (h0 : Heap) (n0 : Nat) (O0 : Old Z n0 h0) (Vt : Arv Z h0 t kk (.object "java/lang/Object") (1 : Int32) [(.ref e_)] .null) (SX : Sta Z Z.heap "java/util/ImmutableCollections" "EMPTY" "Ljava/lang/Object;" (.ref aX)) :
    MetFree l own_y18 (head1 (Jvm.Cond.code own_y18 jdk_40_method_47_code 2 (some (.object "java/util/List")) :: ws) ({ frames := 5, cells := 1, slots := 2, locals := 62 } : Room)) (fun av_ U => av_ = #[(.ref t)] ∧ Z.Warmed39 U.vm ∧ U.heap = h0) (fun _ _ _ _ _ => True) (fun _ U o_ U' => ∃ v L, o_ = .returned v ∧ Q_lofa Z t kk e_ aX h0 n0 v U'.heap L ∧ FrameEnd U o_ U' L ({ frames := 5, cells := 1, slots := 2, locals := 62 } : Room).cells ({ frames := 5, cells := 1, slots := 2, locals := 62 } : Room).slots) := by
  refine MetFree.of_bodySF (plainFor_of_name pn_9) hisR ?_
  intro p e s m args below meth c s₁ Bd hml0 hP hK
  obtain ⟨rfl, hZ, hh⟩ := hP
  have hx := Bd.exec
  have hby := Bd.bytes
  have hml : c.maxLocals = 2 := hml0
  have hown : s.vm.findClass "java/util/List" = some m.cls := findClass_of_methodNamed Bd.named
  have hnm := (name_of_methodNamed Bd.named Bd.method).1
  have hlk := own_lk Bd
  have hret := Bd.returns
  have X0 : Stand p l e ({ frames := 5, cells := 1, slots := 2, locals := 62 } : Room) s m #[(.ref t)] below meth c s₁ [] 0 0 := Stand.of_body Bd
  have e0 : s₁.heap = h0 := by rw [← hh, Bd.state]; rfl
  have N0 := Fr.nil n0
  show own_Goes p e below s (Q_lofa Z t kk e_ aX h0 n0) ({ frames := 5, cells := 1, slots := 2, locals := 62 } : Room).cells ({ frames := 5, cells := 1, slots := 2, locals := 62 } : Room).slots (s₁.setTop (entryFrame m #[(.ref t)] 2))
  refine own_go (fun _ ww => castTop (ef_lofa m t kk e_ aX) ww) ?_
  show own_Goes _ _ _ _ _ _ _ (s₁.setTop (mkF m 0 #[.val (.ref t), .unset] []))
  refine own_go (fun _ ww => XS.aloadN X0.here hx rfl (hb hby d33_0) rfl rfl ww) ?_
  show own_Goes _ _ _ _ _ _ _ (s₁.setTop (mkF m 1 #[.val (.ref t), .unset] [(.ref t)]))
  obtain ⟨cl109, Ar109, -, S109, Ng109, -, -⟩ := id Vt
  refine own_go (fun _ ww => X0.arraylength hx (by rw [e0]; exact Ar109.1) (State.isArrayOf_alike hZ.alike Ar109.2.1) (g := (mkF m 1 #[.val (.ref t), .unset] [(.ref t)])) rfl rfl (hb hby d33_1) _ ww) ?_
  rw [len_of S109 Ng109]
  show own_Goes _ _ _ _ _ _ _ (s₁.setTop (mkF m 2 #[.val (.ref t), .unset] [(.int (1 : Int32))]))
  refine own_go (fun _ ww => XS.tswIn X0.here hx rfl (pc0 := 2) (pc' := 34) (o := 32) rfl (hb hby d33_2) rfl (by decide) (by decide) (by decide) (by decide) ww) ?_
  show own_Goes _ _ _ _ _ _ _ (s₁.setTop (mkF m 34 #[.val (.ref t), .unset] []))
  obtain ⟨T110, h110, X110, e110, E110, A110, D110, -, st110⟩ := newO X0 hx hZ hown (own_w hw 227 rfl) (own_w hw 228 rfl) (own_w hw 229 rfl) e0 (g := (mkF m 34 #[.val (.ref t), .unset] [])) rfl (hb hby d33_34) (by decide) (by decide)
  obtain ⟨b110, g110⟩ : ∃ z, z = h0.size := ⟨_, rfl⟩
  rw [← g110] at A110 D110 st110
  have ne_t_b110 : t ≠ b110 := Nat.ne_of_lt (Nat.lt_of_lt_of_le Vt.lt (Nat.le_of_eq g110.symm))
  have g_b110 : n0 ≤ b110 := Nat.le_trans (O0.1 ▸ O0.2.1) (Nat.le_of_eq g110.symm)
  have f111 : Arv Z h110 t kk (.object "java/lang/Object") (1 : Int32) [(.ref e_)] .null := (Arv.ext Vt E110)
  have O110 := O0.ext E110
  have sz_b110 : h0.size ≤ b110 := Nat.le_trans (own_ks (Keep.refl h0 [])) (Nat.le_of_eq g110.symm)
  have K110 := (Keep.refl h0 []).ext E110
  have f112 : Fld Z h110 b110 "java/util/ImmutableCollections$List12" "e0" "Ljava/lang/Object;" .null := D110 (Or.inr (own_w hw 252 rfl)) (ty := (.object "java/lang/Object")) (by decide)
  have f113 : Fld Z h110 b110 "java/util/ImmutableCollections$List12" "e1" "Ljava/lang/Object;" .null := D110 (Or.inr (own_w hw 255 rfl)) (ty := (.object "java/lang/Object")) (by decide)
  refine own_go st110 ?_
  show own_Goes _ _ _ _ _ _ _ (T110.setTop (mkF m 37 #[.val (.ref t), .unset] [(.ref b110)]))
  refine own_go (fun _ ww => XS.dup X110.here hx rfl (hb hby d33_37) rfl rfl ww) ?_
  show own_Goes _ _ _ _ _ _ _ (T110.setTop (mkF m 38 #[.val (.ref t), .unset] [(.ref b110), (.ref b110)]))
  refine own_go (fun _ ww => XS.aloadN X110.here hx rfl (hb hby d33_38) rfl rfl ww) ?_
  show own_Goes _ _ _ _ _ _ _ (T110.setTop (mkF m 39 #[.val (.ref t), .unset] [(.ref t), (.ref b110), (.ref b110)]))
  refine own_go (fun _ ww => XS.iconst X110.here hx rfl (hb hby d33_39) ww) ?_
  show own_Goes _ _ _ _ _ _ _ (T110.setTop (mkF m 40 #[.val (.ref t), .unset] [(.int (0 : Int32)), (.ref t), (.ref b110), (.ref b110)]))
  obtain ⟨cl114, Ar114, -, S114, -, H114, -⟩ := id f111
  have hin114 := inb_of (j := (0 : Int32)) S114 ⟨by decide, by decide⟩
  have hat114 : cl114.slots[((0 : Int32)).toNatClampNeg]? = some (.ref e_) := Has.at H114 hin114 rfl
  refine own_go (fun _ ww => X110.aaload hx (j := (0 : Int32)) (v := (.ref e_)) (by rw [e110]; exact Ar114.1) (State.isArrayOf_alike hZ.alike Ar114.2.1) rfl Ar114.2.2 hin114 hat114 (g := (mkF m 40 #[.val (.ref t), .unset] [(.int (0 : Int32)), (.ref t), (.ref b110), (.ref b110)])) rfl rfl (hb hby d33_40) _ ww) ?_
  show own_Goes _ _ _ _ _ _ _ (T110.setTop (mkF m 41 #[.val (.ref t), .unset] [(.ref e_), (.ref b110), (.ref b110)]))
  obtain ⟨_, _, ⟨T115, L115, k115, n115⟩, -, X115, ⟨Lc115, hQ115, l115, y115, z115⟩, st115⟩ := X110.specialBack hx (y := own_y17) rfl hown (mvT hZ (own_w hw 230 rfl)) (mvT hZ (own_w hw 231 rfl)) (mvT hZ (own_w hw 233 rfl)) (by decide) (backOf (W := 1) (rm_l12i l Z a0 hw [] b110 e_ aX h110 n0 O110 f112 f113 A110 g_b110 SX) hZ (own_w hw 233 rfl) (own_w hw 229 rfl) (by decide) (by decide)) (g := (mkF m 41 #[.val (.ref t), .unset] [(.ref e_), (.ref b110), (.ref b110)])) rfl (by rw [hml]; rfl) (Steps.refl _) (a := b110) (argsL := [(.ref e_)]) (rest := [(.ref b110)]) (lenOf pd_8 rfl) rfl (by show 2 * 0 + _ ≤ _; exact Nat.le_of_eq rfl) (hb hby d33_41) (fun _ _ => ⟨rfl, e110, (by decide : 1 + 0 ≤ _), (by decide : 2 + 0 ≤ _)⟩)
  dsimp only [Pt.U, Pt.locs, Pt.cells, Pt.slots] at X115 l115 y115 z115 st115 hQ115
  subst l115 y115 z115
  obtain ⟨rfl, N115q, K115q⟩ := hQ115
  have N115 := Fr.app N0 N115q
  have f116 : Arv Z T115.heap t kk (.object "java/lang/Object") (1 : Int32) [(.ref e_)] .null := (f111.keep K115q (ninS ne_t_b110 nin0))
  have f117 := (A110.keep K115q)
  have O115 := O110.keep K115q (allS g_b110 all0)
  have K115 := K110.trans K115q (allS (Or.inr sz_b110) all0)
  refine own_go (fun _ ww => Steps.trans st115 ww) ?_
  show own_Goes _ _ _ _ _ _ _ (T115.setTop (mkF m 44 #[.val (.ref t), .unset] [(.ref b110)]))
  exact own_out X115 hlk (v := some (.ref b110)) (fun h => by rw [hret] at h; cases h) (fun fs hr => retOut X115 hx (t := (.object "java/util/List")) hret rfl (Or.inr (Or.inr (Or.inr (Or.inr ⟨rfl, rfl, rfl⟩)))) (hb hby d33_44) hr) rfl ⟨_, rfl, N115, sz_b110, K115, f117⟩ (by decide) (by decide)
theorem d17_0 : decode jdk_40_method_36_code 0 = .ok (.getstatic 90, 3) := by decide +kernel
theorem d17_3 : decode jdk_40_method_36_code 3 = .ok (.areturn, 1) := by decide +kernel
theorem ef_lof0 (m : MethodId) (aL : Addr) : entryFrame m #[] 0 = mkF m 0 #[] [] := by
  first | (simp [entryFrame, mkF, argsToLocals, Value.category]; done) | rfl
def Q_lof0 (Z : State) (aL : Addr) (h0 : Heap) (n0 : Nat) (v : Option Value) (h : Heap) (L : List Loc) : Prop := v = some (.ref aL) ∧ Fr n0 L ∧ h = h0
set_option maxRecDepth 65536 in
set_option maxHeartbeats 40000000 in
theorem rm_lof0 (l : Launch) (Z : State) (a0 : Array Value) (hw : ∀ d ∈ tables_1, d.before a0 Z = true) (ws : List Jvm.Cond) (aL : Addr) (h0 : Heap) (n0 : Nat) (O0 : Old Z n0 h0) (SL : Sta Z Z.heap "java/util/ImmutableCollections" "EMPTY_LIST" "Ljava/util/ImmutableCollections$ListN;" (.ref aL)) :
    MetFree l own_y19 (head1 (Jvm.Cond.code own_y19 jdk_40_method_36_code 0 (some (.object "java/util/List")) :: ws) ({ frames := 0, cells := 0, slots := 0, locals := 0 } : Room)) (fun av_ U => av_ = #[] ∧ Z.Warmed39 U.vm ∧ U.heap = h0) (fun _ _ _ _ _ => True) (fun _ U o_ U' => ∃ v L, o_ = .returned v ∧ Q_lof0 Z aL h0 n0 v U'.heap L ∧ FrameEnd U o_ U' L ({ frames := 0, cells := 0, slots := 0, locals := 0 } : Room).cells ({ frames := 0, cells := 0, slots := 0, locals := 0 } : Room).slots) := by
  refine MetFree.of_bodySF (plainFor_of_name pn_9) hisR ?_
  intro p e s m args below meth c s₁ Bd hml0 hP hK
  obtain ⟨rfl, hZ, hh⟩ := hP
  have hx := Bd.exec
  have hby := Bd.bytes
  have hml : c.maxLocals = 0 := hml0
  have hown : s.vm.findClass "java/util/List" = some m.cls := findClass_of_methodNamed Bd.named
  have hnm := (name_of_methodNamed Bd.named Bd.method).1
  have hlk := own_lk Bd
  have hret := Bd.returns
  have X0 : Stand p l e ({ frames := 0, cells := 0, slots := 0, locals := 0 } : Room) s m #[] below meth c s₁ [] 0 0 := Stand.of_body Bd
  have e0 : s₁.heap = h0 := by rw [← hh, Bd.state]; rfl
  have N0 := Fr.nil n0
  show own_Goes p e below s (Q_lof0 Z aL h0 n0) ({ frames := 0, cells := 0, slots := 0, locals := 0 } : Room).cells ({ frames := 0, cells := 0, slots := 0, locals := 0 } : Room).slots (s₁.setTop (entryFrame m #[] 0))
  refine own_go (fun _ ww => castTop (ef_lof0 m aL) ww) ?_
  show own_Goes _ _ _ _ _ _ _ (s₁.setTop (mkF m 0 #[] []))
  obtain ⟨T118, X118, e118, st118⟩ := getS X0 hx hZ hown (host := "") (own_w hw 109 rfl) Via.refl e0 (SL.ext O0.2) (g := (mkF m 0 #[] [])) rfl (hb hby d17_0)
  refine own_go st118 ?_
  show own_Goes _ _ _ _ _ _ _ (T118.setTop (mkF m 3 #[] [(.ref aL)]))
  exact own_out X118 hlk (v := some (.ref aL)) (fun h => by rw [hret] at h; cases h) (fun fs hr => retOut X118 hx (t := (.object "java/util/List")) hret rfl (Or.inr (Or.inr (Or.inr (Or.inr ⟨rfl, rfl, rfl⟩)))) (hb hby d17_3) hr) e118 ⟨rfl, N0, rfl⟩ (by decide) (by decide)
theorem d16_0 : decode jdk_38_method_9_code 0 = .ok (.aload_n 0, 1) := by decide +kernel
theorem d16_1 : decode jdk_38_method_9_code 1 = .ok (.getfield 48, 3) := by decide +kernel
theorem d16_4 : decode jdk_38_method_9_code 4 = .ok (.ifCond .ne 7, 3) := by decide +kernel
theorem d16_7 : decode jdk_38_method_9_code 7 = .ok (.iconst 1, 1) := by decide +kernel
theorem d16_8 : decode jdk_38_method_9_code 8 = .ok (.goto 4, 3) := by decide +kernel
theorem d16_12 : decode jdk_38_method_9_code 12 = .ok (.ireturn, 1) := by decide +kernel
theorem ef_ise0 (m : MethodId) (a : Addr) : entryFrame m #[(.ref a)] 1 = mkF m 0 #[.val (.ref a)] [] := by
  first | (simp [entryFrame, mkF, argsToLocals, Value.category]; done) | rfl
def Q_ise0 (Z : State) (a : Addr) (h0 : Heap) (n0 : Nat) (v : Option Value) (h : Heap) (L : List Loc) : Prop := v = some (.int (1 : Int32)) ∧ Fr n0 L ∧ h = h0
set_option maxRecDepth 65536 in
set_option maxHeartbeats 40000000 in
theorem rm_ise0 (l : Launch) (Z : State) (a0 : Array Value) (hw : ∀ d ∈ tables_1, d.before a0 Z = true) (ws : List Jvm.Cond) (a : Addr) (h0 : Heap) (n0 : Nat) (O0 : Old Z n0 h0) (F2 : Fld Z h0 a "java/util/ArrayList" "size" "I" (.int (0 : Int32))) :
    MetFree l own_y20 (head1 (Jvm.Cond.code own_y20 jdk_38_method_9_code 1 (some .boolean) :: ws) ({ frames := 0, cells := 0, slots := 0, locals := 0 } : Room)) (fun av_ U => av_ = #[(.ref a)] ∧ Z.Warmed39 U.vm ∧ U.heap = h0) (fun _ _ _ _ _ => True) (fun _ U o_ U' => ∃ v L, o_ = .returned v ∧ Q_ise0 Z a h0 n0 v U'.heap L ∧ FrameEnd U o_ U' L ({ frames := 0, cells := 0, slots := 0, locals := 0 } : Room).cells ({ frames := 0, cells := 0, slots := 0, locals := 0 } : Room).slots) := by
  refine MetFree.of_bodySF (plainFor_of_name pn_5) hisR ?_
  intro p e s m args below meth c s₁ Bd hml0 hP hK
  obtain ⟨rfl, hZ, hh⟩ := hP
  have hx := Bd.exec
  have hby := Bd.bytes
  have hml : c.maxLocals = 1 := hml0
  have hown : s.vm.findClass "java/util/ArrayList" = some m.cls := findClass_of_methodNamed Bd.named
  have hnm := (name_of_methodNamed Bd.named Bd.method).1
  have hlk := own_lk Bd
  have hret := Bd.returns
  have X0 : Stand p l e ({ frames := 0, cells := 0, slots := 0, locals := 0 } : Room) s m #[(.ref a)] below meth c s₁ [] 0 0 := Stand.of_body Bd
  have e0 : s₁.heap = h0 := by rw [← hh, Bd.state]; rfl
  have N0 := Fr.nil n0
  show own_Goes p e below s (Q_ise0 Z a h0 n0) ({ frames := 0, cells := 0, slots := 0, locals := 0 } : Room).cells ({ frames := 0, cells := 0, slots := 0, locals := 0 } : Room).slots (s₁.setTop (entryFrame m #[(.ref a)] 1))
  refine own_go (fun _ ww => castTop (ef_ise0 m a) ww) ?_
  show own_Goes _ _ _ _ _ _ _ (s₁.setTop (mkF m 0 #[.val (.ref a)] []))
  refine own_go (fun _ ww => XS.aloadN X0.here hx rfl (hb hby d16_0) rfl rfl ww) ?_
  show own_Goes _ _ _ _ _ _ _ (s₁.setTop (mkF m 1 #[.val (.ref a)] [(.ref a)]))
  obtain ⟨T119, X119, e119, st119⟩ := getF X0 hx hZ hown (host := "") (Or.inl (own_w hw 104 rfl)) Via.refl e0 F2 (g := (mkF m 1 #[.val (.ref a)] [(.ref a)])) rfl rfl (hb hby d16_1)
  refine own_go st119 ?_
  show own_Goes _ _ _ _ _ _ _ (T119.setTop (mkF m 4 #[.val (.ref a)] [(.int (0 : Int32))]))
  refine own_go (fun _ ww => XS.ifNo X119.here hx rfl (hb hby d16_4) rfl (own_if .ne (teq (by decide : (0 : Int32) = (0 : Int32))).2) ww) ?_
  show own_Goes _ _ _ _ _ _ _ (T119.setTop (mkF m 7 #[.val (.ref a)] []))
  refine own_go (fun _ ww => XS.iconst X119.here hx rfl (hb hby d16_7) ww) ?_
  show own_Goes _ _ _ _ _ _ _ (T119.setTop (mkF m 8 #[.val (.ref a)] [(.int (1 : Int32))]))
  refine own_go (fun _ ww => XS.goto X119.here hx rfl (pc0 := 8) (pc' := 12) rfl (hb hby d16_8) (by decide) (by decide) ww) ?_
  show own_Goes _ _ _ _ _ _ _ (T119.setTop (mkF m 12 #[.val (.ref a)] [(.int (1 : Int32))]))
  exact own_out X119 hlk (v := some (.int (1 : Int32))) (fun h => by rw [hret] at h; cases h) (fun fs hr => retOut X119 hx (t := .boolean) hret (by decide) (Or.inl ⟨rfl, by simp, _, rfl⟩) (hb hby d16_12) hr) e119 ⟨rfl, N0, rfl⟩ (by decide) (by decide)
theorem d16_11 : decode jdk_38_method_9_code 11 = .ok (.iconst 0, 1) := by decide +kernel
theorem ef_ise1 (m : MethodId) (a : Addr) : entryFrame m #[(.ref a)] 1 = mkF m 0 #[.val (.ref a)] [] := by
  first | (simp [entryFrame, mkF, argsToLocals, Value.category]; done) | rfl
def Q_ise1 (Z : State) (a : Addr) (h0 : Heap) (n0 : Nat) (v : Option Value) (h : Heap) (L : List Loc) : Prop := v = some (.int (0 : Int32)) ∧ Fr n0 L ∧ h = h0
set_option maxRecDepth 65536 in
set_option maxHeartbeats 40000000 in
theorem rm_ise1 (l : Launch) (Z : State) (a0 : Array Value) (hw : ∀ d ∈ tables_1, d.before a0 Z = true) (ws : List Jvm.Cond) (a : Addr) (h0 : Heap) (n0 : Nat) (O0 : Old Z n0 h0) (F2 : Fld Z h0 a "java/util/ArrayList" "size" "I" (.int (1 : Int32))) :
    MetFree l own_y20 (head1 (Jvm.Cond.code own_y20 jdk_38_method_9_code 1 (some .boolean) :: ws) ({ frames := 0, cells := 0, slots := 0, locals := 0 } : Room)) (fun av_ U => av_ = #[(.ref a)] ∧ Z.Warmed39 U.vm ∧ U.heap = h0) (fun _ _ _ _ _ => True) (fun _ U o_ U' => ∃ v L, o_ = .returned v ∧ Q_ise1 Z a h0 n0 v U'.heap L ∧ FrameEnd U o_ U' L ({ frames := 0, cells := 0, slots := 0, locals := 0 } : Room).cells ({ frames := 0, cells := 0, slots := 0, locals := 0 } : Room).slots) := by
  refine MetFree.of_bodySF (plainFor_of_name pn_5) hisR ?_
  intro p e s m args below meth c s₁ Bd hml0 hP hK
  obtain ⟨rfl, hZ, hh⟩ := hP
  have hx := Bd.exec
  have hby := Bd.bytes
  have hml : c.maxLocals = 1 := hml0
  have hown : s.vm.findClass "java/util/ArrayList" = some m.cls := findClass_of_methodNamed Bd.named
  have hnm := (name_of_methodNamed Bd.named Bd.method).1
  have hlk := own_lk Bd
  have hret := Bd.returns
  have X0 : Stand p l e ({ frames := 0, cells := 0, slots := 0, locals := 0 } : Room) s m #[(.ref a)] below meth c s₁ [] 0 0 := Stand.of_body Bd
  have e0 : s₁.heap = h0 := by rw [← hh, Bd.state]; rfl
  have N0 := Fr.nil n0
  show own_Goes p e below s (Q_ise1 Z a h0 n0) ({ frames := 0, cells := 0, slots := 0, locals := 0 } : Room).cells ({ frames := 0, cells := 0, slots := 0, locals := 0 } : Room).slots (s₁.setTop (entryFrame m #[(.ref a)] 1))
  refine own_go (fun _ ww => castTop (ef_ise1 m a) ww) ?_
  show own_Goes _ _ _ _ _ _ _ (s₁.setTop (mkF m 0 #[.val (.ref a)] []))
  refine own_go (fun _ ww => XS.aloadN X0.here hx rfl (hb hby d16_0) rfl rfl ww) ?_
  show own_Goes _ _ _ _ _ _ _ (s₁.setTop (mkF m 1 #[.val (.ref a)] [(.ref a)]))
  obtain ⟨T120, X120, e120, st120⟩ := getF X0 hx hZ hown (host := "") (Or.inl (own_w hw 104 rfl)) Via.refl e0 F2 (g := (mkF m 1 #[.val (.ref a)] [(.ref a)])) rfl rfl (hb hby d16_1)
  refine own_go st120 ?_
  show own_Goes _ _ _ _ _ _ _ (T120.setTop (mkF m 4 #[.val (.ref a)] [(.int (1 : Int32))]))
  refine own_go (fun _ ww => XS.ifYes X120.here hx rfl (pc0 := 4) (pc' := 11) rfl (hb hby d16_4) rfl (own_if .ne (feq (by decide : ¬ ((1 : Int32) = (0 : Int32)))).2) (by decide) (by decide) ww) ?_
  show own_Goes _ _ _ _ _ _ _ (T120.setTop (mkF m 11 #[.val (.ref a)] []))
  refine own_go (fun _ ww => XS.iconst X120.here hx rfl (hb hby d16_11) ww) ?_
  show own_Goes _ _ _ _ _ _ _ (T120.setTop (mkF m 12 #[.val (.ref a)] [(.int (0 : Int32))]))
  exact own_out X120 hlk (v := some (.int (0 : Int32))) (fun h => by rw [hret] at h; cases h) (fun fs hr => retOut X120 hx (t := .boolean) hret (by decide) (Or.inl ⟨rfl, by simp, _, rfl⟩) (hb hby d16_12) hr) e120 ⟨rfl, N0, rfl⟩ (by decide) (by decide)
theorem d15_0 : decode jdk_56_method_3_code 0 = .ok (.aload_n 0, 1) := by decide +kernel
theorem d15_1 : decode jdk_56_method_3_code 1 = .ok (.instanceof 10, 3) := by decide +kernel
theorem d15_4 : decode jdk_56_method_3_code 4 = .ok (.ifCond .ne 22, 3) := by decide +kernel
theorem d15_7 : decode jdk_56_method_3_code 7 = .ok (.aload_n 0, 1) := by decide +kernel
theorem d15_8 : decode jdk_56_method_3_code 8 = .ok (.instanceof 12, 3) := by decide +kernel
theorem d15_11 : decode jdk_56_method_3_code 11 = .ok (.ifCond .eq 20, 3) := by decide +kernel
theorem d15_31 : decode jdk_56_method_3_code 31 = .ok (.aload_n 0, 1) := by decide +kernel
theorem d15_32 : decode jdk_56_method_3_code 32 = .ok (.invokeinterface 20 1, 5) := by decide +kernel
theorem d15_37 : decode jdk_56_method_3_code 37 = .ok (.ifCond .eq 7, 3) := by decide +kernel
theorem d15_40 : decode jdk_56_method_3_code 40 = .ok (.invokestatic 26, 3) := by decide +kernel
theorem d15_43 : decode jdk_56_method_3_code 43 = .ok (.areturn, 1) := by decide +kernel
theorem ef_lc_e (m : MethodId) (a : Addr) (aL : Addr) : entryFrame m #[(.ref a)] 2 = mkF m 0 #[.val (.ref a), .unset] [] := by
  first | (simp [entryFrame, mkF, argsToLocals, Value.category]; done) | rfl
def Q_lc_e (Z : State) (a : Addr) (aL : Addr) (h0 : Heap) (n0 : Nat) (v : Option Value) (h : Heap) (L : List Loc) : Prop := v = some (.ref aL) ∧ Fr n0 L ∧ h = h0
set_option maxRecDepth 65536 in
set_option maxHeartbeats 40000000 in
theorem rm_lc_e (l : Launch) (Z : State) (a0 : Array Value) (hw : ∀ d ∈ tables_1, d.before a0 Z = true) (ws : List Jvm.Cond) (a : Addr) (aL : Addr) (h0 : Heap) (n0 : Nat) (O0 : Old Z n0 h0) (F2 : Fld Z h0 a "java/util/ArrayList" "size" "I" (.int (0 : Int32))) (Ea : Exa Z h0 a "java/util/ArrayList") (SL : Sta Z Z.heap "java/util/ImmutableCollections" "EMPTY_LIST" "Ljava/util/ImmutableCollections$ListN;" (.ref aL)) :
    MetFree l own_y22 (head1 (Jvm.Cond.code own_y22 jdk_56_method_3_code 2 (some (.object "java/util/List")) :: ws) ({ frames := 1, cells := 0, slots := 0, locals := 12 } : Room)) (fun av_ U => av_ = #[(.ref a)] ∧ Z.Warmed39 U.vm ∧ U.heap = h0) (fun _ _ _ _ _ => True) (fun _ U o_ U' => ∃ v L, o_ = .returned v ∧ Q_lc_e Z a aL h0 n0 v U'.heap L ∧ FrameEnd U o_ U' L ({ frames := 1, cells := 0, slots := 0, locals := 12 } : Room).cells ({ frames := 1, cells := 0, slots := 0, locals := 12 } : Room).slots) := by
  refine MetFree.of_bodySF (plainFor_of_name pn_10) hisR ?_
  intro p e s m args below meth c s₁ Bd hml0 hP hK
  obtain ⟨rfl, hZ, hh⟩ := hP
  have hx := Bd.exec
  have hby := Bd.bytes
  have hml : c.maxLocals = 2 := hml0
  have hown : s.vm.findClass "java/util/ImmutableCollections" = some m.cls := findClass_of_methodNamed Bd.named
  have hnm := (name_of_methodNamed Bd.named Bd.method).1
  have hlk := own_lk Bd
  have hret := Bd.returns
  have X0 : Stand p l e ({ frames := 1, cells := 0, slots := 0, locals := 12 } : Room) s m #[(.ref a)] below meth c s₁ [] 0 0 := Stand.of_body Bd
  have e0 : s₁.heap = h0 := by rw [← hh, Bd.state]; rfl
  have N0 := Fr.nil n0
  show own_Goes p e below s (Q_lc_e Z a aL h0 n0) ({ frames := 1, cells := 0, slots := 0, locals := 12 } : Room).cells ({ frames := 1, cells := 0, slots := 0, locals := 12 } : Room).slots (s₁.setTop (entryFrame m #[(.ref a)] 2))
  refine own_go (fun _ ww => castTop (ef_lc_e m a aL) ww) ?_
  show own_Goes _ _ _ _ _ _ _ (s₁.setTop (mkF m 0 #[.val (.ref a), .unset] []))
  refine own_go (fun _ ww => XS.aloadN X0.here hx rfl (hb hby d15_0) rfl rfl ww) ?_
  show own_Goes _ _ _ _ _ _ _ (s₁.setTop (mkF m 1 #[.val (.ref a), .unset] [(.ref a)]))
  obtain ⟨T121, X121, e121, st121⟩ := instNo X0 hx hZ hown (own_w hw 89 rfl) e0 Ea (own_noI (own_w hw 90 rfl) (own_w hw 228 rfl) (NS.step (own_w hw 90 rfl) (NS.step (own_w hw 91 rfl) (NS.step (own_w hw 92 rfl) (own_rootI (own_w hw 93 rfl) (own_w hw 228 rfl) (by decide)) (by decide)) (by decide)) (by decide)) (by decide)) (g := (mkF m 1 #[.val (.ref a), .unset] [(.ref a)])) rfl rfl (hb hby d15_1)
  refine own_go st121 ?_
  show own_Goes _ _ _ _ _ _ _ (T121.setTop (mkF m 4 #[.val (.ref a), .unset] [(.int (0 : Int32))]))
  refine own_go (fun _ ww => XS.ifNo X121.here hx rfl (hb hby d15_4) rfl (own_if .ne (teq (by decide : (0 : Int32) = (0 : Int32))).2) ww) ?_
  show own_Goes _ _ _ _ _ _ _ (T121.setTop (mkF m 7 #[.val (.ref a), .unset] []))
  refine own_go (fun _ ww => XS.aloadN X121.here hx rfl (hb hby d15_7) rfl rfl ww) ?_
  show own_Goes _ _ _ _ _ _ _ (T121.setTop (mkF m 8 #[.val (.ref a), .unset] [(.ref a)]))
  obtain ⟨T122, X122, e122, st122⟩ := instNo X121 hx hZ hown (own_w hw 94 rfl) e121 Ea (NS.no (own_w hw 90 rfl) (own_w hw 152 rfl) (NS.step (own_w hw 90 rfl) (NS.step (own_w hw 91 rfl) (NS.step (own_w hw 92 rfl) (NS.root (own_w hw 93 rfl) (own_w hw 152 rfl) (by decide)) (by decide)) (by decide)) (by decide)) (by decide)) (g := (mkF m 8 #[.val (.ref a), .unset] [(.ref a)])) rfl rfl (hb hby d15_8)
  refine own_go st122 ?_
  show own_Goes _ _ _ _ _ _ _ (T122.setTop (mkF m 11 #[.val (.ref a), .unset] [(.int (0 : Int32))]))
  refine own_go (fun _ ww => XS.ifYes X122.here hx rfl (pc0 := 11) (pc' := 31) rfl (hb hby d15_11) rfl (own_if .eq (teq (by decide : (0 : Int32) = (0 : Int32))).1) (by decide) (by decide) ww) ?_
  show own_Goes _ _ _ _ _ _ _ (T122.setTop (mkF m 31 #[.val (.ref a), .unset] []))
  refine own_go (fun _ ww => XS.aloadN X122.here hx rfl (hb hby d15_31) rfl rfl ww) ?_
  show own_Goes _ _ _ _ _ _ _ (T122.setTop (mkF m 32 #[.val (.ref a), .unset] [(.ref a)]))
  obtain ⟨cq123, kq123, q123a, q123b, q123c⟩ := isOf hZ e122 Ea
  obtain ⟨_, _, ⟨T123, L123, k123, n123⟩, -, X123, ⟨Lc123, hQ123, l123, y123, z123⟩, st123⟩ := X122.interfaceBack hx (xi := own_y21) (y := own_y20) hown (mvT hZ (own_w hw 95 rfl)) (mvT hZ (own_w hw 96 rfl)) (mvT hZ (own_w hw 97 rfl)) (mvT hZ (own_w hw 98 rfl)) (mvT hZ (own_w hw 99 rfl)) (mvT hZ (own_w hw 100 rfl)) (mvT hZ (own_w hw 101 rfl)) (mvT hZ (own_w hw 102 rfl)) (by decide) (backOf (W := 0) (rm_ise0 l Z a0 hw [] a h0 n0 O0 F2) hZ (own_w hw 103 rfl) (own_w hw 35 rfl) (by decide) (by decide)) q123a q123b q123c (g := (mkF m 32 #[.val (.ref a), .unset] [(.ref a)])) rfl (by rw [hml]; rfl) (Steps.refl _) (argsL := []) (rest := []) (lenOf pd_9 rfl) rfl (by show 2 * 0 + _ ≤ _; exact Nat.le_of_eq rfl) (hb hby d15_32) (fun _ _ => ⟨rfl, e122, (by decide : 0 + 0 ≤ _), (by decide : 0 + 0 ≤ _)⟩)
  dsimp only [Pt.U, Pt.locs, Pt.cells, Pt.slots] at X123 l123 y123 z123 st123 hQ123
  subst l123 y123 z123
  obtain ⟨rfl, N123q, e123⟩ := hQ123
  have N123 := Fr.app N0 N123q
  refine own_go (fun _ ww => Steps.trans st123 ww) ?_
  show own_Goes _ _ _ _ _ _ _ (T123.setTop (mkF m 37 #[.val (.ref a), .unset] [(.int (1 : Int32))]))
  refine own_go (fun _ ww => XS.ifNo X123.here hx rfl (hb hby d15_37) rfl (own_if .eq (feq (by decide : ¬ ((1 : Int32) = (0 : Int32)))).1) ww) ?_
  show own_Goes _ _ _ _ _ _ _ (T123.setTop (mkF m 40 #[.val (.ref a), .unset] []))
  obtain ⟨_, _, ⟨T124, L124, k124, n124⟩, -, X124, ⟨Lc124, hQ124, l124, y124, z124⟩, st124⟩ := Jvm.LawKit.callS X123 hx (y := own_y19) hown (mvT hZ (own_w hw 106 rfl)) (mvT hZ (own_w hw 107 rfl)) (mvT hZ (own_w hw 84 rfl)) (mvT hZ (own_w hw 108 rfl)) (by decide) (backOf (W := 0) (rm_lof0 l Z a0 hw [] aL h0 n0 O0 SL) hZ (own_w hw 108 rfl) (own_w hw 84 rfl) (by decide) (by decide)) (g := (mkF m 40 #[.val (.ref a), .unset] [])) rfl (by rw [hml]; rfl) (argsL := []) (rest := []) (lenOf pd_10 rfl) rfl (by show 2 * 0 + _ ≤ _; exact Nat.le_of_eq rfl) (hb hby d15_40) (fun _ _ => ⟨rfl, e123, (by decide : 0 + 0 ≤ _), (by decide : 0 + 0 ≤ _)⟩)
  dsimp only [Pt.U, Pt.locs, Pt.cells, Pt.slots] at X124 l124 y124 z124 st124 hQ124
  subst l124 y124 z124
  obtain ⟨rfl, N124q, e124⟩ := hQ124
  have N124 := Fr.app N123 N124q
  refine own_go st124 ?_
  show own_Goes _ _ _ _ _ _ _ (T124.setTop (mkF m 43 #[.val (.ref a), .unset] [(.ref aL)]))
  exact own_out X124 hlk (v := some (.ref aL)) (fun h => by rw [hret] at h; cases h) (fun fs hr => retOut X124 hx (t := (.object "java/util/List")) hret rfl (Or.inr (Or.inr (Or.inr (Or.inr ⟨rfl, rfl, rfl⟩)))) (hb hby d15_43) hr) e124 ⟨rfl, N124, rfl⟩ (by decide) (by decide)
theorem d14_0 : decode jdk_40_method_48_code 0 = .ok (.aload_n 0, 1) := by decide +kernel
theorem d14_1 : decode jdk_40_method_48_code 1 = .ok (.invokestatic 112, 3) := by decide +kernel
theorem d14_4 : decode jdk_40_method_48_code 4 = .ok (.areturn, 1) := by decide +kernel
theorem ef_co_e (m : MethodId) (a : Addr) (aL : Addr) : entryFrame m #[(.ref a)] 1 = mkF m 0 #[.val (.ref a)] [] := by
  first | (simp [entryFrame, mkF, argsToLocals, Value.category]; done) | rfl
def Q_co_e (Z : State) (a : Addr) (aL : Addr) (h0 : Heap) (n0 : Nat) (v : Option Value) (h : Heap) (L : List Loc) : Prop := v = some (.ref aL) ∧ Fr n0 L ∧ h = h0
set_option maxRecDepth 65536 in
set_option maxHeartbeats 40000000 in
theorem rm_co_e (l : Launch) (Z : State) (a0 : Array Value) (hw : ∀ d ∈ tables_1, d.before a0 Z = true) (ws : List Jvm.Cond) (a : Addr) (aL : Addr) (h0 : Heap) (n0 : Nat) (O0 : Old Z n0 h0) (F2 : Fld Z h0 a "java/util/ArrayList" "size" "I" (.int (0 : Int32))) (Ea : Exa Z h0 a "java/util/ArrayList") (SL : Sta Z Z.heap "java/util/ImmutableCollections" "EMPTY_LIST" "Ljava/util/ImmutableCollections$ListN;" (.ref aL)) :
    MetFree l own_y23 (head1 (Jvm.Cond.code own_y23 jdk_40_method_48_code 1 (some (.object "java/util/List")) :: ws) ({ frames := 2, cells := 0, slots := 0, locals := 25 } : Room)) (fun av_ U => av_ = #[(.ref a)] ∧ Z.Warmed39 U.vm ∧ U.heap = h0) (fun _ _ _ _ _ => True) (fun _ U o_ U' => ∃ v L, o_ = .returned v ∧ Q_co_e Z a aL h0 n0 v U'.heap L ∧ FrameEnd U o_ U' L ({ frames := 2, cells := 0, slots := 0, locals := 25 } : Room).cells ({ frames := 2, cells := 0, slots := 0, locals := 25 } : Room).slots) := by
  refine MetFree.of_bodySF (plainFor_of_name pn_9) hisR ?_
  intro p e s m args below meth c s₁ Bd hml0 hP hK
  obtain ⟨rfl, hZ, hh⟩ := hP
  have hx := Bd.exec
  have hby := Bd.bytes
  have hml : c.maxLocals = 1 := hml0
  have hown : s.vm.findClass "java/util/List" = some m.cls := findClass_of_methodNamed Bd.named
  have hnm := (name_of_methodNamed Bd.named Bd.method).1
  have hlk := own_lk Bd
  have hret := Bd.returns
  have X0 : Stand p l e ({ frames := 2, cells := 0, slots := 0, locals := 25 } : Room) s m #[(.ref a)] below meth c s₁ [] 0 0 := Stand.of_body Bd
  have e0 : s₁.heap = h0 := by rw [← hh, Bd.state]; rfl
  have N0 := Fr.nil n0
  show own_Goes p e below s (Q_co_e Z a aL h0 n0) ({ frames := 2, cells := 0, slots := 0, locals := 25 } : Room).cells ({ frames := 2, cells := 0, slots := 0, locals := 25 } : Room).slots (s₁.setTop (entryFrame m #[(.ref a)] 1))
  refine own_go (fun _ ww => castTop (ef_co_e m a aL) ww) ?_
  show own_Goes _ _ _ _ _ _ _ (s₁.setTop (mkF m 0 #[.val (.ref a)] []))
  refine own_go (fun _ ww => XS.aloadN X0.here hx rfl (hb hby d14_0) rfl rfl ww) ?_
  show own_Goes _ _ _ _ _ _ _ (s₁.setTop (mkF m 1 #[.val (.ref a)] [(.ref a)]))
  obtain ⟨_, _, ⟨T125, L125, k125, n125⟩, -, X125, ⟨Lc125, hQ125, l125, y125, z125⟩, st125⟩ := Jvm.LawKit.callS X0 hx (y := own_y22) hown (mvT hZ (own_w hw 86 rfl)) (mvT hZ (own_w hw 87 rfl)) (mvT hZ (own_w hw 62 rfl)) (mvT hZ (own_w hw 88 rfl)) (by decide) (backOf (W := 0) (rm_lc_e l Z a0 hw [] a aL h0 n0 O0 F2 Ea SL) hZ (own_w hw 88 rfl) (own_w hw 62 rfl) (by decide) (by decide)) (g := (mkF m 1 #[.val (.ref a)] [(.ref a)])) rfl (by rw [hml]; rfl) (argsL := [(.ref a)]) (rest := []) (lenOf pd_11 rfl) rfl (by show 2 * 0 + _ ≤ _; exact Nat.le_of_eq rfl) (hb hby d14_1) (fun _ _ => ⟨rfl, e0, (by decide : 0 + 0 ≤ _), (by decide : 0 + 0 ≤ _)⟩)
  dsimp only [Pt.U, Pt.locs, Pt.cells, Pt.slots] at X125 l125 y125 z125 st125 hQ125
  subst l125 y125 z125
  obtain ⟨rfl, N125q, e125⟩ := hQ125
  have N125 := Fr.app N0 N125q
  refine own_go st125 ?_
  show own_Goes _ _ _ _ _ _ _ (T125.setTop (mkF m 4 #[.val (.ref a)] [(.ref aL)]))
  exact own_out X125 hlk (v := some (.ref aL)) (fun h => by rw [hret] at h; cases h) (fun fs hr => retOut X125 hx (t := (.object "java/util/List")) hret rfl (Or.inr (Or.inr (Or.inr (Or.inr ⟨rfl, rfl, rfl⟩)))) (hb hby d14_4) hr) e125 ⟨rfl, N125, rfl⟩ (by decide) (by decide)
theorem d15_44 : decode jdk_56_method_3_code 44 = .ok (.aload_n 0, 1) := by decide +kernel
theorem d15_45 : decode jdk_56_method_3_code 45 = .ok (.invokeinterface 30 1, 5) := by decide +kernel
theorem d15_50 : decode jdk_56_method_3_code 50 = .ok (.invokestatic 34, 3) := by decide +kernel
theorem d15_53 : decode jdk_56_method_3_code 53 = .ok (.areturn, 1) := by decide +kernel
theorem ef_lc_n (m : MethodId) (a : Addr) (t : Addr) (kk : ClassId) (e_ : Addr) (mr : Addr) (aX : Addr) : entryFrame m #[(.ref a)] 2 = mkF m 0 #[.val (.ref a), .unset] [] := by
  first | (simp [entryFrame, mkF, argsToLocals, Value.category]; done) | rfl
def Q_lc_n (Z : State) (a : Addr) (t : Addr) (kk : ClassId) (e_ : Addr) (mr : Addr) (aX : Addr) (h0 : Heap) (n0 : Nat) (v : Option Value) (h : Heap) (L : List Loc) : Prop := ∃ r : Addr, v = some (.ref r) ∧ Fr n0 L ∧ h0.size ≤ r ∧ Keep h0 h [] ∧ Exa Z h r "java/util/ImmutableCollections$List12"
set_option maxRecDepth 65536 in
set_option maxHeartbeats 40000000 in
theorem rm_lc_n (l : Launch) (Z : State) (a0 : Array Value) (hw : ∀ d ∈ tables_1, d.before a0 Z = true) (ws : List Jvm.Cond) (a : Addr) (t : Addr) (kk : ClassId) (e_ : Addr) (mr : Addr) (aX : Addr) (h0 : Heap) (n0 : Nat) (O0 : Old Z n0 h0) (F1 : Fld Z h0 a "java/util/ArrayList" "elementData" "[Ljava/lang/Object;" (.ref t)) (F2 : Fld Z h0 a "java/util/ArrayList" "size" "I" (.int (1 : Int32))) (Ea : Exa Z h0 a "java/util/ArrayList") (Vt : Arv Z h0 t kk (.object "java/lang/Object") (10 : Int32) [(.ref e_), .null, .null, .null, .null, .null, .null, .null, .null, .null] .null) (Et : Exa Z h0 t "[Ljava/lang/Object;") (Ee : Exa Z h0 e_ "com/example/navlint/navlint/model/Entry") (MK : Mir Z "[Ljava/lang/Object;" mr) (SX : Sta Z Z.heap "java/util/ImmutableCollections" "EMPTY" "Ljava/lang/Object;" (.ref aX)) :
    MetFree l own_y22 (head1 (Jvm.Cond.code own_y22 jdk_56_method_3_code 2 (some (.object "java/util/List")) :: ws) ({ frames := 6, cells := 2, slots := 3, locals := 80 } : Room)) (fun av_ U => av_ = #[(.ref a)] ∧ Z.Warmed39 U.vm ∧ U.heap = h0) (fun _ _ _ _ _ => True) (fun _ U o_ U' => ∃ v L, o_ = .returned v ∧ Q_lc_n Z a t kk e_ mr aX h0 n0 v U'.heap L ∧ FrameEnd U o_ U' L ({ frames := 6, cells := 2, slots := 3, locals := 80 } : Room).cells ({ frames := 6, cells := 2, slots := 3, locals := 80 } : Room).slots) := by
  refine MetFree.of_bodySF (plainFor_of_name pn_10) hisR ?_
  intro p e s m args below meth c s₁ Bd hml0 hP hK
  obtain ⟨rfl, hZ, hh⟩ := hP
  have hx := Bd.exec
  have hby := Bd.bytes
  have hml : c.maxLocals = 2 := hml0
  have hown : s.vm.findClass "java/util/ImmutableCollections" = some m.cls := findClass_of_methodNamed Bd.named
  have hnm := (name_of_methodNamed Bd.named Bd.method).1
  have hlk := own_lk Bd
  have hret := Bd.returns
  have X0 : Stand p l e ({ frames := 6, cells := 2, slots := 3, locals := 80 } : Room) s m #[(.ref a)] below meth c s₁ [] 0 0 := Stand.of_body Bd
  have e0 : s₁.heap = h0 := by rw [← hh, Bd.state]; rfl
  have N0 := Fr.nil n0
  show own_Goes p e below s (Q_lc_n Z a t kk e_ mr aX h0 n0) ({ frames := 6, cells := 2, slots := 3, locals := 80 } : Room).cells ({ frames := 6, cells := 2, slots := 3, locals := 80 } : Room).slots (s₁.setTop (entryFrame m #[(.ref a)] 2))
  refine own_go (fun _ ww => castTop (ef_lc_n m a t kk e_ mr aX) ww) ?_
  show own_Goes _ _ _ _ _ _ _ (s₁.setTop (mkF m 0 #[.val (.ref a), .unset] []))
  refine own_go (fun _ ww => XS.aloadN X0.here hx rfl (hb hby d15_0) rfl rfl ww) ?_
  show own_Goes _ _ _ _ _ _ _ (s₁.setTop (mkF m 1 #[.val (.ref a), .unset] [(.ref a)]))
  obtain ⟨T126, X126, e126, st126⟩ := instNo X0 hx hZ hown (own_w hw 89 rfl) e0 Ea (own_noI (own_w hw 90 rfl) (own_w hw 228 rfl) (NS.step (own_w hw 90 rfl) (NS.step (own_w hw 91 rfl) (NS.step (own_w hw 92 rfl) (own_rootI (own_w hw 93 rfl) (own_w hw 228 rfl) (by decide)) (by decide)) (by decide)) (by decide)) (by decide)) (g := (mkF m 1 #[.val (.ref a), .unset] [(.ref a)])) rfl rfl (hb hby d15_1)
  refine own_go st126 ?_
  show own_Goes _ _ _ _ _ _ _ (T126.setTop (mkF m 4 #[.val (.ref a), .unset] [(.int (0 : Int32))]))
  refine own_go (fun _ ww => XS.ifNo X126.here hx rfl (hb hby d15_4) rfl (own_if .ne (teq (by decide : (0 : Int32) = (0 : Int32))).2) ww) ?_
  show own_Goes _ _ _ _ _ _ _ (T126.setTop (mkF m 7 #[.val (.ref a), .unset] []))
  refine own_go (fun _ ww => XS.aloadN X126.here hx rfl (hb hby d15_7) rfl rfl ww) ?_
  show own_Goes _ _ _ _ _ _ _ (T126.setTop (mkF m 8 #[.val (.ref a), .unset] [(.ref a)]))
  obtain ⟨T127, X127, e127, st127⟩ := instNo X126 hx hZ hown (own_w hw 94 rfl) e126 Ea (NS.no (own_w hw 90 rfl) (own_w hw 152 rfl) (NS.step (own_w hw 90 rfl) (NS.step (own_w hw 91 rfl) (NS.step (own_w hw 92 rfl) (NS.root (own_w hw 93 rfl) (own_w hw 152 rfl) (by decide)) (by decide)) (by decide)) (by decide)) (by decide)) (g := (mkF m 8 #[.val (.ref a), .unset] [(.ref a)])) rfl rfl (hb hby d15_8)
  refine own_go st127 ?_
  show own_Goes _ _ _ _ _ _ _ (T127.setTop (mkF m 11 #[.val (.ref a), .unset] [(.int (0 : Int32))]))
  refine own_go (fun _ ww => XS.ifYes X127.here hx rfl (pc0 := 11) (pc' := 31) rfl (hb hby d15_11) rfl (own_if .eq (teq (by decide : (0 : Int32) = (0 : Int32))).1) (by decide) (by decide) ww) ?_
  show own_Goes _ _ _ _ _ _ _ (T127.setTop (mkF m 31 #[.val (.ref a), .unset] []))
  refine own_go (fun _ ww => XS.aloadN X127.here hx rfl (hb hby d15_31) rfl rfl ww) ?_
  show own_Goes _ _ _ _ _ _ _ (T127.setTop (mkF m 32 #[.val (.ref a), .unset] [(.ref a)]))
  obtain ⟨cq128, kq128, q128a, q128b, q128c⟩ := isOf hZ e127 Ea
  obtain ⟨_, _, ⟨T128, L128, k128, n128⟩, -, X128, ⟨Lc128, hQ128, l128, y128, z128⟩, st128⟩ := X127.interfaceBack hx (xi := own_y21) (y := own_y20) hown (mvT hZ (own_w hw 95 rfl)) (mvT hZ (own_w hw 96 rfl)) (mvT hZ (own_w hw 97 rfl)) (mvT hZ (own_w hw 98 rfl)) (mvT hZ (own_w hw 99 rfl)) (mvT hZ (own_w hw 100 rfl)) (mvT hZ (own_w hw 101 rfl)) (mvT hZ (own_w hw 102 rfl)) (by decide) (backOf (W := 0) (rm_ise1 l Z a0 hw [] a h0 n0 O0 F2) hZ (own_w hw 103 rfl) (own_w hw 35 rfl) (by decide) (by decide)) q128a q128b q128c (g := (mkF m 32 #[.val (.ref a), .unset] [(.ref a)])) rfl (by rw [hml]; rfl) (Steps.refl _) (argsL := []) (rest := []) (lenOf pd_9 rfl) rfl (by show 2 * 0 + _ ≤ _; exact Nat.le_of_eq rfl) (hb hby d15_32) (fun _ _ => ⟨rfl, e127, (by decide : 0 + 0 ≤ _), (by decide : 0 + 0 ≤ _)⟩)
  dsimp only [Pt.U, Pt.locs, Pt.cells, Pt.slots] at X128 l128 y128 z128 st128 hQ128
  subst l128 y128 z128
  obtain ⟨rfl, N128q, e128⟩ := hQ128
  have N128 := Fr.app N0 N128q
  refine own_go (fun _ ww => Steps.trans st128 ww) ?_
  show own_Goes _ _ _ _ _ _ _ (T128.setTop (mkF m 37 #[.val (.ref a), .unset] [(.int (0 : Int32))]))
  refine own_go (fun _ ww => XS.ifYes X128.here hx rfl (pc0 := 37) (pc' := 44) rfl (hb hby d15_37) rfl (own_if .eq (teq (by decide : (0 : Int32) = (0 : Int32))).1) (by decide) (by decide) ww) ?_
  show own_Goes _ _ _ _ _ _ _ (T128.setTop (mkF m 44 #[.val (.ref a), .unset] []))
  refine own_go (fun _ ww => XS.aloadN X128.here hx rfl (hb hby d15_44) rfl rfl ww) ?_
  show own_Goes _ _ _ _ _ _ _ (T128.setTop (mkF m 45 #[.val (.ref a), .unset] [(.ref a)]))
  obtain ⟨cq129, kq129, q129a, q129b, q129c⟩ := isOf hZ e128 Ea
  obtain ⟨_, _, ⟨T129, L129, k129, n129⟩, -, X129, ⟨Lc129, hQ129, l129, y129, z129⟩, st129⟩ := X128.interfaceBack hx (xi := own_y24) (y := own_y14) hown (mvT hZ (own_w hw 194 rfl)) (mvT hZ (own_w hw 195 rfl)) (mvT hZ (own_w hw 196 rfl)) (mvT hZ (own_w hw 197 rfl)) (mvT hZ (own_w hw 198 rfl)) (mvT hZ (own_w hw 199 rfl)) (mvT hZ (own_w hw 200 rfl)) (mvT hZ (own_w hw 102 rfl)) (by decide) (backOf (W := 0) (rm_toarr l Z a0 hw [] a t kk e_ mr h0 n0 O0 F1 F2 Ea Vt Et Ee MK) hZ (own_w hw 201 rfl) (own_w hw 35 rfl) (by decide) (by decide)) q129a q129b q129c (g := (mkF m 45 #[.val (.ref a), .unset] [(.ref a)])) rfl (by rw [hml]; rfl) (Steps.refl _) (argsL := []) (rest := []) (lenOf pd_3 rfl) rfl (by show 2 * 0 + _ ≤ _; exact Nat.le_of_eq rfl) (hb hby d15_45) (fun _ _ => ⟨rfl, e128, (by decide : 0 + 1 ≤ _), (by decide : 0 + 1 ≤ _)⟩)
  dsimp only [Pt.U, Pt.locs, Pt.cells, Pt.slots] at X129 l129 y129 z129 st129 hQ129
  subst l129 y129 z129
  obtain ⟨b129, kb129, rfl, N129q, B129, K129q, V129q⟩ := hQ129
  have N129 := Fr.app N128 N129q
  have ne_a_b129 : a ≠ b129 := Nat.ne_of_lt (Nat.lt_of_lt_of_le F1.lt B129)
  have ne_t_b129 : t ≠ b129 := Nat.ne_of_lt (Nat.lt_of_lt_of_le Vt.lt B129)
  have ne_e__b129 : e_ ≠ b129 := Nat.ne_of_lt (Nat.lt_of_lt_of_le Ee.lt B129)
  have g_b129 : n0 ≤ b129 := Nat.le_trans (O0.1 ▸ O0.2.1) B129
  have sz_b129 : h0.size ≤ b129 := Nat.le_trans (own_ks (Keep.refl h0 [])) B129
  have f130 := (F1.keep K129q nin0)
  have f131 := (F2.keep K129q nin0)
  have f132 := (Ea.keep K129q)
  have f133 : Arv Z T129.heap t kk (.object "java/lang/Object") (10 : Int32) [(.ref e_), .null, .null, .null, .null, .null, .null, .null, .null, .null] .null := (Vt.keep K129q nin0)
  have f134 := (Et.keep K129q)
  have f135 := (Ee.keep K129q)
  have O129 := O0.keep K129q all0
  have K129 := (Keep.refl h0 []).trans K129q all0
  refine own_go (fun _ ww => Steps.trans st129 ww) ?_
  show own_Goes _ _ _ _ _ _ _ (T129.setTop (mkF m 50 #[.val (.ref a), .unset] [(.ref b129)]))
  obtain ⟨_, _, ⟨T136, L136, k136, n136⟩, -, X136, ⟨Lc136, hQ136, l136, y136, z136⟩, st136⟩ := Jvm.LawKit.callS X129 hx (y := own_y18) hown (mvT hZ (own_w hw 224 rfl)) (mvT hZ (own_w hw 225 rfl)) (mvT hZ (own_w hw 84 rfl)) (mvT hZ (own_w hw 226 rfl)) (by decide) (backOf (W := 0) (rm_lofa l Z a0 hw [] b129 kb129 e_ aX T129.heap n0 O129 V129q SX) hZ (own_w hw 226 rfl) (own_w hw 84 rfl) (by decide) (by decide)) (g := (mkF m 50 #[.val (.ref a), .unset] [(.ref b129)])) rfl (by rw [hml]; rfl) (argsL := [(.ref b129)]) (rest := []) (lenOf pd_12 rfl) rfl (by show 2 * 0 + _ ≤ _; exact Nat.le_of_eq rfl) (hb hby d15_50) (fun _ _ => ⟨rfl, rfl, (by decide : 1 + 1 ≤ _), (by decide : 1 + 2 ≤ _)⟩)
  dsimp only [Pt.U, Pt.locs, Pt.cells, Pt.slots] at X136 l136 y136 z136 st136 hQ136
  subst l136 y136 z136
  obtain ⟨r136, rfl, N136q, B136, K136q, E136q⟩ := hQ136
  have N136 := Fr.app N129 N136q
  have ne_a_r136 : a ≠ r136 := Nat.ne_of_lt (Nat.lt_of_lt_of_le f130.lt B136)
  have ne_t_r136 : t ≠ r136 := Nat.ne_of_lt (Nat.lt_of_lt_of_le f133.lt B136)
  have ne_e__r136 : e_ ≠ r136 := Nat.ne_of_lt (Nat.lt_of_lt_of_le f135.lt B136)
  have ne_b129_r136 : b129 ≠ r136 := Nat.ne_of_lt (Nat.lt_of_lt_of_le V129q.lt B136)
  have g_r136 : n0 ≤ r136 := Nat.le_trans (O129.1 ▸ O129.2.1) B136
  have sz_r136 : h0.size ≤ r136 := Nat.le_trans (own_ks K129) B136
  have f137 := (f130.keep K136q nin0)
  have f138 := (f131.keep K136q nin0)
  have f139 := (f132.keep K136q)
  have f140 : Arv Z T136.heap t kk (.object "java/lang/Object") (10 : Int32) [(.ref e_), .null, .null, .null, .null, .null, .null, .null, .null, .null] .null := (f133.keep K136q nin0)
  have f141 := (f134.keep K136q)
  have f142 := (f135.keep K136q)
  have f143 : Arv Z T136.heap b129 kb129 (.object "java/lang/Object") (1 : Int32) [(.ref e_)] .null := (V129q.keep K136q nin0)
  have O136 := O129.keep K136q all0
  have K136 := K129.trans K136q all0
  refine own_go st136 ?_
  show own_Goes _ _ _ _ _ _ _ (T136.setTop (mkF m 53 #[.val (.ref a), .unset] [(.ref r136)]))
  exact own_out X136 hlk (v := some (.ref r136)) (fun h => by rw [hret] at h; cases h) (fun fs hr => retOut X136 hx (t := (.object "java/util/List")) hret rfl (Or.inr (Or.inr (Or.inr (Or.inr ⟨rfl, rfl, rfl⟩)))) (hb hby d15_53) hr) rfl ⟨_, rfl, N136, sz_r136, K136, E136q⟩ (by decide) (by decide)
theorem ef_co_n (m : MethodId) (a : Addr) (t : Addr) (kk : ClassId) (e_ : Addr) (mr : Addr) (aX : Addr) : entryFrame m #[(.ref a)] 1 = mkF m 0 #[.val (.ref a)] [] := by
  first | (simp [entryFrame, mkF, argsToLocals, Value.category]; done) | rfl
def Q_co_n (Z : State) (a : Addr) (t : Addr) (kk : ClassId) (e_ : Addr) (mr : Addr) (aX : Addr) (h0 : Heap) (n0 : Nat) (v : Option Value) (h : Heap) (L : List Loc) : Prop := ∃ r : Addr, v = some (.ref r) ∧ Fr n0 L ∧ h0.size ≤ r ∧ Keep h0 h [] ∧ Exa Z h r "java/util/ImmutableCollections$List12"
set_option maxRecDepth 65536 in
set_option maxHeartbeats 40000000 in
theorem rm_co_n (l : Launch) (Z : State) (a0 : Array Value) (hw : ∀ d ∈ tables_1, d.before a0 Z = true) (ws : List Jvm.Cond) (a : Addr) (t : Addr) (kk : ClassId) (e_ : Addr) (mr : Addr) (aX : Addr) (h0 : Heap) (n0 : Nat) (O0 : Old Z n0 h0) (F1 : Fld Z h0 a "java/util/ArrayList" "elementData" "[Ljava/lang/Object;" (.ref t)) (F2 : Fld Z h0 a "java/util/ArrayList" "size" "I" (.int (1 : Int32))) (Ea : Exa Z h0 a "java/util/ArrayList") (Vt : Arv Z h0 t kk (.object "java/lang/Object") (10 : Int32) [(.ref e_), .null, .null, .null, .null, .null, .null, .null, .null, .null] .null) (Et : Exa Z h0 t "[Ljava/lang/Object;") (Ee : Exa Z h0 e_ "com/example/navlint/navlint/model/Entry") (MK : Mir Z "[Ljava/lang/Object;" mr) (SX : Sta Z Z.heap "java/util/ImmutableCollections" "EMPTY" "Ljava/lang/Object;" (.ref aX)) :
    MetFree l own_y23 (head1 (Jvm.Cond.code own_y23 jdk_40_method_48_code 1 (some (.object "java/util/List")) :: ws) ({ frames := 7, cells := 2, slots := 3, locals := 93 } : Room)) (fun av_ U => av_ = #[(.ref a)] ∧ Z.Warmed39 U.vm ∧ U.heap = h0) (fun _ _ _ _ _ => True) (fun _ U o_ U' => ∃ v L, o_ = .returned v ∧ Q_co_n Z a t kk e_ mr aX h0 n0 v U'.heap L ∧ FrameEnd U o_ U' L ({ frames := 7, cells := 2, slots := 3, locals := 93 } : Room).cells ({ frames := 7, cells := 2, slots := 3, locals := 93 } : Room).slots) := by
  refine MetFree.of_bodySF (plainFor_of_name pn_9) hisR ?_
  intro p e s m args below meth c s₁ Bd hml0 hP hK
  obtain ⟨rfl, hZ, hh⟩ := hP
  have hx := Bd.exec
  have hby := Bd.bytes
  have hml : c.maxLocals = 1 := hml0
  have hown : s.vm.findClass "java/util/List" = some m.cls := findClass_of_methodNamed Bd.named
  have hnm := (name_of_methodNamed Bd.named Bd.method).1
  have hlk := own_lk Bd
  have hret := Bd.returns
  have X0 : Stand p l e ({ frames := 7, cells := 2, slots := 3, locals := 93 } : Room) s m #[(.ref a)] below meth c s₁ [] 0 0 := Stand.of_body Bd
  have e0 : s₁.heap = h0 := by rw [← hh, Bd.state]; rfl
  have N0 := Fr.nil n0
  show own_Goes p e below s (Q_co_n Z a t kk e_ mr aX h0 n0) ({ frames := 7, cells := 2, slots := 3, locals := 93 } : Room).cells ({ frames := 7, cells := 2, slots := 3, locals := 93 } : Room).slots (s₁.setTop (entryFrame m #[(.ref a)] 1))
  refine own_go (fun _ ww => castTop (ef_co_n m a t kk e_ mr aX) ww) ?_
  show own_Goes _ _ _ _ _ _ _ (s₁.setTop (mkF m 0 #[.val (.ref a)] []))
  refine own_go (fun _ ww => XS.aloadN X0.here hx rfl (hb hby d14_0) rfl rfl ww) ?_
  show own_Goes _ _ _ _ _ _ _ (s₁.setTop (mkF m 1 #[.val (.ref a)] [(.ref a)]))
  obtain ⟨_, _, ⟨T144, L144, k144, n144⟩, -, X144, ⟨Lc144, hQ144, l144, y144, z144⟩, st144⟩ := Jvm.LawKit.callS X0 hx (y := own_y22) hown (mvT hZ (own_w hw 86 rfl)) (mvT hZ (own_w hw 87 rfl)) (mvT hZ (own_w hw 62 rfl)) (mvT hZ (own_w hw 88 rfl)) (by decide) (backOf (W := 0) (rm_lc_n l Z a0 hw [] a t kk e_ mr aX h0 n0 O0 F1 F2 Ea Vt Et Ee MK SX) hZ (own_w hw 88 rfl) (own_w hw 62 rfl) (by decide) (by decide)) (g := (mkF m 1 #[.val (.ref a)] [(.ref a)])) rfl (by rw [hml]; rfl) (argsL := [(.ref a)]) (rest := []) (lenOf pd_11 rfl) rfl (by show 2 * 0 + _ ≤ _; exact Nat.le_of_eq rfl) (hb hby d14_1) (fun _ _ => ⟨rfl, e0, (by decide : 0 + 2 ≤ _), (by decide : 0 + 3 ≤ _)⟩)
  dsimp only [Pt.U, Pt.locs, Pt.cells, Pt.slots] at X144 l144 y144 z144 st144 hQ144
  subst l144 y144 z144
  obtain ⟨r144, rfl, N144q, B144, K144q, E144q⟩ := hQ144
  have N144 := Fr.app N0 N144q
  have ne_a_r144 : a ≠ r144 := Nat.ne_of_lt (Nat.lt_of_lt_of_le F1.lt B144)
  have ne_t_r144 : t ≠ r144 := Nat.ne_of_lt (Nat.lt_of_lt_of_le Vt.lt B144)
  have ne_e__r144 : e_ ≠ r144 := Nat.ne_of_lt (Nat.lt_of_lt_of_le Ee.lt B144)
  have g_r144 : n0 ≤ r144 := Nat.le_trans (O0.1 ▸ O0.2.1) B144
  have sz_r144 : h0.size ≤ r144 := Nat.le_trans (own_ks (Keep.refl h0 [])) B144
  have f145 := (F1.keep K144q nin0)
  have f146 := (F2.keep K144q nin0)
  have f147 := (Ea.keep K144q)
  have f148 : Arv Z T144.heap t kk (.object "java/lang/Object") (10 : Int32) [(.ref e_), .null, .null, .null, .null, .null, .null, .null, .null, .null] .null := (Vt.keep K144q nin0)
  have f149 := (Et.keep K144q)
  have f150 := (Ee.keep K144q)
  have O144 := O0.keep K144q all0
  have K144 := (Keep.refl h0 []).trans K144q all0
  refine own_go st144 ?_
  show own_Goes _ _ _ _ _ _ _ (T144.setTop (mkF m 4 #[.val (.ref a)] [(.ref r144)]))
  exact own_out X144 hlk (v := some (.ref r144)) (fun h => by rw [hret] at h; cases h) (fun fs hr => retOut X144 hx (t := (.object "java/util/List")) hret rfl (Or.inr (Or.inr (Or.inr (Or.inr ⟨rfl, rfl, rfl⟩)))) (hb hby d14_4) hr) rfl ⟨_, rfl, N144, sz_r144, K144, E144q⟩ (by decide) (by decide)
theorem d15_26 : decode jdk_56_method_3_code 26 = .ok (.aload_n 0, 1) := by decide +kernel
theorem d15_27 : decode jdk_56_method_3_code 27 = .ok (.checkcast 18, 3) := by decide +kernel
theorem d15_30 : decode jdk_56_method_3_code 30 = .ok (.areturn, 1) := by decide +kernel
theorem d15_14 : decode jdk_56_method_3_code 14 = .ok (.aload_n 0, 1) := by decide +kernel
theorem d15_15 : decode jdk_56_method_3_code 15 = .ok (.checkcast 12, 3) := by decide +kernel
theorem d15_18 : decode jdk_56_method_3_code 18 = .ok (.astore_n 1, 1) := by decide +kernel
theorem d15_19 : decode jdk_56_method_3_code 19 = .ok (.aload_n 1, 1) := by decide +kernel
theorem d15_20 : decode jdk_56_method_3_code 20 = .ok (.getfield 14, 3) := by decide +kernel
theorem d15_23 : decode jdk_56_method_3_code 23 = .ok (.ifCond .ne 8, 3) := by decide +kernel
theorem ef_lc_I (m : MethodId) (x : Addr) (C_ : String) (aL : Addr) : entryFrame m #[(.ref x)] 2 = mkF m 0 #[.val (.ref x), .unset] [] := by
  first | (simp [entryFrame, mkF, argsToLocals, Value.category]; done) | rfl
def Q_lc_I (Z : State) (x : Addr) (C_ : String) (aL : Addr) (h0 : Heap) (n0 : Nat) (v : Option Value) (h : Heap) (L : List Loc) : Prop := v = some (.ref x) ∧ Fr n0 L ∧ h = h0
set_option maxRecDepth 65536 in
set_option maxHeartbeats 40000000 in
theorem rm_lc_I (l : Launch) (Z : State) (a0 : Array Value) (hw : ∀ d ∈ tables_1, d.before a0 Z = true) (ws : List Jvm.Cond) (x : Addr) (C_ : String) (aL : Addr) (h0 : Heap) (n0 : Nat) (O0 : Old Z n0 h0) (Ex : Exa Z h0 x C_) (hC : C_ = "java/util/ImmutableCollections$List12" ∨ (C_ = "java/util/ImmutableCollections$ListN" ∧ x = aL)) (EL : Exa Z Z.heap aL "java/util/ImmutableCollections$ListN") (FL : Fld Z Z.heap aL "java/util/ImmutableCollections$ListN" "allowNulls" "Z" (.int (0 : Int32))) :
    MetFree l own_y22 (head1 (Jvm.Cond.code own_y22 jdk_56_method_3_code 2 (some (.object "java/util/List")) :: ws) ({ frames := 0, cells := 0, slots := 0, locals := 0 } : Room)) (fun av_ U => av_ = #[(.ref x)] ∧ Z.Warmed39 U.vm ∧ U.heap = h0) (fun _ _ _ _ _ => True) (fun _ U o_ U' => ∃ v L, o_ = .returned v ∧ Q_lc_I Z x C_ aL h0 n0 v U'.heap L ∧ FrameEnd U o_ U' L ({ frames := 0, cells := 0, slots := 0, locals := 0 } : Room).cells ({ frames := 0, cells := 0, slots := 0, locals := 0 } : Room).slots) := by
  refine MetFree.of_bodySF (plainFor_of_name pn_10) hisR ?_
  intro p e s m args below meth c s₁ Bd hml0 hP hK
  obtain ⟨rfl, hZ, hh⟩ := hP
  have hx := Bd.exec
  have hby := Bd.bytes
  have hml : c.maxLocals = 2 := hml0
  have hown : s.vm.findClass "java/util/ImmutableCollections" = some m.cls := findClass_of_methodNamed Bd.named
  have hnm := (name_of_methodNamed Bd.named Bd.method).1
  have hlk := own_lk Bd
  have hret := Bd.returns
  have X0 : Stand p l e ({ frames := 0, cells := 0, slots := 0, locals := 0 } : Room) s m #[(.ref x)] below meth c s₁ [] 0 0 := Stand.of_body Bd
  have e0 : s₁.heap = h0 := by rw [← hh, Bd.state]; rfl
  have N0 := Fr.nil n0
  show own_Goes p e below s (Q_lc_I Z x C_ aL h0 n0) ({ frames := 0, cells := 0, slots := 0, locals := 0 } : Room).cells ({ frames := 0, cells := 0, slots := 0, locals := 0 } : Room).slots (s₁.setTop (entryFrame m #[(.ref x)] 2))
  refine own_go (fun _ ww => castTop (ef_lc_I m x C_ aL) ww) ?_
  show own_Goes _ _ _ _ _ _ _ (s₁.setTop (mkF m 0 #[.val (.ref x), .unset] []))
  rcases hC with hc | ⟨hc, hl⟩
  ·
    subst hc
    show own_Goes _ _ _ _ _ _ _ (s₁.setTop (mkF m 0 #[.val (.ref x), .unset] []))
    refine own_go (fun _ ww => XS.aloadN X0.here hx rfl (hb hby d15_0) rfl rfl ww) ?_
    show own_Goes _ _ _ _ _ _ _ (s₁.setTop (mkF m 1 #[.val (.ref x), .unset] [(.ref x)]))
    obtain ⟨T151, X151, e151, st151⟩ := instY X0 hx hZ hown (own_w hw 89 rfl) e0 (Ins.self Ex) (g := (mkF m 1 #[.val (.ref x), .unset] [(.ref x)])) rfl rfl (hb hby d15_1)
    refine own_go st151 ?_
    show own_Goes _ _ _ _ _ _ _ (T151.setTop (mkF m 4 #[.val (.ref x), .unset] [(.int (1 : Int32))]))
    refine own_go (fun _ ww => XS.ifYes X151.here hx rfl (pc0 := 4) (pc' := 26) rfl (hb hby d15_4) rfl (own_if .ne (feq (by decide : ¬ ((1 : Int32) = (0 : Int32)))).2) (by decide) (by decide) ww) ?_
    show own_Goes _ _ _ _ _ _ _ (T151.setTop (mkF m 26 #[.val (.ref x), .unset] []))
    refine own_go (fun _ ww => XS.aloadN X151.here hx rfl (hb hby d15_26) rfl rfl ww) ?_
    show own_Goes _ _ _ _ _ _ _ (T151.setTop (mkF m 27 #[.val (.ref x), .unset] [(.ref x)]))
    obtain ⟨T152, X152, e152, st152⟩ := castY X151 hx hZ hown (own_w hw 158 rfl) e151 (Ins.of_exa Ex (own_w hw 256 rfl)) (g := (mkF m 27 #[.val (.ref x), .unset] [(.ref x)])) rfl rfl (hb hby d15_27)
    refine own_go st152 ?_
    show own_Goes _ _ _ _ _ _ _ (T152.setTop (mkF m 30 #[.val (.ref x), .unset] [(.ref x)]))
    exact own_out X152 hlk (v := some (.ref x)) (fun h => by rw [hret] at h; cases h) (fun fs hr => retOut X152 hx (t := (.object "java/util/List")) hret rfl (Or.inr (Or.inr (Or.inr (Or.inr ⟨rfl, rfl, rfl⟩)))) (hb hby d15_30) hr) e152 ⟨rfl, N0, rfl⟩ (by decide) (by decide)
  ·
    subst hc
    have FLx : Fld Z h0 x "java/util/ImmutableCollections$ListN" "allowNulls" "Z" (.int (0 : Int32)) := by rw [hl]; exact FL.ext O0.2
    show own_Goes _ _ _ _ _ _ _ (s₁.setTop (mkF m 0 #[.val (.ref x), .unset] []))
    refine own_go (fun _ ww => XS.aloadN X0.here hx rfl (hb hby d15_0) rfl rfl ww) ?_
    show own_Goes _ _ _ _ _ _ _ (s₁.setTop (mkF m 1 #[.val (.ref x), .unset] [(.ref x)]))
    obtain ⟨T153, X153, e153, st153⟩ := instNo X0 hx hZ hown (own_w hw 89 rfl) e0 Ex (own_noI (own_w hw 152 rfl) (own_w hw 228 rfl) (NS.step (own_w hw 152 rfl) (NS.step (own_w hw 153 rfl) (NS.step (own_w hw 154 rfl) (NS.step (own_w hw 92 rfl) (own_rootI (own_w hw 93 rfl) (own_w hw 228 rfl) (by decide)) (by decide)) (by decide)) (by decide)) (by decide)) (by decide)) (g := (mkF m 1 #[.val (.ref x), .unset] [(.ref x)])) rfl rfl (hb hby d15_1)
    refine own_go st153 ?_
    show own_Goes _ _ _ _ _ _ _ (T153.setTop (mkF m 4 #[.val (.ref x), .unset] [(.int (0 : Int32))]))
    refine own_go (fun _ ww => XS.ifNo X153.here hx rfl (hb hby d15_4) rfl (own_if .ne (teq (by decide : (0 : Int32) = (0 : Int32))).2) ww) ?_
    show own_Goes _ _ _ _ _ _ _ (T153.setTop (mkF m 7 #[.val (.ref x), .unset] []))
    refine own_go (fun _ ww => XS.aloadN X153.here hx rfl (hb hby d15_7) rfl rfl ww) ?_
    show own_Goes _ _ _ _ _ _ _ (T153.setTop (mkF m 8 #[.val (.ref x), .unset] [(.ref x)]))
    obtain ⟨T154, X154, e154, st154⟩ := instY X153 hx hZ hown (own_w hw 94 rfl) e153 (Ins.self Ex) (g := (mkF m 8 #[.val (.ref x), .unset] [(.ref x)])) rfl rfl (hb hby d15_8)
    refine own_go st154 ?_
    show own_Goes _ _ _ _ _ _ _ (T154.setTop (mkF m 11 #[.val (.ref x), .unset] [(.int (1 : Int32))]))
    refine own_go (fun _ ww => XS.ifNo X154.here hx rfl (hb hby d15_11) rfl (own_if .eq (feq (by decide : ¬ ((1 : Int32) = (0 : Int32)))).1) ww) ?_
    show own_Goes _ _ _ _ _ _ _ (T154.setTop (mkF m 14 #[.val (.ref x), .unset] []))
    refine own_go (fun _ ww => XS.aloadN X154.here hx rfl (hb hby d15_14) rfl rfl ww) ?_
    show own_Goes _ _ _ _ _ _ _ (T154.setTop (mkF m 15 #[.val (.ref x), .unset] [(.ref x)]))
    obtain ⟨T155, X155, e155, st155⟩ := castY X154 hx hZ hown (own_w hw 94 rfl) e154 (Ins.self Ex) (g := (mkF m 15 #[.val (.ref x), .unset] [(.ref x)])) rfl rfl (hb hby d15_15)
    refine own_go st155 ?_
    show own_Goes _ _ _ _ _ _ _ (T155.setTop (mkF m 18 #[.val (.ref x), .unset] [(.ref x)]))
    refine own_go (fun _ ww => XS.astoreN X155.here hx rfl (hb hby d15_18) rfl rfl (l' := #[.val (.ref x), .val (.ref x)]) rfl ww) ?_
    show own_Goes _ _ _ _ _ _ _ (T155.setTop (mkF m 19 #[.val (.ref x), .val (.ref x)] []))
    refine own_go (fun _ ww => XS.aloadN X155.here hx rfl (hb hby d15_19) rfl rfl ww) ?_
    show own_Goes _ _ _ _ _ _ _ (T155.setTop (mkF m 20 #[.val (.ref x), .val (.ref x)] [(.ref x)]))
    obtain ⟨T156, X156, e156, st156⟩ := getF X155 hx hZ hown (Or.inr (own_w hw 156 rfl)) Via.refl e155 FLx (g := (mkF m 20 #[.val (.ref x), .val (.ref x)] [(.ref x)])) rfl rfl (hb hby d15_20)
    refine own_go st156 ?_
    show own_Goes _ _ _ _ _ _ _ (T156.setTop (mkF m 23 #[.val (.ref x), .val (.ref x)] [(.int (0 : Int32))]))
    refine own_go (fun _ ww => XS.ifNo X156.here hx rfl (hb hby d15_23) rfl (own_if .ne (teq (by decide : (0 : Int32) = (0 : Int32))).2) ww) ?_
    show own_Goes _ _ _ _ _ _ _ (T156.setTop (mkF m 26 #[.val (.ref x), .val (.ref x)] []))
    refine own_go (fun _ ww => XS.aloadN X156.here hx rfl (hb hby d15_26) rfl rfl ww) ?_
    show own_Goes _ _ _ _ _ _ _ (T156.setTop (mkF m 27 #[.val (.ref x), .val (.ref x)] [(.ref x)]))
    obtain ⟨T157, X157, e157, st157⟩ := castY X156 hx hZ hown (own_w hw 158 rfl) e156 (Ins.of_exa Ex (own_w hw 159 rfl)) (g := (mkF m 27 #[.val (.ref x), .val (.ref x)] [(.ref x)])) rfl rfl (hb hby d15_27)
    refine own_go st157 ?_
    show own_Goes _ _ _ _ _ _ _ (T157.setTop (mkF m 30 #[.val (.ref x), .val (.ref x)] [(.ref x)]))
    exact own_out X157 hlk (v := some (.ref x)) (fun h => by rw [hret] at h; cases h) (fun fs hr => retOut X157 hx (t := (.object "java/util/List")) hret rfl (Or.inr (Or.inr (Or.inr (Or.inr ⟨rfl, rfl, rfl⟩)))) (hb hby d15_30) hr) e157 ⟨rfl, N0, rfl⟩ (by decide) (by decide)
theorem ef_co_I (m : MethodId) (x : Addr) (C_ : String) (aL : Addr) : entryFrame m #[(.ref x)] 1 = mkF m 0 #[.val (.ref x)] [] := by
  first | (simp [entryFrame, mkF, argsToLocals, Value.category]; done) | rfl
def Q_co_I (Z : State) (x : Addr) (C_ : String) (aL : Addr) (h0 : Heap) (n0 : Nat) (v : Option Value) (h : Heap) (L : List Loc) : Prop := v = some (.ref x) ∧ Fr n0 L ∧ h = h0
set_option maxRecDepth 65536 in
set_option maxHeartbeats 40000000 in
theorem rm_co_I (l : Launch) (Z : State) (a0 : Array Value) (hw : ∀ d ∈ tables_1, d.before a0 Z = true) (ws : List Jvm.Cond) (x : Addr) (C_ : String) (aL : Addr) (h0 : Heap) (n0 : Nat) (O0 : Old Z n0 h0) (Ex : Exa Z h0 x C_) (hC : C_ = "java/util/ImmutableCollections$List12" ∨ (C_ = "java/util/ImmutableCollections$ListN" ∧ x = aL)) (EL : Exa Z Z.heap aL "java/util/ImmutableCollections$ListN") (FL : Fld Z Z.heap aL "java/util/ImmutableCollections$ListN" "allowNulls" "Z" (.int (0 : Int32))) :
    MetFree l own_y23 (head1 (Jvm.Cond.code own_y23 jdk_40_method_48_code 1 (some (.object "java/util/List")) :: ws) ({ frames := 1, cells := 0, slots := 0, locals := 13 } : Room)) (fun av_ U => av_ = #[(.ref x)] ∧ Z.Warmed39 U.vm ∧ U.heap = h0) (fun _ _ _ _ _ => True) (fun _ U o_ U' => ∃ v L, o_ = .returned v ∧ Q_co_I Z x C_ aL h0 n0 v U'.heap L ∧ FrameEnd U o_ U' L ({ frames := 1, cells := 0, slots := 0, locals := 13 } : Room).cells ({ frames := 1, cells := 0, slots := 0, locals := 13 } : Room).slots) := by
  refine MetFree.of_bodySF (plainFor_of_name pn_9) hisR ?_
  intro p e s m args below meth c s₁ Bd hml0 hP hK
  obtain ⟨rfl, hZ, hh⟩ := hP
  have hx := Bd.exec
  have hby := Bd.bytes
  have hml : c.maxLocals = 1 := hml0
  have hown : s.vm.findClass "java/util/List" = some m.cls := findClass_of_methodNamed Bd.named
  have hnm := (name_of_methodNamed Bd.named Bd.method).1
  have hlk := own_lk Bd
  have hret := Bd.returns
  have X0 : Stand p l e ({ frames := 1, cells := 0, slots := 0, locals := 13 } : Room) s m #[(.ref x)] below meth c s₁ [] 0 0 := Stand.of_body Bd
  have e0 : s₁.heap = h0 := by rw [← hh, Bd.state]; rfl
  have N0 := Fr.nil n0
  show own_Goes p e below s (Q_co_I Z x C_ aL h0 n0) ({ frames := 1, cells := 0, slots := 0, locals := 13 } : Room).cells ({ frames := 1, cells := 0, slots := 0, locals := 13 } : Room).slots (s₁.setTop (entryFrame m #[(.ref x)] 1))
  refine own_go (fun _ ww => castTop (ef_co_I m x C_ aL) ww) ?_
  show own_Goes _ _ _ _ _ _ _ (s₁.setTop (mkF m 0 #[.val (.ref x)] []))
  refine own_go (fun _ ww => XS.aloadN X0.here hx rfl (hb hby d14_0) rfl rfl ww) ?_
  show own_Goes _ _ _ _ _ _ _ (s₁.setTop (mkF m 1 #[.val (.ref x)] [(.ref x)]))
  obtain ⟨_, _, ⟨T158, L158, k158, n158⟩, -, X158, ⟨Lc158, hQ158, l158, y158, z158⟩, st158⟩ := Jvm.LawKit.callS X0 hx (y := own_y22) hown (mvT hZ (own_w hw 86 rfl)) (mvT hZ (own_w hw 87 rfl)) (mvT hZ (own_w hw 62 rfl)) (mvT hZ (own_w hw 88 rfl)) (by decide) (backOf (W := 0) (rm_lc_I l Z a0 hw [] x C_ aL h0 n0 O0 Ex hC EL FL) hZ (own_w hw 88 rfl) (own_w hw 62 rfl) (by decide) (by decide)) (g := (mkF m 1 #[.val (.ref x)] [(.ref x)])) rfl (by rw [hml]; rfl) (argsL := [(.ref x)]) (rest := []) (lenOf pd_11 rfl) rfl (by show 2 * 0 + _ ≤ _; exact Nat.le_of_eq rfl) (hb hby d14_1) (fun _ _ => ⟨rfl, e0, (by decide : 0 + 0 ≤ _), (by decide : 0 + 0 ≤ _)⟩)
  dsimp only [Pt.U, Pt.locs, Pt.cells, Pt.slots] at X158 l158 y158 z158 st158 hQ158
  subst l158 y158 z158
  obtain ⟨rfl, N158q, e158⟩ := hQ158
  have N158 := Fr.app N0 N158q
  refine own_go st158 ?_
  show own_Goes _ _ _ _ _ _ _ (T158.setTop (mkF m 4 #[.val (.ref x)] [(.ref x)]))
  exact own_out X158 hlk (v := some (.ref x)) (fun h => by rw [hret] at h; cases h) (fun fs hr => retOut X158 hx (t := (.object "java/util/List")) hret rfl (Or.inr (Or.inr (Or.inr (Or.inr ⟨rfl, rfl, rfl⟩)))) (hb hby d14_4) hr) e158 ⟨rfl, N158, rfl⟩ (by decide) (by decide)
theorem d10_0 : decode jdk_72_method_26_code 0 = .ok (.getstatic 81, 3) := by decide +kernel
theorem d10_3 : decode jdk_72_method_26_code 3 = .ok (.areturn, 1) := by decide +kernel
theorem ef_mof (m : MethodId) (aM : Addr) : entryFrame m #[] 0 = mkF m 0 #[] [] := by
  first | (simp [entryFrame, mkF, argsToLocals, Value.category]; done) | rfl
def Q_mof (Z : State) (aM : Addr) (h0 : Heap) (n0 : Nat) (v : Option Value) (h : Heap) (L : List Loc) : Prop := v = some (.ref aM) ∧ Fr n0 L ∧ h = h0
set_option maxRecDepth 65536 in
set_option maxHeartbeats 40000000 in
theorem rm_mof (l : Launch) (Z : State) (a0 : Array Value) (hw : ∀ d ∈ tables_1, d.before a0 Z = true) (ws : List Jvm.Cond) (aM : Addr) (h0 : Heap) (n0 : Nat) (O0 : Old Z n0 h0) (SM : Sta Z Z.heap "java/util/ImmutableCollections" "EMPTY_MAP" "Ljava/util/ImmutableCollections$MapN;" (.ref aM)) :
    MetFree l own_y25 (head1 (Jvm.Cond.code own_y25 jdk_72_method_26_code 0 (some (.object "java/util/Map")) :: ws) ({ frames := 0, cells := 0, slots := 0, locals := 0 } : Room)) (fun av_ U => av_ = #[] ∧ Z.Warmed39 U.vm ∧ U.heap = h0) (fun _ _ _ _ _ => True) (fun _ U o_ U' => ∃ v L, o_ = .returned v ∧ Q_mof Z aM h0 n0 v U'.heap L ∧ FrameEnd U o_ U' L ({ frames := 0, cells := 0, slots := 0, locals := 0 } : Room).cells ({ frames := 0, cells := 0, slots := 0, locals := 0 } : Room).slots) := by
  refine MetFree.of_bodySF (plainFor_of_name pn_11) hisR ?_
  intro p e s m args below meth c s₁ Bd hml0 hP hK
  obtain ⟨rfl, hZ, hh⟩ := hP
  have hx := Bd.exec
  have hby := Bd.bytes
  have hml : c.maxLocals = 0 := hml0
  have hown : s.vm.findClass "java/util/Map" = some m.cls := findClass_of_methodNamed Bd.named
  have hnm := (name_of_methodNamed Bd.named Bd.method).1
  have hlk := own_lk Bd
  have hret := Bd.returns
  have X0 : Stand p l e ({ frames := 0, cells := 0, slots := 0, locals := 0 } : Room) s m #[] below meth c s₁ [] 0 0 := Stand.of_body Bd
  have e0 : s₁.heap = h0 := by rw [← hh, Bd.state]; rfl
  have N0 := Fr.nil n0
  show own_Goes p e below s (Q_mof Z aM h0 n0) ({ frames := 0, cells := 0, slots := 0, locals := 0 } : Room).cells ({ frames := 0, cells := 0, slots := 0, locals := 0 } : Room).slots (s₁.setTop (entryFrame m #[] 0))
  refine own_go (fun _ ww => castTop (ef_mof m aM) ww) ?_
  show own_Goes _ _ _ _ _ _ _ (s₁.setTop (mkF m 0 #[] []))
  obtain ⟨T159, X159, e159, st159⟩ := getS X0 hx hZ hown (host := "") (own_w hw 61 rfl) Via.refl e0 (SM.ext O0.2) (g := (mkF m 0 #[] [])) rfl (hb hby d10_0)
  refine own_go st159 ?_
  show own_Goes _ _ _ _ _ _ _ (T159.setTop (mkF m 3 #[] [(.ref aM)]))
  exact own_out X159 hlk (v := some (.ref aM)) (fun h => by rw [hret] at h; cases h) (fun fs hr => retOut X159 hx (t := (.object "java/util/Map")) hret rfl (Or.inr (Or.inr (Or.inr (Or.inr ⟨rfl, rfl, rfl⟩)))) (hb hby d10_3) hr) e159 ⟨rfl, N0, rfl⟩ (by decide) (by decide)
theorem d18_0 : decode jdk_72_method_39_code 0 = .ok (.aload_n 0, 1) := by decide +kernel
theorem d18_1 : decode jdk_72_method_39_code 1 = .ok (.instanceof 101, 3) := by decide +kernel
theorem d18_4 : decode jdk_72_method_39_code 4 = .ok (.ifCond .eq 5, 3) := by decide +kernel
theorem d18_7 : decode jdk_72_method_39_code 7 = .ok (.aload_n 0, 1) := by decide +kernel
theorem d18_8 : decode jdk_72_method_39_code 8 = .ok (.areturn, 1) := by decide +kernel
theorem ef_mco (m : MethodId) (aM : Addr) : entryFrame m #[(.ref aM)] 1 = mkF m 0 #[.val (.ref aM)] [] := by
  first | (simp [entryFrame, mkF, argsToLocals, Value.category]; done) | rfl
def Q_mco (Z : State) (aM : Addr) (h0 : Heap) (n0 : Nat) (v : Option Value) (h : Heap) (L : List Loc) : Prop := v = some (.ref aM) ∧ Fr n0 L ∧ h = h0
set_option maxRecDepth 65536 in
set_option maxHeartbeats 40000000 in
theorem rm_mco (l : Launch) (Z : State) (a0 : Array Value) (hw : ∀ d ∈ tables_1, d.before a0 Z = true) (ws : List Jvm.Cond) (aM : Addr) (h0 : Heap) (n0 : Nat) (O0 : Old Z n0 h0) (EM : Exa Z Z.heap aM "java/util/ImmutableCollections$MapN") :
    MetFree l own_y26 (head1 (Jvm.Cond.code own_y26 jdk_72_method_39_code 1 (some (.object "java/util/Map")) :: ws) ({ frames := 0, cells := 0, slots := 0, locals := 0 } : Room)) (fun av_ U => av_ = #[(.ref aM)] ∧ Z.Warmed39 U.vm ∧ U.heap = h0) (fun _ _ _ _ _ => True) (fun _ U o_ U' => ∃ v L, o_ = .returned v ∧ Q_mco Z aM h0 n0 v U'.heap L ∧ FrameEnd U o_ U' L ({ frames := 0, cells := 0, slots := 0, locals := 0 } : Room).cells ({ frames := 0, cells := 0, slots := 0, locals := 0 } : Room).slots) := by
  refine MetFree.of_bodySF (plainFor_of_name pn_11) hisR ?_
  intro p e s m args below meth c s₁ Bd hml0 hP hK
  obtain ⟨rfl, hZ, hh⟩ := hP
  have hx := Bd.exec
  have hby := Bd.bytes
  have hml : c.maxLocals = 1 := hml0
  have hown : s.vm.findClass "java/util/Map" = some m.cls := findClass_of_methodNamed Bd.named
  have hnm := (name_of_methodNamed Bd.named Bd.method).1
  have hlk := own_lk Bd
  have hret := Bd.returns
  have X0 : Stand p l e ({ frames := 0, cells := 0, slots := 0, locals := 0 } : Room) s m #[(.ref aM)] below meth c s₁ [] 0 0 := Stand.of_body Bd
  have e0 : s₁.heap = h0 := by rw [← hh, Bd.state]; rfl
  have N0 := Fr.nil n0
  show own_Goes p e below s (Q_mco Z aM h0 n0) ({ frames := 0, cells := 0, slots := 0, locals := 0 } : Room).cells ({ frames := 0, cells := 0, slots := 0, locals := 0 } : Room).slots (s₁.setTop (entryFrame m #[(.ref aM)] 1))
  refine own_go (fun _ ww => castTop (ef_mco m aM) ww) ?_
  show own_Goes _ _ _ _ _ _ _ (s₁.setTop (mkF m 0 #[.val (.ref aM)] []))
  refine own_go (fun _ ww => XS.aloadN X0.here hx rfl (hb hby d18_0) rfl rfl ww) ?_
  show own_Goes _ _ _ _ _ _ _ (s₁.setTop (mkF m 1 #[.val (.ref aM)] [(.ref aM)]))
  obtain ⟨T160, X160, e160, st160⟩ := instY X0 hx hZ hown (own_w hw 115 rfl) e0 (Ins.of_exa (EM.ext O0.2) (own_w hw 116 rfl)) (g := (mkF m 1 #[.val (.ref aM)] [(.ref aM)])) rfl rfl (hb hby d18_1)
  refine own_go st160 ?_
  show own_Goes _ _ _ _ _ _ _ (T160.setTop (mkF m 4 #[.val (.ref aM)] [(.int (1 : Int32))]))
  refine own_go (fun _ ww => XS.ifNo X160.here hx rfl (hb hby d18_4) rfl (own_if .eq (feq (by decide : ¬ ((1 : Int32) = (0 : Int32)))).1) ww) ?_
  show own_Goes _ _ _ _ _ _ _ (T160.setTop (mkF m 7 #[.val (.ref aM)] []))
  refine own_go (fun _ ww => XS.aloadN X160.here hx rfl (hb hby d18_7) rfl rfl ww) ?_
  show own_Goes _ _ _ _ _ _ _ (T160.setTop (mkF m 8 #[.val (.ref aM)] [(.ref aM)]))
  exact own_out X160 hlk (v := some (.ref aM)) (fun h => by rw [hret] at h; cases h) (fun fs hr => retOut X160 hx (t := (.object "java/util/Map")) hret rfl (Or.inr (Or.inr (Or.inr (Or.inr ⟨rfl, rfl, rfl⟩)))) (hb hby d18_8) hr) e160 ⟨rfl, N0, rfl⟩ (by decide) (by decide)
theorem d11_0 : decode prog_46_method_1_code 0 = .ok (.aload_n 0, 1) := by decide +kernel
theorem d11_1 : decode prog_46_method_1_code 1 = .ok (.invokespecial 1, 3) := by decide +kernel
theorem d11_4 : decode prog_46_method_1_code 4 = .ok (.aload_n 0, 1) := by decide +kernel
theorem d11_5 : decode prog_46_method_1_code 5 = .ok (.aload_n 1, 1) := by decide +kernel
theorem d11_6 : decode prog_46_method_1_code 6 = .ok (.ldc 7, 2) := by decide +kernel
theorem d11_8 : decode prog_46_method_1_code 8 = .ok (.invokestatic 9, 3) := by decide +kernel
theorem d11_11 : decode prog_46_method_1_code 11 = .ok (.checkcast 15, 3) := by decide +kernel
theorem d11_14 : decode prog_46_method_1_code 14 = .ok (.putfield 17, 3) := by decide +kernel
theorem d11_17 : decode prog_46_method_1_code 17 = .ok (.aload_n 0, 1) := by decide +kernel
theorem d11_18 : decode prog_46_method_1_code 18 = .ok (.aload_n 2, 1) := by decide +kernel
theorem d11_19 : decode prog_46_method_1_code 19 = .ok (.invokestatic 22, 3) := by decide +kernel
theorem d11_22 : decode prog_46_method_1_code 22 = .ok (.putfield 28, 3) := by decide +kernel
theorem d11_25 : decode prog_46_method_1_code 25 = .ok (.aload_n 0, 1) := by decide +kernel
theorem d11_26 : decode prog_46_method_1_code 26 = .ok (.aload_n 3, 1) := by decide +kernel
theorem d11_27 : decode prog_46_method_1_code 27 = .ok (.invokestatic 32, 3) := by decide +kernel
theorem d11_30 : decode prog_46_method_1_code 30 = .ok (.putfield 37, 3) := by decide +kernel
theorem d11_33 : decode prog_46_method_1_code 33 = .ok (.aload_n 0, 1) := by decide +kernel
theorem d11_34 : decode prog_46_method_1_code 34 = .ok (.aload 4, 2) := by decide +kernel
theorem d11_36 : decode prog_46_method_1_code 36 = .ok (.putfield 41, 3) := by decide +kernel
theorem d11_39 : decode prog_46_method_1_code 39 = .ok (.return_, 1) := by decide +kernel
theorem ef_eni (m : MethodId) (x : Addr) (sx : Addr) (a : Addr) (aL : Addr) (aM : Addr) : entryFrame m #[(.ref x), (.ref sx), (.ref a), (.ref aM), .null] 5 = mkF m 0 #[.val (.ref x), .val (.ref sx), .val (.ref a), .val (.ref aM), .val .null] [] := by
  first | (simp [entryFrame, mkF, argsToLocals, Value.category]; done) | rfl
def Q_eni (Z : State) (x : Addr) (sx : Addr) (a : Addr) (aL : Addr) (aM : Addr) (h0 : Heap) (n0 : Nat) (v : Option Value) (h : Heap) (vm : Vm) (L : List Loc) : Prop := v = none ∧ Fr n0 L ∧ Keep h0 h [x]
set_option maxRecDepth 65536 in
set_option maxHeartbeats 40000000 in
theorem rm_eni (l : Launch) (Z : State) (a0 : Array Value) (hw : ∀ d ∈ tables_1, d.before a0 Z = true) (ws : List Jvm.Cond) (x : Addr) (sx : Addr) (a : Addr) (aL : Addr) (aM : Addr) (h0 : Heap) (n0 : Nat) (O0 : Old Z n0 h0) (P0 : Fld Z h0 x "com/example/navlint/navlint/model/Entry" "page" "Ljava/lang/String;" .null) (P1 : Fld Z h0 x "com/example/navlint/navlint/model/Entry" "links" "Ljava/util/List;" .null) (P2 : Fld Z h0 x "com/example/navlint/navlint/model/Entry" "snapshot" "Ljava/util/Map;" .null) (P3 : Fld Z h0 x "com/example/navlint/navlint/model/Entry" "request" "Lcom/example/navlint/navlint/model/Request;" .null) (Ex : Exa Z h0 x "com/example/navlint/navlint/model/Entry") (g_x : n0 ≤ x) (Es : Exa Z h0 sx "java/lang/String") (F2 : Fld Z h0 a "java/util/ArrayList" "size" "I" (.int (0 : Int32))) (Ea : Exa Z h0 a "java/util/ArrayList") (SL : Sta Z Z.heap "java/util/ImmutableCollections" "EMPTY_LIST" "Ljava/util/ImmutableCollections$ListN;" (.ref aL)) (SM : Sta Z Z.heap "java/util/ImmutableCollections" "EMPTY_MAP" "Ljava/util/ImmutableCollections$MapN;" (.ref aM)) (EM : Exa Z Z.heap aM "java/util/ImmutableCollections$MapN") (nax : a ≠ x) :
    MetFree l own_y27 (head1 (Jvm.Cond.code own_y27 prog_46_method_1_code 5 none :: ws) ({ frames := 3, cells := 2, slots := 20, locals := 38 } : Room)) (fun av_ U => av_ = #[(.ref x), (.ref sx), (.ref a), (.ref aM), .null] ∧ Z.Warmed39 U.vm ∧ U.heap = h0 ∧ (fun vm_ : Vm => True) U.vm) (fun _ _ _ _ _ => True) (fun _ U o_ U' => ∃ v L, o_ = .returned v ∧ Q_eni Z x sx a aL aM h0 n0 v U'.heap U'.vm L ∧ ReturnedEndW U o_ U' L ({ frames := 3, cells := 2, slots := 20, locals := 38 } : Room).cells ({ frames := 3, cells := 2, slots := 20, locals := 38 } : Room).slots) := by
  refine MetFree.of_bodySF (plainFor_of_name pn_12) hisR ?_
  intro p e s m args below meth c s₁ Bd hml0 hP hK
  obtain ⟨rfl, hZ, hh, hVI⟩ := hP
  have hZ : Z.Warmed39 (s.setVm s.vm).vm := hZ
  have hx := Bd.exec
  have hby := Bd.bytes
  have hml : c.maxLocals = 5 := hml0
  have hown : (s.setVm s.vm).vm.findClass "com/example/navlint/navlint/model/Entry" = some m.cls := findClass_of_methodNamed Bd.named
  have hnm := (name_of_methodNamed Bd.named Bd.method).1
  have hlk := own_lk Bd
  have hret := Bd.returns
  have X0 : Stand p l e ({ frames := 3, cells := 2, slots := 20, locals := 38 } : Room) (s.setVm s.vm) m #[(.ref x), (.ref sx), (.ref a), (.ref aM), .null] below meth c s₁ [] 0 0 := Stand.of_body Bd
  have e0 : s₁.heap = h0 := by rw [← hh, Bd.state]; rfl
  have N0 := Fr.nil n0
  have hS : s.Since s.vm h0.size := (State.WarmedH.refl s).since _
  have hk : h0.size ≤ h0.size := Nat.le_refl _
  have wS : ∀ a ∈ Bundle.stringAtoms, a.before a0 Z = true := own_wS hw
  show own_GoesW p e below s (Q_eni Z x sx a aL aM h0 n0) ({ frames := 3, cells := 2, slots := 20, locals := 38 } : Room).cells ({ frames := 3, cells := 2, slots := 20, locals := 38 } : Room).slots (s₁.setTop (entryFrame m #[(.ref x), (.ref sx), (.ref a), (.ref aM), .null] 5))
  refine own_goW (fun _ ww => castTop (ef_eni m x sx a aL aM) ww) ?_
  show own_GoesW _ _ _ _ _ _ _ (s₁.setTop (mkF m 0 #[.val (.ref x), .val (.ref sx), .val (.ref a), .val (.ref aM), .val .null] []))
  refine own_goW (fun _ ww => XS.aloadN X0.here hx rfl (hb hby d11_0) rfl rfl ww) ?_
  show own_GoesW _ _ _ _ _ _ _ (s₁.setTop (mkF m 1 #[.val (.ref x), .val (.ref sx), .val (.ref a), .val (.ref aM), .val .null] [(.ref x)]))
  obtain ⟨_, _, ⟨T161, L161, k161, n161⟩, -, X161, ⟨Lc161, hQ161, l161, y161, z161⟩, st161⟩ := X0.specialBack hx (y := own_y3) rfl hown (mvT hZ (own_w hw 66 rfl)) (mvT hZ (own_w hw 67 rfl)) (mvT hZ (own_w hw 70 rfl)) (by decide) (backOf (W := 0) (rm_hvinit l Z a0 hw [] x h0 n0 O0 ) hZ (own_w hw 70 rfl) (own_w hw 69 rfl) (by decide) (by decide)) (g := (mkF m 1 #[.val (.ref x), .val (.ref sx), .val (.ref a), .val (.ref aM), .val .null] [(.ref x)])) rfl (by rw [hml]; rfl) (Steps.refl _) (a := x) (argsL := []) (rest := []) (lenOf pd_0 rfl) rfl (by show 2 * 0 + _ ≤ _; exact Nat.le_of_eq rfl) (hb hby d11_1) (fun _ _ => ⟨rfl, e0, (by decide : 0 + 0 ≤ _), (by decide : 0 + 0 ≤ _)⟩)
  dsimp only [Pt.U, Pt.locs, Pt.cells, Pt.slots] at X161 l161 y161 z161 st161 hQ161
  subst l161 y161 z161
  obtain ⟨rfl, N161q, e161⟩ := hQ161
  have N161 := Fr.app N0 N161q
  refine own_goW (fun _ ww => Steps.trans st161 ww) ?_
  show own_GoesW _ _ _ _ _ _ _ (T161.setTop (mkF m 4 #[.val (.ref x), .val (.ref sx), .val (.ref a), .val (.ref aM), .val .null] []))
  refine own_goW (fun _ ww => XS.aloadN X161.here hx rfl (hb hby d11_4) rfl rfl ww) ?_
  show own_GoesW _ _ _ _ _ _ _ (T161.setTop (mkF m 5 #[.val (.ref x), .val (.ref sx), .val (.ref a), .val (.ref aM), .val .null] [(.ref x)]))
  refine own_goW (fun _ ww => XS.aloadN X161.here hx rfl (hb hby d11_5) rfl rfl ww) ?_
  show own_GoesW _ _ _ _ _ _ _ (T161.setTop (mkF m 6 #[.val (.ref x), .val (.ref sx), .val (.ref a), .val (.ref aM), .val .null] [(.ref sx), (.ref x)]))
  obtain ⟨a162, T162, h162, k162, X162, e162, E162, hS, hk, hZ, hown, st162⟩ := ldcS X161 hx hZ hown (own_w hw 72 rfl) wS e161 hS hk (g := (mkF m 6 #[.val (.ref x), .val (.ref sx), .val (.ref a), .val (.ref aM), .val .null] [(.ref sx), (.ref x)])) rfl (hb hby d11_6) (n := 16) (by decide) (by decide) (by decide) (by decide)
  have f163 := (P0.ext E162)
  have f164 := (P1.ext E162)
  have f165 := (P2.ext E162)
  have f166 := (P3.ext E162)
  have f167 := (Ex.ext E162)
  have f168 := (Es.ext E162)
  have f169 := (F2.ext E162)
  have f170 := (Ea.ext E162)
  have O162 := O0.ext E162
  have K162 := (Keep.refl h0 [x]).ext E162
  refine own_goW st162 ?_
  show own_GoesW _ _ _ _ _ _ _ (T162.setTop (mkF m 8 #[.val (.ref x), .val (.ref sx), .val (.ref a), .val (.ref aM), .val .null] [(.ref a162), (.ref sx), (.ref x)]))
  obtain ⟨_, _, ⟨T171, L171, k171, n171⟩, -, X171, ⟨Lc171, hQ171, l171, y171, z171⟩, st171⟩ := Jvm.LawKit.callS X162 hx (y := own_y16) hown (mvT hZ (own_w hw 75 rfl)) (mvT hZ (own_w hw 76 rfl)) (mvT hZ (own_w hw 77 rfl)) (mvT hZ (own_w hw 78 rfl)) (by decide) (backOf (W := 1) (rm_rnn2 l Z a0 hw [] sx a162 h162 n0 O162 ) hZ (own_w hw 78 rfl) (own_w hw 77 rfl) (by decide) (by decide)) (g := (mkF m 8 #[.val (.ref x), .val (.ref sx), .val (.ref a), .val (.ref aM), .val .null] [(.ref a162), (.ref sx), (.ref x)])) rfl (by rw [hml]; rfl) (argsL := [(.ref sx), (.ref a162)]) (rest := [(.ref x)]) (lenOf pd_13 rfl) rfl (by show 2 * 0 + _ ≤ _; exact Nat.le_of_eq rfl) (hb hby d11_8) (fun _ _ => ⟨rfl, e162, (by decide : 2 + 0 ≤ _), (by decide : 20 + 0 ≤ _)⟩)
  dsimp only [Pt.U, Pt.locs, Pt.cells, Pt.slots] at X171 l171 y171 z171 st171 hQ171
  subst l171 y171 z171
  obtain ⟨rfl, N171q, e171⟩ := hQ171
  have N171 := Fr.app N161 N171q
  refine own_goW st171 ?_
  show own_GoesW _ _ _ _ _ _ _ (T171.setTop (mkF m 11 #[.val (.ref x), .val (.ref sx), .val (.ref a), .val (.ref aM), .val .null] [(.ref sx), (.ref x)]))
  obtain ⟨T172, X172, e172, st172⟩ := castY X171 hx hZ hown (own_w hw 79 rfl) e171 (Ins.self f168) (g := (mkF m 11 #[.val (.ref x), .val (.ref sx), .val (.ref a), .val (.ref aM), .val .null] [(.ref sx), (.ref x)])) rfl rfl (hb hby d11_11)
  refine own_goW st172 ?_
  show own_GoesW _ _ _ _ _ _ _ (T172.setTop (mkF m 14 #[.val (.ref x), .val (.ref sx), .val (.ref a), .val (.ref aM), .val .null] [(.ref sx), (.ref x)]))
  obtain ⟨T173, h173, X173, e173, W173, st173⟩ := putF X172 hx hZ hown (host := "") (Or.inl (own_w hw 80 rfl)) Via.refl e172 f163 f167 (Or.inr ⟨(own_w hw 81 rfl), rfl, hnm⟩) (own_w hw 2 rfl) (ty := (.object "java/lang/String")) (by decide) rfl rfl (g := (mkF m 14 #[.val (.ref x), .val (.ref sx), .val (.ref a), .val (.ref aM), .val .null] [(.ref sx), (.ref x)])) rfl rfl (hb hby d11_14)
  have f174 : Fld Z h173 x "com/example/navlint/navlint/model/Entry" "page" "Ljava/lang/String;" (.ref sx) := (f163.same W173)
  have f175 := (f164.other W173 (Or.inr (slot_ne (Or.inr (own_w hw 111 rfl)) (Or.inr (own_w hw 81 rfl)) (by decide) (t := (.object "java/util/List")) (t' := (.object "java/lang/String")) (by decide) (by decide))))
  have f176 := (f165.other W173 (Or.inr (slot_ne (Or.inr (own_w hw 118 rfl)) (Or.inr (own_w hw 81 rfl)) (by decide) (t := (.object "java/util/Map")) (t' := (.object "java/lang/String")) (by decide) (by decide))))
  have f177 := (f166.other W173 (Or.inr (slot_ne (Or.inr (own_w hw 120 rfl)) (Or.inr (own_w hw 81 rfl)) (by decide) (t := (.object "com/example/navlint/navlint/model/Request")) (t' := (.object "java/lang/String")) (by decide) (by decide))))
  have f178 := (f167.wr W173)
  have f179 := (f168.wr W173)
  have f180 := (f169.other W173 (Or.inl nax))
  have f181 := (f170.wr W173)
  have hk := Nat.le_trans hk (Keep.of_wr W173).1
  have N173 := Fr.snoc X173 N171 g_x
  have O173 := O162.wr W173 g_x
  have K173 := K162.wr W173 (Or.inl (List.mem_of_getElem? (i := 0) rfl))
  refine own_goW st173 ?_
  show own_GoesW _ _ _ _ _ _ _ (T173.setTop (mkF m 17 #[.val (.ref x), .val (.ref sx), .val (.ref a), .val (.ref aM), .val .null] []))
  refine own_goW (fun _ ww => XS.aloadN X173.here hx rfl (hb hby d11_17) rfl rfl ww) ?_
  show own_GoesW _ _ _ _ _ _ _ (T173.setTop (mkF m 18 #[.val (.ref x), .val (.ref sx), .val (.ref a), .val (.ref aM), .val .null] [(.ref x)]))
  refine own_goW (fun _ ww => XS.aloadN X173.here hx rfl (hb hby d11_18) rfl rfl ww) ?_
  show own_GoesW _ _ _ _ _ _ _ (T173.setTop (mkF m 19 #[.val (.ref x), .val (.ref sx), .val (.ref a), .val (.ref aM), .val .null] [(.ref a), (.ref x)]))
  obtain ⟨_, _, ⟨T182, L182, k182, n182⟩, -, X182, ⟨Lc182, hQ182, l182, y182, z182⟩, st182⟩ := Jvm.LawKit.callS X173 hx (y := own_y23) hown (mvT hZ (own_w hw 82 rfl)) (mvT hZ (own_w hw 83 rfl)) (mvT hZ (own_w hw 84 rfl)) (mvT hZ (own_w hw 85 rfl)) (by decide) (backOf (W := 1) (rm_co_e l Z a0 hw [] a aL h173 n0 O173 f180 f181 SL) hZ (own_w hw 85 rfl) (own_w hw 84 rfl) (by decide) (by decide)) (g := (mkF m 19 #[.val (.ref x), .val (.ref sx), .val (.ref a), .val (.ref aM), .val .null] [(.ref a), (.ref x)])) rfl (by rw [hml]; rfl) (argsL := [(.ref a)]) (rest := [(.ref x)]) (lenOf pd_11 rfl) rfl (by show 2 * 0 + _ ≤ _; exact Nat.le_of_eq rfl) (hb hby d11_19) (fun _ _ => ⟨rfl, e173, (by decide : 2 + 0 ≤ _), (by decide : 20 + 0 ≤ _)⟩)
  dsimp only [Pt.U, Pt.locs, Pt.cells, Pt.slots] at X182 l182 y182 z182 st182 hQ182
  subst l182 y182 z182
  obtain ⟨rfl, N182q, e182⟩ := hQ182
  have N182 := Fr.app N173 N182q
  refine own_goW st182 ?_
  show own_GoesW _ _ _ _ _ _ _ (T182.setTop (mkF m 22 #[.val (.ref x), .val (.ref sx), .val (.ref a), .val (.ref aM), .val .null] [(.ref aL), (.ref x)]))
  obtain ⟨T183, h183, X183, e183, W183, st183⟩ := putF X182 hx hZ hown (host := "") (Or.inl (own_w hw 110 rfl)) Via.refl e182 f175 f178 (Or.inr ⟨(own_w hw 111 rfl), rfl, hnm⟩) (own_w hw 2 rfl) (ty := (.object "java/util/List")) (by decide) rfl rfl (g := (mkF m 22 #[.val (.ref x), .val (.ref sx), .val (.ref a), .val (.ref aM), .val .null] [(.ref aL), (.ref x)])) rfl rfl (hb hby d11_22)
  have f184 := (f174.other W183 (Or.inr (slot_ne (Or.inr (own_w hw 81 rfl)) (Or.inr (own_w hw 111 rfl)) (by decide) (t := (.object "java/lang/String")) (t' := (.object "java/util/List")) (by decide) (by decide))))
  have f185 : Fld Z h183 x "com/example/navlint/navlint/model/Entry" "links" "Ljava/util/List;" (.ref aL) := (f175.same W183)
  have f186 := (f176.other W183 (Or.inr (slot_ne (Or.inr (own_w hw 118 rfl)) (Or.inr (own_w hw 111 rfl)) (by decide) (t := (.object "java/util/Map")) (t' := (.object "java/util/List")) (by decide) (by decide))))
  have f187 := (f177.other W183 (Or.inr (slot_ne (Or.inr (own_w hw 120 rfl)) (Or.inr (own_w hw 111 rfl)) (by decide) (t := (.object "com/example/navlint/navlint/model/Request")) (t' := (.object "java/util/List")) (by decide) (by decide))))
  have f188 := (f178.wr W183)
  have f189 := (f179.wr W183)
  have f190 := (f180.other W183 (Or.inl nax))
  have f191 := (f181.wr W183)
  have hk := Nat.le_trans hk (Keep.of_wr W183).1
  have N183 := Fr.snoc X183 N182 g_x
  have O183 := O173.wr W183 g_x
  have K183 := K173.wr W183 (Or.inl (List.mem_of_getElem? (i := 0) rfl))
  refine own_goW st183 ?_
  show own_GoesW _ _ _ _ _ _ _ (T183.setTop (mkF m 25 #[.val (.ref x), .val (.ref sx), .val (.ref a), .val (.ref aM), .val .null] []))
  refine own_goW (fun _ ww => XS.aloadN X183.here hx rfl (hb hby d11_25) rfl rfl ww) ?_
  show own_GoesW _ _ _ _ _ _ _ (T183.setTop (mkF m 26 #[.val (.ref x), .val (.ref sx), .val (.ref a), .val (.ref aM), .val .null] [(.ref x)]))
  refine own_goW (fun _ ww => XS.aloadN X183.here hx rfl (hb hby d11_26) rfl rfl ww) ?_
  show own_GoesW _ _ _ _ _ _ _ (T183.setTop (mkF m 27 #[.val (.ref x), .val (.ref sx), .val (.ref a), .val (.ref aM), .val .null] [(.ref aM), (.ref x)]))
  obtain ⟨_, _, ⟨T192, L192, k192, n192⟩, -, X192, ⟨Lc192, hQ192, l192, y192, z192⟩, st192⟩ := Jvm.LawKit.callS X183 hx (y := own_y26) hown (mvT hZ (own_w hw 112 rfl)) (mvT hZ (own_w hw 113 rfl)) (mvT hZ (own_w hw 59 rfl)) (mvT hZ (own_w hw 114 rfl)) (by decide) (backOf (W := 1) (rm_mco l Z a0 hw [] aM h183 n0 O183 EM) hZ (own_w hw 114 rfl) (own_w hw 59 rfl) (by decide) (by decide)) (g := (mkF m 27 #[.val (.ref x), .val (.ref sx), .val (.ref a), .val (.ref aM), .val .null] [(.ref aM), (.ref x)])) rfl (by rw [hml]; rfl) (argsL := [(.ref aM)]) (rest := [(.ref x)]) (lenOf pd_14 rfl) rfl (by show 2 * 0 + _ ≤ _; exact Nat.le_of_eq rfl) (hb hby d11_27) (fun _ _ => ⟨rfl, e183, (by decide : 2 + 0 ≤ _), (by decide : 20 + 0 ≤ _)⟩)
  dsimp only [Pt.U, Pt.locs, Pt.cells, Pt.slots] at X192 l192 y192 z192 st192 hQ192
  subst l192 y192 z192
  obtain ⟨rfl, N192q, e192⟩ := hQ192
  have N192 := Fr.app N183 N192q
  refine own_goW st192 ?_
  show own_GoesW _ _ _ _ _ _ _ (T192.setTop (mkF m 30 #[.val (.ref x), .val (.ref sx), .val (.ref a), .val (.ref aM), .val .null] [(.ref aM), (.ref x)]))
  obtain ⟨T193, h193, X193, e193, W193, st193⟩ := putF X192 hx hZ hown (host := "") (Or.inl (own_w hw 117 rfl)) Via.refl e192 f186 f188 (Or.inr ⟨(own_w hw 118 rfl), rfl, hnm⟩) (own_w hw 2 rfl) (ty := (.object "java/util/Map")) (by decide) rfl rfl (g := (mkF m 30 #[.val (.ref x), .val (.ref sx), .val (.ref a), .val (.ref aM), .val .null] [(.ref aM), (.ref x)])) rfl rfl (hb hby d11_30)
  have f194 := (f184.other W193 (Or.inr (slot_ne (Or.inr (own_w hw 81 rfl)) (Or.inr (own_w hw 118 rfl)) (by decide) (t := (.object "java/lang/String")) (t' := (.object "java/util/Map")) (by decide) (by decide))))
  have f195 := (f185.other W193 (Or.inr (slot_ne (Or.inr (own_w hw 111 rfl)) (Or.inr (own_w hw 118 rfl)) (by decide) (t := (.object "java/util/List")) (t' := (.object "java/util/Map")) (by decide) (by decide))))
  have f196 : Fld Z h193 x "com/example/navlint/navlint/model/Entry" "snapshot" "Ljava/util/Map;" (.ref aM) := (f186.same W193)
  have f197 := (f187.other W193 (Or.inr (slot_ne (Or.inr (own_w hw 120 rfl)) (Or.inr (own_w hw 118 rfl)) (by decide) (t := (.object "com/example/navlint/navlint/model/Request")) (t' := (.object "java/util/Map")) (by decide) (by decide))))
  have f198 := (f188.wr W193)
  have f199 := (f189.wr W193)
  have f200 := (f190.other W193 (Or.inl nax))
  have f201 := (f191.wr W193)
  have hk := Nat.le_trans hk (Keep.of_wr W193).1
  have N193 := Fr.snoc X193 N192 g_x
  have O193 := O183.wr W193 g_x
  have K193 := K183.wr W193 (Or.inl (List.mem_of_getElem? (i := 0) rfl))
  refine own_goW st193 ?_
  show own_GoesW _ _ _ _ _ _ _ (T193.setTop (mkF m 33 #[.val (.ref x), .val (.ref sx), .val (.ref a), .val (.ref aM), .val .null] []))
  refine own_goW (fun _ ww => XS.aloadN X193.here hx rfl (hb hby d11_33) rfl rfl ww) ?_
  show own_GoesW _ _ _ _ _ _ _ (T193.setTop (mkF m 34 #[.val (.ref x), .val (.ref sx), .val (.ref a), .val (.ref aM), .val .null] [(.ref x)]))
  refine own_goW (fun _ ww => XS.aload X193.here hx rfl (hb hby d11_34) rfl rfl ww) ?_
  show own_GoesW _ _ _ _ _ _ _ (T193.setTop (mkF m 36 #[.val (.ref x), .val (.ref sx), .val (.ref a), .val (.ref aM), .val .null] [.null, (.ref x)]))
  obtain ⟨T202, h202, X202, e202, W202, st202⟩ := putF X193 hx hZ hown (host := "") (Or.inl (own_w hw 119 rfl)) Via.refl e193 f197 f198 (Or.inr ⟨(own_w hw 120 rfl), rfl, hnm⟩) (own_w hw 2 rfl) (ty := (.object "com/example/navlint/navlint/model/Request")) (by decide) rfl rfl (g := (mkF m 36 #[.val (.ref x), .val (.ref sx), .val (.ref a), .val (.ref aM), .val .null] [.null, (.ref x)])) rfl rfl (hb hby d11_36)
  have f203 := (f194.other W202 (Or.inr (slot_ne (Or.inr (own_w hw 81 rfl)) (Or.inr (own_w hw 120 rfl)) (by decide) (t := (.object "java/lang/String")) (t' := (.object "com/example/navlint/navlint/model/Request")) (by decide) (by decide))))
  have f204 := (f195.other W202 (Or.inr (slot_ne (Or.inr (own_w hw 111 rfl)) (Or.inr (own_w hw 120 rfl)) (by decide) (t := (.object "java/util/List")) (t' := (.object "com/example/navlint/navlint/model/Request")) (by decide) (by decide))))
  have f205 := (f196.other W202 (Or.inr (slot_ne (Or.inr (own_w hw 118 rfl)) (Or.inr (own_w hw 120 rfl)) (by decide) (t := (.object "java/util/Map")) (t' := (.object "com/example/navlint/navlint/model/Request")) (by decide) (by decide))))
  have f206 : Fld Z h202 x "com/example/navlint/navlint/model/Entry" "request" "Lcom/example/navlint/navlint/model/Request;" .null := (f197.same W202)
  have f207 := (f198.wr W202)
  have f208 := (f199.wr W202)
  have f209 := (f200.other W202 (Or.inl nax))
  have f210 := (f201.wr W202)
  have hk := Nat.le_trans hk (Keep.of_wr W202).1
  have N202 := Fr.snoc X202 N193 g_x
  have O202 := O193.wr W202 g_x
  have K202 := K193.wr W202 (Or.inl (List.mem_of_getElem? (i := 0) rfl))
  refine own_goW st202 ?_
  show own_GoesW _ _ _ _ _ _ _ (T202.setTop (mkF m 39 #[.val (.ref x), .val (.ref sx), .val (.ref a), .val (.ref aM), .val .null] []))
  exact own_outW X202 hS hk hlk (v := none) (fun _ => rfl) (fun fs hr => X202.returnOut hx hret (hb hby d11_39) hr) e202 ⟨rfl, N202, K202⟩ (by decide) (by decide)
theorem d19_0 : decode prog_104_method_1_code 0 = .ok (.aload_n 0, 1) := by decide +kernel
theorem d19_1 : decode prog_104_method_1_code 1 = .ok (.invokespecial 1, 3) := by decide +kernel
theorem d19_4 : decode prog_104_method_1_code 4 = .ok (.aload_n 0, 1) := by decide +kernel
theorem d19_5 : decode prog_104_method_1_code 5 = .ok (.aload_n 1, 1) := by decide +kernel
theorem d19_6 : decode prog_104_method_1_code 6 = .ok (.putfield 7, 3) := by decide +kernel
theorem d19_9 : decode prog_104_method_1_code 9 = .ok (.aload_n 0, 1) := by decide +kernel
theorem d19_10 : decode prog_104_method_1_code 10 = .ok (.aload_n 2, 1) := by decide +kernel
theorem d19_11 : decode prog_104_method_1_code 11 = .ok (.invokestatic 13, 3) := by decide +kernel
theorem d19_14 : decode prog_104_method_1_code 14 = .ok (.putfield 19, 3) := by decide +kernel
theorem d19_17 : decode prog_104_method_1_code 17 = .ok (.aload_n 0, 1) := by decide +kernel
theorem d19_18 : decode prog_104_method_1_code 18 = .ok (.aload_n 3, 1) := by decide +kernel
theorem d19_19 : decode prog_104_method_1_code 19 = .ok (.invokestatic 13, 3) := by decide +kernel
theorem d19_22 : decode prog_104_method_1_code 22 = .ok (.putfield 23, 3) := by decide +kernel
theorem d19_25 : decode prog_104_method_1_code 25 = .ok (.return_, 1) := by decide +kernel
theorem ef_ti0ee (m : MethodId) (x : Addr) (e_ : Addr) (mr : Addr) (aL : Addr) (aX : Addr) (a1 : Addr) (a2 : Addr) : entryFrame m #[(.ref x), .null, (.ref a1), (.ref a2)] 4 = mkF m 0 #[.val (.ref x), .val .null, .val (.ref a1), .val (.ref a2)] [] := by
  first | (simp [entryFrame, mkF, argsToLocals, Value.category]; done) | rfl
def Q_ti0ee (Z : State) (x : Addr) (e_ : Addr) (mr : Addr) (aL : Addr) (aX : Addr) (a1 : Addr) (a2 : Addr) (h0 : Heap) (n0 : Nat) (v : Option Value) (h : Heap) (L : List Loc) : Prop := v = none ∧ Fr n0 L ∧ Keep h0 h [x] ∧ Fld Z h x "com/example/navlint/navlint/model/State$Tab" "entry" "Lcom/example/navlint/navlint/model/Entry;" .null ∧ Fld Z h x "com/example/navlint/navlint/model/State$Tab" "back" "Ljava/util/List;" (.ref aL) ∧ Fld Z h x "com/example/navlint/navlint/model/State$Tab" "forward" "Ljava/util/List;" (.ref aL)
set_option maxRecDepth 65536 in
set_option maxHeartbeats 40000000 in
theorem rm_ti0ee (l : Launch) (Z : State) (a0 : Array Value) (hw : ∀ d ∈ tables_1, d.before a0 Z = true) (ws : List Jvm.Cond) (x : Addr) (e_ : Addr) (mr : Addr) (aL : Addr) (aX : Addr) (a1 : Addr) (a2 : Addr) (h0 : Heap) (n0 : Nat) (O0 : Old Z n0 h0) (P0 : Fld Z h0 x "com/example/navlint/navlint/model/State$Tab" "entry" "Lcom/example/navlint/navlint/model/Entry;" .null) (P1 : Fld Z h0 x "com/example/navlint/navlint/model/State$Tab" "back" "Ljava/util/List;" .null) (P2 : Fld Z h0 x "com/example/navlint/navlint/model/State$Tab" "forward" "Ljava/util/List;" .null) (Ex : Exa Z h0 x "com/example/navlint/navlint/model/State$Tab") (g_x : n0 ≤ x) (Ee : Exa Z h0 e_ "com/example/navlint/navlint/model/Entry") (MK : Mir Z "[Ljava/lang/Object;" mr) (SL : Sta Z Z.heap "java/util/ImmutableCollections" "EMPTY_LIST" "Ljava/util/ImmutableCollections$ListN;" (.ref aL)) (SX : Sta Z Z.heap "java/util/ImmutableCollections" "EMPTY" "Ljava/lang/Object;" (.ref aX)) (EL : Exa Z Z.heap aL "java/util/ImmutableCollections$ListN") (FL : Fld Z Z.heap aL "java/util/ImmutableCollections$ListN" "allowNulls" "Z" (.int (0 : Int32))) (Z1 : Fld Z h0 a1 "java/util/ArrayList" "size" "I" (.int (0 : Int32))) (Y1 : Exa Z h0 a1 "java/util/ArrayList") (na1 : a1 ≠ x) (Z2 : Fld Z h0 a2 "java/util/ArrayList" "size" "I" (.int (0 : Int32))) (Y2 : Exa Z h0 a2 "java/util/ArrayList") (na2 : a2 ≠ x) :
    MetFree l own_y28 (head1 (Jvm.Cond.code own_y28 prog_104_method_1_code 4 none :: ws) ({ frames := 3, cells := 0, slots := 0, locals := 38 } : Room)) (fun av_ U => av_ = #[(.ref x), .null, (.ref a1), (.ref a2)] ∧ Z.Warmed39 U.vm ∧ U.heap = h0) (fun _ _ _ _ _ => True) (fun _ U o_ U' => ∃ v L, o_ = .returned v ∧ Q_ti0ee Z x e_ mr aL aX a1 a2 h0 n0 v U'.heap L ∧ FrameEnd U o_ U' L ({ frames := 3, cells := 0, slots := 0, locals := 38 } : Room).cells ({ frames := 3, cells := 0, slots := 0, locals := 38 } : Room).slots) := by
  refine MetFree.of_bodySF (plainFor_of_name pn_13) hisR ?_
  intro p e s m args below meth c s₁ Bd hml0 hP hK
  obtain ⟨rfl, hZ, hh⟩ := hP
  have hx := Bd.exec
  have hby := Bd.bytes
  have hml : c.maxLocals = 4 := hml0
  have hown : s.vm.findClass "com/example/navlint/navlint/model/State$Tab" = some m.cls := findClass_of_methodNamed Bd.named
  have hnm := (name_of_methodNamed Bd.named Bd.method).1
  have hlk := own_lk Bd
  have hret := Bd.returns
  have X0 : Stand p l e ({ frames := 3, cells := 0, slots := 0, locals := 38 } : Room) s m #[(.ref x), .null, (.ref a1), (.ref a2)] below meth c s₁ [] 0 0 := Stand.of_body Bd
  have e0 : s₁.heap = h0 := by rw [← hh, Bd.state]; rfl
  have N0 := Fr.nil n0
  show own_Goes p e below s (Q_ti0ee Z x e_ mr aL aX a1 a2 h0 n0) ({ frames := 3, cells := 0, slots := 0, locals := 38 } : Room).cells ({ frames := 3, cells := 0, slots := 0, locals := 38 } : Room).slots (s₁.setTop (entryFrame m #[(.ref x), .null, (.ref a1), (.ref a2)] 4))
  refine own_go (fun _ ww => castTop (ef_ti0ee m x e_ mr aL aX a1 a2) ww) ?_
  show own_Goes _ _ _ _ _ _ _ (s₁.setTop (mkF m 0 #[.val (.ref x), .val .null, .val (.ref a1), .val (.ref a2)] []))
  refine own_go (fun _ ww => XS.aloadN X0.here hx rfl (hb hby d19_0) rfl rfl ww) ?_
  show own_Goes _ _ _ _ _ _ _ (s₁.setTop (mkF m 1 #[.val (.ref x), .val .null, .val (.ref a1), .val (.ref a2)] [(.ref x)]))
  obtain ⟨_, _, ⟨T211, L211, k211, n211⟩, -, X211, ⟨Lc211, hQ211, l211, y211, z211⟩, st211⟩ := X0.specialBack hx (y := own_y3) rfl hown (mvT hZ (own_w hw 127 rfl)) (mvT hZ (own_w hw 67 rfl)) (mvT hZ (own_w hw 70 rfl)) (by decide) (backOf (W := 0) (rm_hvinit l Z a0 hw [] x h0 n0 O0 ) hZ (own_w hw 70 rfl) (own_w hw 69 rfl) (by decide) (by decide)) (g := (mkF m 1 #[.val (.ref x), .val .null, .val (.ref a1), .val (.ref a2)] [(.ref x)])) rfl (by rw [hml]; rfl) (Steps.refl _) (a := x) (argsL := []) (rest := []) (lenOf pd_0 rfl) rfl (by show 2 * 0 + _ ≤ _; exact Nat.le_of_eq rfl) (hb hby d19_1) (fun _ _ => ⟨rfl, e0, (by decide : 0 + 0 ≤ _), (by decide : 0 + 0 ≤ _)⟩)
  dsimp only [Pt.U, Pt.locs, Pt.cells, Pt.slots] at X211 l211 y211 z211 st211 hQ211
  subst l211 y211 z211
  obtain ⟨rfl, N211q, e211⟩ := hQ211
  have N211 := Fr.app N0 N211q
  refine own_go (fun _ ww => Steps.trans st211 ww) ?_
  show own_Goes _ _ _ _ _ _ _ (T211.setTop (mkF m 4 #[.val (.ref x), .val .null, .val (.ref a1), .val (.ref a2)] []))
  refine own_go (fun _ ww => XS.aloadN X211.here hx rfl (hb hby d19_4) rfl rfl ww) ?_
  show own_Goes _ _ _ _ _ _ _ (T211.setTop (mkF m 5 #[.val (.ref x), .val .null, .val (.ref a1), .val (.ref a2)] [(.ref x)]))
  refine own_go (fun _ ww => XS.aloadN X211.here hx rfl (hb hby d19_5) rfl rfl ww) ?_
  show own_Goes _ _ _ _ _ _ _ (T211.setTop (mkF m 6 #[.val (.ref x), .val .null, .val (.ref a1), .val (.ref a2)] [.null, (.ref x)]))
  obtain ⟨T212, h212, X212, e212, W212, st212⟩ := putF X211 hx hZ hown (host := "") (Or.inl (own_w hw 128 rfl)) Via.refl e211 P0 Ex (Or.inr ⟨(own_w hw 129 rfl), rfl, hnm⟩) (own_w hw 122 rfl) (ty := (.object "com/example/navlint/navlint/model/Entry")) (by decide) rfl rfl (g := (mkF m 6 #[.val (.ref x), .val .null, .val (.ref a1), .val (.ref a2)] [.null, (.ref x)])) rfl rfl (hb hby d19_6)
  have f213 : Fld Z h212 x "com/example/navlint/navlint/model/State$Tab" "entry" "Lcom/example/navlint/navlint/model/Entry;" .null := (P0.same W212)
  have f214 := (P1.other W212 (Or.inr (slot_ne (Or.inr (own_w hw 132 rfl)) (Or.inr (own_w hw 129 rfl)) (by decide) (t := (.object "java/util/List")) (t' := (.object "com/example/navlint/navlint/model/Entry")) (by decide) (by decide))))
  have f215 := (P2.other W212 (Or.inr (slot_ne (Or.inr (own_w hw 134 rfl)) (Or.inr (own_w hw 129 rfl)) (by decide) (t := (.object "java/util/List")) (t' := (.object "com/example/navlint/navlint/model/Entry")) (by decide) (by decide))))
  have f216 := (Ex.wr W212)
  have f217 := (Ee.wr W212)
  have f218 := (Z1.other W212 (Or.inl na1))
  have f219 := (Y1.wr W212)
  have f220 := (Z2.other W212 (Or.inl na2))
  have f221 := (Y2.wr W212)
  have N212 := Fr.snoc X212 N211 g_x
  have O212 := O0.wr W212 g_x
  have K212 := (Keep.refl h0 [x]).wr W212 (Or.inl (List.mem_of_getElem? (i := 0) rfl))
  refine own_go st212 ?_
  show own_Goes _ _ _ _ _ _ _ (T212.setTop (mkF m 9 #[.val (.ref x), .val .null, .val (.ref a1), .val (.ref a2)] []))
  refine own_go (fun _ ww => XS.aloadN X212.here hx rfl (hb hby d19_9) rfl rfl ww) ?_
  show own_Goes _ _ _ _ _ _ _ (T212.setTop (mkF m 10 #[.val (.ref x), .val .null, .val (.ref a1), .val (.ref a2)] [(.ref x)]))
  refine own_go (fun _ ww => XS.aloadN X212.here hx rfl (hb hby d19_10) rfl rfl ww) ?_
  show own_Goes _ _ _ _ _ _ _ (T212.setTop (mkF m 11 #[.val (.ref x), .val .null, .val (.ref a1), .val (.ref a2)] [(.ref a1), (.ref x)]))
  obtain ⟨_, _, ⟨T222, L222, k222, n222⟩, -, X222, ⟨Lc222, hQ222, l222, y222, z222⟩, st222⟩ := Jvm.LawKit.callS X212 hx (y := own_y23) hown (mvT hZ (own_w hw 130 rfl)) (mvT hZ (own_w hw 83 rfl)) (mvT hZ (own_w hw 84 rfl)) (mvT hZ (own_w hw 85 rfl)) (by decide) (backOf (W := 1) (rm_co_e l Z a0 hw [] a1 aL h212 n0 O212 f218 f219 SL) hZ (own_w hw 85 rfl) (own_w hw 84 rfl) (by decide) (by decide)) (g := (mkF m 11 #[.val (.ref x), .val .null, .val (.ref a1), .val (.ref a2)] [(.ref a1), (.ref x)])) rfl (by rw [hml]; rfl) (argsL := [(.ref a1)]) (rest := [(.ref x)]) (lenOf pd_11 rfl) rfl (by show 2 * 0 + _ ≤ _; exact Nat.le_of_eq rfl) (hb hby d19_11) (fun _ _ => ⟨rfl, e212, (by decide : 0 + 0 ≤ _), (by decide : 0 + 0 ≤ _)⟩)
  dsimp only [Pt.U, Pt.locs, Pt.cells, Pt.slots] at X222 l222 y222 z222 st222 hQ222
  subst l222 y222 z222
  obtain ⟨rfl, N222q, e222⟩ := hQ222
  have N222 := Fr.app N212 N222q
  refine own_go st222 ?_
  show own_Goes _ _ _ _ _ _ _ (T222.setTop (mkF m 14 #[.val (.ref x), .val .null, .val (.ref a1), .val (.ref a2)] [(.ref aL), (.ref x)]))
  obtain ⟨T223, h223, X223, e223, W223, st223⟩ := putF X222 hx hZ hown (host := "") (Or.inl (own_w hw 131 rfl)) Via.refl e222 f214 f216 (Or.inr ⟨(own_w hw 132 rfl), rfl, hnm⟩) (own_w hw 122 rfl) (ty := (.object "java/util/List")) (by decide) rfl rfl (g := (mkF m 14 #[.val (.ref x), .val .null, .val (.ref a1), .val (.ref a2)] [(.ref aL), (.ref x)])) rfl rfl (hb hby d19_14)
  have f224 := (f213.other W223 (Or.inr (slot_ne (Or.inr (own_w hw 129 rfl)) (Or.inr (own_w hw 132 rfl)) (by decide) (t := (.object "com/example/navlint/navlint/model/Entry")) (t' := (.object "java/util/List")) (by decide) (by decide))))
  have f225 : Fld Z h223 x "com/example/navlint/navlint/model/State$Tab" "back" "Ljava/util/List;" (.ref aL) := (f214.same W223)
  have f226 := (f215.other W223 (Or.inr (slot_ne (Or.inr (own_w hw 134 rfl)) (Or.inr (own_w hw 132 rfl)) (by decide) (t := (.object "java/util/List")) (t' := (.object "java/util/List")) (by decide) (by decide))))
  have f227 := (f216.wr W223)
  have f228 := (f217.wr W223)
  have f229 := (f220.other W223 (Or.inl na2))
  have f230 := (f221.wr W223)
  have N223 := Fr.snoc X223 N222 g_x
  have O223 := O212.wr W223 g_x
  have K223 := K212.wr W223 (Or.inl (List.mem_of_getElem? (i := 0) rfl))
  refine own_go st223 ?_
  show own_Goes _ _ _ _ _ _ _ (T223.setTop (mkF m 17 #[.val (.ref x), .val .null, .val (.ref a1), .val (.ref a2)] []))
  refine own_go (fun _ ww => XS.aloadN X223.here hx rfl (hb hby d19_17) rfl rfl ww) ?_
  show own_Goes _ _ _ _ _ _ _ (T223.setTop (mkF m 18 #[.val (.ref x), .val .null, .val (.ref a1), .val (.ref a2)] [(.ref x)]))
  refine own_go (fun _ ww => XS.aloadN X223.here hx rfl (hb hby d19_18) rfl rfl ww) ?_
  show own_Goes _ _ _ _ _ _ _ (T223.setTop (mkF m 19 #[.val (.ref x), .val .null, .val (.ref a1), .val (.ref a2)] [(.ref a2), (.ref x)]))
  obtain ⟨_, _, ⟨T231, L231, k231, n231⟩, -, X231, ⟨Lc231, hQ231, l231, y231, z231⟩, st231⟩ := Jvm.LawKit.callS X223 hx (y := own_y23) hown (mvT hZ (own_w hw 130 rfl)) (mvT hZ (own_w hw 83 rfl)) (mvT hZ (own_w hw 84 rfl)) (mvT hZ (own_w hw 85 rfl)) (by decide) (backOf (W := 1) (rm_co_e l Z a0 hw [] a2 aL h223 n0 O223 f229 f230 SL) hZ (own_w hw 85 rfl) (own_w hw 84 rfl) (by decide) (by decide)) (g := (mkF m 19 #[.val (.ref x), .val .null, .val (.ref a1), .val (.ref a2)] [(.ref a2), (.ref x)])) rfl (by rw [hml]; rfl) (argsL := [(.ref a2)]) (rest := [(.ref x)]) (lenOf pd_11 rfl) rfl (by show 2 * 0 + _ ≤ _; exact Nat.le_of_eq rfl) (hb hby d19_19) (fun _ _ => ⟨rfl, e223, (by decide : 0 + 0 ≤ _), (by decide : 0 + 0 ≤ _)⟩)
  dsimp only [Pt.U, Pt.locs, Pt.cells, Pt.slots] at X231 l231 y231 z231 st231 hQ231
  subst l231 y231 z231
  obtain ⟨rfl, N231q, e231⟩ := hQ231
  have N231 := Fr.app N223 N231q
  refine own_go st231 ?_
  show own_Goes _ _ _ _ _ _ _ (T231.setTop (mkF m 22 #[.val (.ref x), .val .null, .val (.ref a1), .val (.ref a2)] [(.ref aL), (.ref x)]))
  obtain ⟨T232, h232, X232, e232, W232, st232⟩ := putF X231 hx hZ hown (host := "") (Or.inl (own_w hw 133 rfl)) Via.refl e231 f226 f227 (Or.inr ⟨(own_w hw 134 rfl), rfl, hnm⟩) (own_w hw 122 rfl) (ty := (.object "java/util/List")) (by decide) rfl rfl (g := (mkF m 22 #[.val (.ref x), .val .null, .val (.ref a1), .val (.ref a2)] [(.ref aL), (.ref x)])) rfl rfl (hb hby d19_22)
  have f233 := (f224.other W232 (Or.inr (slot_ne (Or.inr (own_w hw 129 rfl)) (Or.inr (own_w hw 134 rfl)) (by decide) (t := (.object "com/example/navlint/navlint/model/Entry")) (t' := (.object "java/util/List")) (by decide) (by decide))))
  have f234 := (f225.other W232 (Or.inr (slot_ne (Or.inr (own_w hw 132 rfl)) (Or.inr (own_w hw 134 rfl)) (by decide) (t := (.object "java/util/List")) (t' := (.object "java/util/List")) (by decide) (by decide))))
  have f235 : Fld Z h232 x "com/example/navlint/navlint/model/State$Tab" "forward" "Ljava/util/List;" (.ref aL) := (f226.same W232)
  have f236 := (f227.wr W232)
  have f237 := (f228.wr W232)
  have f238 := (f229.other W232 (Or.inl na2))
  have f239 := (f230.wr W232)
  have N232 := Fr.snoc X232 N231 g_x
  have O232 := O223.wr W232 g_x
  have K232 := K223.wr W232 (Or.inl (List.mem_of_getElem? (i := 0) rfl))
  refine own_go st232 ?_
  show own_Goes _ _ _ _ _ _ _ (T232.setTop (mkF m 25 #[.val (.ref x), .val .null, .val (.ref a1), .val (.ref a2)] []))
  exact own_out X232 hlk (v := none) (fun _ => rfl) (fun fs hr => X232.returnOut hx hret (hb hby d19_25) hr) e232 ⟨rfl, N232, K232, f233, f234, f235⟩ (by decide) (by decide)
theorem ef_ti0en (m : MethodId) (x : Addr) (e_ : Addr) (mr : Addr) (aL : Addr) (aX : Addr) (a1 : Addr) (a2 : Addr) (t2 : Addr) (kk2 : ClassId) : entryFrame m #[(.ref x), .null, (.ref a1), (.ref a2)] 4 = mkF m 0 #[.val (.ref x), .val .null, .val (.ref a1), .val (.ref a2)] [] := by
  first | (simp [entryFrame, mkF, argsToLocals, Value.category]; done) | rfl
def Q_ti0en (Z : State) (x : Addr) (e_ : Addr) (mr : Addr) (aL : Addr) (aX : Addr) (a1 : Addr) (a2 : Addr) (t2 : Addr) (kk2 : ClassId) (h0 : Heap) (n0 : Nat) (v : Option Value) (h : Heap) (L : List Loc) : Prop := ∃ r2 : Addr, v = none ∧ Fr n0 L ∧ Keep h0 h [x] ∧ Fld Z h x "com/example/navlint/navlint/model/State$Tab" "entry" "Lcom/example/navlint/navlint/model/Entry;" .null ∧ Fld Z h x "com/example/navlint/navlint/model/State$Tab" "back" "Ljava/util/List;" (.ref aL) ∧ Fld Z h x "com/example/navlint/navlint/model/State$Tab" "forward" "Ljava/util/List;" (.ref r2) ∧ Exa Z h r2 "java/util/ImmutableCollections$List12"
set_option maxRecDepth 65536 in
set_option maxHeartbeats 40000000 in
theorem rm_ti0en (l : Launch) (Z : State) (a0 : Array Value) (hw : ∀ d ∈ tables_1, d.before a0 Z = true) (ws : List Jvm.Cond) (x : Addr) (e_ : Addr) (mr : Addr) (aL : Addr) (aX : Addr) (a1 : Addr) (a2 : Addr) (t2 : Addr) (kk2 : ClassId) (h0 : Heap) (n0 : Nat) (O0 : Old Z n0 h0) (P0 : Fld Z h0 x "com/example/navlint/navlint/model/State$Tab" "entry" "Lcom/example/navlint/navlint/model/Entry;" .null) (P1 : Fld Z h0 x "com/example/navlint/navlint/model/State$Tab" "back" "Ljava/util/List;" .null) (P2 : Fld Z h0 x "com/example/navlint/navlint/model/State$Tab" "forward" "Ljava/util/List;" .null) (Ex : Exa Z h0 x "com/example/navlint/navlint/model/State$Tab") (g_x : n0 ≤ x) (Ee : Exa Z h0 e_ "com/example/navlint/navlint/model/Entry") (MK : Mir Z "[Ljava/lang/Object;" mr) (SL : Sta Z Z.heap "java/util/ImmutableCollections" "EMPTY_LIST" "Ljava/util/ImmutableCollections$ListN;" (.ref aL)) (SX : Sta Z Z.heap "java/util/ImmutableCollections" "EMPTY" "Ljava/lang/Object;" (.ref aX)) (EL : Exa Z Z.heap aL "java/util/ImmutableCollections$ListN") (FL : Fld Z Z.heap aL "java/util/ImmutableCollections$ListN" "allowNulls" "Z" (.int (0 : Int32))) (Z1 : Fld Z h0 a1 "java/util/ArrayList" "size" "I" (.int (0 : Int32))) (Y1 : Exa Z h0 a1 "java/util/ArrayList") (na1 : a1 ≠ x) (Z21 : Fld Z h0 a2 "java/util/ArrayList" "elementData" "[Ljava/lang/Object;" (.ref t2)) (Z22 : Fld Z h0 a2 "java/util/ArrayList" "size" "I" (.int (1 : Int32))) (Y2 : Exa Z h0 a2 "java/util/ArrayList") (V2 : Arv Z h0 t2 kk2 (.object "java/lang/Object") (10 : Int32) [(.ref e_), .null, .null, .null, .null, .null, .null, .null, .null, .null] .null) (U2 : Exa Z h0 t2 "[Ljava/lang/Object;") (na2 : a2 ≠ x) (nt2 : t2 ≠ x) :
    MetFree l own_y28 (head1 (Jvm.Cond.code own_y28 prog_104_method_1_code 4 none :: ws) ({ frames := 8, cells := 2, slots := 3, locals := 106 } : Room)) (fun av_ U => av_ = #[(.ref x), .null, (.ref a1), (.ref a2)] ∧ Z.Warmed39 U.vm ∧ U.heap = h0) (fun _ _ _ _ _ => True) (fun _ U o_ U' => ∃ v L, o_ = .returned v ∧ Q_ti0en Z x e_ mr aL aX a1 a2 t2 kk2 h0 n0 v U'.heap L ∧ FrameEnd U o_ U' L ({ frames := 8, cells := 2, slots := 3, locals := 106 } : Room).cells ({ frames := 8, cells := 2, slots := 3, locals := 106 } : Room).slots) := by
  refine MetFree.of_bodySF (plainFor_of_name pn_13) hisR ?_
  intro p e s m args below meth c s₁ Bd hml0 hP hK
  obtain ⟨rfl, hZ, hh⟩ := hP
  have hx := Bd.exec
  have hby := Bd.bytes
  have hml : c.maxLocals = 4 := hml0
  have hown : s.vm.findClass "com/example/navlint/navlint/model/State$Tab" = some m.cls := findClass_of_methodNamed Bd.named
  have hnm := (name_of_methodNamed Bd.named Bd.method).1
  have hlk := own_lk Bd
  have hret := Bd.returns
  have X0 : Stand p l e ({ frames := 8, cells := 2, slots := 3, locals := 106 } : Room) s m #[(.ref x), .null, (.ref a1), (.ref a2)] below meth c s₁ [] 0 0 := Stand.of_body Bd
  have e0 : s₁.heap = h0 := by rw [← hh, Bd.state]; rfl
  have N0 := Fr.nil n0
  show own_Goes p e below s (Q_ti0en Z x e_ mr aL aX a1 a2 t2 kk2 h0 n0) ({ frames := 8, cells := 2, slots := 3, locals := 106 } : Room).cells ({ frames := 8, cells := 2, slots := 3, locals := 106 } : Room).slots (s₁.setTop (entryFrame m #[(.ref x), .null, (.ref a1), (.ref a2)] 4))
  refine own_go (fun _ ww => castTop (ef_ti0en m x e_ mr aL aX a1 a2 t2 kk2) ww) ?_
  show own_Goes _ _ _ _ _ _ _ (s₁.setTop (mkF m 0 #[.val (.ref x), .val .null, .val (.ref a1), .val (.ref a2)] []))
  refine own_go (fun _ ww => XS.aloadN X0.here hx rfl (hb hby d19_0) rfl rfl ww) ?_
  show own_Goes _ _ _ _ _ _ _ (s₁.setTop (mkF m 1 #[.val (.ref x), .val .null, .val (.ref a1), .val (.ref a2)] [(.ref x)]))
  obtain ⟨_, _, ⟨T240, L240, k240, n240⟩, -, X240, ⟨Lc240, hQ240, l240, y240, z240⟩, st240⟩ := X0.specialBack hx (y := own_y3) rfl hown (mvT hZ (own_w hw 127 rfl)) (mvT hZ (own_w hw 67 rfl)) (mvT hZ (own_w hw 70 rfl)) (by decide) (backOf (W := 0) (rm_hvinit l Z a0 hw [] x h0 n0 O0 ) hZ (own_w hw 70 rfl) (own_w hw 69 rfl) (by decide) (by decide)) (g := (mkF m 1 #[.val (.ref x), .val .null, .val (.ref a1), .val (.ref a2)] [(.ref x)])) rfl (by rw [hml]; rfl) (Steps.refl _) (a := x) (argsL := []) (rest := []) (lenOf pd_0 rfl) rfl (by show 2 * 0 + _ ≤ _; exact Nat.le_of_eq rfl) (hb hby d19_1) (fun _ _ => ⟨rfl, e0, (by decide : 0 + 0 ≤ _), (by decide : 0 + 0 ≤ _)⟩)
  dsimp only [Pt.U, Pt.locs, Pt.cells, Pt.slots] at X240 l240 y240 z240 st240 hQ240
  subst l240 y240 z240
  obtain ⟨rfl, N240q, e240⟩ := hQ240
  have N240 := Fr.app N0 N240q
  refine own_go (fun _ ww => Steps.trans st240 ww) ?_
  show own_Goes _ _ _ _ _ _ _ (T240.setTop (mkF m 4 #[.val (.ref x), .val .null, .val (.ref a1), .val (.ref a2)] []))
  refine own_go (fun _ ww => XS.aloadN X240.here hx rfl (hb hby d19_4) rfl rfl ww) ?_
  show own_Goes _ _ _ _ _ _ _ (T240.setTop (mkF m 5 #[.val (.ref x), .val .null, .val (.ref a1), .val (.ref a2)] [(.ref x)]))
  refine own_go (fun _ ww => XS.aloadN X240.here hx rfl (hb hby d19_5) rfl rfl ww) ?_
  show own_Goes _ _ _ _ _ _ _ (T240.setTop (mkF m 6 #[.val (.ref x), .val .null, .val (.ref a1), .val (.ref a2)] [.null, (.ref x)]))
  obtain ⟨T241, h241, X241, e241, W241, st241⟩ := putF X240 hx hZ hown (host := "") (Or.inl (own_w hw 128 rfl)) Via.refl e240 P0 Ex (Or.inr ⟨(own_w hw 129 rfl), rfl, hnm⟩) (own_w hw 122 rfl) (ty := (.object "com/example/navlint/navlint/model/Entry")) (by decide) rfl rfl (g := (mkF m 6 #[.val (.ref x), .val .null, .val (.ref a1), .val (.ref a2)] [.null, (.ref x)])) rfl rfl (hb hby d19_6)
  have f242 : Fld Z h241 x "com/example/navlint/navlint/model/State$Tab" "entry" "Lcom/example/navlint/navlint/model/Entry;" .null := (P0.same W241)
  have f243 := (P1.other W241 (Or.inr (slot_ne (Or.inr (own_w hw 132 rfl)) (Or.inr (own_w hw 129 rfl)) (by decide) (t := (.object "java/util/List")) (t' := (.object "com/example/navlint/navlint/model/Entry")) (by decide) (by decide))))
  have f244 := (P2.other W241 (Or.inr (slot_ne (Or.inr (own_w hw 134 rfl)) (Or.inr (own_w hw 129 rfl)) (by decide) (t := (.object "java/util/List")) (t' := (.object "com/example/navlint/navlint/model/Entry")) (by decide) (by decide))))
  have f245 := (Ex.wr W241)
  have f246 := (Ee.wr W241)
  have f247 := (Z1.other W241 (Or.inl na1))
  have f248 := (Y1.wr W241)
  have f249 := (Z21.other W241 (Or.inl na2))
  have f250 := (Z22.other W241 (Or.inl na2))
  have f251 := (Y2.wr W241)
  have f252 : Arv Z h241 t2 kk2 (.object "java/lang/Object") (10 : Int32) [(.ref e_), .null, .null, .null, .null, .null, .null, .null, .null, .null] .null := (V2.other W241 nt2)
  have f253 := (U2.wr W241)
  have N241 := Fr.snoc X241 N240 g_x
  have O241 := O0.wr W241 g_x
  have K241 := (Keep.refl h0 [x]).wr W241 (Or.inl (List.mem_of_getElem? (i := 0) rfl))
  refine own_go st241 ?_
  show own_Goes _ _ _ _ _ _ _ (T241.setTop (mkF m 9 #[.val (.ref x), .val .null, .val (.ref a1), .val (.ref a2)] []))
  refine own_go (fun _ ww => XS.aloadN X241.here hx rfl (hb hby d19_9) rfl rfl ww) ?_
  show own_Goes _ _ _ _ _ _ _ (T241.setTop (mkF m 10 #[.val (.ref x), .val .null, .val (.ref a1), .val (.ref a2)] [(.ref x)]))
  refine own_go (fun _ ww => XS.aloadN X241.here hx rfl (hb hby d19_10) rfl rfl ww) ?_
  show own_Goes _ _ _ _ _ _ _ (T241.setTop (mkF m 11 #[.val (.ref x), .val .null, .val (.ref a1), .val (.ref a2)] [(.ref a1), (.ref x)]))
  obtain ⟨_, _, ⟨T254, L254, k254, n254⟩, -, X254, ⟨Lc254, hQ254, l254, y254, z254⟩, st254⟩ := Jvm.LawKit.callS X241 hx (y := own_y23) hown (mvT hZ (own_w hw 130 rfl)) (mvT hZ (own_w hw 83 rfl)) (mvT hZ (own_w hw 84 rfl)) (mvT hZ (own_w hw 85 rfl)) (by decide) (backOf (W := 1) (rm_co_e l Z a0 hw [] a1 aL h241 n0 O241 f247 f248 SL) hZ (own_w hw 85 rfl) (own_w hw 84 rfl) (by decide) (by decide)) (g := (mkF m 11 #[.val (.ref x), .val .null, .val (.ref a1), .val (.ref a2)] [(.ref a1), (.ref x)])) rfl (by rw [hml]; rfl) (argsL := [(.ref a1)]) (rest := [(.ref x)]) (lenOf pd_11 rfl) rfl (by show 2 * 0 + _ ≤ _; exact Nat.le_of_eq rfl) (hb hby d19_11) (fun _ _ => ⟨rfl, e241, (by decide : 0 + 0 ≤ _), (by decide : 0 + 0 ≤ _)⟩)
  dsimp only [Pt.U, Pt.locs, Pt.cells, Pt.slots] at X254 l254 y254 z254 st254 hQ254
  subst l254 y254 z254
  obtain ⟨rfl, N254q, e254⟩ := hQ254
  have N254 := Fr.app N241 N254q
  refine own_go st254 ?_
  show own_Goes _ _ _ _ _ _ _ (T254.setTop (mkF m 14 #[.val (.ref x), .val .null, .val (.ref a1), .val (.ref a2)] [(.ref aL), (.ref x)]))
  obtain ⟨T255, h255, X255, e255, W255, st255⟩ := putF X254 hx hZ hown (host := "") (Or.inl (own_w hw 131 rfl)) Via.refl e254 f243 f245 (Or.inr ⟨(own_w hw 132 rfl), rfl, hnm⟩) (own_w hw 122 rfl) (ty := (.object "java/util/List")) (by decide) rfl rfl (g := (mkF m 14 #[.val (.ref x), .val .null, .val (.ref a1), .val (.ref a2)] [(.ref aL), (.ref x)])) rfl rfl (hb hby d19_14)
  have f256 := (f242.other W255 (Or.inr (slot_ne (Or.inr (own_w hw 129 rfl)) (Or.inr (own_w hw 132 rfl)) (by decide) (t := (.object "com/example/navlint/navlint/model/Entry")) (t' := (.object "java/util/List")) (by decide) (by decide))))
  have f257 : Fld Z h255 x "com/example/navlint/navlint/model/State$Tab" "back" "Ljava/util/List;" (.ref aL) := (f243.same W255)
  have f258 := (f244.other W255 (Or.inr (slot_ne (Or.inr (own_w hw 134 rfl)) (Or.inr (own_w hw 132 rfl)) (by decide) (t := (.object "java/util/List")) (t' := (.object "java/util/List")) (by decide) (by decide))))
  have f259 := (f245.wr W255)
  have f260 := (f246.wr W255)
  have f261 := (f249.other W255 (Or.inl na2))
  have f262 := (f250.other W255 (Or.inl na2))
  have f263 := (f251.wr W255)
  have f264 : Arv Z h255 t2 kk2 (.object "java/lang/Object") (10 : Int32) [(.ref e_), .null, .null, .null, .null, .null, .null, .null, .null, .null] .null := (f252.other W255 nt2)
  have f265 := (f253.wr W255)
  have N255 := Fr.snoc X255 N254 g_x
  have O255 := O241.wr W255 g_x
  have K255 := K241.wr W255 (Or.inl (List.mem_of_getElem? (i := 0) rfl))
  refine own_go st255 ?_
  show own_Goes _ _ _ _ _ _ _ (T255.setTop (mkF m 17 #[.val (.ref x), .val .null, .val (.ref a1), .val (.ref a2)] []))
  refine own_go (fun _ ww => XS.aloadN X255.here hx rfl (hb hby d19_17) rfl rfl ww) ?_
  show own_Goes _ _ _ _ _ _ _ (T255.setTop (mkF m 18 #[.val (.ref x), .val .null, .val (.ref a1), .val (.ref a2)] [(.ref x)]))
  refine own_go (fun _ ww => XS.aloadN X255.here hx rfl (hb hby d19_18) rfl rfl ww) ?_
  show own_Goes _ _ _ _ _ _ _ (T255.setTop (mkF m 19 #[.val (.ref x), .val .null, .val (.ref a1), .val (.ref a2)] [(.ref a2), (.ref x)]))
  obtain ⟨_, _, ⟨T266, L266, k266, n266⟩, -, X266, ⟨Lc266, hQ266, l266, y266, z266⟩, st266⟩ := Jvm.LawKit.callS X255 hx (y := own_y23) hown (mvT hZ (own_w hw 130 rfl)) (mvT hZ (own_w hw 83 rfl)) (mvT hZ (own_w hw 84 rfl)) (mvT hZ (own_w hw 85 rfl)) (by decide) (backOf (W := 1) (rm_co_n l Z a0 hw [] a2 t2 kk2 e_ mr aX h255 n0 O255 f261 f262 f263 f264 f265 f260 MK SX) hZ (own_w hw 85 rfl) (own_w hw 84 rfl) (by decide) (by decide)) (g := (mkF m 19 #[.val (.ref x), .val .null, .val (.ref a1), .val (.ref a2)] [(.ref a2), (.ref x)])) rfl (by rw [hml]; rfl) (argsL := [(.ref a2)]) (rest := [(.ref x)]) (lenOf pd_11 rfl) rfl (by show 2 * 0 + _ ≤ _; exact Nat.le_of_eq rfl) (hb hby d19_19) (fun _ _ => ⟨rfl, e255, (by decide : 0 + 2 ≤ _), (by decide : 0 + 3 ≤ _)⟩)
  dsimp only [Pt.U, Pt.locs, Pt.cells, Pt.slots] at X266 l266 y266 z266 st266 hQ266
  subst l266 y266 z266
  obtain ⟨r266, rfl, N266q, B266, K266q, E266q⟩ := hQ266
  have N266 := Fr.app N255 N266q
  have ne_x_r266 : x ≠ r266 := Nat.ne_of_lt (Nat.lt_of_lt_of_le f256.lt B266)
  have ne_e__r266 : e_ ≠ r266 := Nat.ne_of_lt (Nat.lt_of_lt_of_le f260.lt B266)
  have ne_a2_r266 : a2 ≠ r266 := Nat.ne_of_lt (Nat.lt_of_lt_of_le f261.lt B266)
  have ne_t2_r266 : t2 ≠ r266 := Nat.ne_of_lt (Nat.lt_of_lt_of_le f264.lt B266)
  have g_r266 : n0 ≤ r266 := Nat.le_trans (O255.1 ▸ O255.2.1) B266
  have sz_r266 : h0.size ≤ r266 := Nat.le_trans (own_ks K255) B266
  have f267 := (f256.keep K266q nin0)
  have f268 := (f257.keep K266q nin0)
  have f269 := (f258.keep K266q nin0)
  have f270 := (f259.keep K266q)
  have f271 := (f260.keep K266q)
  have f272 := (f261.keep K266q nin0)
  have f273 := (f262.keep K266q nin0)
  have f274 := (f263.keep K266q)
  have f275 : Arv Z T266.heap t2 kk2 (.object "java/lang/Object") (10 : Int32) [(.ref e_), .null, .null, .null, .null, .null, .null, .null, .null, .null] .null := (f264.keep K266q nin0)
  have f276 := (f265.keep K266q)
  have O266 := O255.keep K266q all0
  have K266 := K255.trans K266q all0
  refine own_go st266 ?_
  show own_Goes _ _ _ _ _ _ _ (T266.setTop (mkF m 22 #[.val (.ref x), .val .null, .val (.ref a1), .val (.ref a2)] [(.ref r266), (.ref x)]))
  obtain ⟨T277, h277, X277, e277, W277, st277⟩ := putF X266 hx hZ hown (host := "") (Or.inl (own_w hw 133 rfl)) Via.refl rfl f269 f270 (Or.inr ⟨(own_w hw 134 rfl), rfl, hnm⟩) (own_w hw 122 rfl) (ty := (.object "java/util/List")) (by decide) rfl rfl (g := (mkF m 22 #[.val (.ref x), .val .null, .val (.ref a1), .val (.ref a2)] [(.ref r266), (.ref x)])) rfl rfl (hb hby d19_22)
  have f278 := (f267.other W277 (Or.inr (slot_ne (Or.inr (own_w hw 129 rfl)) (Or.inr (own_w hw 134 rfl)) (by decide) (t := (.object "com/example/navlint/navlint/model/Entry")) (t' := (.object "java/util/List")) (by decide) (by decide))))
  have f279 := (f268.other W277 (Or.inr (slot_ne (Or.inr (own_w hw 132 rfl)) (Or.inr (own_w hw 134 rfl)) (by decide) (t := (.object "java/util/List")) (t' := (.object "java/util/List")) (by decide) (by decide))))
  have f280 : Fld Z h277 x "com/example/navlint/navlint/model/State$Tab" "forward" "Ljava/util/List;" (.ref r266) := (f269.same W277)
  have f281 := (f270.wr W277)
  have f282 := (f271.wr W277)
  have f283 := (f272.other W277 (Or.inl na2))
  have f284 := (f273.other W277 (Or.inl na2))
  have f285 := (f274.wr W277)
  have f286 : Arv Z h277 t2 kk2 (.object "java/lang/Object") (10 : Int32) [(.ref e_), .null, .null, .null, .null, .null, .null, .null, .null, .null] .null := (f275.other W277 nt2)
  have f287 := (f276.wr W277)
  have f288 := (E266q.wr W277)
  have N277 := Fr.snoc X277 N266 g_x
  have O277 := O266.wr W277 g_x
  have K277 := K266.wr W277 (Or.inl (List.mem_of_getElem? (i := 0) rfl))
  refine own_go st277 ?_
  show own_Goes _ _ _ _ _ _ _ (T277.setTop (mkF m 25 #[.val (.ref x), .val .null, .val (.ref a1), .val (.ref a2)] []))
  exact own_out X277 hlk (v := none) (fun _ => rfl) (fun fs hr => X277.returnOut hx hret (hb hby d19_25) hr) e277 ⟨r266, rfl, N277, K277, f278, f279, f280, f288⟩ (by decide) (by decide)
theorem ef_ti0ne (m : MethodId) (x : Addr) (e_ : Addr) (mr : Addr) (aL : Addr) (aX : Addr) (a1 : Addr) (t1 : Addr) (kk1 : ClassId) (a2 : Addr) : entryFrame m #[(.ref x), .null, (.ref a1), (.ref a2)] 4 = mkF m 0 #[.val (.ref x), .val .null, .val (.ref a1), .val (.ref a2)] [] := by
  first | (simp [entryFrame, mkF, argsToLocals, Value.category]; done) | rfl
def Q_ti0ne (Z : State) (x : Addr) (e_ : Addr) (mr : Addr) (aL : Addr) (aX : Addr) (a1 : Addr) (t1 : Addr) (kk1 : ClassId) (a2 : Addr) (h0 : Heap) (n0 : Nat) (v : Option Value) (h : Heap) (L : List Loc) : Prop := ∃ r1 : Addr, v = none ∧ Fr n0 L ∧ Keep h0 h [x] ∧ Fld Z h x "com/example/navlint/navlint/model/State$Tab" "entry" "Lcom/example/navlint/navlint/model/Entry;" .null ∧ Fld Z h x "com/example/navlint/navlint/model/State$Tab" "back" "Ljava/util/List;" (.ref r1) ∧ Fld Z h x "com/example/navlint/navlint/model/State$Tab" "forward" "Ljava/util/List;" (.ref aL) ∧ Exa Z h r1 "java/util/ImmutableCollections$List12"
set_option maxRecDepth 65536 in
set_option maxHeartbeats 40000000 in
theorem rm_ti0ne (l : Launch) (Z : State) (a0 : Array Value) (hw : ∀ d ∈ tables_1, d.before a0 Z = true) (ws : List Jvm.Cond) (x : Addr) (e_ : Addr) (mr : Addr) (aL : Addr) (aX : Addr) (a1 : Addr) (t1 : Addr) (kk1 : ClassId) (a2 : Addr) (h0 : Heap) (n0 : Nat) (O0 : Old Z n0 h0) (P0 : Fld Z h0 x "com/example/navlint/navlint/model/State$Tab" "entry" "Lcom/example/navlint/navlint/model/Entry;" .null) (P1 : Fld Z h0 x "com/example/navlint/navlint/model/State$Tab" "back" "Ljava/util/List;" .null) (P2 : Fld Z h0 x "com/example/navlint/navlint/model/State$Tab" "forward" "Ljava/util/List;" .null) (Ex : Exa Z h0 x "com/example/navlint/navlint/model/State$Tab") (g_x : n0 ≤ x) (Ee : Exa Z h0 e_ "com/example/navlint/navlint/model/Entry") (MK : Mir Z "[Ljava/lang/Object;" mr) (SL : Sta Z Z.heap "java/util/ImmutableCollections" "EMPTY_LIST" "Ljava/util/ImmutableCollections$ListN;" (.ref aL)) (SX : Sta Z Z.heap "java/util/ImmutableCollections" "EMPTY" "Ljava/lang/Object;" (.ref aX)) (EL : Exa Z Z.heap aL "java/util/ImmutableCollections$ListN") (FL : Fld Z Z.heap aL "java/util/ImmutableCollections$ListN" "allowNulls" "Z" (.int (0 : Int32))) (Z11 : Fld Z h0 a1 "java/util/ArrayList" "elementData" "[Ljava/lang/Object;" (.ref t1)) (Z12 : Fld Z h0 a1 "java/util/ArrayList" "size" "I" (.int (1 : Int32))) (Y1 : Exa Z h0 a1 "java/util/ArrayList") (V1 : Arv Z h0 t1 kk1 (.object "java/lang/Object") (10 : Int32) [(.ref e_), .null, .null, .null, .null, .null, .null, .null, .null, .null] .null) (U1 : Exa Z h0 t1 "[Ljava/lang/Object;") (na1 : a1 ≠ x) (nt1 : t1 ≠ x) (Z2 : Fld Z h0 a2 "java/util/ArrayList" "size" "I" (.int (0 : Int32))) (Y2 : Exa Z h0 a2 "java/util/ArrayList") (na2 : a2 ≠ x) :
    MetFree l own_y28 (head1 (Jvm.Cond.code own_y28 prog_104_method_1_code 4 none :: ws) ({ frames := 8, cells := 2, slots := 3, locals := 106 } : Room)) (fun av_ U => av_ = #[(.ref x), .null, (.ref a1), (.ref a2)] ∧ Z.Warmed39 U.vm ∧ U.heap = h0) (fun _ _ _ _ _ => True) (fun _ U o_ U' => ∃ v L, o_ = .returned v ∧ Q_ti0ne Z x e_ mr aL aX a1 t1 kk1 a2 h0 n0 v U'.heap L ∧ FrameEnd U o_ U' L ({ frames := 8, cells := 2, slots := 3, locals := 106 } : Room).cells ({ frames := 8, cells := 2, slots := 3, locals := 106 } : Room).slots) := by
  refine MetFree.of_bodySF (plainFor_of_name pn_13) hisR ?_
  intro p e s m args below meth c s₁ Bd hml0 hP hK
  obtain ⟨rfl, hZ, hh⟩ := hP
  have hx := Bd.exec
  have hby := Bd.bytes
  have hml : c.maxLocals = 4 := hml0
  have hown : s.vm.findClass "com/example/navlint/navlint/model/State$Tab" = some m.cls := findClass_of_methodNamed Bd.named
  have hnm := (name_of_methodNamed Bd.named Bd.method).1
  have hlk := own_lk Bd
  have hret := Bd.returns
  have X0 : Stand p l e ({ frames := 8, cells := 2, slots := 3, locals := 106 } : Room) s m #[(.ref x), .null, (.ref a1), (.ref a2)] below meth c s₁ [] 0 0 := Stand.of_body Bd
  have e0 : s₁.heap = h0 := by rw [← hh, Bd.state]; rfl
  have N0 := Fr.nil n0
  show own_Goes p e below s (Q_ti0ne Z x e_ mr aL aX a1 t1 kk1 a2 h0 n0) ({ frames := 8, cells := 2, slots := 3, locals := 106 } : Room).cells ({ frames := 8, cells := 2, slots := 3, locals := 106 } : Room).slots (s₁.setTop (entryFrame m #[(.ref x), .null, (.ref a1), (.ref a2)] 4))
  refine own_go (fun _ ww => castTop (ef_ti0ne m x e_ mr aL aX a1 t1 kk1 a2) ww) ?_
  show own_Goes _ _ _ _ _ _ _ (s₁.setTop (mkF m 0 #[.val (.ref x), .val .null, .val (.ref a1), .val (.ref a2)] []))
  refine own_go (fun _ ww => XS.aloadN X0.here hx rfl (hb hby d19_0) rfl rfl ww) ?_
  show own_Goes _ _ _ _ _ _ _ (s₁.setTop (mkF m 1 #[.val (.ref x), .val .null, .val (.ref a1), .val (.ref a2)] [(.ref x)]))
  obtain ⟨_, _, ⟨T289, L289, k289, n289⟩, -, X289, ⟨Lc289, hQ289, l289, y289, z289⟩, st289⟩ := X0.specialBack hx (y := own_y3) rfl hown (mvT hZ (own_w hw 127 rfl)) (mvT hZ (own_w hw 67 rfl)) (mvT hZ (own_w hw 70 rfl)) (by decide) (backOf (W := 0) (rm_hvinit l Z a0 hw [] x h0 n0 O0 ) hZ (own_w hw 70 rfl) (own_w hw 69 rfl) (by decide) (by decide)) (g := (mkF m 1 #[.val (.ref x), .val .null, .val (.ref a1), .val (.ref a2)] [(.ref x)])) rfl (by rw [hml]; rfl) (Steps.refl _) (a := x) (argsL := []) (rest := []) (lenOf pd_0 rfl) rfl (by show 2 * 0 + _ ≤ _; exact Nat.le_of_eq rfl) (hb hby d19_1) (fun _ _ => ⟨rfl, e0, (by decide : 0 + 0 ≤ _), (by decide : 0 + 0 ≤ _)⟩)
  dsimp only [Pt.U, Pt.locs, Pt.cells, Pt.slots] at X289 l289 y289 z289 st289 hQ289
  subst l289 y289 z289
  obtain ⟨rfl, N289q, e289⟩ := hQ289
  have N289 := Fr.app N0 N289q
  refine own_go (fun _ ww => Steps.trans st289 ww) ?_
  show own_Goes _ _ _ _ _ _ _ (T289.setTop (mkF m 4 #[.val (.ref x), .val .null, .val (.ref a1), .val (.ref a2)] []))
  refine own_go (fun _ ww => XS.aloadN X289.here hx rfl (hb hby d19_4) rfl rfl ww) ?_
  show own_Goes _ _ _ _ _ _ _ (T289.setTop (mkF m 5 #[.val (.ref x), .val .null, .val (.ref a1), .val (.ref a2)] [(.ref x)]))
  refine own_go (fun _ ww => XS.aloadN X289.here hx rfl (hb hby d19_5) rfl rfl ww) ?_
  show own_Goes _ _ _ _ _ _ _ (T289.setTop (mkF m 6 #[.val (.ref x), .val .null, .val (.ref a1), .val (.ref a2)] [.null, (.ref x)]))
  obtain ⟨T290, h290, X290, e290, W290, st290⟩ := putF X289 hx hZ hown (host := "") (Or.inl (own_w hw 128 rfl)) Via.refl e289 P0 Ex (Or.inr ⟨(own_w hw 129 rfl), rfl, hnm⟩) (own_w hw 122 rfl) (ty := (.object "com/example/navlint/navlint/model/Entry")) (by decide) rfl rfl (g := (mkF m 6 #[.val (.ref x), .val .null, .val (.ref a1), .val (.ref a2)] [.null, (.ref x)])) rfl rfl (hb hby d19_6)
  have f291 : Fld Z h290 x "com/example/navlint/navlint/model/State$Tab" "entry" "Lcom/example/navlint/navlint/model/Entry;" .null := (P0.same W290)
  have f292 := (P1.other W290 (Or.inr (slot_ne (Or.inr (own_w hw 132 rfl)) (Or.inr (own_w hw 129 rfl)) (by decide) (t := (.object "java/util/List")) (t' := (.object "com/example/navlint/navlint/model/Entry")) (by decide) (by decide))))
  have f293 := (P2.other W290 (Or.inr (slot_ne (Or.inr (own_w hw 134 rfl)) (Or.inr (own_w hw 129 rfl)) (by decide) (t := (.object "java/util/List")) (t' := (.object "com/example/navlint/navlint/model/Entry")) (by decide) (by decide))))
  have f294 := (Ex.wr W290)
  have f295 := (Ee.wr W290)
  have f296 := (Z11.other W290 (Or.inl na1))
  have f297 := (Z12.other W290 (Or.inl na1))
  have f298 := (Y1.wr W290)
  have f299 : Arv Z h290 t1 kk1 (.object "java/lang/Object") (10 : Int32) [(.ref e_), .null, .null, .null, .null, .null, .null, .null, .null, .null] .null := (V1.other W290 nt1)
  have f300 := (U1.wr W290)
  have f301 := (Z2.other W290 (Or.inl na2))
  have f302 := (Y2.wr W290)
  have N290 := Fr.snoc X290 N289 g_x
  have O290 := O0.wr W290 g_x
  have K290 := (Keep.refl h0 [x]).wr W290 (Or.inl (List.mem_of_getElem? (i := 0) rfl))
  refine own_go st290 ?_
  show own_Goes _ _ _ _ _ _ _ (T290.setTop (mkF m 9 #[.val (.ref x), .val .null, .val (.ref a1), .val (.ref a2)] []))
  refine own_go (fun _ ww => XS.aloadN X290.here hx rfl (hb hby d19_9) rfl rfl ww) ?_
  show own_Goes _ _ _ _ _ _ _ (T290.setTop (mkF m 10 #[.val (.ref x), .val .null, .val (.ref a1), .val (.ref a2)] [(.ref x)]))
  refine own_go (fun _ ww => XS.aloadN X290.here hx rfl (hb hby d19_10) rfl rfl ww) ?_
  show own_Goes _ _ _ _ _ _ _ (T290.setTop (mkF m 11 #[.val (.ref x), .val .null, .val (.ref a1), .val (.ref a2)] [(.ref a1), (.ref x)]))
  obtain ⟨_, _, ⟨T303, L303, k303, n303⟩, -, X303, ⟨Lc303, hQ303, l303, y303, z303⟩, st303⟩ := Jvm.LawKit.callS X290 hx (y := own_y23) hown (mvT hZ (own_w hw 130 rfl)) (mvT hZ (own_w hw 83 rfl)) (mvT hZ (own_w hw 84 rfl)) (mvT hZ (own_w hw 85 rfl)) (by decide) (backOf (W := 1) (rm_co_n l Z a0 hw [] a1 t1 kk1 e_ mr aX h290 n0 O290 f296 f297 f298 f299 f300 f295 MK SX) hZ (own_w hw 85 rfl) (own_w hw 84 rfl) (by decide) (by decide)) (g := (mkF m 11 #[.val (.ref x), .val .null, .val (.ref a1), .val (.ref a2)] [(.ref a1), (.ref x)])) rfl (by rw [hml]; rfl) (argsL := [(.ref a1)]) (rest := [(.ref x)]) (lenOf pd_11 rfl) rfl (by show 2 * 0 + _ ≤ _; exact Nat.le_of_eq rfl) (hb hby d19_11) (fun _ _ => ⟨rfl, e290, (by decide : 0 + 2 ≤ _), (by decide : 0 + 3 ≤ _)⟩)
  dsimp only [Pt.U, Pt.locs, Pt.cells, Pt.slots] at X303 l303 y303 z303 st303 hQ303
  subst l303 y303 z303
  obtain ⟨r303, rfl, N303q, B303, K303q, E303q⟩ := hQ303
  have N303 := Fr.app N290 N303q
  have ne_x_r303 : x ≠ r303 := Nat.ne_of_lt (Nat.lt_of_lt_of_le f291.lt B303)
  have ne_e__r303 : e_ ≠ r303 := Nat.ne_of_lt (Nat.lt_of_lt_of_le f295.lt B303)
  have ne_a1_r303 : a1 ≠ r303 := Nat.ne_of_lt (Nat.lt_of_lt_of_le f296.lt B303)
  have ne_t1_r303 : t1 ≠ r303 := Nat.ne_of_lt (Nat.lt_of_lt_of_le f299.lt B303)
  have ne_a2_r303 : a2 ≠ r303 := Nat.ne_of_lt (Nat.lt_of_lt_of_le f301.lt B303)
  have g_r303 : n0 ≤ r303 := Nat.le_trans (O290.1 ▸ O290.2.1) B303
  have sz_r303 : h0.size ≤ r303 := Nat.le_trans (own_ks K290) B303
  have f304 := (f291.keep K303q nin0)
  have f305 := (f292.keep K303q nin0)
  have f306 := (f293.keep K303q nin0)
  have f307 := (f294.keep K303q)
  have f308 := (f295.keep K303q)
  have f309 := (f296.keep K303q nin0)
  have f310 := (f297.keep K303q nin0)
  have f311 := (f298.keep K303q)
  have f312 : Arv Z T303.heap t1 kk1 (.object "java/lang/Object") (10 : Int32) [(.ref e_), .null, .null, .null, .null, .null, .null, .null, .null, .null] .null := (f299.keep K303q nin0)
  have f313 := (f300.keep K303q)
  have f314 := (f301.keep K303q nin0)
  have f315 := (f302.keep K303q)
  have O303 := O290.keep K303q all0
  have K303 := K290.trans K303q all0
  refine own_go st303 ?_
  show own_Goes _ _ _ _ _ _ _ (T303.setTop (mkF m 14 #[.val (.ref x), .val .null, .val (.ref a1), .val (.ref a2)] [(.ref r303), (.ref x)]))
  obtain ⟨T316, h316, X316, e316, W316, st316⟩ := putF X303 hx hZ hown (host := "") (Or.inl (own_w hw 131 rfl)) Via.refl rfl f305 f307 (Or.inr ⟨(own_w hw 132 rfl), rfl, hnm⟩) (own_w hw 122 rfl) (ty := (.object "java/util/List")) (by decide) rfl rfl (g := (mkF m 14 #[.val (.ref x), .val .null, .val (.ref a1), .val (.ref a2)] [(.ref r303), (.ref x)])) rfl rfl (hb hby d19_14)
  have f317 := (f304.other W316 (Or.inr (slot_ne (Or.inr (own_w hw 129 rfl)) (Or.inr (own_w hw 132 rfl)) (by decide) (t := (.object "com/example/navlint/navlint/model/Entry")) (t' := (.object "java/util/List")) (by decide) (by decide))))
  have f318 : Fld Z h316 x "com/example/navlint/navlint/model/State$Tab" "back" "Ljava/util/List;" (.ref r303) := (f305.same W316)
  have f319 := (f306.other W316 (Or.inr (slot_ne (Or.inr (own_w hw 134 rfl)) (Or.inr (own_w hw 132 rfl)) (by decide) (t := (.object "java/util/List")) (t' := (.object "java/util/List")) (by decide) (by decide))))
  have f320 := (f307.wr W316)
  have f321 := (f308.wr W316)
  have f322 := (f314.other W316 (Or.inl na2))
  have f323 := (f315.wr W316)
  have f324 := (E303q.wr W316)
  have N316 := Fr.snoc X316 N303 g_x
  have O316 := O303.wr W316 g_x
  have K316 := K303.wr W316 (Or.inl (List.mem_of_getElem? (i := 0) rfl))
  refine own_go st316 ?_
  show own_Goes _ _ _ _ _ _ _ (T316.setTop (mkF m 17 #[.val (.ref x), .val .null, .val (.ref a1), .val (.ref a2)] []))
  refine own_go (fun _ ww => XS.aloadN X316.here hx rfl (hb hby d19_17) rfl rfl ww) ?_
  show own_Goes _ _ _ _ _ _ _ (T316.setTop (mkF m 18 #[.val (.ref x), .val .null, .val (.ref a1), .val (.ref a2)] [(.ref x)]))
  refine own_go (fun _ ww => XS.aloadN X316.here hx rfl (hb hby d19_18) rfl rfl ww) ?_
  show own_Goes _ _ _ _ _ _ _ (T316.setTop (mkF m 19 #[.val (.ref x), .val .null, .val (.ref a1), .val (.ref a2)] [(.ref a2), (.ref x)]))
  obtain ⟨_, _, ⟨T325, L325, k325, n325⟩, -, X325, ⟨Lc325, hQ325, l325, y325, z325⟩, st325⟩ := Jvm.LawKit.callS X316 hx (y := own_y23) hown (mvT hZ (own_w hw 130 rfl)) (mvT hZ (own_w hw 83 rfl)) (mvT hZ (own_w hw 84 rfl)) (mvT hZ (own_w hw 85 rfl)) (by decide) (backOf (W := 1) (rm_co_e l Z a0 hw [] a2 aL h316 n0 O316 f322 f323 SL) hZ (own_w hw 85 rfl) (own_w hw 84 rfl) (by decide) (by decide)) (g := (mkF m 19 #[.val (.ref x), .val .null, .val (.ref a1), .val (.ref a2)] [(.ref a2), (.ref x)])) rfl (by rw [hml]; rfl) (argsL := [(.ref a2)]) (rest := [(.ref x)]) (lenOf pd_11 rfl) rfl (by show 2 * 0 + _ ≤ _; exact Nat.le_of_eq rfl) (hb hby d19_19) (fun _ _ => ⟨rfl, e316, (by decide : 2 + 0 ≤ _), (by decide : 3 + 0 ≤ _)⟩)
  dsimp only [Pt.U, Pt.locs, Pt.cells, Pt.slots] at X325 l325 y325 z325 st325 hQ325
  subst l325 y325 z325
  obtain ⟨rfl, N325q, e325⟩ := hQ325
  have N325 := Fr.app N316 N325q
  refine own_go st325 ?_
  show own_Goes _ _ _ _ _ _ _ (T325.setTop (mkF m 22 #[.val (.ref x), .val .null, .val (.ref a1), .val (.ref a2)] [(.ref aL), (.ref x)]))
  obtain ⟨T326, h326, X326, e326, W326, st326⟩ := putF X325 hx hZ hown (host := "") (Or.inl (own_w hw 133 rfl)) Via.refl e325 f319 f320 (Or.inr ⟨(own_w hw 134 rfl), rfl, hnm⟩) (own_w hw 122 rfl) (ty := (.object "java/util/List")) (by decide) rfl rfl (g := (mkF m 22 #[.val (.ref x), .val .null, .val (.ref a1), .val (.ref a2)] [(.ref aL), (.ref x)])) rfl rfl (hb hby d19_22)
  have f327 := (f317.other W326 (Or.inr (slot_ne (Or.inr (own_w hw 129 rfl)) (Or.inr (own_w hw 134 rfl)) (by decide) (t := (.object "com/example/navlint/navlint/model/Entry")) (t' := (.object "java/util/List")) (by decide) (by decide))))
  have f328 := (f318.other W326 (Or.inr (slot_ne (Or.inr (own_w hw 132 rfl)) (Or.inr (own_w hw 134 rfl)) (by decide) (t := (.object "java/util/List")) (t' := (.object "java/util/List")) (by decide) (by decide))))
  have f329 : Fld Z h326 x "com/example/navlint/navlint/model/State$Tab" "forward" "Ljava/util/List;" (.ref aL) := (f319.same W326)
  have f330 := (f320.wr W326)
  have f331 := (f321.wr W326)
  have f332 := (f322.other W326 (Or.inl na2))
  have f333 := (f323.wr W326)
  have f334 := (f324.wr W326)
  have N326 := Fr.snoc X326 N325 g_x
  have O326 := O316.wr W326 g_x
  have K326 := K316.wr W326 (Or.inl (List.mem_of_getElem? (i := 0) rfl))
  refine own_go st326 ?_
  show own_Goes _ _ _ _ _ _ _ (T326.setTop (mkF m 25 #[.val (.ref x), .val .null, .val (.ref a1), .val (.ref a2)] []))
  exact own_out X326 hlk (v := none) (fun _ => rfl) (fun fs hr => X326.returnOut hx hret (hb hby d19_25) hr) e326 ⟨r303, rfl, N326, K326, f327, f328, f329, f334⟩ (by decide) (by decide)
theorem ef_ti0nn (m : MethodId) (x : Addr) (e_ : Addr) (mr : Addr) (aL : Addr) (aX : Addr) (a1 : Addr) (t1 : Addr) (kk1 : ClassId) (a2 : Addr) (t2 : Addr) (kk2 : ClassId) : entryFrame m #[(.ref x), .null, (.ref a1), (.ref a2)] 4 = mkF m 0 #[.val (.ref x), .val .null, .val (.ref a1), .val (.ref a2)] [] := by
  first | (simp [entryFrame, mkF, argsToLocals, Value.category]; done) | rfl
def Q_ti0nn (Z : State) (x : Addr) (e_ : Addr) (mr : Addr) (aL : Addr) (aX : Addr) (a1 : Addr) (t1 : Addr) (kk1 : ClassId) (a2 : Addr) (t2 : Addr) (kk2 : ClassId) (h0 : Heap) (n0 : Nat) (v : Option Value) (h : Heap) (L : List Loc) : Prop := ∃ r1 r2 : Addr, v = none ∧ Fr n0 L ∧ Keep h0 h [x] ∧ Fld Z h x "com/example/navlint/navlint/model/State$Tab" "entry" "Lcom/example/navlint/navlint/model/Entry;" .null ∧ Fld Z h x "com/example/navlint/navlint/model/State$Tab" "back" "Ljava/util/List;" (.ref r1) ∧ Fld Z h x "com/example/navlint/navlint/model/State$Tab" "forward" "Ljava/util/List;" (.ref r2) ∧ Exa Z h r1 "java/util/ImmutableCollections$List12" ∧ Exa Z h r2 "java/util/ImmutableCollections$List12"
set_option maxRecDepth 65536 in
set_option maxHeartbeats 40000000 in
theorem rm_ti0nn (l : Launch) (Z : State) (a0 : Array Value) (hw : ∀ d ∈ tables_1, d.before a0 Z = true) (ws : List Jvm.Cond) (x : Addr) (e_ : Addr) (mr : Addr) (aL : Addr) (aX : Addr) (a1 : Addr) (t1 : Addr) (kk1 : ClassId) (a2 : Addr) (t2 : Addr) (kk2 : ClassId) (h0 : Heap) (n0 : Nat) (O0 : Old Z n0 h0) (P0 : Fld Z h0 x "com/example/navlint/navlint/model/State$Tab" "entry" "Lcom/example/navlint/navlint/model/Entry;" .null) (P1 : Fld Z h0 x "com/example/navlint/navlint/model/State$Tab" "back" "Ljava/util/List;" .null) (P2 : Fld Z h0 x "com/example/navlint/navlint/model/State$Tab" "forward" "Ljava/util/List;" .null) (Ex : Exa Z h0 x "com/example/navlint/navlint/model/State$Tab") (g_x : n0 ≤ x) (Ee : Exa Z h0 e_ "com/example/navlint/navlint/model/Entry") (MK : Mir Z "[Ljava/lang/Object;" mr) (SL : Sta Z Z.heap "java/util/ImmutableCollections" "EMPTY_LIST" "Ljava/util/ImmutableCollections$ListN;" (.ref aL)) (SX : Sta Z Z.heap "java/util/ImmutableCollections" "EMPTY" "Ljava/lang/Object;" (.ref aX)) (EL : Exa Z Z.heap aL "java/util/ImmutableCollections$ListN") (FL : Fld Z Z.heap aL "java/util/ImmutableCollections$ListN" "allowNulls" "Z" (.int (0 : Int32))) (Z11 : Fld Z h0 a1 "java/util/ArrayList" "elementData" "[Ljava/lang/Object;" (.ref t1)) (Z12 : Fld Z h0 a1 "java/util/ArrayList" "size" "I" (.int (1 : Int32))) (Y1 : Exa Z h0 a1 "java/util/ArrayList") (V1 : Arv Z h0 t1 kk1 (.object "java/lang/Object") (10 : Int32) [(.ref e_), .null, .null, .null, .null, .null, .null, .null, .null, .null] .null) (U1 : Exa Z h0 t1 "[Ljava/lang/Object;") (na1 : a1 ≠ x) (nt1 : t1 ≠ x) (Z21 : Fld Z h0 a2 "java/util/ArrayList" "elementData" "[Ljava/lang/Object;" (.ref t2)) (Z22 : Fld Z h0 a2 "java/util/ArrayList" "size" "I" (.int (1 : Int32))) (Y2 : Exa Z h0 a2 "java/util/ArrayList") (V2 : Arv Z h0 t2 kk2 (.object "java/lang/Object") (10 : Int32) [(.ref e_), .null, .null, .null, .null, .null, .null, .null, .null, .null] .null) (U2 : Exa Z h0 t2 "[Ljava/lang/Object;") (na2 : a2 ≠ x) (nt2 : t2 ≠ x) :
    MetFree l own_y28 (head1 (Jvm.Cond.code own_y28 prog_104_method_1_code 4 none :: ws) ({ frames := 8, cells := 4, slots := 6, locals := 106 } : Room)) (fun av_ U => av_ = #[(.ref x), .null, (.ref a1), (.ref a2)] ∧ Z.Warmed39 U.vm ∧ U.heap = h0) (fun _ _ _ _ _ => True) (fun _ U o_ U' => ∃ v L, o_ = .returned v ∧ Q_ti0nn Z x e_ mr aL aX a1 t1 kk1 a2 t2 kk2 h0 n0 v U'.heap L ∧ FrameEnd U o_ U' L ({ frames := 8, cells := 4, slots := 6, locals := 106 } : Room).cells ({ frames := 8, cells := 4, slots := 6, locals := 106 } : Room).slots) := by
  refine MetFree.of_bodySF (plainFor_of_name pn_13) hisR ?_
  intro p e s m args below meth c s₁ Bd hml0 hP hK
  obtain ⟨rfl, hZ, hh⟩ := hP
  have hx := Bd.exec
  have hby := Bd.bytes
  have hml : c.maxLocals = 4 := hml0
  have hown : s.vm.findClass "com/example/navlint/navlint/model/State$Tab" = some m.cls := findClass_of_methodNamed Bd.named
  have hnm := (name_of_methodNamed Bd.named Bd.method).1
  have hlk := own_lk Bd
  have hret := Bd.returns
  have X0 : Stand p l e ({ frames := 8, cells := 4, slots := 6, locals := 106 } : Room) s m #[(.ref x), .null, (.ref a1), (.ref a2)] below meth c s₁ [] 0 0 := Stand.of_body Bd
  have e0 : s₁.heap = h0 := by rw [← hh, Bd.state]; rfl
  have N0 := Fr.nil n0
  show own_Goes p e below s (Q_ti0nn Z x e_ mr aL aX a1 t1 kk1 a2 t2 kk2 h0 n0) ({ frames := 8, cells := 4, slots := 6, locals := 106 } : Room).cells ({ frames := 8, cells := 4, slots := 6, locals := 106 } : Room).slots (s₁.setTop (entryFrame m #[(.ref x), .null, (.ref a1), (.ref a2)] 4))
  refine own_go (fun _ ww => castTop (ef_ti0nn m x e_ mr aL aX a1 t1 kk1 a2 t2 kk2) ww) ?_
  show own_Goes _ _ _ _ _ _ _ (s₁.setTop (mkF m 0 #[.val (.ref x), .val .null, .val (.ref a1), .val (.ref a2)] []))
  refine own_go (fun _ ww => XS.aloadN X0.here hx rfl (hb hby d19_0) rfl rfl ww) ?_
  show own_Goes _ _ _ _ _ _ _ (s₁.setTop (mkF m 1 #[.val (.ref x), .val .null, .val (.ref a1), .val (.ref a2)] [(.ref x)]))
  obtain ⟨_, _, ⟨T335, L335, k335, n335⟩, -, X335, ⟨Lc335, hQ335, l335, y335, z335⟩, st335⟩ := X0.specialBack hx (y := own_y3) rfl hown (mvT hZ (own_w hw 127 rfl)) (mvT hZ (own_w hw 67 rfl)) (mvT hZ (own_w hw 70 rfl)) (by decide) (backOf (W := 0) (rm_hvinit l Z a0 hw [] x h0 n0 O0 ) hZ (own_w hw 70 rfl) (own_w hw 69 rfl) (by decide) (by decide)) (g := (mkF m 1 #[.val (.ref x), .val .null, .val (.ref a1), .val (.ref a2)] [(.ref x)])) rfl (by rw [hml]; rfl) (Steps.refl _) (a := x) (argsL := []) (rest := []) (lenOf pd_0 rfl) rfl (by show 2 * 0 + _ ≤ _; exact Nat.le_of_eq rfl) (hb hby d19_1) (fun _ _ => ⟨rfl, e0, (by decide : 0 + 0 ≤ _), (by decide : 0 + 0 ≤ _)⟩)
  dsimp only [Pt.U, Pt.locs, Pt.cells, Pt.slots] at X335 l335 y335 z335 st335 hQ335
  subst l335 y335 z335
  obtain ⟨rfl, N335q, e335⟩ := hQ335
  have N335 := Fr.app N0 N335q
  refine own_go (fun _ ww => Steps.trans st335 ww) ?_
  show own_Goes _ _ _ _ _ _ _ (T335.setTop (mkF m 4 #[.val (.ref x), .val .null, .val (.ref a1), .val (.ref a2)] []))
  refine own_go (fun _ ww => XS.aloadN X335.here hx rfl (hb hby d19_4) rfl rfl ww) ?_
  show own_Goes _ _ _ _ _ _ _ (T335.setTop (mkF m 5 #[.val (.ref x), .val .null, .val (.ref a1), .val (.ref a2)] [(.ref x)]))
  refine own_go (fun _ ww => XS.aloadN X335.here hx rfl (hb hby d19_5) rfl rfl ww) ?_
  show own_Goes _ _ _ _ _ _ _ (T335.setTop (mkF m 6 #[.val (.ref x), .val .null, .val (.ref a1), .val (.ref a2)] [.null, (.ref x)]))
  obtain ⟨T336, h336, X336, e336, W336, st336⟩ := putF X335 hx hZ hown (host := "") (Or.inl (own_w hw 128 rfl)) Via.refl e335 P0 Ex (Or.inr ⟨(own_w hw 129 rfl), rfl, hnm⟩) (own_w hw 122 rfl) (ty := (.object "com/example/navlint/navlint/model/Entry")) (by decide) rfl rfl (g := (mkF m 6 #[.val (.ref x), .val .null, .val (.ref a1), .val (.ref a2)] [.null, (.ref x)])) rfl rfl (hb hby d19_6)
  have f337 : Fld Z h336 x "com/example/navlint/navlint/model/State$Tab" "entry" "Lcom/example/navlint/navlint/model/Entry;" .null := (P0.same W336)
  have f338 := (P1.other W336 (Or.inr (slot_ne (Or.inr (own_w hw 132 rfl)) (Or.inr (own_w hw 129 rfl)) (by decide) (t := (.object "java/util/List")) (t' := (.object "com/example/navlint/navlint/model/Entry")) (by decide) (by decide))))
  have f339 := (P2.other W336 (Or.inr (slot_ne (Or.inr (own_w hw 134 rfl)) (Or.inr (own_w hw 129 rfl)) (by decide) (t := (.object "java/util/List")) (t' := (.object "com/example/navlint/navlint/model/Entry")) (by decide) (by decide))))
  have f340 := (Ex.wr W336)
  have f341 := (Ee.wr W336)
  have f342 := (Z11.other W336 (Or.inl na1))
  have f343 := (Z12.other W336 (Or.inl na1))
  have f344 := (Y1.wr W336)
  have f345 : Arv Z h336 t1 kk1 (.object "java/lang/Object") (10 : Int32) [(.ref e_), .null, .null, .null, .null, .null, .null, .null, .null, .null] .null := (V1.other W336 nt1)
  have f346 := (U1.wr W336)
  have f347 := (Z21.other W336 (Or.inl na2))
  have f348 := (Z22.other W336 (Or.inl na2))
  have f349 := (Y2.wr W336)
  have f350 : Arv Z h336 t2 kk2 (.object "java/lang/Object") (10 : Int32) [(.ref e_), .null, .null, .null, .null, .null, .null, .null, .null, .null] .null := (V2.other W336 nt2)
  have f351 := (U2.wr W336)
  have N336 := Fr.snoc X336 N335 g_x
  have O336 := O0.wr W336 g_x
  have K336 := (Keep.refl h0 [x]).wr W336 (Or.inl (List.mem_of_getElem? (i := 0) rfl))
  refine own_go st336 ?_
  show own_Goes _ _ _ _ _ _ _ (T336.setTop (mkF m 9 #[.val (.ref x), .val .null, .val (.ref a1), .val (.ref a2)] []))
  refine own_go (fun _ ww => XS.aloadN X336.here hx rfl (hb hby d19_9) rfl rfl ww) ?_
  show own_Goes _ _ _ _ _ _ _ (T336.setTop (mkF m 10 #[.val (.ref x), .val .null, .val (.ref a1), .val (.ref a2)] [(.ref x)]))
  refine own_go (fun _ ww => XS.aloadN X336.here hx rfl (hb hby d19_10) rfl rfl ww) ?_
  show own_Goes _ _ _ _ _ _ _ (T336.setTop (mkF m 11 #[.val (.ref x), .val .null, .val (.ref a1), .val (.ref a2)] [(.ref a1), (.ref x)]))
  obtain ⟨_, _, ⟨T352, L352, k352, n352⟩, -, X352, ⟨Lc352, hQ352, l352, y352, z352⟩, st352⟩ := Jvm.LawKit.callS X336 hx (y := own_y23) hown (mvT hZ (own_w hw 130 rfl)) (mvT hZ (own_w hw 83 rfl)) (mvT hZ (own_w hw 84 rfl)) (mvT hZ (own_w hw 85 rfl)) (by decide) (backOf (W := 1) (rm_co_n l Z a0 hw [] a1 t1 kk1 e_ mr aX h336 n0 O336 f342 f343 f344 f345 f346 f341 MK SX) hZ (own_w hw 85 rfl) (own_w hw 84 rfl) (by decide) (by decide)) (g := (mkF m 11 #[.val (.ref x), .val .null, .val (.ref a1), .val (.ref a2)] [(.ref a1), (.ref x)])) rfl (by rw [hml]; rfl) (argsL := [(.ref a1)]) (rest := [(.ref x)]) (lenOf pd_11 rfl) rfl (by show 2 * 0 + _ ≤ _; exact Nat.le_of_eq rfl) (hb hby d19_11) (fun _ _ => ⟨rfl, e336, (by decide : 0 + 2 ≤ _), (by decide : 0 + 3 ≤ _)⟩)
  dsimp only [Pt.U, Pt.locs, Pt.cells, Pt.slots] at X352 l352 y352 z352 st352 hQ352
  subst l352 y352 z352
  obtain ⟨r352, rfl, N352q, B352, K352q, E352q⟩ := hQ352
  have N352 := Fr.app N336 N352q
  have ne_x_r352 : x ≠ r352 := Nat.ne_of_lt (Nat.lt_of_lt_of_le f337.lt B352)
  have ne_e__r352 : e_ ≠ r352 := Nat.ne_of_lt (Nat.lt_of_lt_of_le f341.lt B352)
  have ne_a1_r352 : a1 ≠ r352 := Nat.ne_of_lt (Nat.lt_of_lt_of_le f342.lt B352)
  have ne_t1_r352 : t1 ≠ r352 := Nat.ne_of_lt (Nat.lt_of_lt_of_le f345.lt B352)
  have ne_a2_r352 : a2 ≠ r352 := Nat.ne_of_lt (Nat.lt_of_lt_of_le f347.lt B352)
  have ne_t2_r352 : t2 ≠ r352 := Nat.ne_of_lt (Nat.lt_of_lt_of_le f350.lt B352)
  have g_r352 : n0 ≤ r352 := Nat.le_trans (O336.1 ▸ O336.2.1) B352
  have sz_r352 : h0.size ≤ r352 := Nat.le_trans (own_ks K336) B352
  have f353 := (f337.keep K352q nin0)
  have f354 := (f338.keep K352q nin0)
  have f355 := (f339.keep K352q nin0)
  have f356 := (f340.keep K352q)
  have f357 := (f341.keep K352q)
  have f358 := (f342.keep K352q nin0)
  have f359 := (f343.keep K352q nin0)
  have f360 := (f344.keep K352q)
  have f361 : Arv Z T352.heap t1 kk1 (.object "java/lang/Object") (10 : Int32) [(.ref e_), .null, .null, .null, .null, .null, .null, .null, .null, .null] .null := (f345.keep K352q nin0)
  have f362 := (f346.keep K352q)
  have f363 := (f347.keep K352q nin0)
  have f364 := (f348.keep K352q nin0)
  have f365 := (f349.keep K352q)
  have f366 : Arv Z T352.heap t2 kk2 (.object "java/lang/Object") (10 : Int32) [(.ref e_), .null, .null, .null, .null, .null, .null, .null, .null, .null] .null := (f350.keep K352q nin0)
  have f367 := (f351.keep K352q)
  have O352 := O336.keep K352q all0
  have K352 := K336.trans K352q all0
  refine own_go st352 ?_
  show own_Goes _ _ _ _ _ _ _ (T352.setTop (mkF m 14 #[.val (.ref x), .val .null, .val (.ref a1), .val (.ref a2)] [(.ref r352), (.ref x)]))
  obtain ⟨T368, h368, X368, e368, W368, st368⟩ := putF X352 hx hZ hown (host := "") (Or.inl (own_w hw 131 rfl)) Via.refl rfl f354 f356 (Or.inr ⟨(own_w hw 132 rfl), rfl, hnm⟩) (own_w hw 122 rfl) (ty := (.object "java/util/List")) (by decide) rfl rfl (g := (mkF m 14 #[.val (.ref x), .val .null, .val (.ref a1), .val (.ref a2)] [(.ref r352), (.ref x)])) rfl rfl (hb hby d19_14)
  have f369 := (f353.other W368 (Or.inr (slot_ne (Or.inr (own_w hw 129 rfl)) (Or.inr (own_w hw 132 rfl)) (by decide) (t := (.object "com/example/navlint/navlint/model/Entry")) (t' := (.object "java/util/List")) (by decide) (by decide))))
  have f370 : Fld Z h368 x "com/example/navlint/navlint/model/State$Tab" "back" "Ljava/util/List;" (.ref r352) := (f354.same W368)
  have f371 := (f355.other W368 (Or.inr (slot_ne (Or.inr (own_w hw 134 rfl)) (Or.inr (own_w hw 132 rfl)) (by decide) (t := (.object "java/util/List")) (t' := (.object "java/util/List")) (by decide) (by decide))))
  have f372 := (f356.wr W368)
  have f373 := (f357.wr W368)
  have f374 := (f363.other W368 (Or.inl na2))
  have f375 := (f364.other W368 (Or.inl na2))
  have f376 := (f365.wr W368)
  have f377 : Arv Z h368 t2 kk2 (.object "java/lang/Object") (10 : Int32) [(.ref e_), .null, .null, .null, .null, .null, .null, .null, .null, .null] .null := (f366.other W368 nt2)
  have f378 := (f367.wr W368)
  have f379 := (E352q.wr W368)
  have N368 := Fr.snoc X368 N352 g_x
  have O368 := O352.wr W368 g_x
  have K368 := K352.wr W368 (Or.inl (List.mem_of_getElem? (i := 0) rfl))
  refine own_go st368 ?_
  show own_Goes _ _ _ _ _ _ _ (T368.setTop (mkF m 17 #[.val (.ref x), .val .null, .val (.ref a1), .val (.ref a2)] []))
  refine own_go (fun _ ww => XS.aloadN X368.here hx rfl (hb hby d19_17) rfl rfl ww) ?_
  show own_Goes _ _ _ _ _ _ _ (T368.setTop (mkF m 18 #[.val (.ref x), .val .null, .val (.ref a1), .val (.ref a2)] [(.ref x)]))
  refine own_go (fun _ ww => XS.aloadN X368.here hx rfl (hb hby d19_18) rfl rfl ww) ?_
  show own_Goes _ _ _ _ _ _ _ (T368.setTop (mkF m 19 #[.val (.ref x), .val .null, .val (.ref a1), .val (.ref a2)] [(.ref a2), (.ref x)]))
  obtain ⟨_, _, ⟨T380, L380, k380, n380⟩, -, X380, ⟨Lc380, hQ380, l380, y380, z380⟩, st380⟩ := Jvm.LawKit.callS X368 hx (y := own_y23) hown (mvT hZ (own_w hw 130 rfl)) (mvT hZ (own_w hw 83 rfl)) (mvT hZ (own_w hw 84 rfl)) (mvT hZ (own_w hw 85 rfl)) (by decide) (backOf (W := 1) (rm_co_n l Z a0 hw [] a2 t2 kk2 e_ mr aX h368 n0 O368 f374 f375 f376 f377 f378 f373 MK SX) hZ (own_w hw 85 rfl) (own_w hw 84 rfl) (by decide) (by decide)) (g := (mkF m 19 #[.val (.ref x), .val .null, .val (.ref a1), .val (.ref a2)] [(.ref a2), (.ref x)])) rfl (by rw [hml]; rfl) (argsL := [(.ref a2)]) (rest := [(.ref x)]) (lenOf pd_11 rfl) rfl (by show 2 * 0 + _ ≤ _; exact Nat.le_of_eq rfl) (hb hby d19_19) (fun _ _ => ⟨rfl, e368, (by decide : 2 + 2 ≤ _), (by decide : 3 + 3 ≤ _)⟩)
  dsimp only [Pt.U, Pt.locs, Pt.cells, Pt.slots] at X380 l380 y380 z380 st380 hQ380
  subst l380 y380 z380
  obtain ⟨r380, rfl, N380q, B380, K380q, E380q⟩ := hQ380
  have N380 := Fr.app N368 N380q
  have ne_x_r380 : x ≠ r380 := Nat.ne_of_lt (Nat.lt_of_lt_of_le f369.lt B380)
  have ne_e__r380 : e_ ≠ r380 := Nat.ne_of_lt (Nat.lt_of_lt_of_le f373.lt B380)
  have ne_a2_r380 : a2 ≠ r380 := Nat.ne_of_lt (Nat.lt_of_lt_of_le f374.lt B380)
  have ne_t2_r380 : t2 ≠ r380 := Nat.ne_of_lt (Nat.lt_of_lt_of_le f377.lt B380)
  have ne_r352_r380 : r352 ≠ r380 := Nat.ne_of_lt (Nat.lt_of_lt_of_le f379.lt B380)
  have g_r380 : n0 ≤ r380 := Nat.le_trans (O368.1 ▸ O368.2.1) B380
  have sz_r380 : h0.size ≤ r380 := Nat.le_trans (own_ks K368) B380
  have f381 := (f369.keep K380q nin0)
  have f382 := (f370.keep K380q nin0)
  have f383 := (f371.keep K380q nin0)
  have f384 := (f372.keep K380q)
  have f385 := (f373.keep K380q)
  have f386 := (f374.keep K380q nin0)
  have f387 := (f375.keep K380q nin0)
  have f388 := (f376.keep K380q)
  have f389 : Arv Z T380.heap t2 kk2 (.object "java/lang/Object") (10 : Int32) [(.ref e_), .null, .null, .null, .null, .null, .null, .null, .null, .null] .null := (f377.keep K380q nin0)
  have f390 := (f378.keep K380q)
  have f391 := (f379.keep K380q)
  have O380 := O368.keep K380q all0
  have K380 := K368.trans K380q all0
  refine own_go st380 ?_
  show own_Goes _ _ _ _ _ _ _ (T380.setTop (mkF m 22 #[.val (.ref x), .val .null, .val (.ref a1), .val (.ref a2)] [(.ref r380), (.ref x)]))
  obtain ⟨T392, h392, X392, e392, W392, st392⟩ := putF X380 hx hZ hown (host := "") (Or.inl (own_w hw 133 rfl)) Via.refl rfl f383 f384 (Or.inr ⟨(own_w hw 134 rfl), rfl, hnm⟩) (own_w hw 122 rfl) (ty := (.object "java/util/List")) (by decide) rfl rfl (g := (mkF m 22 #[.val (.ref x), .val .null, .val (.ref a1), .val (.ref a2)] [(.ref r380), (.ref x)])) rfl rfl (hb hby d19_22)
  have f393 := (f381.other W392 (Or.inr (slot_ne (Or.inr (own_w hw 129 rfl)) (Or.inr (own_w hw 134 rfl)) (by decide) (t := (.object "com/example/navlint/navlint/model/Entry")) (t' := (.object "java/util/List")) (by decide) (by decide))))
  have f394 := (f382.other W392 (Or.inr (slot_ne (Or.inr (own_w hw 132 rfl)) (Or.inr (own_w hw 134 rfl)) (by decide) (t := (.object "java/util/List")) (t' := (.object "java/util/List")) (by decide) (by decide))))
  have f395 : Fld Z h392 x "com/example/navlint/navlint/model/State$Tab" "forward" "Ljava/util/List;" (.ref r380) := (f383.same W392)
  have f396 := (f384.wr W392)
  have f397 := (f385.wr W392)
  have f398 := (f386.other W392 (Or.inl na2))
  have f399 := (f387.other W392 (Or.inl na2))
  have f400 := (f388.wr W392)
  have f401 : Arv Z h392 t2 kk2 (.object "java/lang/Object") (10 : Int32) [(.ref e_), .null, .null, .null, .null, .null, .null, .null, .null, .null] .null := (f389.other W392 nt2)
  have f402 := (f390.wr W392)
  have f403 := (f391.wr W392)
  have f404 := (E380q.wr W392)
  have N392 := Fr.snoc X392 N380 g_x
  have O392 := O380.wr W392 g_x
  have K392 := K380.wr W392 (Or.inl (List.mem_of_getElem? (i := 0) rfl))
  refine own_go st392 ?_
  show own_Goes _ _ _ _ _ _ _ (T392.setTop (mkF m 25 #[.val (.ref x), .val .null, .val (.ref a1), .val (.ref a2)] []))
  exact own_out X392 hlk (v := none) (fun _ => rfl) (fun fs hr => X392.returnOut hx hret (hb hby d19_25) hr) e392 ⟨r352, r380, rfl, N392, K392, f393, f394, f395, f403, f404⟩ (by decide) (by decide)
theorem ef_ti0II (m : MethodId) (x : Addr) (e_ : Addr) (mr : Addr) (aL : Addr) (aX : Addr) (l1 : Addr) (C1 : String) (l2 : Addr) (C2 : String) : entryFrame m #[(.ref x), .null, (.ref l1), (.ref l2)] 4 = mkF m 0 #[.val (.ref x), .val .null, .val (.ref l1), .val (.ref l2)] [] := by
  first | (simp [entryFrame, mkF, argsToLocals, Value.category]; done) | rfl
def Q_ti0II (Z : State) (x : Addr) (e_ : Addr) (mr : Addr) (aL : Addr) (aX : Addr) (l1 : Addr) (C1 : String) (l2 : Addr) (C2 : String) (h0 : Heap) (n0 : Nat) (v : Option Value) (h : Heap) (L : List Loc) : Prop := v = none ∧ Fr n0 L ∧ Keep h0 h [x] ∧ Fld Z h x "com/example/navlint/navlint/model/State$Tab" "entry" "Lcom/example/navlint/navlint/model/Entry;" .null ∧ Fld Z h x "com/example/navlint/navlint/model/State$Tab" "back" "Ljava/util/List;" (.ref l1) ∧ Fld Z h x "com/example/navlint/navlint/model/State$Tab" "forward" "Ljava/util/List;" (.ref l2)
set_option maxRecDepth 65536 in
set_option maxHeartbeats 40000000 in
theorem rm_ti0II (l : Launch) (Z : State) (a0 : Array Value) (hw : ∀ d ∈ tables_1, d.before a0 Z = true) (ws : List Jvm.Cond) (x : Addr) (e_ : Addr) (mr : Addr) (aL : Addr) (aX : Addr) (l1 : Addr) (C1 : String) (l2 : Addr) (C2 : String) (h0 : Heap) (n0 : Nat) (O0 : Old Z n0 h0) (P0 : Fld Z h0 x "com/example/navlint/navlint/model/State$Tab" "entry" "Lcom/example/navlint/navlint/model/Entry;" .null) (P1 : Fld Z h0 x "com/example/navlint/navlint/model/State$Tab" "back" "Ljava/util/List;" .null) (P2 : Fld Z h0 x "com/example/navlint/navlint/model/State$Tab" "forward" "Ljava/util/List;" .null) (Ex : Exa Z h0 x "com/example/navlint/navlint/model/State$Tab") (g_x : n0 ≤ x) (Ee : Exa Z h0 e_ "com/example/navlint/navlint/model/Entry") (MK : Mir Z "[Ljava/lang/Object;" mr) (SL : Sta Z Z.heap "java/util/ImmutableCollections" "EMPTY_LIST" "Ljava/util/ImmutableCollections$ListN;" (.ref aL)) (SX : Sta Z Z.heap "java/util/ImmutableCollections" "EMPTY" "Ljava/lang/Object;" (.ref aX)) (EL : Exa Z Z.heap aL "java/util/ImmutableCollections$ListN") (FL : Fld Z Z.heap aL "java/util/ImmutableCollections$ListN" "allowNulls" "Z" (.int (0 : Int32))) (Y1 : Exa Z h0 l1 C1) (hC1 : C1 = "java/util/ImmutableCollections$List12" ∨ (C1 = "java/util/ImmutableCollections$ListN" ∧ l1 = aL)) (Y2 : Exa Z h0 l2 C2) (hC2 : C2 = "java/util/ImmutableCollections$List12" ∨ (C2 = "java/util/ImmutableCollections$ListN" ∧ l2 = aL)) :
    MetFree l own_y28 (head1 (Jvm.Cond.code own_y28 prog_104_method_1_code 4 none :: ws) ({ frames := 2, cells := 0, slots := 0, locals := 26 } : Room)) (fun av_ U => av_ = #[(.ref x), .null, (.ref l1), (.ref l2)] ∧ Z.Warmed39 U.vm ∧ U.heap = h0) (fun _ _ _ _ _ => True) (fun _ U o_ U' => ∃ v L, o_ = .returned v ∧ Q_ti0II Z x e_ mr aL aX l1 C1 l2 C2 h0 n0 v U'.heap L ∧ FrameEnd U o_ U' L ({ frames := 2, cells := 0, slots := 0, locals := 26 } : Room).cells ({ frames := 2, cells := 0, slots := 0, locals := 26 } : Room).slots) := by
  refine MetFree.of_bodySF (plainFor_of_name pn_13) hisR ?_
  intro p e s m args below meth c s₁ Bd hml0 hP hK
  obtain ⟨rfl, hZ, hh⟩ := hP
  have hx := Bd.exec
  have hby := Bd.bytes
  have hml : c.maxLocals = 4 := hml0
  have hown : s.vm.findClass "com/example/navlint/navlint/model/State$Tab" = some m.cls := findClass_of_methodNamed Bd.named
  have hnm := (name_of_methodNamed Bd.named Bd.method).1
  have hlk := own_lk Bd
  have hret := Bd.returns
  have X0 : Stand p l e ({ frames := 2, cells := 0, slots := 0, locals := 26 } : Room) s m #[(.ref x), .null, (.ref l1), (.ref l2)] below meth c s₁ [] 0 0 := Stand.of_body Bd
  have e0 : s₁.heap = h0 := by rw [← hh, Bd.state]; rfl
  have N0 := Fr.nil n0
  show own_Goes p e below s (Q_ti0II Z x e_ mr aL aX l1 C1 l2 C2 h0 n0) ({ frames := 2, cells := 0, slots := 0, locals := 26 } : Room).cells ({ frames := 2, cells := 0, slots := 0, locals := 26 } : Room).slots (s₁.setTop (entryFrame m #[(.ref x), .null, (.ref l1), (.ref l2)] 4))
  refine own_go (fun _ ww => castTop (ef_ti0II m x e_ mr aL aX l1 C1 l2 C2) ww) ?_
  show own_Goes _ _ _ _ _ _ _ (s₁.setTop (mkF m 0 #[.val (.ref x), .val .null, .val (.ref l1), .val (.ref l2)] []))
  refine own_go (fun _ ww => XS.aloadN X0.here hx rfl (hb hby d19_0) rfl rfl ww) ?_
  show own_Goes _ _ _ _ _ _ _ (s₁.setTop (mkF m 1 #[.val (.ref x), .val .null, .val (.ref l1), .val (.ref l2)] [(.ref x)]))
  obtain ⟨_, _, ⟨T405, L405, k405, n405⟩, -, X405, ⟨Lc405, hQ405, l405, y405, z405⟩, st405⟩ := X0.specialBack hx (y := own_y3) rfl hown (mvT hZ (own_w hw 127 rfl)) (mvT hZ (own_w hw 67 rfl)) (mvT hZ (own_w hw 70 rfl)) (by decide) (backOf (W := 0) (rm_hvinit l Z a0 hw [] x h0 n0 O0 ) hZ (own_w hw 70 rfl) (own_w hw 69 rfl) (by decide) (by decide)) (g := (mkF m 1 #[.val (.ref x), .val .null, .val (.ref l1), .val (.ref l2)] [(.ref x)])) rfl (by rw [hml]; rfl) (Steps.refl _) (a := x) (argsL := []) (rest := []) (lenOf pd_0 rfl) rfl (by show 2 * 0 + _ ≤ _; exact Nat.le_of_eq rfl) (hb hby d19_1) (fun _ _ => ⟨rfl, e0, (by decide : 0 + 0 ≤ _), (by decide : 0 + 0 ≤ _)⟩)
  dsimp only [Pt.U, Pt.locs, Pt.cells, Pt.slots] at X405 l405 y405 z405 st405 hQ405
  subst l405 y405 z405
  obtain ⟨rfl, N405q, e405⟩ := hQ405
  have N405 := Fr.app N0 N405q
  refine own_go (fun _ ww => Steps.trans st405 ww) ?_
  show own_Goes _ _ _ _ _ _ _ (T405.setTop (mkF m 4 #[.val (.ref x), .val .null, .val (.ref l1), .val (.ref l2)] []))
  refine own_go (fun _ ww => XS.aloadN X405.here hx rfl (hb hby d19_4) rfl rfl ww) ?_
  show own_Goes _ _ _ _ _ _ _ (T405.setTop (mkF m 5 #[.val (.ref x), .val .null, .val (.ref l1), .val (.ref l2)] [(.ref x)]))
  refine own_go (fun _ ww => XS.aloadN X405.here hx rfl (hb hby d19_5) rfl rfl ww) ?_
  show own_Goes _ _ _ _ _ _ _ (T405.setTop (mkF m 6 #[.val (.ref x), .val .null, .val (.ref l1), .val (.ref l2)] [.null, (.ref x)]))
  obtain ⟨T406, h406, X406, e406, W406, st406⟩ := putF X405 hx hZ hown (host := "") (Or.inl (own_w hw 128 rfl)) Via.refl e405 P0 Ex (Or.inr ⟨(own_w hw 129 rfl), rfl, hnm⟩) (own_w hw 122 rfl) (ty := (.object "com/example/navlint/navlint/model/Entry")) (by decide) rfl rfl (g := (mkF m 6 #[.val (.ref x), .val .null, .val (.ref l1), .val (.ref l2)] [.null, (.ref x)])) rfl rfl (hb hby d19_6)
  have f407 : Fld Z h406 x "com/example/navlint/navlint/model/State$Tab" "entry" "Lcom/example/navlint/navlint/model/Entry;" .null := (P0.same W406)
  have f408 := (P1.other W406 (Or.inr (slot_ne (Or.inr (own_w hw 132 rfl)) (Or.inr (own_w hw 129 rfl)) (by decide) (t := (.object "java/util/List")) (t' := (.object "com/example/navlint/navlint/model/Entry")) (by decide) (by decide))))
  have f409 := (P2.other W406 (Or.inr (slot_ne (Or.inr (own_w hw 134 rfl)) (Or.inr (own_w hw 129 rfl)) (by decide) (t := (.object "java/util/List")) (t' := (.object "com/example/navlint/navlint/model/Entry")) (by decide) (by decide))))
  have f410 := (Ex.wr W406)
  have f411 := (Ee.wr W406)
  have f412 := (Y1.wr W406)
  have f413 := (Y2.wr W406)
  have N406 := Fr.snoc X406 N405 g_x
  have O406 := O0.wr W406 g_x
  have K406 := (Keep.refl h0 [x]).wr W406 (Or.inl (List.mem_of_getElem? (i := 0) rfl))
  refine own_go st406 ?_
  show own_Goes _ _ _ _ _ _ _ (T406.setTop (mkF m 9 #[.val (.ref x), .val .null, .val (.ref l1), .val (.ref l2)] []))
  refine own_go (fun _ ww => XS.aloadN X406.here hx rfl (hb hby d19_9) rfl rfl ww) ?_
  show own_Goes _ _ _ _ _ _ _ (T406.setTop (mkF m 10 #[.val (.ref x), .val .null, .val (.ref l1), .val (.ref l2)] [(.ref x)]))
  refine own_go (fun _ ww => XS.aloadN X406.here hx rfl (hb hby d19_10) rfl rfl ww) ?_
  show own_Goes _ _ _ _ _ _ _ (T406.setTop (mkF m 11 #[.val (.ref x), .val .null, .val (.ref l1), .val (.ref l2)] [(.ref l1), (.ref x)]))
  obtain ⟨_, _, ⟨T414, L414, k414, n414⟩, -, X414, ⟨Lc414, hQ414, l414, y414, z414⟩, st414⟩ := Jvm.LawKit.callS X406 hx (y := own_y23) hown (mvT hZ (own_w hw 130 rfl)) (mvT hZ (own_w hw 83 rfl)) (mvT hZ (own_w hw 84 rfl)) (mvT hZ (own_w hw 85 rfl)) (by decide) (backOf (W := 1) (rm_co_I l Z a0 hw [] l1 C1 aL h406 n0 O406 f412 hC1 EL FL) hZ (own_w hw 85 rfl) (own_w hw 84 rfl) (by decide) (by decide)) (g := (mkF m 11 #[.val (.ref x), .val .null, .val (.ref l1), .val (.ref l2)] [(.ref l1), (.ref x)])) rfl (by rw [hml]; rfl) (argsL := [(.ref l1)]) (rest := [(.ref x)]) (lenOf pd_11 rfl) rfl (by show 2 * 0 + _ ≤ _; exact Nat.le_of_eq rfl) (hb hby d19_11) (fun _ _ => ⟨rfl, e406, (by decide : 0 + 0 ≤ _), (by decide : 0 + 0 ≤ _)⟩)
  dsimp only [Pt.U, Pt.locs, Pt.cells, Pt.slots] at X414 l414 y414 z414 st414 hQ414
  subst l414 y414 z414
  obtain ⟨rfl, N414q, e414⟩ := hQ414
  have N414 := Fr.app N406 N414q
  refine own_go st414 ?_
  show own_Goes _ _ _ _ _ _ _ (T414.setTop (mkF m 14 #[.val (.ref x), .val .null, .val (.ref l1), .val (.ref l2)] [(.ref l1), (.ref x)]))
  obtain ⟨T415, h415, X415, e415, W415, st415⟩ := putF X414 hx hZ hown (host := "") (Or.inl (own_w hw 131 rfl)) Via.refl e414 f408 f410 (Or.inr ⟨(own_w hw 132 rfl), rfl, hnm⟩) (own_w hw 122 rfl) (ty := (.object "java/util/List")) (by decide) rfl rfl (g := (mkF m 14 #[.val (.ref x), .val .null, .val (.ref l1), .val (.ref l2)] [(.ref l1), (.ref x)])) rfl rfl (hb hby d19_14)
  have f416 := (f407.other W415 (Or.inr (slot_ne (Or.inr (own_w hw 129 rfl)) (Or.inr (own_w hw 132 rfl)) (by decide) (t := (.object "com/example/navlint/navlint/model/Entry")) (t' := (.object "java/util/List")) (by decide) (by decide))))
  have f417 : Fld Z h415 x "com/example/navlint/navlint/model/State$Tab" "back" "Ljava/util/List;" (.ref l1) := (f408.same W415)
  have f418 := (f409.other W415 (Or.inr (slot_ne (Or.inr (own_w hw 134 rfl)) (Or.inr (own_w hw 132 rfl)) (by decide) (t := (.object "java/util/List")) (t' := (.object "java/util/List")) (by decide) (by decide))))
  have f419 := (f410.wr W415)
  have f420 := (f411.wr W415)
  have f421 := (f412.wr W415)
  have f422 := (f413.wr W415)
  have N415 := Fr.snoc X415 N414 g_x
  have O415 := O406.wr W415 g_x
  have K415 := K406.wr W415 (Or.inl (List.mem_of_getElem? (i := 0) rfl))
  refine own_go st415 ?_
  show own_Goes _ _ _ _ _ _ _ (T415.setTop (mkF m 17 #[.val (.ref x), .val .null, .val (.ref l1), .val (.ref l2)] []))
  refine own_go (fun _ ww => XS.aloadN X415.here hx rfl (hb hby d19_17) rfl rfl ww) ?_
  show own_Goes _ _ _ _ _ _ _ (T415.setTop (mkF m 18 #[.val (.ref x), .val .null, .val (.ref l1), .val (.ref l2)] [(.ref x)]))
  refine own_go (fun _ ww => XS.aloadN X415.here hx rfl (hb hby d19_18) rfl rfl ww) ?_
  show own_Goes _ _ _ _ _ _ _ (T415.setTop (mkF m 19 #[.val (.ref x), .val .null, .val (.ref l1), .val (.ref l2)] [(.ref l2), (.ref x)]))
  obtain ⟨_, _, ⟨T423, L423, k423, n423⟩, -, X423, ⟨Lc423, hQ423, l423, y423, z423⟩, st423⟩ := Jvm.LawKit.callS X415 hx (y := own_y23) hown (mvT hZ (own_w hw 130 rfl)) (mvT hZ (own_w hw 83 rfl)) (mvT hZ (own_w hw 84 rfl)) (mvT hZ (own_w hw 85 rfl)) (by decide) (backOf (W := 1) (rm_co_I l Z a0 hw [] l2 C2 aL h415 n0 O415 f422 hC2 EL FL) hZ (own_w hw 85 rfl) (own_w hw 84 rfl) (by decide) (by decide)) (g := (mkF m 19 #[.val (.ref x), .val .null, .val (.ref l1), .val (.ref l2)] [(.ref l2), (.ref x)])) rfl (by rw [hml]; rfl) (argsL := [(.ref l2)]) (rest := [(.ref x)]) (lenOf pd_11 rfl) rfl (by show 2 * 0 + _ ≤ _; exact Nat.le_of_eq rfl) (hb hby d19_19) (fun _ _ => ⟨rfl, e415, (by decide : 0 + 0 ≤ _), (by decide : 0 + 0 ≤ _)⟩)
  dsimp only [Pt.U, Pt.locs, Pt.cells, Pt.slots] at X423 l423 y423 z423 st423 hQ423
  subst l423 y423 z423
  obtain ⟨rfl, N423q, e423⟩ := hQ423
  have N423 := Fr.app N415 N423q
  refine own_go st423 ?_
  show own_Goes _ _ _ _ _ _ _ (T423.setTop (mkF m 22 #[.val (.ref x), .val .null, .val (.ref l1), .val (.ref l2)] [(.ref l2), (.ref x)]))
  obtain ⟨T424, h424, X424, e424, W424, st424⟩ := putF X423 hx hZ hown (host := "") (Or.inl (own_w hw 133 rfl)) Via.refl e423 f418 f419 (Or.inr ⟨(own_w hw 134 rfl), rfl, hnm⟩) (own_w hw 122 rfl) (ty := (.object "java/util/List")) (by decide) rfl rfl (g := (mkF m 22 #[.val (.ref x), .val .null, .val (.ref l1), .val (.ref l2)] [(.ref l2), (.ref x)])) rfl rfl (hb hby d19_22)
  have f425 := (f416.other W424 (Or.inr (slot_ne (Or.inr (own_w hw 129 rfl)) (Or.inr (own_w hw 134 rfl)) (by decide) (t := (.object "com/example/navlint/navlint/model/Entry")) (t' := (.object "java/util/List")) (by decide) (by decide))))
  have f426 := (f417.other W424 (Or.inr (slot_ne (Or.inr (own_w hw 132 rfl)) (Or.inr (own_w hw 134 rfl)) (by decide) (t := (.object "java/util/List")) (t' := (.object "java/util/List")) (by decide) (by decide))))
  have f427 : Fld Z h424 x "com/example/navlint/navlint/model/State$Tab" "forward" "Ljava/util/List;" (.ref l2) := (f418.same W424)
  have f428 := (f419.wr W424)
  have f429 := (f420.wr W424)
  have f430 := (f421.wr W424)
  have f431 := (f422.wr W424)
  have N424 := Fr.snoc X424 N423 g_x
  have O424 := O415.wr W424 g_x
  have K424 := K415.wr W424 (Or.inl (List.mem_of_getElem? (i := 0) rfl))
  refine own_go st424 ?_
  show own_Goes _ _ _ _ _ _ _ (T424.setTop (mkF m 25 #[.val (.ref x), .val .null, .val (.ref l1), .val (.ref l2)] []))
  exact own_out X424 hlk (v := none) (fun _ => rfl) (fun fs hr => X424.returnOut hx hret (hb hby d19_25) hr) e424 ⟨rfl, N424, K424, f425, f426, f427⟩ (by decide) (by decide)
theorem ef_ti1ee (m : MethodId) (x : Addr) (e_ : Addr) (mr : Addr) (aL : Addr) (aX : Addr) (a1 : Addr) (a2 : Addr) : entryFrame m #[(.ref x), (.ref e_), (.ref a1), (.ref a2)] 4 = mkF m 0 #[.val (.ref x), .val (.ref e_), .val (.ref a1), .val (.ref a2)] [] := by
  first | (simp [entryFrame, mkF, argsToLocals, Value.category]; done) | rfl
def Q_ti1ee (Z : State) (x : Addr) (e_ : Addr) (mr : Addr) (aL : Addr) (aX : Addr) (a1 : Addr) (a2 : Addr) (h0 : Heap) (n0 : Nat) (v : Option Value) (h : Heap) (L : List Loc) : Prop := v = none ∧ Fr n0 L ∧ Keep h0 h [x] ∧ Fld Z h x "com/example/navlint/navlint/model/State$Tab" "entry" "Lcom/example/navlint/navlint/model/Entry;" (.ref e_) ∧ Fld Z h x "com/example/navlint/navlint/model/State$Tab" "back" "Ljava/util/List;" (.ref aL) ∧ Fld Z h x "com/example/navlint/navlint/model/State$Tab" "forward" "Ljava/util/List;" (.ref aL)
set_option maxRecDepth 65536 in
set_option maxHeartbeats 40000000 in
theorem rm_ti1ee (l : Launch) (Z : State) (a0 : Array Value) (hw : ∀ d ∈ tables_1, d.before a0 Z = true) (ws : List Jvm.Cond) (x : Addr) (e_ : Addr) (mr : Addr) (aL : Addr) (aX : Addr) (a1 : Addr) (a2 : Addr) (h0 : Heap) (n0 : Nat) (O0 : Old Z n0 h0) (P0 : Fld Z h0 x "com/example/navlint/navlint/model/State$Tab" "entry" "Lcom/example/navlint/navlint/model/Entry;" .null) (P1 : Fld Z h0 x "com/example/navlint/navlint/model/State$Tab" "back" "Ljava/util/List;" .null) (P2 : Fld Z h0 x "com/example/navlint/navlint/model/State$Tab" "forward" "Ljava/util/List;" .null) (Ex : Exa Z h0 x "com/example/navlint/navlint/model/State$Tab") (g_x : n0 ≤ x) (Ee : Exa Z h0 e_ "com/example/navlint/navlint/model/Entry") (MK : Mir Z "[Ljava/lang/Object;" mr) (SL : Sta Z Z.heap "java/util/ImmutableCollections" "EMPTY_LIST" "Ljava/util/ImmutableCollections$ListN;" (.ref aL)) (SX : Sta Z Z.heap "java/util/ImmutableCollections" "EMPTY" "Ljava/lang/Object;" (.ref aX)) (EL : Exa Z Z.heap aL "java/util/ImmutableCollections$ListN") (FL : Fld Z Z.heap aL "java/util/ImmutableCollections$ListN" "allowNulls" "Z" (.int (0 : Int32))) (Z1 : Fld Z h0 a1 "java/util/ArrayList" "size" "I" (.int (0 : Int32))) (Y1 : Exa Z h0 a1 "java/util/ArrayList") (na1 : a1 ≠ x) (Z2 : Fld Z h0 a2 "java/util/ArrayList" "size" "I" (.int (0 : Int32))) (Y2 : Exa Z h0 a2 "java/util/ArrayList") (na2 : a2 ≠ x) :
    MetFree l own_y28 (head1 (Jvm.Cond.code own_y28 prog_104_method_1_code 4 none :: ws) ({ frames := 3, cells := 0, slots := 0, locals := 38 } : Room)) (fun av_ U => av_ = #[(.ref x), (.ref e_), (.ref a1), (.ref a2)] ∧ Z.Warmed39 U.vm ∧ U.heap = h0) (fun _ _ _ _ _ => True) (fun _ U o_ U' => ∃ v L, o_ = .returned v ∧ Q_ti1ee Z x e_ mr aL aX a1 a2 h0 n0 v U'.heap L ∧ FrameEnd U o_ U' L ({ frames := 3, cells := 0, slots := 0, locals := 38 } : Room).cells ({ frames := 3, cells := 0, slots := 0, locals := 38 } : Room).slots) := by
  refine MetFree.of_bodySF (plainFor_of_name pn_13) hisR ?_
  intro p e s m args below meth c s₁ Bd hml0 hP hK
  obtain ⟨rfl, hZ, hh⟩ := hP
  have hx := Bd.exec
  have hby := Bd.bytes
  have hml : c.maxLocals = 4 := hml0
  have hown : s.vm.findClass "com/example/navlint/navlint/model/State$Tab" = some m.cls := findClass_of_methodNamed Bd.named
  have hnm := (name_of_methodNamed Bd.named Bd.method).1
  have hlk := own_lk Bd
  have hret := Bd.returns
  have X0 : Stand p l e ({ frames := 3, cells := 0, slots := 0, locals := 38 } : Room) s m #[(.ref x), (.ref e_), (.ref a1), (.ref a2)] below meth c s₁ [] 0 0 := Stand.of_body Bd
  have e0 : s₁.heap = h0 := by rw [← hh, Bd.state]; rfl
  have N0 := Fr.nil n0
  show own_Goes p e below s (Q_ti1ee Z x e_ mr aL aX a1 a2 h0 n0) ({ frames := 3, cells := 0, slots := 0, locals := 38 } : Room).cells ({ frames := 3, cells := 0, slots := 0, locals := 38 } : Room).slots (s₁.setTop (entryFrame m #[(.ref x), (.ref e_), (.ref a1), (.ref a2)] 4))
  refine own_go (fun _ ww => castTop (ef_ti1ee m x e_ mr aL aX a1 a2) ww) ?_
  show own_Goes _ _ _ _ _ _ _ (s₁.setTop (mkF m 0 #[.val (.ref x), .val (.ref e_), .val (.ref a1), .val (.ref a2)] []))
  refine own_go (fun _ ww => XS.aloadN X0.here hx rfl (hb hby d19_0) rfl rfl ww) ?_
  show own_Goes _ _ _ _ _ _ _ (s₁.setTop (mkF m 1 #[.val (.ref x), .val (.ref e_), .val (.ref a1), .val (.ref a2)] [(.ref x)]))
  obtain ⟨_, _, ⟨T432, L432, k432, n432⟩, -, X432, ⟨Lc432, hQ432, l432, y432, z432⟩, st432⟩ := X0.specialBack hx (y := own_y3) rfl hown (mvT hZ (own_w hw 127 rfl)) (mvT hZ (own_w hw 67 rfl)) (mvT hZ (own_w hw 70 rfl)) (by decide) (backOf (W := 0) (rm_hvinit l Z a0 hw [] x h0 n0 O0 ) hZ (own_w hw 70 rfl) (own_w hw 69 rfl) (by decide) (by decide)) (g := (mkF m 1 #[.val (.ref x), .val (.ref e_), .val (.ref a1), .val (.ref a2)] [(.ref x)])) rfl (by rw [hml]; rfl) (Steps.refl _) (a := x) (argsL := []) (rest := []) (lenOf pd_0 rfl) rfl (by show 2 * 0 + _ ≤ _; exact Nat.le_of_eq rfl) (hb hby d19_1) (fun _ _ => ⟨rfl, e0, (by decide : 0 + 0 ≤ _), (by decide : 0 + 0 ≤ _)⟩)
  dsimp only [Pt.U, Pt.locs, Pt.cells, Pt.slots] at X432 l432 y432 z432 st432 hQ432
  subst l432 y432 z432
  obtain ⟨rfl, N432q, e432⟩ := hQ432
  have N432 := Fr.app N0 N432q
  refine own_go (fun _ ww => Steps.trans st432 ww) ?_
  show own_Goes _ _ _ _ _ _ _ (T432.setTop (mkF m 4 #[.val (.ref x), .val (.ref e_), .val (.ref a1), .val (.ref a2)] []))
  refine own_go (fun _ ww => XS.aloadN X432.here hx rfl (hb hby d19_4) rfl rfl ww) ?_
  show own_Goes _ _ _ _ _ _ _ (T432.setTop (mkF m 5 #[.val (.ref x), .val (.ref e_), .val (.ref a1), .val (.ref a2)] [(.ref x)]))
  refine own_go (fun _ ww => XS.aloadN X432.here hx rfl (hb hby d19_5) rfl rfl ww) ?_
  show own_Goes _ _ _ _ _ _ _ (T432.setTop (mkF m 6 #[.val (.ref x), .val (.ref e_), .val (.ref a1), .val (.ref a2)] [(.ref e_), (.ref x)]))
  obtain ⟨T433, h433, X433, e433, W433, st433⟩ := putF X432 hx hZ hown (host := "") (Or.inl (own_w hw 128 rfl)) Via.refl e432 P0 Ex (Or.inr ⟨(own_w hw 129 rfl), rfl, hnm⟩) (own_w hw 122 rfl) (ty := (.object "com/example/navlint/navlint/model/Entry")) (by decide) rfl rfl (g := (mkF m 6 #[.val (.ref x), .val (.ref e_), .val (.ref a1), .val (.ref a2)] [(.ref e_), (.ref x)])) rfl rfl (hb hby d19_6)
  have f434 : Fld Z h433 x "com/example/navlint/navlint/model/State$Tab" "entry" "Lcom/example/navlint/navlint/model/Entry;" (.ref e_) := (P0.same W433)
  have f435 := (P1.other W433 (Or.inr (slot_ne (Or.inr (own_w hw 132 rfl)) (Or.inr (own_w hw 129 rfl)) (by decide) (t := (.object "java/util/List")) (t' := (.object "com/example/navlint/navlint/model/Entry")) (by decide) (by decide))))
  have f436 := (P2.other W433 (Or.inr (slot_ne (Or.inr (own_w hw 134 rfl)) (Or.inr (own_w hw 129 rfl)) (by decide) (t := (.object "java/util/List")) (t' := (.object "com/example/navlint/navlint/model/Entry")) (by decide) (by decide))))
  have f437 := (Ex.wr W433)
  have f438 := (Ee.wr W433)
  have f439 := (Z1.other W433 (Or.inl na1))
  have f440 := (Y1.wr W433)
  have f441 := (Z2.other W433 (Or.inl na2))
  have f442 := (Y2.wr W433)
  have N433 := Fr.snoc X433 N432 g_x
  have O433 := O0.wr W433 g_x
  have K433 := (Keep.refl h0 [x]).wr W433 (Or.inl (List.mem_of_getElem? (i := 0) rfl))
  refine own_go st433 ?_
  show own_Goes _ _ _ _ _ _ _ (T433.setTop (mkF m 9 #[.val (.ref x), .val (.ref e_), .val (.ref a1), .val (.ref a2)] []))
  refine own_go (fun _ ww => XS.aloadN X433.here hx rfl (hb hby d19_9) rfl rfl ww) ?_
  show own_Goes _ _ _ _ _ _ _ (T433.setTop (mkF m 10 #[.val (.ref x), .val (.ref e_), .val (.ref a1), .val (.ref a2)] [(.ref x)]))
  refine own_go (fun _ ww => XS.aloadN X433.here hx rfl (hb hby d19_10) rfl rfl ww) ?_
  show own_Goes _ _ _ _ _ _ _ (T433.setTop (mkF m 11 #[.val (.ref x), .val (.ref e_), .val (.ref a1), .val (.ref a2)] [(.ref a1), (.ref x)]))
  obtain ⟨_, _, ⟨T443, L443, k443, n443⟩, -, X443, ⟨Lc443, hQ443, l443, y443, z443⟩, st443⟩ := Jvm.LawKit.callS X433 hx (y := own_y23) hown (mvT hZ (own_w hw 130 rfl)) (mvT hZ (own_w hw 83 rfl)) (mvT hZ (own_w hw 84 rfl)) (mvT hZ (own_w hw 85 rfl)) (by decide) (backOf (W := 1) (rm_co_e l Z a0 hw [] a1 aL h433 n0 O433 f439 f440 SL) hZ (own_w hw 85 rfl) (own_w hw 84 rfl) (by decide) (by decide)) (g := (mkF m 11 #[.val (.ref x), .val (.ref e_), .val (.ref a1), .val (.ref a2)] [(.ref a1), (.ref x)])) rfl (by rw [hml]; rfl) (argsL := [(.ref a1)]) (rest := [(.ref x)]) (lenOf pd_11 rfl) rfl (by show 2 * 0 + _ ≤ _; exact Nat.le_of_eq rfl) (hb hby d19_11) (fun _ _ => ⟨rfl, e433, (by decide : 0 + 0 ≤ _), (by decide : 0 + 0 ≤ _)⟩)
  dsimp only [Pt.U, Pt.locs, Pt.cells, Pt.slots] at X443 l443 y443 z443 st443 hQ443
  subst l443 y443 z443
  obtain ⟨rfl, N443q, e443⟩ := hQ443
  have N443 := Fr.app N433 N443q
  refine own_go st443 ?_
  show own_Goes _ _ _ _ _ _ _ (T443.setTop (mkF m 14 #[.val (.ref x), .val (.ref e_), .val (.ref a1), .val (.ref a2)] [(.ref aL), (.ref x)]))
  obtain ⟨T444, h444, X444, e444, W444, st444⟩ := putF X443 hx hZ hown (host := "") (Or.inl (own_w hw 131 rfl)) Via.refl e443 f435 f437 (Or.inr ⟨(own_w hw 132 rfl), rfl, hnm⟩) (own_w hw 122 rfl) (ty := (.object "java/util/List")) (by decide) rfl rfl (g := (mkF m 14 #[.val (.ref x), .val (.ref e_), .val (.ref a1), .val (.ref a2)] [(.ref aL), (.ref x)])) rfl rfl (hb hby d19_14)
  have f445 := (f434.other W444 (Or.inr (slot_ne (Or.inr (own_w hw 129 rfl)) (Or.inr (own_w hw 132 rfl)) (by decide) (t := (.object "com/example/navlint/navlint/model/Entry")) (t' := (.object "java/util/List")) (by decide) (by decide))))
  have f446 : Fld Z h444 x "com/example/navlint/navlint/model/State$Tab" "back" "Ljava/util/List;" (.ref aL) := (f435.same W444)
  have f447 := (f436.other W444 (Or.inr (slot_ne (Or.inr (own_w hw 134 rfl)) (Or.inr (own_w hw 132 rfl)) (by decide) (t := (.object "java/util/List")) (t' := (.object "java/util/List")) (by decide) (by decide))))
  have f448 := (f437.wr W444)
  have f449 := (f438.wr W444)
  have f450 := (f441.other W444 (Or.inl na2))
  have f451 := (f442.wr W444)
  have N444 := Fr.snoc X444 N443 g_x
  have O444 := O433.wr W444 g_x
  have K444 := K433.wr W444 (Or.inl (List.mem_of_getElem? (i := 0) rfl))
  refine own_go st444 ?_
  show own_Goes _ _ _ _ _ _ _ (T444.setTop (mkF m 17 #[.val (.ref x), .val (.ref e_), .val (.ref a1), .val (.ref a2)] []))
  refine own_go (fun _ ww => XS.aloadN X444.here hx rfl (hb hby d19_17) rfl rfl ww) ?_
  show own_Goes _ _ _ _ _ _ _ (T444.setTop (mkF m 18 #[.val (.ref x), .val (.ref e_), .val (.ref a1), .val (.ref a2)] [(.ref x)]))
  refine own_go (fun _ ww => XS.aloadN X444.here hx rfl (hb hby d19_18) rfl rfl ww) ?_
  show own_Goes _ _ _ _ _ _ _ (T444.setTop (mkF m 19 #[.val (.ref x), .val (.ref e_), .val (.ref a1), .val (.ref a2)] [(.ref a2), (.ref x)]))
  obtain ⟨_, _, ⟨T452, L452, k452, n452⟩, -, X452, ⟨Lc452, hQ452, l452, y452, z452⟩, st452⟩ := Jvm.LawKit.callS X444 hx (y := own_y23) hown (mvT hZ (own_w hw 130 rfl)) (mvT hZ (own_w hw 83 rfl)) (mvT hZ (own_w hw 84 rfl)) (mvT hZ (own_w hw 85 rfl)) (by decide) (backOf (W := 1) (rm_co_e l Z a0 hw [] a2 aL h444 n0 O444 f450 f451 SL) hZ (own_w hw 85 rfl) (own_w hw 84 rfl) (by decide) (by decide)) (g := (mkF m 19 #[.val (.ref x), .val (.ref e_), .val (.ref a1), .val (.ref a2)] [(.ref a2), (.ref x)])) rfl (by rw [hml]; rfl) (argsL := [(.ref a2)]) (rest := [(.ref x)]) (lenOf pd_11 rfl) rfl (by show 2 * 0 + _ ≤ _; exact Nat.le_of_eq rfl) (hb hby d19_19) (fun _ _ => ⟨rfl, e444, (by decide : 0 + 0 ≤ _), (by decide : 0 + 0 ≤ _)⟩)
  dsimp only [Pt.U, Pt.locs, Pt.cells, Pt.slots] at X452 l452 y452 z452 st452 hQ452
  subst l452 y452 z452
  obtain ⟨rfl, N452q, e452⟩ := hQ452
  have N452 := Fr.app N444 N452q
  refine own_go st452 ?_
  show own_Goes _ _ _ _ _ _ _ (T452.setTop (mkF m 22 #[.val (.ref x), .val (.ref e_), .val (.ref a1), .val (.ref a2)] [(.ref aL), (.ref x)]))
  obtain ⟨T453, h453, X453, e453, W453, st453⟩ := putF X452 hx hZ hown (host := "") (Or.inl (own_w hw 133 rfl)) Via.refl e452 f447 f448 (Or.inr ⟨(own_w hw 134 rfl), rfl, hnm⟩) (own_w hw 122 rfl) (ty := (.object "java/util/List")) (by decide) rfl rfl (g := (mkF m 22 #[.val (.ref x), .val (.ref e_), .val (.ref a1), .val (.ref a2)] [(.ref aL), (.ref x)])) rfl rfl (hb hby d19_22)
  have f454 := (f445.other W453 (Or.inr (slot_ne (Or.inr (own_w hw 129 rfl)) (Or.inr (own_w hw 134 rfl)) (by decide) (t := (.object "com/example/navlint/navlint/model/Entry")) (t' := (.object "java/util/List")) (by decide) (by decide))))
  have f455 := (f446.other W453 (Or.inr (slot_ne (Or.inr (own_w hw 132 rfl)) (Or.inr (own_w hw 134 rfl)) (by decide) (t := (.object "java/util/List")) (t' := (.object "java/util/List")) (by decide) (by decide))))
  have f456 : Fld Z h453 x "com/example/navlint/navlint/model/State$Tab" "forward" "Ljava/util/List;" (.ref aL) := (f447.same W453)
  have f457 := (f448.wr W453)
  have f458 := (f449.wr W453)
  have f459 := (f450.other W453 (Or.inl na2))
  have f460 := (f451.wr W453)
  have N453 := Fr.snoc X453 N452 g_x
  have O453 := O444.wr W453 g_x
  have K453 := K444.wr W453 (Or.inl (List.mem_of_getElem? (i := 0) rfl))
  refine own_go st453 ?_
  show own_Goes _ _ _ _ _ _ _ (T453.setTop (mkF m 25 #[.val (.ref x), .val (.ref e_), .val (.ref a1), .val (.ref a2)] []))
  exact own_out X453 hlk (v := none) (fun _ => rfl) (fun fs hr => X453.returnOut hx hret (hb hby d19_25) hr) e453 ⟨rfl, N453, K453, f454, f455, f456⟩ (by decide) (by decide)
theorem ef_ti1en (m : MethodId) (x : Addr) (e_ : Addr) (mr : Addr) (aL : Addr) (aX : Addr) (a1 : Addr) (a2 : Addr) (t2 : Addr) (kk2 : ClassId) : entryFrame m #[(.ref x), (.ref e_), (.ref a1), (.ref a2)] 4 = mkF m 0 #[.val (.ref x), .val (.ref e_), .val (.ref a1), .val (.ref a2)] [] := by
  first | (simp [entryFrame, mkF, argsToLocals, Value.category]; done) | rfl
def Q_ti1en (Z : State) (x : Addr) (e_ : Addr) (mr : Addr) (aL : Addr) (aX : Addr) (a1 : Addr) (a2 : Addr) (t2 : Addr) (kk2 : ClassId) (h0 : Heap) (n0 : Nat) (v : Option Value) (h : Heap) (L : List Loc) : Prop := ∃ r2 : Addr, v = none ∧ Fr n0 L ∧ Keep h0 h [x] ∧ Fld Z h x "com/example/navlint/navlint/model/State$Tab" "entry" "Lcom/example/navlint/navlint/model/Entry;" (.ref e_) ∧ Fld Z h x "com/example/navlint/navlint/model/State$Tab" "back" "Ljava/util/List;" (.ref aL) ∧ Fld Z h x "com/example/navlint/navlint/model/State$Tab" "forward" "Ljava/util/List;" (.ref r2) ∧ Exa Z h r2 "java/util/ImmutableCollections$List12"
set_option maxRecDepth 65536 in
set_option maxHeartbeats 40000000 in
theorem rm_ti1en (l : Launch) (Z : State) (a0 : Array Value) (hw : ∀ d ∈ tables_1, d.before a0 Z = true) (ws : List Jvm.Cond) (x : Addr) (e_ : Addr) (mr : Addr) (aL : Addr) (aX : Addr) (a1 : Addr) (a2 : Addr) (t2 : Addr) (kk2 : ClassId) (h0 : Heap) (n0 : Nat) (O0 : Old Z n0 h0) (P0 : Fld Z h0 x "com/example/navlint/navlint/model/State$Tab" "entry" "Lcom/example/navlint/navlint/model/Entry;" .null) (P1 : Fld Z h0 x "com/example/navlint/navlint/model/State$Tab" "back" "Ljava/util/List;" .null) (P2 : Fld Z h0 x "com/example/navlint/navlint/model/State$Tab" "forward" "Ljava/util/List;" .null) (Ex : Exa Z h0 x "com/example/navlint/navlint/model/State$Tab") (g_x : n0 ≤ x) (Ee : Exa Z h0 e_ "com/example/navlint/navlint/model/Entry") (MK : Mir Z "[Ljava/lang/Object;" mr) (SL : Sta Z Z.heap "java/util/ImmutableCollections" "EMPTY_LIST" "Ljava/util/ImmutableCollections$ListN;" (.ref aL)) (SX : Sta Z Z.heap "java/util/ImmutableCollections" "EMPTY" "Ljava/lang/Object;" (.ref aX)) (EL : Exa Z Z.heap aL "java/util/ImmutableCollections$ListN") (FL : Fld Z Z.heap aL "java/util/ImmutableCollections$ListN" "allowNulls" "Z" (.int (0 : Int32))) (Z1 : Fld Z h0 a1 "java/util/ArrayList" "size" "I" (.int (0 : Int32))) (Y1 : Exa Z h0 a1 "java/util/ArrayList") (na1 : a1 ≠ x) (Z21 : Fld Z h0 a2 "java/util/ArrayList" "elementData" "[Ljava/lang/Object;" (.ref t2)) (Z22 : Fld Z h0 a2 "java/util/ArrayList" "size" "I" (.int (1 : Int32))) (Y2 : Exa Z h0 a2 "java/util/ArrayList") (V2 : Arv Z h0 t2 kk2 (.object "java/lang/Object") (10 : Int32) [(.ref e_), .null, .null, .null, .null, .null, .null, .null, .null, .null] .null) (U2 : Exa Z h0 t2 "[Ljava/lang/Object;") (na2 : a2 ≠ x) (nt2 : t2 ≠ x) :
    MetFree l own_y28 (head1 (Jvm.Cond.code own_y28 prog_104_method_1_code 4 none :: ws) ({ frames := 8, cells := 2, slots := 3, locals := 106 } : Room)) (fun av_ U => av_ = #[(.ref x), (.ref e_), (.ref a1), (.ref a2)] ∧ Z.Warmed39 U.vm ∧ U.heap = h0) (fun _ _ _ _ _ => True) (fun _ U o_ U' => ∃ v L, o_ = .returned v ∧ Q_ti1en Z x e_ mr aL aX a1 a2 t2 kk2 h0 n0 v U'.heap L ∧ FrameEnd U o_ U' L ({ frames := 8, cells := 2, slots := 3, locals := 106 } : Room).cells ({ frames := 8, cells := 2, slots := 3, locals := 106 } : Room).slots) := by
  refine MetFree.of_bodySF (plainFor_of_name pn_13) hisR ?_
  intro p e s m args below meth c s₁ Bd hml0 hP hK
  obtain ⟨rfl, hZ, hh⟩ := hP
  have hx := Bd.exec
  have hby := Bd.bytes
  have hml : c.maxLocals = 4 := hml0
  have hown : s.vm.findClass "com/example/navlint/navlint/model/State$Tab" = some m.cls := findClass_of_methodNamed Bd.named
  have hnm := (name_of_methodNamed Bd.named Bd.method).1
  have hlk := own_lk Bd
  have hret := Bd.returns
  have X0 : Stand p l e ({ frames := 8, cells := 2, slots := 3, locals := 106 } : Room) s m #[(.ref x), (.ref e_), (.ref a1), (.ref a2)] below meth c s₁ [] 0 0 := Stand.of_body Bd
  have e0 : s₁.heap = h0 := by rw [← hh, Bd.state]; rfl
  have N0 := Fr.nil n0
  show own_Goes p e below s (Q_ti1en Z x e_ mr aL aX a1 a2 t2 kk2 h0 n0) ({ frames := 8, cells := 2, slots := 3, locals := 106 } : Room).cells ({ frames := 8, cells := 2, slots := 3, locals := 106 } : Room).slots (s₁.setTop (entryFrame m #[(.ref x), (.ref e_), (.ref a1), (.ref a2)] 4))
  refine own_go (fun _ ww => castTop (ef_ti1en m x e_ mr aL aX a1 a2 t2 kk2) ww) ?_
  show own_Goes _ _ _ _ _ _ _ (s₁.setTop (mkF m 0 #[.val (.ref x), .val (.ref e_), .val (.ref a1), .val (.ref a2)] []))
  refine own_go (fun _ ww => XS.aloadN X0.here hx rfl (hb hby d19_0) rfl rfl ww) ?_
  show own_Goes _ _ _ _ _ _ _ (s₁.setTop (mkF m 1 #[.val (.ref x), .val (.ref e_), .val (.ref a1), .val (.ref a2)] [(.ref x)]))
  obtain ⟨_, _, ⟨T461, L461, k461, n461⟩, -, X461, ⟨Lc461, hQ461, l461, y461, z461⟩, st461⟩ := X0.specialBack hx (y := own_y3) rfl hown (mvT hZ (own_w hw 127 rfl)) (mvT hZ (own_w hw 67 rfl)) (mvT hZ (own_w hw 70 rfl)) (by decide) (backOf (W := 0) (rm_hvinit l Z a0 hw [] x h0 n0 O0 ) hZ (own_w hw 70 rfl) (own_w hw 69 rfl) (by decide) (by decide)) (g := (mkF m 1 #[.val (.ref x), .val (.ref e_), .val (.ref a1), .val (.ref a2)] [(.ref x)])) rfl (by rw [hml]; rfl) (Steps.refl _) (a := x) (argsL := []) (rest := []) (lenOf pd_0 rfl) rfl (by show 2 * 0 + _ ≤ _; exact Nat.le_of_eq rfl) (hb hby d19_1) (fun _ _ => ⟨rfl, e0, (by decide : 0 + 0 ≤ _), (by decide : 0 + 0 ≤ _)⟩)
  dsimp only [Pt.U, Pt.locs, Pt.cells, Pt.slots] at X461 l461 y461 z461 st461 hQ461
  subst l461 y461 z461
  obtain ⟨rfl, N461q, e461⟩ := hQ461
  have N461 := Fr.app N0 N461q
  refine own_go (fun _ ww => Steps.trans st461 ww) ?_
  show own_Goes _ _ _ _ _ _ _ (T461.setTop (mkF m 4 #[.val (.ref x), .val (.ref e_), .val (.ref a1), .val (.ref a2)] []))
  refine own_go (fun _ ww => XS.aloadN X461.here hx rfl (hb hby d19_4) rfl rfl ww) ?_
  show own_Goes _ _ _ _ _ _ _ (T461.setTop (mkF m 5 #[.val (.ref x), .val (.ref e_), .val (.ref a1), .val (.ref a2)] [(.ref x)]))
  refine own_go (fun _ ww => XS.aloadN X461.here hx rfl (hb hby d19_5) rfl rfl ww) ?_
  show own_Goes _ _ _ _ _ _ _ (T461.setTop (mkF m 6 #[.val (.ref x), .val (.ref e_), .val (.ref a1), .val (.ref a2)] [(.ref e_), (.ref x)]))
  obtain ⟨T462, h462, X462, e462, W462, st462⟩ := putF X461 hx hZ hown (host := "") (Or.inl (own_w hw 128 rfl)) Via.refl e461 P0 Ex (Or.inr ⟨(own_w hw 129 rfl), rfl, hnm⟩) (own_w hw 122 rfl) (ty := (.object "com/example/navlint/navlint/model/Entry")) (by decide) rfl rfl (g := (mkF m 6 #[.val (.ref x), .val (.ref e_), .val (.ref a1), .val (.ref a2)] [(.ref e_), (.ref x)])) rfl rfl (hb hby d19_6)
  have f463 : Fld Z h462 x "com/example/navlint/navlint/model/State$Tab" "entry" "Lcom/example/navlint/navlint/model/Entry;" (.ref e_) := (P0.same W462)
  have f464 := (P1.other W462 (Or.inr (slot_ne (Or.inr (own_w hw 132 rfl)) (Or.inr (own_w hw 129 rfl)) (by decide) (t := (.object "java/util/List")) (t' := (.object "com/example/navlint/navlint/model/Entry")) (by decide) (by decide))))
  have f465 := (P2.other W462 (Or.inr (slot_ne (Or.inr (own_w hw 134 rfl)) (Or.inr (own_w hw 129 rfl)) (by decide) (t := (.object "java/util/List")) (t' := (.object "com/example/navlint/navlint/model/Entry")) (by decide) (by decide))))
  have f466 := (Ex.wr W462)
  have f467 := (Ee.wr W462)
  have f468 := (Z1.other W462 (Or.inl na1))
  have f469 := (Y1.wr W462)
  have f470 := (Z21.other W462 (Or.inl na2))
  have f471 := (Z22.other W462 (Or.inl na2))
  have f472 := (Y2.wr W462)
  have f473 : Arv Z h462 t2 kk2 (.object "java/lang/Object") (10 : Int32) [(.ref e_), .null, .null, .null, .null, .null, .null, .null, .null, .null] .null := (V2.other W462 nt2)
  have f474 := (U2.wr W462)
  have N462 := Fr.snoc X462 N461 g_x
  have O462 := O0.wr W462 g_x
  have K462 := (Keep.refl h0 [x]).wr W462 (Or.inl (List.mem_of_getElem? (i := 0) rfl))
  refine own_go st462 ?_
  show own_Goes _ _ _ _ _ _ _ (T462.setTop (mkF m 9 #[.val (.ref x), .val (.ref e_), .val (.ref a1), .val (.ref a2)] []))
  refine own_go (fun _ ww => XS.aloadN X462.here hx rfl (hb hby d19_9) rfl rfl ww) ?_
  show own_Goes _ _ _ _ _ _ _ (T462.setTop (mkF m 10 #[.val (.ref x), .val (.ref e_), .val (.ref a1), .val (.ref a2)] [(.ref x)]))
  refine own_go (fun _ ww => XS.aloadN X462.here hx rfl (hb hby d19_10) rfl rfl ww) ?_
  show own_Goes _ _ _ _ _ _ _ (T462.setTop (mkF m 11 #[.val (.ref x), .val (.ref e_), .val (.ref a1), .val (.ref a2)] [(.ref a1), (.ref x)]))
  obtain ⟨_, _, ⟨T475, L475, k475, n475⟩, -, X475, ⟨Lc475, hQ475, l475, y475, z475⟩, st475⟩ := Jvm.LawKit.callS X462 hx (y := own_y23) hown (mvT hZ (own_w hw 130 rfl)) (mvT hZ (own_w hw 83 rfl)) (mvT hZ (own_w hw 84 rfl)) (mvT hZ (own_w hw 85 rfl)) (by decide) (backOf (W := 1) (rm_co_e l Z a0 hw [] a1 aL h462 n0 O462 f468 f469 SL) hZ (own_w hw 85 rfl) (own_w hw 84 rfl) (by decide) (by decide)) (g := (mkF m 11 #[.val (.ref x), .val (.ref e_), .val (.ref a1), .val (.ref a2)] [(.ref a1), (.ref x)])) rfl (by rw [hml]; rfl) (argsL := [(.ref a1)]) (rest := [(.ref x)]) (lenOf pd_11 rfl) rfl (by show 2 * 0 + _ ≤ _; exact Nat.le_of_eq rfl) (hb hby d19_11) (fun _ _ => ⟨rfl, e462, (by decide : 0 + 0 ≤ _), (by decide : 0 + 0 ≤ _)⟩)
  dsimp only [Pt.U, Pt.locs, Pt.cells, Pt.slots] at X475 l475 y475 z475 st475 hQ475
  subst l475 y475 z475
  obtain ⟨rfl, N475q, e475⟩ := hQ475
  have N475 := Fr.app N462 N475q
  refine own_go st475 ?_
  show own_Goes _ _ _ _ _ _ _ (T475.setTop (mkF m 14 #[.val (.ref x), .val (.ref e_), .val (.ref a1), .val (.ref a2)] [(.ref aL), (.ref x)]))
  obtain ⟨T476, h476, X476, e476, W476, st476⟩ := putF X475 hx hZ hown (host := "") (Or.inl (own_w hw 131 rfl)) Via.refl e475 f464 f466 (Or.inr ⟨(own_w hw 132 rfl), rfl, hnm⟩) (own_w hw 122 rfl) (ty := (.object "java/util/List")) (by decide) rfl rfl (g := (mkF m 14 #[.val (.ref x), .val (.ref e_), .val (.ref a1), .val (.ref a2)] [(.ref aL), (.ref x)])) rfl rfl (hb hby d19_14)
  have f477 := (f463.other W476 (Or.inr (slot_ne (Or.inr (own_w hw 129 rfl)) (Or.inr (own_w hw 132 rfl)) (by decide) (t := (.object "com/example/navlint/navlint/model/Entry")) (t' := (.object "java/util/List")) (by decide) (by decide))))
  have f478 : Fld Z h476 x "com/example/navlint/navlint/model/State$Tab" "back" "Ljava/util/List;" (.ref aL) := (f464.same W476)
  have f479 := (f465.other W476 (Or.inr (slot_ne (Or.inr (own_w hw 134 rfl)) (Or.inr (own_w hw 132 rfl)) (by decide) (t := (.object "java/util/List")) (t' := (.object "java/util/List")) (by decide) (by decide))))
  have f480 := (f466.wr W476)
  have f481 := (f467.wr W476)
  have f482 := (f470.other W476 (Or.inl na2))
  have f483 := (f471.other W476 (Or.inl na2))
  have f484 := (f472.wr W476)
  have f485 : Arv Z h476 t2 kk2 (.object "java/lang/Object") (10 : Int32) [(.ref e_), .null, .null, .null, .null, .null, .null, .null, .null, .null] .null := (f473.other W476 nt2)
  have f486 := (f474.wr W476)
  have N476 := Fr.snoc X476 N475 g_x
  have O476 := O462.wr W476 g_x
  have K476 := K462.wr W476 (Or.inl (List.mem_of_getElem? (i := 0) rfl))
  refine own_go st476 ?_
  show own_Goes _ _ _ _ _ _ _ (T476.setTop (mkF m 17 #[.val (.ref x), .val (.ref e_), .val (.ref a1), .val (.ref a2)] []))
  refine own_go (fun _ ww => XS.aloadN X476.here hx rfl (hb hby d19_17) rfl rfl ww) ?_
  show own_Goes _ _ _ _ _ _ _ (T476.setTop (mkF m 18 #[.val (.ref x), .val (.ref e_), .val (.ref a1), .val (.ref a2)] [(.ref x)]))
  refine own_go (fun _ ww => XS.aloadN X476.here hx rfl (hb hby d19_18) rfl rfl ww) ?_
  show own_Goes _ _ _ _ _ _ _ (T476.setTop (mkF m 19 #[.val (.ref x), .val (.ref e_), .val (.ref a1), .val (.ref a2)] [(.ref a2), (.ref x)]))
  obtain ⟨_, _, ⟨T487, L487, k487, n487⟩, -, X487, ⟨Lc487, hQ487, l487, y487, z487⟩, st487⟩ := Jvm.LawKit.callS X476 hx (y := own_y23) hown (mvT hZ (own_w hw 130 rfl)) (mvT hZ (own_w hw 83 rfl)) (mvT hZ (own_w hw 84 rfl)) (mvT hZ (own_w hw 85 rfl)) (by decide) (backOf (W := 1) (rm_co_n l Z a0 hw [] a2 t2 kk2 e_ mr aX h476 n0 O476 f482 f483 f484 f485 f486 f481 MK SX) hZ (own_w hw 85 rfl) (own_w hw 84 rfl) (by decide) (by decide)) (g := (mkF m 19 #[.val (.ref x), .val (.ref e_), .val (.ref a1), .val (.ref a2)] [(.ref a2), (.ref x)])) rfl (by rw [hml]; rfl) (argsL := [(.ref a2)]) (rest := [(.ref x)]) (lenOf pd_11 rfl) rfl (by show 2 * 0 + _ ≤ _; exact Nat.le_of_eq rfl) (hb hby d19_19) (fun _ _ => ⟨rfl, e476, (by decide : 0 + 2 ≤ _), (by decide : 0 + 3 ≤ _)⟩)
  dsimp only [Pt.U, Pt.locs, Pt.cells, Pt.slots] at X487 l487 y487 z487 st487 hQ487
  subst l487 y487 z487
  obtain ⟨r487, rfl, N487q, B487, K487q, E487q⟩ := hQ487
  have N487 := Fr.app N476 N487q
  have ne_x_r487 : x ≠ r487 := Nat.ne_of_lt (Nat.lt_of_lt_of_le f477.lt B487)
  have ne_e__r487 : e_ ≠ r487 := Nat.ne_of_lt (Nat.lt_of_lt_of_le f481.lt B487)
  have ne_a2_r487 : a2 ≠ r487 := Nat.ne_of_lt (Nat.lt_of_lt_of_le f482.lt B487)
  have ne_t2_r487 : t2 ≠ r487 := Nat.ne_of_lt (Nat.lt_of_lt_of_le f485.lt B487)
  have g_r487 : n0 ≤ r487 := Nat.le_trans (O476.1 ▸ O476.2.1) B487
  have sz_r487 : h0.size ≤ r487 := Nat.le_trans (own_ks K476) B487
  have f488 := (f477.keep K487q nin0)
  have f489 := (f478.keep K487q nin0)
  have f490 := (f479.keep K487q nin0)
  have f491 := (f480.keep K487q)
  have f492 := (f481.keep K487q)
  have f493 := (f482.keep K487q nin0)
  have f494 := (f483.keep K487q nin0)
  have f495 := (f484.keep K487q)
  have f496 : Arv Z T487.heap t2 kk2 (.object "java/lang/Object") (10 : Int32) [(.ref e_), .null, .null, .null, .null, .null, .null, .null, .null, .null] .null := (f485.keep K487q nin0)
  have f497 := (f486.keep K487q)
  have O487 := O476.keep K487q all0
  have K487 := K476.trans K487q all0
  refine own_go st487 ?_
  show own_Goes _ _ _ _ _ _ _ (T487.setTop (mkF m 22 #[.val (.ref x), .val (.ref e_), .val (.ref a1), .val (.ref a2)] [(.ref r487), (.ref x)]))
  obtain ⟨T498, h498, X498, e498, W498, st498⟩ := putF X487 hx hZ hown (host := "") (Or.inl (own_w hw 133 rfl)) Via.refl rfl f490 f491 (Or.inr ⟨(own_w hw 134 rfl), rfl, hnm⟩) (own_w hw 122 rfl) (ty := (.object "java/util/List")) (by decide) rfl rfl (g := (mkF m 22 #[.val (.ref x), .val (.ref e_), .val (.ref a1), .val (.ref a2)] [(.ref r487), (.ref x)])) rfl rfl (hb hby d19_22)
  have f499 := (f488.other W498 (Or.inr (slot_ne (Or.inr (own_w hw 129 rfl)) (Or.inr (own_w hw 134 rfl)) (by decide) (t := (.object "com/example/navlint/navlint/model/Entry")) (t' := (.object "java/util/List")) (by decide) (by decide))))
  have f500 := (f489.other W498 (Or.inr (slot_ne (Or.inr (own_w hw 132 rfl)) (Or.inr (own_w hw 134 rfl)) (by decide) (t := (.object "java/util/List")) (t' := (.object "java/util/List")) (by decide) (by decide))))
  have f501 : Fld Z h498 x "com/example/navlint/navlint/model/State$Tab" "forward" "Ljava/util/List;" (.ref r487) := (f490.same W498)
  have f502 := (f491.wr W498)
  have f503 := (f492.wr W498)
  have f504 := (f493.other W498 (Or.inl na2))
  have f505 := (f494.other W498 (Or.inl na2))
  have f506 := (f495.wr W498)
  have f507 : Arv Z h498 t2 kk2 (.object "java/lang/Object") (10 : Int32) [(.ref e_), .null, .null, .null, .null, .null, .null, .null, .null, .null] .null := (f496.other W498 nt2)
  have f508 := (f497.wr W498)
  have f509 := (E487q.wr W498)
  have N498 := Fr.snoc X498 N487 g_x
  have O498 := O487.wr W498 g_x
  have K498 := K487.wr W498 (Or.inl (List.mem_of_getElem? (i := 0) rfl))
  refine own_go st498 ?_
  show own_Goes _ _ _ _ _ _ _ (T498.setTop (mkF m 25 #[.val (.ref x), .val (.ref e_), .val (.ref a1), .val (.ref a2)] []))
  exact own_out X498 hlk (v := none) (fun _ => rfl) (fun fs hr => X498.returnOut hx hret (hb hby d19_25) hr) e498 ⟨r487, rfl, N498, K498, f499, f500, f501, f509⟩ (by decide) (by decide)
theorem ef_ti1ne (m : MethodId) (x : Addr) (e_ : Addr) (mr : Addr) (aL : Addr) (aX : Addr) (a1 : Addr) (t1 : Addr) (kk1 : ClassId) (a2 : Addr) : entryFrame m #[(.ref x), (.ref e_), (.ref a1), (.ref a2)] 4 = mkF m 0 #[.val (.ref x), .val (.ref e_), .val (.ref a1), .val (.ref a2)] [] := by
  first | (simp [entryFrame, mkF, argsToLocals, Value.category]; done) | rfl
def Q_ti1ne (Z : State) (x : Addr) (e_ : Addr) (mr : Addr) (aL : Addr) (aX : Addr) (a1 : Addr) (t1 : Addr) (kk1 : ClassId) (a2 : Addr) (h0 : Heap) (n0 : Nat) (v : Option Value) (h : Heap) (L : List Loc) : Prop := ∃ r1 : Addr, v = none ∧ Fr n0 L ∧ Keep h0 h [x] ∧ Fld Z h x "com/example/navlint/navlint/model/State$Tab" "entry" "Lcom/example/navlint/navlint/model/Entry;" (.ref e_) ∧ Fld Z h x "com/example/navlint/navlint/model/State$Tab" "back" "Ljava/util/List;" (.ref r1) ∧ Fld Z h x "com/example/navlint/navlint/model/State$Tab" "forward" "Ljava/util/List;" (.ref aL) ∧ Exa Z h r1 "java/util/ImmutableCollections$List12"
set_option maxRecDepth 65536 in
set_option maxHeartbeats 40000000 in
theorem rm_ti1ne (l : Launch) (Z : State) (a0 : Array Value) (hw : ∀ d ∈ tables_1, d.before a0 Z = true) (ws : List Jvm.Cond) (x : Addr) (e_ : Addr) (mr : Addr) (aL : Addr) (aX : Addr) (a1 : Addr) (t1 : Addr) (kk1 : ClassId) (a2 : Addr) (h0 : Heap) (n0 : Nat) (O0 : Old Z n0 h0) (P0 : Fld Z h0 x "com/example/navlint/navlint/model/State$Tab" "entry" "Lcom/example/navlint/navlint/model/Entry;" .null) (P1 : Fld Z h0 x "com/example/navlint/navlint/model/State$Tab" "back" "Ljava/util/List;" .null) (P2 : Fld Z h0 x "com/example/navlint/navlint/model/State$Tab" "forward" "Ljava/util/List;" .null) (Ex : Exa Z h0 x "com/example/navlint/navlint/model/State$Tab") (g_x : n0 ≤ x) (Ee : Exa Z h0 e_ "com/example/navlint/navlint/model/Entry") (MK : Mir Z "[Ljava/lang/Object;" mr) (SL : Sta Z Z.heap "java/util/ImmutableCollections" "EMPTY_LIST" "Ljava/util/ImmutableCollections$ListN;" (.ref aL)) (SX : Sta Z Z.heap "java/util/ImmutableCollections" "EMPTY" "Ljava/lang/Object;" (.ref aX)) (EL : Exa Z Z.heap aL "java/util/ImmutableCollections$ListN") (FL : Fld Z Z.heap aL "java/util/ImmutableCollections$ListN" "allowNulls" "Z" (.int (0 : Int32))) (Z11 : Fld Z h0 a1 "java/util/ArrayList" "elementData" "[Ljava/lang/Object;" (.ref t1)) (Z12 : Fld Z h0 a1 "java/util/ArrayList" "size" "I" (.int (1 : Int32))) (Y1 : Exa Z h0 a1 "java/util/ArrayList") (V1 : Arv Z h0 t1 kk1 (.object "java/lang/Object") (10 : Int32) [(.ref e_), .null, .null, .null, .null, .null, .null, .null, .null, .null] .null) (U1 : Exa Z h0 t1 "[Ljava/lang/Object;") (na1 : a1 ≠ x) (nt1 : t1 ≠ x) (Z2 : Fld Z h0 a2 "java/util/ArrayList" "size" "I" (.int (0 : Int32))) (Y2 : Exa Z h0 a2 "java/util/ArrayList") (na2 : a2 ≠ x) :
    MetFree l own_y28 (head1 (Jvm.Cond.code own_y28 prog_104_method_1_code 4 none :: ws) ({ frames := 8, cells := 2, slots := 3, locals := 106 } : Room)) (fun av_ U => av_ = #[(.ref x), (.ref e_), (.ref a1), (.ref a2)] ∧ Z.Warmed39 U.vm ∧ U.heap = h0) (fun _ _ _ _ _ => True) (fun _ U o_ U' => ∃ v L, o_ = .returned v ∧ Q_ti1ne Z x e_ mr aL aX a1 t1 kk1 a2 h0 n0 v U'.heap L ∧ FrameEnd U o_ U' L ({ frames := 8, cells := 2, slots := 3, locals := 106 } : Room).cells ({ frames := 8, cells := 2, slots := 3, locals := 106 } : Room).slots) := by
  refine MetFree.of_bodySF (plainFor_of_name pn_13) hisR ?_
  intro p e s m args below meth c s₁ Bd hml0 hP hK
  obtain ⟨rfl, hZ, hh⟩ := hP
  have hx := Bd.exec
  have hby := Bd.bytes
  have hml : c.maxLocals = 4 := hml0
  have hown : s.vm.findClass "com/example/navlint/navlint/model/State$Tab" = some m.cls := findClass_of_methodNamed Bd.named
  have hnm := (name_of_methodNamed Bd.named Bd.method).1
  have hlk := own_lk Bd
  have hret := Bd.returns
  have X0 : Stand p l e ({ frames := 8, cells := 2, slots := 3, locals := 106 } : Room) s m #[(.ref x), (.ref e_), (.ref a1), (.ref a2)] below meth c s₁ [] 0 0 := Stand.of_body Bd
  have e0 : s₁.heap = h0 := by rw [← hh, Bd.state]; rfl
  have N0 := Fr.nil n0
  show own_Goes p e below s (Q_ti1ne Z x e_ mr aL aX a1 t1 kk1 a2 h0 n0) ({ frames := 8, cells := 2, slots := 3, locals := 106 } : Room).cells ({ frames := 8, cells := 2, slots := 3, locals := 106 } : Room).slots (s₁.setTop (entryFrame m #[(.ref x), (.ref e_), (.ref a1), (.ref a2)] 4))
  refine own_go (fun _ ww => castTop (ef_ti1ne m x e_ mr aL aX a1 t1 kk1 a2) ww) ?_
  show own_Goes _ _ _ _ _ _ _ (s₁.setTop (mkF m 0 #[.val (.ref x), .val (.ref e_), .val (.ref a1), .val (.ref a2)] []))
  refine own_go (fun _ ww => XS.aloadN X0.here hx rfl (hb hby d19_0) rfl rfl ww) ?_
  show own_Goes _ _ _ _ _ _ _ (s₁.setTop (mkF m 1 #[.val (.ref x), .val (.ref e_), .val (.ref a1), .val (.ref a2)] [(.ref x)]))
  obtain ⟨_, _, ⟨T510, L510, k510, n510⟩, -, X510, ⟨Lc510, hQ510, l510, y510, z510⟩, st510⟩ := X0.specialBack hx (y := own_y3) rfl hown (mvT hZ (own_w hw 127 rfl)) (mvT hZ (own_w hw 67 rfl)) (mvT hZ (own_w hw 70 rfl)) (by decide) (backOf (W := 0) (rm_hvinit l Z a0 hw [] x h0 n0 O0 ) hZ (own_w hw 70 rfl) (own_w hw 69 rfl) (by decide) (by decide)) (g := (mkF m 1 #[.val (.ref x), .val (.ref e_), .val (.ref a1), .val (.ref a2)] [(.ref x)])) rfl (by rw [hml]; rfl) (Steps.refl _) (a := x) (argsL := []) (rest := []) (lenOf pd_0 rfl) rfl (by show 2 * 0 + _ ≤ _; exact Nat.le_of_eq rfl) (hb hby d19_1) (fun _ _ => ⟨rfl, e0, (by decide : 0 + 0 ≤ _), (by decide : 0 + 0 ≤ _)⟩)
  dsimp only [Pt.U, Pt.locs, Pt.cells, Pt.slots] at X510 l510 y510 z510 st510 hQ510
  subst l510 y510 z510
  obtain ⟨rfl, N510q, e510⟩ := hQ510
  have N510 := Fr.app N0 N510q
  refine own_go (fun _ ww => Steps.trans st510 ww) ?_
  show own_Goes _ _ _ _ _ _ _ (T510.setTop (mkF m 4 #[.val (.ref x), .val (.ref e_), .val (.ref a1), .val (.ref a2)] []))
  refine own_go (fun _ ww => XS.aloadN X510.here hx rfl (hb hby d19_4) rfl rfl ww) ?_
  show own_Goes _ _ _ _ _ _ _ (T510.setTop (mkF m 5 #[.val (.ref x), .val (.ref e_), .val (.ref a1), .val (.ref a2)] [(.ref x)]))
  refine own_go (fun _ ww => XS.aloadN X510.here hx rfl (hb hby d19_5) rfl rfl ww) ?_
  show own_Goes _ _ _ _ _ _ _ (T510.setTop (mkF m 6 #[.val (.ref x), .val (.ref e_), .val (.ref a1), .val (.ref a2)] [(.ref e_), (.ref x)]))
  obtain ⟨T511, h511, X511, e511, W511, st511⟩ := putF X510 hx hZ hown (host := "") (Or.inl (own_w hw 128 rfl)) Via.refl e510 P0 Ex (Or.inr ⟨(own_w hw 129 rfl), rfl, hnm⟩) (own_w hw 122 rfl) (ty := (.object "com/example/navlint/navlint/model/Entry")) (by decide) rfl rfl (g := (mkF m 6 #[.val (.ref x), .val (.ref e_), .val (.ref a1), .val (.ref a2)] [(.ref e_), (.ref x)])) rfl rfl (hb hby d19_6)
  have f512 : Fld Z h511 x "com/example/navlint/navlint/model/State$Tab" "entry" "Lcom/example/navlint/navlint/model/Entry;" (.ref e_) := (P0.same W511)
  have f513 := (P1.other W511 (Or.inr (slot_ne (Or.inr (own_w hw 132 rfl)) (Or.inr (own_w hw 129 rfl)) (by decide) (t := (.object "java/util/List")) (t' := (.object "com/example/navlint/navlint/model/Entry")) (by decide) (by decide))))
  have f514 := (P2.other W511 (Or.inr (slot_ne (Or.inr (own_w hw 134 rfl)) (Or.inr (own_w hw 129 rfl)) (by decide) (t := (.object "java/util/List")) (t' := (.object "com/example/navlint/navlint/model/Entry")) (by decide) (by decide))))
  have f515 := (Ex.wr W511)
  have f516 := (Ee.wr W511)
  have f517 := (Z11.other W511 (Or.inl na1))
  have f518 := (Z12.other W511 (Or.inl na1))
  have f519 := (Y1.wr W511)
  have f520 : Arv Z h511 t1 kk1 (.object "java/lang/Object") (10 : Int32) [(.ref e_), .null, .null, .null, .null, .null, .null, .null, .null, .null] .null := (V1.other W511 nt1)
  have f521 := (U1.wr W511)
  have f522 := (Z2.other W511 (Or.inl na2))
  have f523 := (Y2.wr W511)
  have N511 := Fr.snoc X511 N510 g_x
  have O511 := O0.wr W511 g_x
  have K511 := (Keep.refl h0 [x]).wr W511 (Or.inl (List.mem_of_getElem? (i := 0) rfl))
  refine own_go st511 ?_
  show own_Goes _ _ _ _ _ _ _ (T511.setTop (mkF m 9 #[.val (.ref x), .val (.ref e_), .val (.ref a1), .val (.ref a2)] []))
  refine own_go (fun _ ww => XS.aloadN X511.here hx rfl (hb hby d19_9) rfl rfl ww) ?_
  show own_Goes _ _ _ _ _ _ _ (T511.setTop (mkF m 10 #[.val (.ref x), .val (.ref e_), .val (.ref a1), .val (.ref a2)] [(.ref x)]))
  refine own_go (fun _ ww => XS.aloadN X511.here hx rfl (hb hby d19_10) rfl rfl ww) ?_
  show own_Goes _ _ _ _ _ _ _ (T511.setTop (mkF m 11 #[.val (.ref x), .val (.ref e_), .val (.ref a1), .val (.ref a2)] [(.ref a1), (.ref x)]))
  obtain ⟨_, _, ⟨T524, L524, k524, n524⟩, -, X524, ⟨Lc524, hQ524, l524, y524, z524⟩, st524⟩ := Jvm.LawKit.callS X511 hx (y := own_y23) hown (mvT hZ (own_w hw 130 rfl)) (mvT hZ (own_w hw 83 rfl)) (mvT hZ (own_w hw 84 rfl)) (mvT hZ (own_w hw 85 rfl)) (by decide) (backOf (W := 1) (rm_co_n l Z a0 hw [] a1 t1 kk1 e_ mr aX h511 n0 O511 f517 f518 f519 f520 f521 f516 MK SX) hZ (own_w hw 85 rfl) (own_w hw 84 rfl) (by decide) (by decide)) (g := (mkF m 11 #[.val (.ref x), .val (.ref e_), .val (.ref a1), .val (.ref a2)] [(.ref a1), (.ref x)])) rfl (by rw [hml]; rfl) (argsL := [(.ref a1)]) (rest := [(.ref x)]) (lenOf pd_11 rfl) rfl (by show 2 * 0 + _ ≤ _; exact Nat.le_of_eq rfl) (hb hby d19_11) (fun _ _ => ⟨rfl, e511, (by decide : 0 + 2 ≤ _), (by decide : 0 + 3 ≤ _)⟩)
  dsimp only [Pt.U, Pt.locs, Pt.cells, Pt.slots] at X524 l524 y524 z524 st524 hQ524
  subst l524 y524 z524
  obtain ⟨r524, rfl, N524q, B524, K524q, E524q⟩ := hQ524
  have N524 := Fr.app N511 N524q
  have ne_x_r524 : x ≠ r524 := Nat.ne_of_lt (Nat.lt_of_lt_of_le f512.lt B524)
  have ne_e__r524 : e_ ≠ r524 := Nat.ne_of_lt (Nat.lt_of_lt_of_le f516.lt B524)
  have ne_a1_r524 : a1 ≠ r524 := Nat.ne_of_lt (Nat.lt_of_lt_of_le f517.lt B524)
  have ne_t1_r524 : t1 ≠ r524 := Nat.ne_of_lt (Nat.lt_of_lt_of_le f520.lt B524)
  have ne_a2_r524 : a2 ≠ r524 := Nat.ne_of_lt (Nat.lt_of_lt_of_le f522.lt B524)
  have g_r524 : n0 ≤ r524 := Nat.le_trans (O511.1 ▸ O511.2.1) B524
  have sz_r524 : h0.size ≤ r524 := Nat.le_trans (own_ks K511) B524
  have f525 := (f512.keep K524q nin0)
  have f526 := (f513.keep K524q nin0)
  have f527 := (f514.keep K524q nin0)
  have f528 := (f515.keep K524q)
  have f529 := (f516.keep K524q)
  have f530 := (f517.keep K524q nin0)
  have f531 := (f518.keep K524q nin0)
  have f532 := (f519.keep K524q)
  have f533 : Arv Z T524.heap t1 kk1 (.object "java/lang/Object") (10 : Int32) [(.ref e_), .null, .null, .null, .null, .null, .null, .null, .null, .null] .null := (f520.keep K524q nin0)
  have f534 := (f521.keep K524q)
  have f535 := (f522.keep K524q nin0)
  have f536 := (f523.keep K524q)
  have O524 := O511.keep K524q all0
  have K524 := K511.trans K524q all0
  refine own_go st524 ?_
  show own_Goes _ _ _ _ _ _ _ (T524.setTop (mkF m 14 #[.val (.ref x), .val (.ref e_), .val (.ref a1), .val (.ref a2)] [(.ref r524), (.ref x)]))
  obtain ⟨T537, h537, X537, e537, W537, st537⟩ := putF X524 hx hZ hown (host := "") (Or.inl (own_w hw 131 rfl)) Via.refl rfl f526 f528 (Or.inr ⟨(own_w hw 132 rfl), rfl, hnm⟩) (own_w hw 122 rfl) (ty := (.object "java/util/List")) (by decide) rfl rfl (g := (mkF m 14 #[.val (.ref x), .val (.ref e_), .val (.ref a1), .val (.ref a2)] [(.ref r524), (.ref x)])) rfl rfl (hb hby d19_14)
  have f538 := (f525.other W537 (Or.inr (slot_ne (Or.inr (own_w hw 129 rfl)) (Or.inr (own_w hw 132 rfl)) (by decide) (t := (.object "com/example/navlint/navlint/model/Entry")) (t' := (.object "java/util/List")) (by decide) (by decide))))
  have f539 : Fld Z h537 x "com/example/navlint/navlint/model/State$Tab" "back" "Ljava/util/List;" (.ref r524) := (f526.same W537)
  have f540 := (f527.other W537 (Or.inr (slot_ne (Or.inr (own_w hw 134 rfl)) (Or.inr (own_w hw 132 rfl)) (by decide) (t := (.object "java/util/List")) (t' := (.object "java/util/List")) (by decide) (by decide))))
  have f541 := (f528.wr W537)
  have f542 := (f529.wr W537)
  have f543 := (f535.other W537 (Or.inl na2))
  have f544 := (f536.wr W537)
  have f545 := (E524q.wr W537)
  have N537 := Fr.snoc X537 N524 g_x
  have O537 := O524.wr W537 g_x
  have K537 := K524.wr W537 (Or.inl (List.mem_of_getElem? (i := 0) rfl))
  refine own_go st537 ?_
  show own_Goes _ _ _ _ _ _ _ (T537.setTop (mkF m 17 #[.val (.ref x), .val (.ref e_), .val (.ref a1), .val (.ref a2)] []))
  refine own_go (fun _ ww => XS.aloadN X537.here hx rfl (hb hby d19_17) rfl rfl ww) ?_
  show own_Goes _ _ _ _ _ _ _ (T537.setTop (mkF m 18 #[.val (.ref x), .val (.ref e_), .val (.ref a1), .val (.ref a2)] [(.ref x)]))
  refine own_go (fun _ ww => XS.aloadN X537.here hx rfl (hb hby d19_18) rfl rfl ww) ?_
  show own_Goes _ _ _ _ _ _ _ (T537.setTop (mkF m 19 #[.val (.ref x), .val (.ref e_), .val (.ref a1), .val (.ref a2)] [(.ref a2), (.ref x)]))
  obtain ⟨_, _, ⟨T546, L546, k546, n546⟩, -, X546, ⟨Lc546, hQ546, l546, y546, z546⟩, st546⟩ := Jvm.LawKit.callS X537 hx (y := own_y23) hown (mvT hZ (own_w hw 130 rfl)) (mvT hZ (own_w hw 83 rfl)) (mvT hZ (own_w hw 84 rfl)) (mvT hZ (own_w hw 85 rfl)) (by decide) (backOf (W := 1) (rm_co_e l Z a0 hw [] a2 aL h537 n0 O537 f543 f544 SL) hZ (own_w hw 85 rfl) (own_w hw 84 rfl) (by decide) (by decide)) (g := (mkF m 19 #[.val (.ref x), .val (.ref e_), .val (.ref a1), .val (.ref a2)] [(.ref a2), (.ref x)])) rfl (by rw [hml]; rfl) (argsL := [(.ref a2)]) (rest := [(.ref x)]) (lenOf pd_11 rfl) rfl (by show 2 * 0 + _ ≤ _; exact Nat.le_of_eq rfl) (hb hby d19_19) (fun _ _ => ⟨rfl, e537, (by decide : 2 + 0 ≤ _), (by decide : 3 + 0 ≤ _)⟩)
  dsimp only [Pt.U, Pt.locs, Pt.cells, Pt.slots] at X546 l546 y546 z546 st546 hQ546
  subst l546 y546 z546
  obtain ⟨rfl, N546q, e546⟩ := hQ546
  have N546 := Fr.app N537 N546q
  refine own_go st546 ?_
  show own_Goes _ _ _ _ _ _ _ (T546.setTop (mkF m 22 #[.val (.ref x), .val (.ref e_), .val (.ref a1), .val (.ref a2)] [(.ref aL), (.ref x)]))
  obtain ⟨T547, h547, X547, e547, W547, st547⟩ := putF X546 hx hZ hown (host := "") (Or.inl (own_w hw 133 rfl)) Via.refl e546 f540 f541 (Or.inr ⟨(own_w hw 134 rfl), rfl, hnm⟩) (own_w hw 122 rfl) (ty := (.object "java/util/List")) (by decide) rfl rfl (g := (mkF m 22 #[.val (.ref x), .val (.ref e_), .val (.ref a1), .val (.ref a2)] [(.ref aL), (.ref x)])) rfl rfl (hb hby d19_22)
  have f548 := (f538.other W547 (Or.inr (slot_ne (Or.inr (own_w hw 129 rfl)) (Or.inr (own_w hw 134 rfl)) (by decide) (t := (.object "com/example/navlint/navlint/model/Entry")) (t' := (.object "java/util/List")) (by decide) (by decide))))
  have f549 := (f539.other W547 (Or.inr (slot_ne (Or.inr (own_w hw 132 rfl)) (Or.inr (own_w hw 134 rfl)) (by decide) (t := (.object "java/util/List")) (t' := (.object "java/util/List")) (by decide) (by decide))))
  have f550 : Fld Z h547 x "com/example/navlint/navlint/model/State$Tab" "forward" "Ljava/util/List;" (.ref aL) := (f540.same W547)
  have f551 := (f541.wr W547)
  have f552 := (f542.wr W547)
  have f553 := (f543.other W547 (Or.inl na2))
  have f554 := (f544.wr W547)
  have f555 := (f545.wr W547)
  have N547 := Fr.snoc X547 N546 g_x
  have O547 := O537.wr W547 g_x
  have K547 := K537.wr W547 (Or.inl (List.mem_of_getElem? (i := 0) rfl))
  refine own_go st547 ?_
  show own_Goes _ _ _ _ _ _ _ (T547.setTop (mkF m 25 #[.val (.ref x), .val (.ref e_), .val (.ref a1), .val (.ref a2)] []))
  exact own_out X547 hlk (v := none) (fun _ => rfl) (fun fs hr => X547.returnOut hx hret (hb hby d19_25) hr) e547 ⟨r524, rfl, N547, K547, f548, f549, f550, f555⟩ (by decide) (by decide)
theorem ef_ti1nn (m : MethodId) (x : Addr) (e_ : Addr) (mr : Addr) (aL : Addr) (aX : Addr) (a1 : Addr) (t1 : Addr) (kk1 : ClassId) (a2 : Addr) (t2 : Addr) (kk2 : ClassId) : entryFrame m #[(.ref x), (.ref e_), (.ref a1), (.ref a2)] 4 = mkF m 0 #[.val (.ref x), .val (.ref e_), .val (.ref a1), .val (.ref a2)] [] := by
  first | (simp [entryFrame, mkF, argsToLocals, Value.category]; done) | rfl
def Q_ti1nn (Z : State) (x : Addr) (e_ : Addr) (mr : Addr) (aL : Addr) (aX : Addr) (a1 : Addr) (t1 : Addr) (kk1 : ClassId) (a2 : Addr) (t2 : Addr) (kk2 : ClassId) (h0 : Heap) (n0 : Nat) (v : Option Value) (h : Heap) (L : List Loc) : Prop := ∃ r1 r2 : Addr, v = none ∧ Fr n0 L ∧ Keep h0 h [x] ∧ Fld Z h x "com/example/navlint/navlint/model/State$Tab" "entry" "Lcom/example/navlint/navlint/model/Entry;" (.ref e_) ∧ Fld Z h x "com/example/navlint/navlint/model/State$Tab" "back" "Ljava/util/List;" (.ref r1) ∧ Fld Z h x "com/example/navlint/navlint/model/State$Tab" "forward" "Ljava/util/List;" (.ref r2) ∧ Exa Z h r1 "java/util/ImmutableCollections$List12" ∧ Exa Z h r2 "java/util/ImmutableCollections$List12"
set_option maxRecDepth 65536 in
set_option maxHeartbeats 40000000 in
theorem rm_ti1nn (l : Launch) (Z : State) (a0 : Array Value) (hw : ∀ d ∈ tables_1, d.before a0 Z = true) (ws : List Jvm.Cond) (x : Addr) (e_ : Addr) (mr : Addr) (aL : Addr) (aX : Addr) (a1 : Addr) (t1 : Addr) (kk1 : ClassId) (a2 : Addr) (t2 : Addr) (kk2 : ClassId) (h0 : Heap) (n0 : Nat) (O0 : Old Z n0 h0) (P0 : Fld Z h0 x "com/example/navlint/navlint/model/State$Tab" "entry" "Lcom/example/navlint/navlint/model/Entry;" .null) (P1 : Fld Z h0 x "com/example/navlint/navlint/model/State$Tab" "back" "Ljava/util/List;" .null) (P2 : Fld Z h0 x "com/example/navlint/navlint/model/State$Tab" "forward" "Ljava/util/List;" .null) (Ex : Exa Z h0 x "com/example/navlint/navlint/model/State$Tab") (g_x : n0 ≤ x) (Ee : Exa Z h0 e_ "com/example/navlint/navlint/model/Entry") (MK : Mir Z "[Ljava/lang/Object;" mr) (SL : Sta Z Z.heap "java/util/ImmutableCollections" "EMPTY_LIST" "Ljava/util/ImmutableCollections$ListN;" (.ref aL)) (SX : Sta Z Z.heap "java/util/ImmutableCollections" "EMPTY" "Ljava/lang/Object;" (.ref aX)) (EL : Exa Z Z.heap aL "java/util/ImmutableCollections$ListN") (FL : Fld Z Z.heap aL "java/util/ImmutableCollections$ListN" "allowNulls" "Z" (.int (0 : Int32))) (Z11 : Fld Z h0 a1 "java/util/ArrayList" "elementData" "[Ljava/lang/Object;" (.ref t1)) (Z12 : Fld Z h0 a1 "java/util/ArrayList" "size" "I" (.int (1 : Int32))) (Y1 : Exa Z h0 a1 "java/util/ArrayList") (V1 : Arv Z h0 t1 kk1 (.object "java/lang/Object") (10 : Int32) [(.ref e_), .null, .null, .null, .null, .null, .null, .null, .null, .null] .null) (U1 : Exa Z h0 t1 "[Ljava/lang/Object;") (na1 : a1 ≠ x) (nt1 : t1 ≠ x) (Z21 : Fld Z h0 a2 "java/util/ArrayList" "elementData" "[Ljava/lang/Object;" (.ref t2)) (Z22 : Fld Z h0 a2 "java/util/ArrayList" "size" "I" (.int (1 : Int32))) (Y2 : Exa Z h0 a2 "java/util/ArrayList") (V2 : Arv Z h0 t2 kk2 (.object "java/lang/Object") (10 : Int32) [(.ref e_), .null, .null, .null, .null, .null, .null, .null, .null, .null] .null) (U2 : Exa Z h0 t2 "[Ljava/lang/Object;") (na2 : a2 ≠ x) (nt2 : t2 ≠ x) :
    MetFree l own_y28 (head1 (Jvm.Cond.code own_y28 prog_104_method_1_code 4 none :: ws) ({ frames := 8, cells := 4, slots := 6, locals := 106 } : Room)) (fun av_ U => av_ = #[(.ref x), (.ref e_), (.ref a1), (.ref a2)] ∧ Z.Warmed39 U.vm ∧ U.heap = h0) (fun _ _ _ _ _ => True) (fun _ U o_ U' => ∃ v L, o_ = .returned v ∧ Q_ti1nn Z x e_ mr aL aX a1 t1 kk1 a2 t2 kk2 h0 n0 v U'.heap L ∧ FrameEnd U o_ U' L ({ frames := 8, cells := 4, slots := 6, locals := 106 } : Room).cells ({ frames := 8, cells := 4, slots := 6, locals := 106 } : Room).slots) := by
  refine MetFree.of_bodySF (plainFor_of_name pn_13) hisR ?_
  intro p e s m args below meth c s₁ Bd hml0 hP hK
  obtain ⟨rfl, hZ, hh⟩ := hP
  have hx := Bd.exec
  have hby := Bd.bytes
  have hml : c.maxLocals = 4 := hml0
  have hown : s.vm.findClass "com/example/navlint/navlint/model/State$Tab" = some m.cls := findClass_of_methodNamed Bd.named
  have hnm := (name_of_methodNamed Bd.named Bd.method).1
  have hlk := own_lk Bd
  have hret := Bd.returns
  have X0 : Stand p l e ({ frames := 8, cells := 4, slots := 6, locals := 106 } : Room) s m #[(.ref x), (.ref e_), (.ref a1), (.ref a2)] below meth c s₁ [] 0 0 := Stand.of_body Bd
  have e0 : s₁.heap = h0 := by rw [← hh, Bd.state]; rfl
  have N0 := Fr.nil n0
  show own_Goes p e below s (Q_ti1nn Z x e_ mr aL aX a1 t1 kk1 a2 t2 kk2 h0 n0) ({ frames := 8, cells := 4, slots := 6, locals := 106 } : Room).cells ({ frames := 8, cells := 4, slots := 6, locals := 106 } : Room).slots (s₁.setTop (entryFrame m #[(.ref x), (.ref e_), (.ref a1), (.ref a2)] 4))
  refine own_go (fun _ ww => castTop (ef_ti1nn m x e_ mr aL aX a1 t1 kk1 a2 t2 kk2) ww) ?_
  show own_Goes _ _ _ _ _ _ _ (s₁.setTop (mkF m 0 #[.val (.ref x), .val (.ref e_), .val (.ref a1), .val (.ref a2)] []))
  refine own_go (fun _ ww => XS.aloadN X0.here hx rfl (hb hby d19_0) rfl rfl ww) ?_
  show own_Goes _ _ _ _ _ _ _ (s₁.setTop (mkF m 1 #[.val (.ref x), .val (.ref e_), .val (.ref a1), .val (.ref a2)] [(.ref x)]))
  obtain ⟨_, _, ⟨T556, L556, k556, n556⟩, -, X556, ⟨Lc556, hQ556, l556, y556, z556⟩, st556⟩ := X0.specialBack hx (y := own_y3) rfl hown (mvT hZ (own_w hw 127 rfl)) (mvT hZ (own_w hw 67 rfl)) (mvT hZ (own_w hw 70 rfl)) (by decide) (backOf (W := 0) (rm_hvinit l Z a0 hw [] x h0 n0 O0 ) hZ (own_w hw 70 rfl) (own_w hw 69 rfl) (by decide) (by decide)) (g := (mkF m 1 #[.val (.ref x), .val (.ref e_), .val (.ref a1), .val (.ref a2)] [(.ref x)])) rfl (by rw [hml]; rfl) (Steps.refl _) (a := x) (argsL := []) (rest := []) (lenOf pd_0 rfl) rfl (by show 2 * 0 + _ ≤ _; exact Nat.le_of_eq rfl) (hb hby d19_1) (fun _ _ => ⟨rfl, e0, (by decide : 0 + 0 ≤ _), (by decide : 0 + 0 ≤ _)⟩)
  dsimp only [Pt.U, Pt.locs, Pt.cells, Pt.slots] at X556 l556 y556 z556 st556 hQ556
  subst l556 y556 z556
  obtain ⟨rfl, N556q, e556⟩ := hQ556
  have N556 := Fr.app N0 N556q
  refine own_go (fun _ ww => Steps.trans st556 ww) ?_
  show own_Goes _ _ _ _ _ _ _ (T556.setTop (mkF m 4 #[.val (.ref x), .val (.ref e_), .val (.ref a1), .val (.ref a2)] []))
  refine own_go (fun _ ww => XS.aloadN X556.here hx rfl (hb hby d19_4) rfl rfl ww) ?_
  show own_Goes _ _ _ _ _ _ _ (T556.setTop (mkF m 5 #[.val (.ref x), .val (.ref e_), .val (.ref a1), .val (.ref a2)] [(.ref x)]))
  refine own_go (fun _ ww => XS.aloadN X556.here hx rfl (hb hby d19_5) rfl rfl ww) ?_
  show own_Goes _ _ _ _ _ _ _ (T556.setTop (mkF m 6 #[.val (.ref x), .val (.ref e_), .val (.ref a1), .val (.ref a2)] [(.ref e_), (.ref x)]))
  obtain ⟨T557, h557, X557, e557, W557, st557⟩ := putF X556 hx hZ hown (host := "") (Or.inl (own_w hw 128 rfl)) Via.refl e556 P0 Ex (Or.inr ⟨(own_w hw 129 rfl), rfl, hnm⟩) (own_w hw 122 rfl) (ty := (.object "com/example/navlint/navlint/model/Entry")) (by decide) rfl rfl (g := (mkF m 6 #[.val (.ref x), .val (.ref e_), .val (.ref a1), .val (.ref a2)] [(.ref e_), (.ref x)])) rfl rfl (hb hby d19_6)
  have f558 : Fld Z h557 x "com/example/navlint/navlint/model/State$Tab" "entry" "Lcom/example/navlint/navlint/model/Entry;" (.ref e_) := (P0.same W557)
  have f559 := (P1.other W557 (Or.inr (slot_ne (Or.inr (own_w hw 132 rfl)) (Or.inr (own_w hw 129 rfl)) (by decide) (t := (.object "java/util/List")) (t' := (.object "com/example/navlint/navlint/model/Entry")) (by decide) (by decide))))
  have f560 := (P2.other W557 (Or.inr (slot_ne (Or.inr (own_w hw 134 rfl)) (Or.inr (own_w hw 129 rfl)) (by decide) (t := (.object "java/util/List")) (t' := (.object "com/example/navlint/navlint/model/Entry")) (by decide) (by decide))))
  have f561 := (Ex.wr W557)
  have f562 := (Ee.wr W557)
  have f563 := (Z11.other W557 (Or.inl na1))
  have f564 := (Z12.other W557 (Or.inl na1))
  have f565 := (Y1.wr W557)
  have f566 : Arv Z h557 t1 kk1 (.object "java/lang/Object") (10 : Int32) [(.ref e_), .null, .null, .null, .null, .null, .null, .null, .null, .null] .null := (V1.other W557 nt1)
  have f567 := (U1.wr W557)
  have f568 := (Z21.other W557 (Or.inl na2))
  have f569 := (Z22.other W557 (Or.inl na2))
  have f570 := (Y2.wr W557)
  have f571 : Arv Z h557 t2 kk2 (.object "java/lang/Object") (10 : Int32) [(.ref e_), .null, .null, .null, .null, .null, .null, .null, .null, .null] .null := (V2.other W557 nt2)
  have f572 := (U2.wr W557)
  have N557 := Fr.snoc X557 N556 g_x
  have O557 := O0.wr W557 g_x
  have K557 := (Keep.refl h0 [x]).wr W557 (Or.inl (List.mem_of_getElem? (i := 0) rfl))
  refine own_go st557 ?_
  show own_Goes _ _ _ _ _ _ _ (T557.setTop (mkF m 9 #[.val (.ref x), .val (.ref e_), .val (.ref a1), .val (.ref a2)] []))
  refine own_go (fun _ ww => XS.aloadN X557.here hx rfl (hb hby d19_9) rfl rfl ww) ?_
  show own_Goes _ _ _ _ _ _ _ (T557.setTop (mkF m 10 #[.val (.ref x), .val (.ref e_), .val (.ref a1), .val (.ref a2)] [(.ref x)]))
  refine own_go (fun _ ww => XS.aloadN X557.here hx rfl (hb hby d19_10) rfl rfl ww) ?_
  show own_Goes _ _ _ _ _ _ _ (T557.setTop (mkF m 11 #[.val (.ref x), .val (.ref e_), .val (.ref a1), .val (.ref a2)] [(.ref a1), (.ref x)]))
  obtain ⟨_, _, ⟨T573, L573, k573, n573⟩, -, X573, ⟨Lc573, hQ573, l573, y573, z573⟩, st573⟩ := Jvm.LawKit.callS X557 hx (y := own_y23) hown (mvT hZ (own_w hw 130 rfl)) (mvT hZ (own_w hw 83 rfl)) (mvT hZ (own_w hw 84 rfl)) (mvT hZ (own_w hw 85 rfl)) (by decide) (backOf (W := 1) (rm_co_n l Z a0 hw [] a1 t1 kk1 e_ mr aX h557 n0 O557 f563 f564 f565 f566 f567 f562 MK SX) hZ (own_w hw 85 rfl) (own_w hw 84 rfl) (by decide) (by decide)) (g := (mkF m 11 #[.val (.ref x), .val (.ref e_), .val (.ref a1), .val (.ref a2)] [(.ref a1), (.ref x)])) rfl (by rw [hml]; rfl) (argsL := [(.ref a1)]) (rest := [(.ref x)]) (lenOf pd_11 rfl) rfl (by show 2 * 0 + _ ≤ _; exact Nat.le_of_eq rfl) (hb hby d19_11) (fun _ _ => ⟨rfl, e557, (by decide : 0 + 2 ≤ _), (by decide : 0 + 3 ≤ _)⟩)
  dsimp only [Pt.U, Pt.locs, Pt.cells, Pt.slots] at X573 l573 y573 z573 st573 hQ573
  subst l573 y573 z573
  obtain ⟨r573, rfl, N573q, B573, K573q, E573q⟩ := hQ573
  have N573 := Fr.app N557 N573q
  have ne_x_r573 : x ≠ r573 := Nat.ne_of_lt (Nat.lt_of_lt_of_le f558.lt B573)
  have ne_e__r573 : e_ ≠ r573 := Nat.ne_of_lt (Nat.lt_of_lt_of_le f562.lt B573)
  have ne_a1_r573 : a1 ≠ r573 := Nat.ne_of_lt (Nat.lt_of_lt_of_le f563.lt B573)
  have ne_t1_r573 : t1 ≠ r573 := Nat.ne_of_lt (Nat.lt_of_lt_of_le f566.lt B573)
  have ne_a2_r573 : a2 ≠ r573 := Nat.ne_of_lt (Nat.lt_of_lt_of_le f568.lt B573)
  have ne_t2_r573 : t2 ≠ r573 := Nat.ne_of_lt (Nat.lt_of_lt_of_le f571.lt B573)
  have g_r573 : n0 ≤ r573 := Nat.le_trans (O557.1 ▸ O557.2.1) B573
  have sz_r573 : h0.size ≤ r573 := Nat.le_trans (own_ks K557) B573
  have f574 := (f558.keep K573q nin0)
  have f575 := (f559.keep K573q nin0)
  have f576 := (f560.keep K573q nin0)
  have f577 := (f561.keep K573q)
  have f578 := (f562.keep K573q)
  have f579 := (f563.keep K573q nin0)
  have f580 := (f564.keep K573q nin0)
  have f581 := (f565.keep K573q)
  have f582 : Arv Z T573.heap t1 kk1 (.object "java/lang/Object") (10 : Int32) [(.ref e_), .null, .null, .null, .null, .null, .null, .null, .null, .null] .null := (f566.keep K573q nin0)
  have f583 := (f567.keep K573q)
  have f584 := (f568.keep K573q nin0)
  have f585 := (f569.keep K573q nin0)
  have f586 := (f570.keep K573q)
  have f587 : Arv Z T573.heap t2 kk2 (.object "java/lang/Object") (10 : Int32) [(.ref e_), .null, .null, .null, .null, .null, .null, .null, .null, .null] .null := (f571.keep K573q nin0)
  have f588 := (f572.keep K573q)
  have O573 := O557.keep K573q all0
  have K573 := K557.trans K573q all0
  refine own_go st573 ?_
  show own_Goes _ _ _ _ _ _ _ (T573.setTop (mkF m 14 #[.val (.ref x), .val (.ref e_), .val (.ref a1), .val (.ref a2)] [(.ref r573), (.ref x)]))
  obtain ⟨T589, h589, X589, e589, W589, st589⟩ := putF X573 hx hZ hown (host := "") (Or.inl (own_w hw 131 rfl)) Via.refl rfl f575 f577 (Or.inr ⟨(own_w hw 132 rfl), rfl, hnm⟩) (own_w hw 122 rfl) (ty := (.object "java/util/List")) (by decide) rfl rfl (g := (mkF m 14 #[.val (.ref x), .val (.ref e_), .val (.ref a1), .val (.ref a2)] [(.ref r573), (.ref x)])) rfl rfl (hb hby d19_14)
  have f590 := (f574.other W589 (Or.inr (slot_ne (Or.inr (own_w hw 129 rfl)) (Or.inr (own_w hw 132 rfl)) (by decide) (t := (.object "com/example/navlint/navlint/model/Entry")) (t' := (.object "java/util/List")) (by decide) (by decide))))
  have f591 : Fld Z h589 x "com/example/navlint/navlint/model/State$Tab" "back" "Ljava/util/List;" (.ref r573) := (f575.same W589)
  have f592 := (f576.other W589 (Or.inr (slot_ne (Or.inr (own_w hw 134 rfl)) (Or.inr (own_w hw 132 rfl)) (by decide) (t := (.object "java/util/List")) (t' := (.object "java/util/List")) (by decide) (by decide))))
  have f593 := (f577.wr W589)
  have f594 := (f578.wr W589)
  have f595 := (f584.other W589 (Or.inl na2))
  have f596 := (f585.other W589 (Or.inl na2))
  have f597 := (f586.wr W589)
  have f598 : Arv Z h589 t2 kk2 (.object "java/lang/Object") (10 : Int32) [(.ref e_), .null, .null, .null, .null, .null, .null, .null, .null, .null] .null := (f587.other W589 nt2)
  have f599 := (f588.wr W589)
  have f600 := (E573q.wr W589)
  have N589 := Fr.snoc X589 N573 g_x
  have O589 := O573.wr W589 g_x
  have K589 := K573.wr W589 (Or.inl (List.mem_of_getElem? (i := 0) rfl))
  refine own_go st589 ?_
  show own_Goes _ _ _ _ _ _ _ (T589.setTop (mkF m 17 #[.val (.ref x), .val (.ref e_), .val (.ref a1), .val (.ref a2)] []))
  refine own_go (fun _ ww => XS.aloadN X589.here hx rfl (hb hby d19_17) rfl rfl ww) ?_
  show own_Goes _ _ _ _ _ _ _ (T589.setTop (mkF m 18 #[.val (.ref x), .val (.ref e_), .val (.ref a1), .val (.ref a2)] [(.ref x)]))
  refine own_go (fun _ ww => XS.aloadN X589.here hx rfl (hb hby d19_18) rfl rfl ww) ?_
  show own_Goes _ _ _ _ _ _ _ (T589.setTop (mkF m 19 #[.val (.ref x), .val (.ref e_), .val (.ref a1), .val (.ref a2)] [(.ref a2), (.ref x)]))
  obtain ⟨_, _, ⟨T601, L601, k601, n601⟩, -, X601, ⟨Lc601, hQ601, l601, y601, z601⟩, st601⟩ := Jvm.LawKit.callS X589 hx (y := own_y23) hown (mvT hZ (own_w hw 130 rfl)) (mvT hZ (own_w hw 83 rfl)) (mvT hZ (own_w hw 84 rfl)) (mvT hZ (own_w hw 85 rfl)) (by decide) (backOf (W := 1) (rm_co_n l Z a0 hw [] a2 t2 kk2 e_ mr aX h589 n0 O589 f595 f596 f597 f598 f599 f594 MK SX) hZ (own_w hw 85 rfl) (own_w hw 84 rfl) (by decide) (by decide)) (g := (mkF m 19 #[.val (.ref x), .val (.ref e_), .val (.ref a1), .val (.ref a2)] [(.ref a2), (.ref x)])) rfl (by rw [hml]; rfl) (argsL := [(.ref a2)]) (rest := [(.ref x)]) (lenOf pd_11 rfl) rfl (by show 2 * 0 + _ ≤ _; exact Nat.le_of_eq rfl) (hb hby d19_19) (fun _ _ => ⟨rfl, e589, (by decide : 2 + 2 ≤ _), (by decide : 3 + 3 ≤ _)⟩)
  dsimp only [Pt.U, Pt.locs, Pt.cells, Pt.slots] at X601 l601 y601 z601 st601 hQ601
  subst l601 y601 z601
  obtain ⟨r601, rfl, N601q, B601, K601q, E601q⟩ := hQ601
  have N601 := Fr.app N589 N601q
  have ne_x_r601 : x ≠ r601 := Nat.ne_of_lt (Nat.lt_of_lt_of_le f590.lt B601)
  have ne_e__r601 : e_ ≠ r601 := Nat.ne_of_lt (Nat.lt_of_lt_of_le f594.lt B601)
  have ne_a2_r601 : a2 ≠ r601 := Nat.ne_of_lt (Nat.lt_of_lt_of_le f595.lt B601)
  have ne_t2_r601 : t2 ≠ r601 := Nat.ne_of_lt (Nat.lt_of_lt_of_le f598.lt B601)
  have ne_r573_r601 : r573 ≠ r601 := Nat.ne_of_lt (Nat.lt_of_lt_of_le f600.lt B601)
  have g_r601 : n0 ≤ r601 := Nat.le_trans (O589.1 ▸ O589.2.1) B601
  have sz_r601 : h0.size ≤ r601 := Nat.le_trans (own_ks K589) B601
  have f602 := (f590.keep K601q nin0)
  have f603 := (f591.keep K601q nin0)
  have f604 := (f592.keep K601q nin0)
  have f605 := (f593.keep K601q)
  have f606 := (f594.keep K601q)
  have f607 := (f595.keep K601q nin0)
  have f608 := (f596.keep K601q nin0)
  have f609 := (f597.keep K601q)
  have f610 : Arv Z T601.heap t2 kk2 (.object "java/lang/Object") (10 : Int32) [(.ref e_), .null, .null, .null, .null, .null, .null, .null, .null, .null] .null := (f598.keep K601q nin0)
  have f611 := (f599.keep K601q)
  have f612 := (f600.keep K601q)
  have O601 := O589.keep K601q all0
  have K601 := K589.trans K601q all0
  refine own_go st601 ?_
  show own_Goes _ _ _ _ _ _ _ (T601.setTop (mkF m 22 #[.val (.ref x), .val (.ref e_), .val (.ref a1), .val (.ref a2)] [(.ref r601), (.ref x)]))
  obtain ⟨T613, h613, X613, e613, W613, st613⟩ := putF X601 hx hZ hown (host := "") (Or.inl (own_w hw 133 rfl)) Via.refl rfl f604 f605 (Or.inr ⟨(own_w hw 134 rfl), rfl, hnm⟩) (own_w hw 122 rfl) (ty := (.object "java/util/List")) (by decide) rfl rfl (g := (mkF m 22 #[.val (.ref x), .val (.ref e_), .val (.ref a1), .val (.ref a2)] [(.ref r601), (.ref x)])) rfl rfl (hb hby d19_22)
  have f614 := (f602.other W613 (Or.inr (slot_ne (Or.inr (own_w hw 129 rfl)) (Or.inr (own_w hw 134 rfl)) (by decide) (t := (.object "com/example/navlint/navlint/model/Entry")) (t' := (.object "java/util/List")) (by decide) (by decide))))
  have f615 := (f603.other W613 (Or.inr (slot_ne (Or.inr (own_w hw 132 rfl)) (Or.inr (own_w hw 134 rfl)) (by decide) (t := (.object "java/util/List")) (t' := (.object "java/util/List")) (by decide) (by decide))))
  have f616 : Fld Z h613 x "com/example/navlint/navlint/model/State$Tab" "forward" "Ljava/util/List;" (.ref r601) := (f604.same W613)
  have f617 := (f605.wr W613)
  have f618 := (f606.wr W613)
  have f619 := (f607.other W613 (Or.inl na2))
  have f620 := (f608.other W613 (Or.inl na2))
  have f621 := (f609.wr W613)
  have f622 : Arv Z h613 t2 kk2 (.object "java/lang/Object") (10 : Int32) [(.ref e_), .null, .null, .null, .null, .null, .null, .null, .null, .null] .null := (f610.other W613 nt2)
  have f623 := (f611.wr W613)
  have f624 := (f612.wr W613)
  have f625 := (E601q.wr W613)
  have N613 := Fr.snoc X613 N601 g_x
  have O613 := O601.wr W613 g_x
  have K613 := K601.wr W613 (Or.inl (List.mem_of_getElem? (i := 0) rfl))
  refine own_go st613 ?_
  show own_Goes _ _ _ _ _ _ _ (T613.setTop (mkF m 25 #[.val (.ref x), .val (.ref e_), .val (.ref a1), .val (.ref a2)] []))
  exact own_out X613 hlk (v := none) (fun _ => rfl) (fun fs hr => X613.returnOut hx hret (hb hby d19_25) hr) e613 ⟨r573, r601, rfl, N613, K613, f614, f615, f616, f624, f625⟩ (by decide) (by decide)
theorem ef_ti1II (m : MethodId) (x : Addr) (e_ : Addr) (mr : Addr) (aL : Addr) (aX : Addr) (l1 : Addr) (C1 : String) (l2 : Addr) (C2 : String) : entryFrame m #[(.ref x), (.ref e_), (.ref l1), (.ref l2)] 4 = mkF m 0 #[.val (.ref x), .val (.ref e_), .val (.ref l1), .val (.ref l2)] [] := by
  first | (simp [entryFrame, mkF, argsToLocals, Value.category]; done) | rfl
def Q_ti1II (Z : State) (x : Addr) (e_ : Addr) (mr : Addr) (aL : Addr) (aX : Addr) (l1 : Addr) (C1 : String) (l2 : Addr) (C2 : String) (h0 : Heap) (n0 : Nat) (v : Option Value) (h : Heap) (L : List Loc) : Prop := v = none ∧ Fr n0 L ∧ Keep h0 h [x] ∧ Fld Z h x "com/example/navlint/navlint/model/State$Tab" "entry" "Lcom/example/navlint/navlint/model/Entry;" (.ref e_) ∧ Fld Z h x "com/example/navlint/navlint/model/State$Tab" "back" "Ljava/util/List;" (.ref l1) ∧ Fld Z h x "com/example/navlint/navlint/model/State$Tab" "forward" "Ljava/util/List;" (.ref l2)
set_option maxRecDepth 65536 in
set_option maxHeartbeats 40000000 in
theorem rm_ti1II (l : Launch) (Z : State) (a0 : Array Value) (hw : ∀ d ∈ tables_1, d.before a0 Z = true) (ws : List Jvm.Cond) (x : Addr) (e_ : Addr) (mr : Addr) (aL : Addr) (aX : Addr) (l1 : Addr) (C1 : String) (l2 : Addr) (C2 : String) (h0 : Heap) (n0 : Nat) (O0 : Old Z n0 h0) (P0 : Fld Z h0 x "com/example/navlint/navlint/model/State$Tab" "entry" "Lcom/example/navlint/navlint/model/Entry;" .null) (P1 : Fld Z h0 x "com/example/navlint/navlint/model/State$Tab" "back" "Ljava/util/List;" .null) (P2 : Fld Z h0 x "com/example/navlint/navlint/model/State$Tab" "forward" "Ljava/util/List;" .null) (Ex : Exa Z h0 x "com/example/navlint/navlint/model/State$Tab") (g_x : n0 ≤ x) (Ee : Exa Z h0 e_ "com/example/navlint/navlint/model/Entry") (MK : Mir Z "[Ljava/lang/Object;" mr) (SL : Sta Z Z.heap "java/util/ImmutableCollections" "EMPTY_LIST" "Ljava/util/ImmutableCollections$ListN;" (.ref aL)) (SX : Sta Z Z.heap "java/util/ImmutableCollections" "EMPTY" "Ljava/lang/Object;" (.ref aX)) (EL : Exa Z Z.heap aL "java/util/ImmutableCollections$ListN") (FL : Fld Z Z.heap aL "java/util/ImmutableCollections$ListN" "allowNulls" "Z" (.int (0 : Int32))) (Y1 : Exa Z h0 l1 C1) (hC1 : C1 = "java/util/ImmutableCollections$List12" ∨ (C1 = "java/util/ImmutableCollections$ListN" ∧ l1 = aL)) (Y2 : Exa Z h0 l2 C2) (hC2 : C2 = "java/util/ImmutableCollections$List12" ∨ (C2 = "java/util/ImmutableCollections$ListN" ∧ l2 = aL)) :
    MetFree l own_y28 (head1 (Jvm.Cond.code own_y28 prog_104_method_1_code 4 none :: ws) ({ frames := 2, cells := 0, slots := 0, locals := 26 } : Room)) (fun av_ U => av_ = #[(.ref x), (.ref e_), (.ref l1), (.ref l2)] ∧ Z.Warmed39 U.vm ∧ U.heap = h0) (fun _ _ _ _ _ => True) (fun _ U o_ U' => ∃ v L, o_ = .returned v ∧ Q_ti1II Z x e_ mr aL aX l1 C1 l2 C2 h0 n0 v U'.heap L ∧ FrameEnd U o_ U' L ({ frames := 2, cells := 0, slots := 0, locals := 26 } : Room).cells ({ frames := 2, cells := 0, slots := 0, locals := 26 } : Room).slots) := by
  refine MetFree.of_bodySF (plainFor_of_name pn_13) hisR ?_
  intro p e s m args below meth c s₁ Bd hml0 hP hK
  obtain ⟨rfl, hZ, hh⟩ := hP
  have hx := Bd.exec
  have hby := Bd.bytes
  have hml : c.maxLocals = 4 := hml0
  have hown : s.vm.findClass "com/example/navlint/navlint/model/State$Tab" = some m.cls := findClass_of_methodNamed Bd.named
  have hnm := (name_of_methodNamed Bd.named Bd.method).1
  have hlk := own_lk Bd
  have hret := Bd.returns
  have X0 : Stand p l e ({ frames := 2, cells := 0, slots := 0, locals := 26 } : Room) s m #[(.ref x), (.ref e_), (.ref l1), (.ref l2)] below meth c s₁ [] 0 0 := Stand.of_body Bd
  have e0 : s₁.heap = h0 := by rw [← hh, Bd.state]; rfl
  have N0 := Fr.nil n0
  show own_Goes p e below s (Q_ti1II Z x e_ mr aL aX l1 C1 l2 C2 h0 n0) ({ frames := 2, cells := 0, slots := 0, locals := 26 } : Room).cells ({ frames := 2, cells := 0, slots := 0, locals := 26 } : Room).slots (s₁.setTop (entryFrame m #[(.ref x), (.ref e_), (.ref l1), (.ref l2)] 4))
  refine own_go (fun _ ww => castTop (ef_ti1II m x e_ mr aL aX l1 C1 l2 C2) ww) ?_
  show own_Goes _ _ _ _ _ _ _ (s₁.setTop (mkF m 0 #[.val (.ref x), .val (.ref e_), .val (.ref l1), .val (.ref l2)] []))
  refine own_go (fun _ ww => XS.aloadN X0.here hx rfl (hb hby d19_0) rfl rfl ww) ?_
  show own_Goes _ _ _ _ _ _ _ (s₁.setTop (mkF m 1 #[.val (.ref x), .val (.ref e_), .val (.ref l1), .val (.ref l2)] [(.ref x)]))
  obtain ⟨_, _, ⟨T626, L626, k626, n626⟩, -, X626, ⟨Lc626, hQ626, l626, y626, z626⟩, st626⟩ := X0.specialBack hx (y := own_y3) rfl hown (mvT hZ (own_w hw 127 rfl)) (mvT hZ (own_w hw 67 rfl)) (mvT hZ (own_w hw 70 rfl)) (by decide) (backOf (W := 0) (rm_hvinit l Z a0 hw [] x h0 n0 O0 ) hZ (own_w hw 70 rfl) (own_w hw 69 rfl) (by decide) (by decide)) (g := (mkF m 1 #[.val (.ref x), .val (.ref e_), .val (.ref l1), .val (.ref l2)] [(.ref x)])) rfl (by rw [hml]; rfl) (Steps.refl _) (a := x) (argsL := []) (rest := []) (lenOf pd_0 rfl) rfl (by show 2 * 0 + _ ≤ _; exact Nat.le_of_eq rfl) (hb hby d19_1) (fun _ _ => ⟨rfl, e0, (by decide : 0 + 0 ≤ _), (by decide : 0 + 0 ≤ _)⟩)
  dsimp only [Pt.U, Pt.locs, Pt.cells, Pt.slots] at X626 l626 y626 z626 st626 hQ626
  subst l626 y626 z626
  obtain ⟨rfl, N626q, e626⟩ := hQ626
  have N626 := Fr.app N0 N626q
  refine own_go (fun _ ww => Steps.trans st626 ww) ?_
  show own_Goes _ _ _ _ _ _ _ (T626.setTop (mkF m 4 #[.val (.ref x), .val (.ref e_), .val (.ref l1), .val (.ref l2)] []))
  refine own_go (fun _ ww => XS.aloadN X626.here hx rfl (hb hby d19_4) rfl rfl ww) ?_
  show own_Goes _ _ _ _ _ _ _ (T626.setTop (mkF m 5 #[.val (.ref x), .val (.ref e_), .val (.ref l1), .val (.ref l2)] [(.ref x)]))
  refine own_go (fun _ ww => XS.aloadN X626.here hx rfl (hb hby d19_5) rfl rfl ww) ?_
  show own_Goes _ _ _ _ _ _ _ (T626.setTop (mkF m 6 #[.val (.ref x), .val (.ref e_), .val (.ref l1), .val (.ref l2)] [(.ref e_), (.ref x)]))
  obtain ⟨T627, h627, X627, e627, W627, st627⟩ := putF X626 hx hZ hown (host := "") (Or.inl (own_w hw 128 rfl)) Via.refl e626 P0 Ex (Or.inr ⟨(own_w hw 129 rfl), rfl, hnm⟩) (own_w hw 122 rfl) (ty := (.object "com/example/navlint/navlint/model/Entry")) (by decide) rfl rfl (g := (mkF m 6 #[.val (.ref x), .val (.ref e_), .val (.ref l1), .val (.ref l2)] [(.ref e_), (.ref x)])) rfl rfl (hb hby d19_6)
  have f628 : Fld Z h627 x "com/example/navlint/navlint/model/State$Tab" "entry" "Lcom/example/navlint/navlint/model/Entry;" (.ref e_) := (P0.same W627)
  have f629 := (P1.other W627 (Or.inr (slot_ne (Or.inr (own_w hw 132 rfl)) (Or.inr (own_w hw 129 rfl)) (by decide) (t := (.object "java/util/List")) (t' := (.object "com/example/navlint/navlint/model/Entry")) (by decide) (by decide))))
  have f630 := (P2.other W627 (Or.inr (slot_ne (Or.inr (own_w hw 134 rfl)) (Or.inr (own_w hw 129 rfl)) (by decide) (t := (.object "java/util/List")) (t' := (.object "com/example/navlint/navlint/model/Entry")) (by decide) (by decide))))
  have f631 := (Ex.wr W627)
  have f632 := (Ee.wr W627)
  have f633 := (Y1.wr W627)
  have f634 := (Y2.wr W627)
  have N627 := Fr.snoc X627 N626 g_x
  have O627 := O0.wr W627 g_x
  have K627 := (Keep.refl h0 [x]).wr W627 (Or.inl (List.mem_of_getElem? (i := 0) rfl))
  refine own_go st627 ?_
  show own_Goes _ _ _ _ _ _ _ (T627.setTop (mkF m 9 #[.val (.ref x), .val (.ref e_), .val (.ref l1), .val (.ref l2)] []))
  refine own_go (fun _ ww => XS.aloadN X627.here hx rfl (hb hby d19_9) rfl rfl ww) ?_
  show own_Goes _ _ _ _ _ _ _ (T627.setTop (mkF m 10 #[.val (.ref x), .val (.ref e_), .val (.ref l1), .val (.ref l2)] [(.ref x)]))
  refine own_go (fun _ ww => XS.aloadN X627.here hx rfl (hb hby d19_10) rfl rfl ww) ?_
  show own_Goes _ _ _ _ _ _ _ (T627.setTop (mkF m 11 #[.val (.ref x), .val (.ref e_), .val (.ref l1), .val (.ref l2)] [(.ref l1), (.ref x)]))
  obtain ⟨_, _, ⟨T635, L635, k635, n635⟩, -, X635, ⟨Lc635, hQ635, l635, y635, z635⟩, st635⟩ := Jvm.LawKit.callS X627 hx (y := own_y23) hown (mvT hZ (own_w hw 130 rfl)) (mvT hZ (own_w hw 83 rfl)) (mvT hZ (own_w hw 84 rfl)) (mvT hZ (own_w hw 85 rfl)) (by decide) (backOf (W := 1) (rm_co_I l Z a0 hw [] l1 C1 aL h627 n0 O627 f633 hC1 EL FL) hZ (own_w hw 85 rfl) (own_w hw 84 rfl) (by decide) (by decide)) (g := (mkF m 11 #[.val (.ref x), .val (.ref e_), .val (.ref l1), .val (.ref l2)] [(.ref l1), (.ref x)])) rfl (by rw [hml]; rfl) (argsL := [(.ref l1)]) (rest := [(.ref x)]) (lenOf pd_11 rfl) rfl (by show 2 * 0 + _ ≤ _; exact Nat.le_of_eq rfl) (hb hby d19_11) (fun _ _ => ⟨rfl, e627, (by decide : 0 + 0 ≤ _), (by decide : 0 + 0 ≤ _)⟩)
  dsimp only [Pt.U, Pt.locs, Pt.cells, Pt.slots] at X635 l635 y635 z635 st635 hQ635
  subst l635 y635 z635
  obtain ⟨rfl, N635q, e635⟩ := hQ635
  have N635 := Fr.app N627 N635q
  refine own_go st635 ?_
  show own_Goes _ _ _ _ _ _ _ (T635.setTop (mkF m 14 #[.val (.ref x), .val (.ref e_), .val (.ref l1), .val (.ref l2)] [(.ref l1), (.ref x)]))
  obtain ⟨T636, h636, X636, e636, W636, st636⟩ := putF X635 hx hZ hown (host := "") (Or.inl (own_w hw 131 rfl)) Via.refl e635 f629 f631 (Or.inr ⟨(own_w hw 132 rfl), rfl, hnm⟩) (own_w hw 122 rfl) (ty := (.object "java/util/List")) (by decide) rfl rfl (g := (mkF m 14 #[.val (.ref x), .val (.ref e_), .val (.ref l1), .val (.ref l2)] [(.ref l1), (.ref x)])) rfl rfl (hb hby d19_14)
  have f637 := (f628.other W636 (Or.inr (slot_ne (Or.inr (own_w hw 129 rfl)) (Or.inr (own_w hw 132 rfl)) (by decide) (t := (.object "com/example/navlint/navlint/model/Entry")) (t' := (.object "java/util/List")) (by decide) (by decide))))
  have f638 : Fld Z h636 x "com/example/navlint/navlint/model/State$Tab" "back" "Ljava/util/List;" (.ref l1) := (f629.same W636)
  have f639 := (f630.other W636 (Or.inr (slot_ne (Or.inr (own_w hw 134 rfl)) (Or.inr (own_w hw 132 rfl)) (by decide) (t := (.object "java/util/List")) (t' := (.object "java/util/List")) (by decide) (by decide))))
  have f640 := (f631.wr W636)
  have f641 := (f632.wr W636)
  have f642 := (f633.wr W636)
  have f643 := (f634.wr W636)
  have N636 := Fr.snoc X636 N635 g_x
  have O636 := O627.wr W636 g_x
  have K636 := K627.wr W636 (Or.inl (List.mem_of_getElem? (i := 0) rfl))
  refine own_go st636 ?_
  show own_Goes _ _ _ _ _ _ _ (T636.setTop (mkF m 17 #[.val (.ref x), .val (.ref e_), .val (.ref l1), .val (.ref l2)] []))
  refine own_go (fun _ ww => XS.aloadN X636.here hx rfl (hb hby d19_17) rfl rfl ww) ?_
  show own_Goes _ _ _ _ _ _ _ (T636.setTop (mkF m 18 #[.val (.ref x), .val (.ref e_), .val (.ref l1), .val (.ref l2)] [(.ref x)]))
  refine own_go (fun _ ww => XS.aloadN X636.here hx rfl (hb hby d19_18) rfl rfl ww) ?_
  show own_Goes _ _ _ _ _ _ _ (T636.setTop (mkF m 19 #[.val (.ref x), .val (.ref e_), .val (.ref l1), .val (.ref l2)] [(.ref l2), (.ref x)]))
  obtain ⟨_, _, ⟨T644, L644, k644, n644⟩, -, X644, ⟨Lc644, hQ644, l644, y644, z644⟩, st644⟩ := Jvm.LawKit.callS X636 hx (y := own_y23) hown (mvT hZ (own_w hw 130 rfl)) (mvT hZ (own_w hw 83 rfl)) (mvT hZ (own_w hw 84 rfl)) (mvT hZ (own_w hw 85 rfl)) (by decide) (backOf (W := 1) (rm_co_I l Z a0 hw [] l2 C2 aL h636 n0 O636 f643 hC2 EL FL) hZ (own_w hw 85 rfl) (own_w hw 84 rfl) (by decide) (by decide)) (g := (mkF m 19 #[.val (.ref x), .val (.ref e_), .val (.ref l1), .val (.ref l2)] [(.ref l2), (.ref x)])) rfl (by rw [hml]; rfl) (argsL := [(.ref l2)]) (rest := [(.ref x)]) (lenOf pd_11 rfl) rfl (by show 2 * 0 + _ ≤ _; exact Nat.le_of_eq rfl) (hb hby d19_19) (fun _ _ => ⟨rfl, e636, (by decide : 0 + 0 ≤ _), (by decide : 0 + 0 ≤ _)⟩)
  dsimp only [Pt.U, Pt.locs, Pt.cells, Pt.slots] at X644 l644 y644 z644 st644 hQ644
  subst l644 y644 z644
  obtain ⟨rfl, N644q, e644⟩ := hQ644
  have N644 := Fr.app N636 N644q
  refine own_go st644 ?_
  show own_Goes _ _ _ _ _ _ _ (T644.setTop (mkF m 22 #[.val (.ref x), .val (.ref e_), .val (.ref l1), .val (.ref l2)] [(.ref l2), (.ref x)]))
  obtain ⟨T645, h645, X645, e645, W645, st645⟩ := putF X644 hx hZ hown (host := "") (Or.inl (own_w hw 133 rfl)) Via.refl e644 f639 f640 (Or.inr ⟨(own_w hw 134 rfl), rfl, hnm⟩) (own_w hw 122 rfl) (ty := (.object "java/util/List")) (by decide) rfl rfl (g := (mkF m 22 #[.val (.ref x), .val (.ref e_), .val (.ref l1), .val (.ref l2)] [(.ref l2), (.ref x)])) rfl rfl (hb hby d19_22)
  have f646 := (f637.other W645 (Or.inr (slot_ne (Or.inr (own_w hw 129 rfl)) (Or.inr (own_w hw 134 rfl)) (by decide) (t := (.object "com/example/navlint/navlint/model/Entry")) (t' := (.object "java/util/List")) (by decide) (by decide))))
  have f647 := (f638.other W645 (Or.inr (slot_ne (Or.inr (own_w hw 132 rfl)) (Or.inr (own_w hw 134 rfl)) (by decide) (t := (.object "java/util/List")) (t' := (.object "java/util/List")) (by decide) (by decide))))
  have f648 : Fld Z h645 x "com/example/navlint/navlint/model/State$Tab" "forward" "Ljava/util/List;" (.ref l2) := (f639.same W645)
  have f649 := (f640.wr W645)
  have f650 := (f641.wr W645)
  have f651 := (f642.wr W645)
  have f652 := (f643.wr W645)
  have N645 := Fr.snoc X645 N644 g_x
  have O645 := O636.wr W645 g_x
  have K645 := K636.wr W645 (Or.inl (List.mem_of_getElem? (i := 0) rfl))
  refine own_go st645 ?_
  show own_Goes _ _ _ _ _ _ _ (T645.setTop (mkF m 25 #[.val (.ref x), .val (.ref e_), .val (.ref l1), .val (.ref l2)] []))
  exact own_out X645 hlk (v := none) (fun _ => rfl) (fun fs hr => X645.returnOut hx hret (hb hby d19_25) hr) e645 ⟨rfl, N645, K645, f646, f647, f648⟩ (by decide) (by decide)
theorem d22_0 : decode prog_104_method_8_code 0 = .ok (.new 8, 3) := by decide +kernel
theorem d22_3 : decode prog_104_method_8_code 3 = .ok (.dup, 1) := by decide +kernel
theorem d22_4 : decode prog_104_method_8_code 4 = .ok (.aconst_null, 1) := by decide +kernel
theorem d22_5 : decode prog_104_method_8_code 5 = .ok (.aload_n 0, 1) := by decide +kernel
theorem d22_6 : decode prog_104_method_8_code 6 = .ok (.getfield 19, 3) := by decide +kernel
theorem d22_9 : decode prog_104_method_8_code 9 = .ok (.aload_n 0, 1) := by decide +kernel
theorem d22_10 : decode prog_104_method_8_code 10 = .ok (.getfield 23, 3) := by decide +kernel
theorem d22_13 : decode prog_104_method_8_code 13 = .ok (.invokespecial 30, 3) := by decide +kernel
theorem d22_16 : decode prog_104_method_8_code 16 = .ok (.areturn, 1) := by decide +kernel
theorem ef_waitingII (m : MethodId) (y : Addr) (e_ : Addr) (mr : Addr) (aL : Addr) (aX : Addr) (l1 : Addr) (C1 : String) (l2 : Addr) (C2 : String) : entryFrame m #[(.ref y)] 1 = mkF m 0 #[.val (.ref y)] [] := by
  first | (simp [entryFrame, mkF, argsToLocals, Value.category]; done) | rfl
def Q_waitingII (Z : State) (y : Addr) (e_ : Addr) (mr : Addr) (aL : Addr) (aX : Addr) (l1 : Addr) (C1 : String) (l2 : Addr) (C2 : String) (h0 : Heap) (n0 : Nat) (v : Option Value) (h : Heap) (L : List Loc) : Prop := ∃ r : Addr, v = some (.ref r) ∧ Fr n0 L ∧ h0.size ≤ r ∧ Keep h0 h [] ∧ Exa Z h r "com/example/navlint/navlint/model/State$Tab" ∧ Fld Z h r "com/example/navlint/navlint/model/State$Tab" "entry" "Lcom/example/navlint/navlint/model/Entry;" .null
set_option maxRecDepth 65536 in
set_option maxHeartbeats 40000000 in
theorem rm_waitingII (l : Launch) (Z : State) (a0 : Array Value) (hw : ∀ d ∈ tables_1, d.before a0 Z = true) (ws : List Jvm.Cond) (y : Addr) (e_ : Addr) (mr : Addr) (aL : Addr) (aX : Addr) (l1 : Addr) (C1 : String) (l2 : Addr) (C2 : String) (h0 : Heap) (n0 : Nat) (O0 : Old Z n0 h0) (Ee : Exa Z h0 e_ "com/example/navlint/navlint/model/Entry") (MK : Mir Z "[Ljava/lang/Object;" mr) (SL : Sta Z Z.heap "java/util/ImmutableCollections" "EMPTY_LIST" "Ljava/util/ImmutableCollections$ListN;" (.ref aL)) (SX : Sta Z Z.heap "java/util/ImmutableCollections" "EMPTY" "Ljava/lang/Object;" (.ref aX)) (EL : Exa Z Z.heap aL "java/util/ImmutableCollections$ListN") (FL : Fld Z Z.heap aL "java/util/ImmutableCollections$ListN" "allowNulls" "Z" (.int (0 : Int32))) (B1 : Fld Z h0 y "com/example/navlint/navlint/model/State$Tab" "back" "Ljava/util/List;" (.ref l1)) (B2 : Fld Z h0 y "com/example/navlint/navlint/model/State$Tab" "forward" "Ljava/util/List;" (.ref l2)) (Y1 : Exa Z h0 l1 C1) (hC1 : C1 = "java/util/ImmutableCollections$List12" ∨ (C1 = "java/util/ImmutableCollections$ListN" ∧ l1 = aL)) (Y2 : Exa Z h0 l2 C2) (hC2 : C2 = "java/util/ImmutableCollections$List12" ∨ (C2 = "java/util/ImmutableCollections$ListN" ∧ l2 = aL)) :
    MetFree l own_y29 (head1 (Jvm.Cond.code own_y29 prog_104_method_8_code 1 (some (.object "com/example/navlint/navlint/model/State$Tab")) :: ws) ({ frames := 3, cells := 1, slots := 4, locals := 42 } : Room)) (fun av_ U => av_ = #[(.ref y)] ∧ Z.Warmed39 U.vm ∧ U.heap = h0) (fun _ _ _ _ _ => True) (fun _ U o_ U' => ∃ v L, o_ = .returned v ∧ Q_waitingII Z y e_ mr aL aX l1 C1 l2 C2 h0 n0 v U'.heap L ∧ FrameEnd U o_ U' L ({ frames := 3, cells := 1, slots := 4, locals := 42 } : Room).cells ({ frames := 3, cells := 1, slots := 4, locals := 42 } : Room).slots) := by
  refine MetFree.of_bodySF (plainFor_of_name pn_13) hisR ?_
  intro p e s m args below meth c s₁ Bd hml0 hP hK
  obtain ⟨rfl, hZ, hh⟩ := hP
  have hx := Bd.exec
  have hby := Bd.bytes
  have hml : c.maxLocals = 1 := hml0
  have hown : s.vm.findClass "com/example/navlint/navlint/model/State$Tab" = some m.cls := findClass_of_methodNamed Bd.named
  have hnm := (name_of_methodNamed Bd.named Bd.method).1
  have hlk := own_lk Bd
  have hret := Bd.returns
  have X0 : Stand p l e ({ frames := 3, cells := 1, slots := 4, locals := 42 } : Room) s m #[(.ref y)] below meth c s₁ [] 0 0 := Stand.of_body Bd
  have e0 : s₁.heap = h0 := by rw [← hh, Bd.state]; rfl
  have N0 := Fr.nil n0
  show own_Goes p e below s (Q_waitingII Z y e_ mr aL aX l1 C1 l2 C2 h0 n0) ({ frames := 3, cells := 1, slots := 4, locals := 42 } : Room).cells ({ frames := 3, cells := 1, slots := 4, locals := 42 } : Room).slots (s₁.setTop (entryFrame m #[(.ref y)] 1))
  refine own_go (fun _ ww => castTop (ef_waitingII m y e_ mr aL aX l1 C1 l2 C2) ww) ?_
  show own_Goes _ _ _ _ _ _ _ (s₁.setTop (mkF m 0 #[.val (.ref y)] []))
  obtain ⟨T653, h653, X653, e653, E653, A653, D653, -, st653⟩ := newO X0 hx hZ hown (own_w hw 150 rfl) (own_w hw 122 rfl) (own_w hw 123 rfl) e0 (g := (mkF m 0 #[.val (.ref y)] [])) rfl (hb hby d22_0) (by decide) (by decide)
  obtain ⟨b653, g653⟩ : ∃ z, z = h0.size := ⟨_, rfl⟩
  rw [← g653] at A653 D653 st653
  have ne_y_b653 : y ≠ b653 := Nat.ne_of_lt (Nat.lt_of_lt_of_le B1.lt (Nat.le_of_eq g653.symm))
  have ne_e__b653 : e_ ≠ b653 := Nat.ne_of_lt (Nat.lt_of_lt_of_le Ee.lt (Nat.le_of_eq g653.symm))
  have ne_l1_b653 : l1 ≠ b653 := Nat.ne_of_lt (Nat.lt_of_lt_of_le Y1.lt (Nat.le_of_eq g653.symm))
  have ne_l2_b653 : l2 ≠ b653 := Nat.ne_of_lt (Nat.lt_of_lt_of_le Y2.lt (Nat.le_of_eq g653.symm))
  have g_b653 : n0 ≤ b653 := Nat.le_trans (O0.1 ▸ O0.2.1) (Nat.le_of_eq g653.symm)
  have f654 := (B1.ext E653)
  have f655 := (B2.ext E653)
  have f656 := (Ee.ext E653)
  have f657 := (Y1.ext E653)
  have f658 := (Y2.ext E653)
  have O653 := O0.ext E653
  have sz_b653 : h0.size ≤ b653 := Nat.le_trans (own_ks (Keep.refl h0 [])) (Nat.le_of_eq g653.symm)
  have K653 := (Keep.refl h0 []).ext E653
  have f659 : Fld Z h653 b653 "com/example/navlint/navlint/model/State$Tab" "entry" "Lcom/example/navlint/navlint/model/Entry;" .null := D653 (Or.inr (own_w hw 129 rfl)) (ty := (.object "com/example/navlint/navlint/model/Entry")) (by decide)
  have f660 : Fld Z h653 b653 "com/example/navlint/navlint/model/State$Tab" "back" "Ljava/util/List;" .null := D653 (Or.inr (own_w hw 132 rfl)) (ty := (.object "java/util/List")) (by decide)
  have f661 : Fld Z h653 b653 "com/example/navlint/navlint/model/State$Tab" "forward" "Ljava/util/List;" .null := D653 (Or.inr (own_w hw 134 rfl)) (ty := (.object "java/util/List")) (by decide)
  refine own_go st653 ?_
  show own_Goes _ _ _ _ _ _ _ (T653.setTop (mkF m 3 #[.val (.ref y)] [(.ref b653)]))
  refine own_go (fun _ ww => XS.dup X653.here hx rfl (hb hby d22_3) rfl rfl ww) ?_
  show own_Goes _ _ _ _ _ _ _ (T653.setTop (mkF m 4 #[.val (.ref y)] [(.ref b653), (.ref b653)]))
  refine own_go (fun _ ww => XS.aconstNull X653.here hx rfl (hb hby d22_4) ww) ?_
  show own_Goes _ _ _ _ _ _ _ (T653.setTop (mkF m 5 #[.val (.ref y)] [.null, (.ref b653), (.ref b653)]))
  refine own_go (fun _ ww => XS.aloadN X653.here hx rfl (hb hby d22_5) rfl rfl ww) ?_
  show own_Goes _ _ _ _ _ _ _ (T653.setTop (mkF m 6 #[.val (.ref y)] [(.ref y), .null, (.ref b653), (.ref b653)]))
  obtain ⟨T662, X662, e662, st662⟩ := getF X653 hx hZ hown (host := "") (Or.inl (own_w hw 131 rfl)) Via.refl e653 f654 (g := (mkF m 6 #[.val (.ref y)] [(.ref y), .null, (.ref b653), (.ref b653)])) rfl rfl (hb hby d22_6)
  refine own_go st662 ?_
  show own_Goes _ _ _ _ _ _ _ (T662.setTop (mkF m 9 #[.val (.ref y)] [(.ref l1), .null, (.ref b653), (.ref b653)]))
  refine own_go (fun _ ww => XS.aloadN X662.here hx rfl (hb hby d22_9) rfl rfl ww) ?_
  show own_Goes _ _ _ _ _ _ _ (T662.setTop (mkF m 10 #[.val (.ref y)] [(.ref y), (.ref l1), .null, (.ref b653), (.ref b653)]))
  obtain ⟨T663, X663, e663, st663⟩ := getF X662 hx hZ hown (host := "") (Or.inl (own_w hw 133 rfl)) Via.refl e662 f655 (g := (mkF m 10 #[.val (.ref y)] [(.ref y), (.ref l1), .null, (.ref b653), (.ref b653)])) rfl rfl (hb hby d22_10)
  refine own_go st663 ?_
  show own_Goes _ _ _ _ _ _ _ (T663.setTop (mkF m 13 #[.val (.ref y)] [(.ref l2), (.ref l1), .null, (.ref b653), (.ref b653)]))
  obtain ⟨_, _, ⟨T664, L664, k664, n664⟩, -, X664, ⟨Lc664, hQ664, l664, y664, z664⟩, st664⟩ := X663.specialBack hx (y := own_y28) rfl hown (mvT hZ (own_w hw 151 rfl)) (mvT hZ (own_w hw 125 rfl)) (mvT hZ (own_w hw 126 rfl)) (by decide) (backOf (W := 1) (rm_ti0II l Z a0 hw [] b653 e_ mr aL aX l1 C1 l2 C2 h653 n0 O653 f659 f660 f661 A653 g_b653 f656 MK SL SX EL FL f657 hC1 f658 hC2) hZ (own_w hw 126 rfl) (own_w hw 123 rfl) (by decide) (by decide)) (g := (mkF m 13 #[.val (.ref y)] [(.ref l2), (.ref l1), .null, (.ref b653), (.ref b653)])) rfl (by rw [hml]; rfl) (Steps.refl _) (a := b653) (argsL := [.null, (.ref l1), (.ref l2)]) (rest := [(.ref b653)]) (lenOf pd_15 rfl) rfl (by show 2 * 0 + _ ≤ _; exact Nat.le_of_eq rfl) (hb hby d22_13) (fun _ _ => ⟨rfl, e663, (by decide : 1 + 0 ≤ _), (by decide : 4 + 0 ≤ _)⟩)
  dsimp only [Pt.U, Pt.locs, Pt.cells, Pt.slots] at X664 l664 y664 z664 st664 hQ664
  subst l664 y664 z664
  obtain ⟨rfl, N664q, K664q, P664, Q664, R664⟩ := hQ664
  have N664 := Fr.app N0 N664q
  have f665 := (f654.keep K664q (ninS ne_y_b653 nin0))
  have f666 := (f655.keep K664q (ninS ne_y_b653 nin0))
  have f667 := (f656.keep K664q)
  have f668 := (f657.keep K664q)
  have f669 := (f658.keep K664q)
  have f670 := (A653.keep K664q)
  have O664 := O653.keep K664q (allS g_b653 all0)
  have K664 := K653.trans K664q (allS (Or.inr sz_b653) all0)
  refine own_go (fun _ ww => Steps.trans st664 ww) ?_
  show own_Goes _ _ _ _ _ _ _ (T664.setTop (mkF m 16 #[.val (.ref y)] [(.ref b653)]))
  exact own_out X664 hlk (v := some (.ref b653)) (fun h => by rw [hret] at h; cases h) (fun fs hr => retOut X664 hx (t := (.object "com/example/navlint/navlint/model/State$Tab")) hret rfl (Or.inr (Or.inr (Or.inr (Or.inr ⟨rfl, rfl, rfl⟩)))) (hb hby d22_16) hr) rfl ⟨_, rfl, N664, sz_b653, K664, f670, P664⟩ (by decide) (by decide)
theorem d23_0 : decode prog_104_method_7_code 0 = .ok (.new 8, 3) := by decide +kernel
theorem d23_3 : decode prog_104_method_7_code 3 = .ok (.dup, 1) := by decide +kernel
theorem d23_4 : decode prog_104_method_7_code 4 = .ok (.aload_n 1, 1) := by decide +kernel
theorem d23_5 : decode prog_104_method_7_code 5 = .ok (.aload_n 0, 1) := by decide +kernel
theorem d23_6 : decode prog_104_method_7_code 6 = .ok (.getfield 19, 3) := by decide +kernel
theorem d23_9 : decode prog_104_method_7_code 9 = .ok (.aload_n 0, 1) := by decide +kernel
theorem d23_10 : decode prog_104_method_7_code 10 = .ok (.getfield 23, 3) := by decide +kernel
theorem d23_13 : decode prog_104_method_7_code 13 = .ok (.invokespecial 30, 3) := by decide +kernel
theorem d23_16 : decode prog_104_method_7_code 16 = .ok (.areturn, 1) := by decide +kernel
theorem ef_showingII (m : MethodId) (y : Addr) (e_ : Addr) (mr : Addr) (aL : Addr) (aX : Addr) (l1 : Addr) (C1 : String) (l2 : Addr) (C2 : String) : entryFrame m #[(.ref y), (.ref e_)] 2 = mkF m 0 #[.val (.ref y), .val (.ref e_)] [] := by
  first | (simp [entryFrame, mkF, argsToLocals, Value.category]; done) | rfl
def Q_showingII (Z : State) (y : Addr) (e_ : Addr) (mr : Addr) (aL : Addr) (aX : Addr) (l1 : Addr) (C1 : String) (l2 : Addr) (C2 : String) (h0 : Heap) (n0 : Nat) (v : Option Value) (h : Heap) (L : List Loc) : Prop := ∃ r : Addr, v = some (.ref r) ∧ Fr n0 L ∧ h0.size ≤ r ∧ Keep h0 h [] ∧ Exa Z h r "com/example/navlint/navlint/model/State$Tab" ∧ Fld Z h r "com/example/navlint/navlint/model/State$Tab" "entry" "Lcom/example/navlint/navlint/model/Entry;" (.ref e_)
set_option maxRecDepth 65536 in
set_option maxHeartbeats 40000000 in
theorem rm_showingII (l : Launch) (Z : State) (a0 : Array Value) (hw : ∀ d ∈ tables_1, d.before a0 Z = true) (ws : List Jvm.Cond) (y : Addr) (e_ : Addr) (mr : Addr) (aL : Addr) (aX : Addr) (l1 : Addr) (C1 : String) (l2 : Addr) (C2 : String) (h0 : Heap) (n0 : Nat) (O0 : Old Z n0 h0) (Ee : Exa Z h0 e_ "com/example/navlint/navlint/model/Entry") (MK : Mir Z "[Ljava/lang/Object;" mr) (SL : Sta Z Z.heap "java/util/ImmutableCollections" "EMPTY_LIST" "Ljava/util/ImmutableCollections$ListN;" (.ref aL)) (SX : Sta Z Z.heap "java/util/ImmutableCollections" "EMPTY" "Ljava/lang/Object;" (.ref aX)) (EL : Exa Z Z.heap aL "java/util/ImmutableCollections$ListN") (FL : Fld Z Z.heap aL "java/util/ImmutableCollections$ListN" "allowNulls" "Z" (.int (0 : Int32))) (B1 : Fld Z h0 y "com/example/navlint/navlint/model/State$Tab" "back" "Ljava/util/List;" (.ref l1)) (B2 : Fld Z h0 y "com/example/navlint/navlint/model/State$Tab" "forward" "Ljava/util/List;" (.ref l2)) (Y1 : Exa Z h0 l1 C1) (hC1 : C1 = "java/util/ImmutableCollections$List12" ∨ (C1 = "java/util/ImmutableCollections$ListN" ∧ l1 = aL)) (Y2 : Exa Z h0 l2 C2) (hC2 : C2 = "java/util/ImmutableCollections$List12" ∨ (C2 = "java/util/ImmutableCollections$ListN" ∧ l2 = aL)) :
    MetFree l own_y30 (head1 (Jvm.Cond.code own_y30 prog_104_method_7_code 2 (some (.object "com/example/navlint/navlint/model/State$Tab")) :: ws) ({ frames := 3, cells := 1, slots := 4, locals := 42 } : Room)) (fun av_ U => av_ = #[(.ref y), (.ref e_)] ∧ Z.Warmed39 U.vm ∧ U.heap = h0) (fun _ _ _ _ _ => True) (fun _ U o_ U' => ∃ v L, o_ = .returned v ∧ Q_showingII Z y e_ mr aL aX l1 C1 l2 C2 h0 n0 v U'.heap L ∧ FrameEnd U o_ U' L ({ frames := 3, cells := 1, slots := 4, locals := 42 } : Room).cells ({ frames := 3, cells := 1, slots := 4, locals := 42 } : Room).slots) := by
  refine MetFree.of_bodySF (plainFor_of_name pn_13) hisR ?_
  intro p e s m args below meth c s₁ Bd hml0 hP hK
  obtain ⟨rfl, hZ, hh⟩ := hP
  have hx := Bd.exec
  have hby := Bd.bytes
  have hml : c.maxLocals = 2 := hml0
  have hown : s.vm.findClass "com/example/navlint/navlint/model/State$Tab" = some m.cls := findClass_of_methodNamed Bd.named
  have hnm := (name_of_methodNamed Bd.named Bd.method).1
  have hlk := own_lk Bd
  have hret := Bd.returns
  have X0 : Stand p l e ({ frames := 3, cells := 1, slots := 4, locals := 42 } : Room) s m #[(.ref y), (.ref e_)] below meth c s₁ [] 0 0 := Stand.of_body Bd
  have e0 : s₁.heap = h0 := by rw [← hh, Bd.state]; rfl
  have N0 := Fr.nil n0
  show own_Goes p e below s (Q_showingII Z y e_ mr aL aX l1 C1 l2 C2 h0 n0) ({ frames := 3, cells := 1, slots := 4, locals := 42 } : Room).cells ({ frames := 3, cells := 1, slots := 4, locals := 42 } : Room).slots (s₁.setTop (entryFrame m #[(.ref y), (.ref e_)] 2))
  refine own_go (fun _ ww => castTop (ef_showingII m y e_ mr aL aX l1 C1 l2 C2) ww) ?_
  show own_Goes _ _ _ _ _ _ _ (s₁.setTop (mkF m 0 #[.val (.ref y), .val (.ref e_)] []))
  obtain ⟨T671, h671, X671, e671, E671, A671, D671, -, st671⟩ := newO X0 hx hZ hown (own_w hw 150 rfl) (own_w hw 122 rfl) (own_w hw 123 rfl) e0 (g := (mkF m 0 #[.val (.ref y), .val (.ref e_)] [])) rfl (hb hby d23_0) (by decide) (by decide)
  obtain ⟨b671, g671⟩ : ∃ z, z = h0.size := ⟨_, rfl⟩
  rw [← g671] at A671 D671 st671
  have ne_y_b671 : y ≠ b671 := Nat.ne_of_lt (Nat.lt_of_lt_of_le B1.lt (Nat.le_of_eq g671.symm))
  have ne_e__b671 : e_ ≠ b671 := Nat.ne_of_lt (Nat.lt_of_lt_of_le Ee.lt (Nat.le_of_eq g671.symm))
  have ne_l1_b671 : l1 ≠ b671 := Nat.ne_of_lt (Nat.lt_of_lt_of_le Y1.lt (Nat.le_of_eq g671.symm))
  have ne_l2_b671 : l2 ≠ b671 := Nat.ne_of_lt (Nat.lt_of_lt_of_le Y2.lt (Nat.le_of_eq g671.symm))
  have g_b671 : n0 ≤ b671 := Nat.le_trans (O0.1 ▸ O0.2.1) (Nat.le_of_eq g671.symm)
  have f672 := (B1.ext E671)
  have f673 := (B2.ext E671)
  have f674 := (Ee.ext E671)
  have f675 := (Y1.ext E671)
  have f676 := (Y2.ext E671)
  have O671 := O0.ext E671
  have sz_b671 : h0.size ≤ b671 := Nat.le_trans (own_ks (Keep.refl h0 [])) (Nat.le_of_eq g671.symm)
  have K671 := (Keep.refl h0 []).ext E671
  have f677 : Fld Z h671 b671 "com/example/navlint/navlint/model/State$Tab" "entry" "Lcom/example/navlint/navlint/model/Entry;" .null := D671 (Or.inr (own_w hw 129 rfl)) (ty := (.object "com/example/navlint/navlint/model/Entry")) (by decide)
  have f678 : Fld Z h671 b671 "com/example/navlint/navlint/model/State$Tab" "back" "Ljava/util/List;" .null := D671 (Or.inr (own_w hw 132 rfl)) (ty := (.object "java/util/List")) (by decide)
  have f679 : Fld Z h671 b671 "com/example/navlint/navlint/model/State$Tab" "forward" "Ljava/util/List;" .null := D671 (Or.inr (own_w hw 134 rfl)) (ty := (.object "java/util/List")) (by decide)
  refine own_go st671 ?_
  show own_Goes _ _ _ _ _ _ _ (T671.setTop (mkF m 3 #[.val (.ref y), .val (.ref e_)] [(.ref b671)]))
  refine own_go (fun _ ww => XS.dup X671.here hx rfl (hb hby d23_3) rfl rfl ww) ?_
  show own_Goes _ _ _ _ _ _ _ (T671.setTop (mkF m 4 #[.val (.ref y), .val (.ref e_)] [(.ref b671), (.ref b671)]))
  refine own_go (fun _ ww => XS.aloadN X671.here hx rfl (hb hby d23_4) rfl rfl ww) ?_
  show own_Goes _ _ _ _ _ _ _ (T671.setTop (mkF m 5 #[.val (.ref y), .val (.ref e_)] [(.ref e_), (.ref b671), (.ref b671)]))
  refine own_go (fun _ ww => XS.aloadN X671.here hx rfl (hb hby d23_5) rfl rfl ww) ?_
  show own_Goes _ _ _ _ _ _ _ (T671.setTop (mkF m 6 #[.val (.ref y), .val (.ref e_)] [(.ref y), (.ref e_), (.ref b671), (.ref b671)]))
  obtain ⟨T680, X680, e680, st680⟩ := getF X671 hx hZ hown (host := "") (Or.inl (own_w hw 131 rfl)) Via.refl e671 f672 (g := (mkF m 6 #[.val (.ref y), .val (.ref e_)] [(.ref y), (.ref e_), (.ref b671), (.ref b671)])) rfl rfl (hb hby d23_6)
  refine own_go st680 ?_
  show own_Goes _ _ _ _ _ _ _ (T680.setTop (mkF m 9 #[.val (.ref y), .val (.ref e_)] [(.ref l1), (.ref e_), (.ref b671), (.ref b671)]))
  refine own_go (fun _ ww => XS.aloadN X680.here hx rfl (hb hby d23_9) rfl rfl ww) ?_
  show own_Goes _ _ _ _ _ _ _ (T680.setTop (mkF m 10 #[.val (.ref y), .val (.ref e_)] [(.ref y), (.ref l1), (.ref e_), (.ref b671), (.ref b671)]))
  obtain ⟨T681, X681, e681, st681⟩ := getF X680 hx hZ hown (host := "") (Or.inl (own_w hw 133 rfl)) Via.refl e680 f673 (g := (mkF m 10 #[.val (.ref y), .val (.ref e_)] [(.ref y), (.ref l1), (.ref e_), (.ref b671), (.ref b671)])) rfl rfl (hb hby d23_10)
  refine own_go st681 ?_
  show own_Goes _ _ _ _ _ _ _ (T681.setTop (mkF m 13 #[.val (.ref y), .val (.ref e_)] [(.ref l2), (.ref l1), (.ref e_), (.ref b671), (.ref b671)]))
  obtain ⟨_, _, ⟨T682, L682, k682, n682⟩, -, X682, ⟨Lc682, hQ682, l682, y682, z682⟩, st682⟩ := X681.specialBack hx (y := own_y28) rfl hown (mvT hZ (own_w hw 151 rfl)) (mvT hZ (own_w hw 125 rfl)) (mvT hZ (own_w hw 126 rfl)) (by decide) (backOf (W := 1) (rm_ti1II l Z a0 hw [] b671 e_ mr aL aX l1 C1 l2 C2 h671 n0 O671 f677 f678 f679 A671 g_b671 f674 MK SL SX EL FL f675 hC1 f676 hC2) hZ (own_w hw 126 rfl) (own_w hw 123 rfl) (by decide) (by decide)) (g := (mkF m 13 #[.val (.ref y), .val (.ref e_)] [(.ref l2), (.ref l1), (.ref e_), (.ref b671), (.ref b671)])) rfl (by rw [hml]; rfl) (Steps.refl _) (a := b671) (argsL := [(.ref e_), (.ref l1), (.ref l2)]) (rest := [(.ref b671)]) (lenOf pd_15 rfl) rfl (by show 2 * 0 + _ ≤ _; exact Nat.le_of_eq rfl) (hb hby d23_13) (fun _ _ => ⟨rfl, e681, (by decide : 1 + 0 ≤ _), (by decide : 4 + 0 ≤ _)⟩)
  dsimp only [Pt.U, Pt.locs, Pt.cells, Pt.slots] at X682 l682 y682 z682 st682 hQ682
  subst l682 y682 z682
  obtain ⟨rfl, N682q, K682q, P682, Q682, R682⟩ := hQ682
  have N682 := Fr.app N0 N682q
  have f683 := (f672.keep K682q (ninS ne_y_b671 nin0))
  have f684 := (f673.keep K682q (ninS ne_y_b671 nin0))
  have f685 := (f674.keep K682q)
  have f686 := (f675.keep K682q)
  have f687 := (f676.keep K682q)
  have f688 := (A671.keep K682q)
  have O682 := O671.keep K682q (allS g_b671 all0)
  have K682 := K671.trans K682q (allS (Or.inr sz_b671) all0)
  refine own_go (fun _ ww => Steps.trans st682 ww) ?_
  show own_Goes _ _ _ _ _ _ _ (T682.setTop (mkF m 16 #[.val (.ref y), .val (.ref e_)] [(.ref b671)]))
  exact own_out X682 hlk (v := some (.ref b671)) (fun h => by rw [hret] at h; cases h) (fun fs hr => retOut X682 hx (t := (.object "com/example/navlint/navlint/model/State$Tab")) hret rfl (Or.inr (Or.inr (Or.inr (Or.inr ⟨rfl, rfl, rfl⟩)))) (hb hby d23_16) hr) rfl ⟨_, rfl, N682, sz_b671, K682, f688, P682⟩ (by decide) (by decide)
theorem d20_0 : decode prog_104_method_6_code 0 = .ok (.aload_n 0, 1) := by decide +kernel
theorem d20_1 : decode prog_104_method_6_code 1 = .ok (.getfield 7, 3) := by decide +kernel
theorem d20_4 : decode prog_104_method_6_code 4 = .ok (.ifnonnull 7, 3) := by decide +kernel
theorem d20_7 : decode prog_104_method_6_code 7 = .ok (.iconst 1, 1) := by decide +kernel
theorem d20_8 : decode prog_104_method_6_code 8 = .ok (.goto 4, 3) := by decide +kernel
theorem d20_12 : decode prog_104_method_6_code 12 = .ok (.ireturn, 1) := by decide +kernel
theorem ef_waits0 (m : MethodId) (y : Addr) (o : Addr) : entryFrame m #[(.ref y)] 1 = mkF m 0 #[.val (.ref y)] [] := by
  first | (simp [entryFrame, mkF, argsToLocals, Value.category]; done) | rfl
def Q_waits0 (Z : State) (y : Addr) (o : Addr) (h0 : Heap) (n0 : Nat) (v : Option Value) (h : Heap) (L : List Loc) : Prop := v = some (.int (1 : Int32)) ∧ Fr n0 L ∧ h = h0
set_option maxRecDepth 65536 in
set_option maxHeartbeats 40000000 in
theorem rm_waits0 (l : Launch) (Z : State) (a0 : Array Value) (hw : ∀ d ∈ tables_1, d.before a0 Z = true) (ws : List Jvm.Cond) (y : Addr) (o : Addr) (h0 : Heap) (n0 : Nat) (O0 : Old Z n0 h0) (Fy : Fld Z h0 y "com/example/navlint/navlint/model/State$Tab" "entry" "Lcom/example/navlint/navlint/model/Entry;" .null) :
    MetFree l own_y31 (head1 (Jvm.Cond.code own_y31 prog_104_method_6_code 1 (some .boolean) :: ws) ({ frames := 0, cells := 0, slots := 0, locals := 0 } : Room)) (fun av_ U => av_ = #[(.ref y)] ∧ Z.Warmed39 U.vm ∧ U.heap = h0) (fun _ _ _ _ _ => True) (fun _ U o_ U' => ∃ v L, o_ = .returned v ∧ Q_waits0 Z y o h0 n0 v U'.heap L ∧ FrameEnd U o_ U' L ({ frames := 0, cells := 0, slots := 0, locals := 0 } : Room).cells ({ frames := 0, cells := 0, slots := 0, locals := 0 } : Room).slots) := by
  refine MetFree.of_bodySF (plainFor_of_name pn_13) hisR ?_
  intro p e s m args below meth c s₁ Bd hml0 hP hK
  obtain ⟨rfl, hZ, hh⟩ := hP
  have hx := Bd.exec
  have hby := Bd.bytes
  have hml : c.maxLocals = 1 := hml0
  have hown : s.vm.findClass "com/example/navlint/navlint/model/State$Tab" = some m.cls := findClass_of_methodNamed Bd.named
  have hnm := (name_of_methodNamed Bd.named Bd.method).1
  have hlk := own_lk Bd
  have hret := Bd.returns
  have X0 : Stand p l e ({ frames := 0, cells := 0, slots := 0, locals := 0 } : Room) s m #[(.ref y)] below meth c s₁ [] 0 0 := Stand.of_body Bd
  have e0 : s₁.heap = h0 := by rw [← hh, Bd.state]; rfl
  have N0 := Fr.nil n0
  show own_Goes p e below s (Q_waits0 Z y o h0 n0) ({ frames := 0, cells := 0, slots := 0, locals := 0 } : Room).cells ({ frames := 0, cells := 0, slots := 0, locals := 0 } : Room).slots (s₁.setTop (entryFrame m #[(.ref y)] 1))
  refine own_go (fun _ ww => castTop (ef_waits0 m y o) ww) ?_
  show own_Goes _ _ _ _ _ _ _ (s₁.setTop (mkF m 0 #[.val (.ref y)] []))
  refine own_go (fun _ ww => XS.aloadN X0.here hx rfl (hb hby d20_0) rfl rfl ww) ?_
  show own_Goes _ _ _ _ _ _ _ (s₁.setTop (mkF m 1 #[.val (.ref y)] [(.ref y)]))
  obtain ⟨T689, X689, e689, st689⟩ := getF X0 hx hZ hown (host := "") (Or.inl (own_w hw 128 rfl)) Via.refl e0 Fy (g := (mkF m 1 #[.val (.ref y)] [(.ref y)])) rfl rfl (hb hby d20_1)
  refine own_go st689 ?_
  show own_Goes _ _ _ _ _ _ _ (T689.setTop (mkF m 4 #[.val (.ref y)] [.null]))
  refine own_go (fun _ ww => XT.ifnonnullNo X689.here hx rfl (hb hby d20_4) rfl ww) ?_
  show own_Goes _ _ _ _ _ _ _ (T689.setTop (mkF m 7 #[.val (.ref y)] []))
  refine own_go (fun _ ww => XS.iconst X689.here hx rfl (hb hby d20_7) ww) ?_
  show own_Goes _ _ _ _ _ _ _ (T689.setTop (mkF m 8 #[.val (.ref y)] [(.int (1 : Int32))]))
  refine own_go (fun _ ww => XS.goto X689.here hx rfl (pc0 := 8) (pc' := 12) rfl (hb hby d20_8) (by decide) (by decide) ww) ?_
  show own_Goes _ _ _ _ _ _ _ (T689.setTop (mkF m 12 #[.val (.ref y)] [(.int (1 : Int32))]))
  exact own_out X689 hlk (v := some (.int (1 : Int32))) (fun h => by rw [hret] at h; cases h) (fun fs hr => retOut X689 hx (t := .boolean) hret (by decide) (Or.inl ⟨rfl, by simp, _, rfl⟩) (hb hby d20_12) hr) e689 ⟨rfl, N0, rfl⟩ (by decide) (by decide)
theorem d21_0 : decode prog_104_method_3_code 0 = .ok (.aload_n 0, 1) := by decide +kernel
theorem d21_1 : decode prog_104_method_3_code 1 = .ok (.getfield 7, 3) := by decide +kernel
theorem d21_4 : decode prog_104_method_3_code 4 = .ok (.areturn, 1) := by decide +kernel
theorem ef_entry0 (m : MethodId) (y : Addr) (o : Addr) : entryFrame m #[(.ref y)] 1 = mkF m 0 #[.val (.ref y)] [] := by
  first | (simp [entryFrame, mkF, argsToLocals, Value.category]; done) | rfl
def Q_entry0 (Z : State) (y : Addr) (o : Addr) (h0 : Heap) (n0 : Nat) (v : Option Value) (h : Heap) (L : List Loc) : Prop := v = some .null ∧ Fr n0 L ∧ h = h0
set_option maxRecDepth 65536 in
set_option maxHeartbeats 40000000 in
theorem rm_entry0 (l : Launch) (Z : State) (a0 : Array Value) (hw : ∀ d ∈ tables_1, d.before a0 Z = true) (ws : List Jvm.Cond) (y : Addr) (o : Addr) (h0 : Heap) (n0 : Nat) (O0 : Old Z n0 h0) (Fy : Fld Z h0 y "com/example/navlint/navlint/model/State$Tab" "entry" "Lcom/example/navlint/navlint/model/Entry;" .null) :
    MetFree l own_y32 (head1 (Jvm.Cond.code own_y32 prog_104_method_3_code 1 (some (.object "com/example/navlint/navlint/model/Entry")) :: ws) ({ frames := 0, cells := 0, slots := 0, locals := 0 } : Room)) (fun av_ U => av_ = #[(.ref y)] ∧ Z.Warmed39 U.vm ∧ U.heap = h0) (fun _ _ _ _ _ => True) (fun _ U o_ U' => ∃ v L, o_ = .returned v ∧ Q_entry0 Z y o h0 n0 v U'.heap L ∧ FrameEnd U o_ U' L ({ frames := 0, cells := 0, slots := 0, locals := 0 } : Room).cells ({ frames := 0, cells := 0, slots := 0, locals := 0 } : Room).slots) := by
  refine MetFree.of_bodySF (plainFor_of_name pn_13) hisR ?_
  intro p e s m args below meth c s₁ Bd hml0 hP hK
  obtain ⟨rfl, hZ, hh⟩ := hP
  have hx := Bd.exec
  have hby := Bd.bytes
  have hml : c.maxLocals = 1 := hml0
  have hown : s.vm.findClass "com/example/navlint/navlint/model/State$Tab" = some m.cls := findClass_of_methodNamed Bd.named
  have hnm := (name_of_methodNamed Bd.named Bd.method).1
  have hlk := own_lk Bd
  have hret := Bd.returns
  have X0 : Stand p l e ({ frames := 0, cells := 0, slots := 0, locals := 0 } : Room) s m #[(.ref y)] below meth c s₁ [] 0 0 := Stand.of_body Bd
  have e0 : s₁.heap = h0 := by rw [← hh, Bd.state]; rfl
  have N0 := Fr.nil n0
  show own_Goes p e below s (Q_entry0 Z y o h0 n0) ({ frames := 0, cells := 0, slots := 0, locals := 0 } : Room).cells ({ frames := 0, cells := 0, slots := 0, locals := 0 } : Room).slots (s₁.setTop (entryFrame m #[(.ref y)] 1))
  refine own_go (fun _ ww => castTop (ef_entry0 m y o) ww) ?_
  show own_Goes _ _ _ _ _ _ _ (s₁.setTop (mkF m 0 #[.val (.ref y)] []))
  refine own_go (fun _ ww => XS.aloadN X0.here hx rfl (hb hby d21_0) rfl rfl ww) ?_
  show own_Goes _ _ _ _ _ _ _ (s₁.setTop (mkF m 1 #[.val (.ref y)] [(.ref y)]))
  obtain ⟨T690, X690, e690, st690⟩ := getF X0 hx hZ hown (host := "") (Or.inl (own_w hw 128 rfl)) Via.refl e0 Fy (g := (mkF m 1 #[.val (.ref y)] [(.ref y)])) rfl rfl (hb hby d21_1)
  refine own_go st690 ?_
  show own_Goes _ _ _ _ _ _ _ (T690.setTop (mkF m 4 #[.val (.ref y)] [.null]))
  exact own_out X690 hlk (v := some .null) (fun h => by rw [hret] at h; cases h) (fun fs hr => retOut X690 hx (t := (.object "com/example/navlint/navlint/model/Entry")) hret rfl (Or.inr (Or.inr (Or.inr (Or.inr ⟨rfl, rfl, rfl⟩)))) (hb hby d21_4) hr) e690 ⟨rfl, N0, rfl⟩ (by decide) (by decide)
theorem d20_11 : decode prog_104_method_6_code 11 = .ok (.iconst 0, 1) := by decide +kernel
theorem ef_waits1 (m : MethodId) (y : Addr) (o : Addr) : entryFrame m #[(.ref y)] 1 = mkF m 0 #[.val (.ref y)] [] := by
  first | (simp [entryFrame, mkF, argsToLocals, Value.category]; done) | rfl
def Q_waits1 (Z : State) (y : Addr) (o : Addr) (h0 : Heap) (n0 : Nat) (v : Option Value) (h : Heap) (L : List Loc) : Prop := v = some (.int (0 : Int32)) ∧ Fr n0 L ∧ h = h0
set_option maxRecDepth 65536 in
set_option maxHeartbeats 40000000 in
theorem rm_waits1 (l : Launch) (Z : State) (a0 : Array Value) (hw : ∀ d ∈ tables_1, d.before a0 Z = true) (ws : List Jvm.Cond) (y : Addr) (o : Addr) (h0 : Heap) (n0 : Nat) (O0 : Old Z n0 h0) (Fy : Fld Z h0 y "com/example/navlint/navlint/model/State$Tab" "entry" "Lcom/example/navlint/navlint/model/Entry;" (.ref o)) :
    MetFree l own_y31 (head1 (Jvm.Cond.code own_y31 prog_104_method_6_code 1 (some .boolean) :: ws) ({ frames := 0, cells := 0, slots := 0, locals := 0 } : Room)) (fun av_ U => av_ = #[(.ref y)] ∧ Z.Warmed39 U.vm ∧ U.heap = h0) (fun _ _ _ _ _ => True) (fun _ U o_ U' => ∃ v L, o_ = .returned v ∧ Q_waits1 Z y o h0 n0 v U'.heap L ∧ FrameEnd U o_ U' L ({ frames := 0, cells := 0, slots := 0, locals := 0 } : Room).cells ({ frames := 0, cells := 0, slots := 0, locals := 0 } : Room).slots) := by
  refine MetFree.of_bodySF (plainFor_of_name pn_13) hisR ?_
  intro p e s m args below meth c s₁ Bd hml0 hP hK
  obtain ⟨rfl, hZ, hh⟩ := hP
  have hx := Bd.exec
  have hby := Bd.bytes
  have hml : c.maxLocals = 1 := hml0
  have hown : s.vm.findClass "com/example/navlint/navlint/model/State$Tab" = some m.cls := findClass_of_methodNamed Bd.named
  have hnm := (name_of_methodNamed Bd.named Bd.method).1
  have hlk := own_lk Bd
  have hret := Bd.returns
  have X0 : Stand p l e ({ frames := 0, cells := 0, slots := 0, locals := 0 } : Room) s m #[(.ref y)] below meth c s₁ [] 0 0 := Stand.of_body Bd
  have e0 : s₁.heap = h0 := by rw [← hh, Bd.state]; rfl
  have N0 := Fr.nil n0
  show own_Goes p e below s (Q_waits1 Z y o h0 n0) ({ frames := 0, cells := 0, slots := 0, locals := 0 } : Room).cells ({ frames := 0, cells := 0, slots := 0, locals := 0 } : Room).slots (s₁.setTop (entryFrame m #[(.ref y)] 1))
  refine own_go (fun _ ww => castTop (ef_waits1 m y o) ww) ?_
  show own_Goes _ _ _ _ _ _ _ (s₁.setTop (mkF m 0 #[.val (.ref y)] []))
  refine own_go (fun _ ww => XS.aloadN X0.here hx rfl (hb hby d20_0) rfl rfl ww) ?_
  show own_Goes _ _ _ _ _ _ _ (s₁.setTop (mkF m 1 #[.val (.ref y)] [(.ref y)]))
  obtain ⟨T691, X691, e691, st691⟩ := getF X0 hx hZ hown (host := "") (Or.inl (own_w hw 128 rfl)) Via.refl e0 Fy (g := (mkF m 1 #[.val (.ref y)] [(.ref y)])) rfl rfl (hb hby d20_1)
  refine own_go st691 ?_
  show own_Goes _ _ _ _ _ _ _ (T691.setTop (mkF m 4 #[.val (.ref y)] [(.ref o)]))
  refine own_go (fun _ ww => XT.ifnonnullYes X691.here hx rfl (pc0 := 4) (pc' := 11) rfl (hb hby d20_4) rfl (by decide) (by decide) ww) ?_
  show own_Goes _ _ _ _ _ _ _ (T691.setTop (mkF m 11 #[.val (.ref y)] []))
  refine own_go (fun _ ww => XS.iconst X691.here hx rfl (hb hby d20_11) ww) ?_
  show own_Goes _ _ _ _ _ _ _ (T691.setTop (mkF m 12 #[.val (.ref y)] [(.int (0 : Int32))]))
  exact own_out X691 hlk (v := some (.int (0 : Int32))) (fun h => by rw [hret] at h; cases h) (fun fs hr => retOut X691 hx (t := .boolean) hret (by decide) (Or.inl ⟨rfl, by simp, _, rfl⟩) (hb hby d20_12) hr) e691 ⟨rfl, N0, rfl⟩ (by decide) (by decide)
theorem ef_entry1 (m : MethodId) (y : Addr) (o : Addr) : entryFrame m #[(.ref y)] 1 = mkF m 0 #[.val (.ref y)] [] := by
  first | (simp [entryFrame, mkF, argsToLocals, Value.category]; done) | rfl
def Q_entry1 (Z : State) (y : Addr) (o : Addr) (h0 : Heap) (n0 : Nat) (v : Option Value) (h : Heap) (L : List Loc) : Prop := v = some (.ref o) ∧ Fr n0 L ∧ h = h0
set_option maxRecDepth 65536 in
set_option maxHeartbeats 40000000 in
theorem rm_entry1 (l : Launch) (Z : State) (a0 : Array Value) (hw : ∀ d ∈ tables_1, d.before a0 Z = true) (ws : List Jvm.Cond) (y : Addr) (o : Addr) (h0 : Heap) (n0 : Nat) (O0 : Old Z n0 h0) (Fy : Fld Z h0 y "com/example/navlint/navlint/model/State$Tab" "entry" "Lcom/example/navlint/navlint/model/Entry;" (.ref o)) :
    MetFree l own_y32 (head1 (Jvm.Cond.code own_y32 prog_104_method_3_code 1 (some (.object "com/example/navlint/navlint/model/Entry")) :: ws) ({ frames := 0, cells := 0, slots := 0, locals := 0 } : Room)) (fun av_ U => av_ = #[(.ref y)] ∧ Z.Warmed39 U.vm ∧ U.heap = h0) (fun _ _ _ _ _ => True) (fun _ U o_ U' => ∃ v L, o_ = .returned v ∧ Q_entry1 Z y o h0 n0 v U'.heap L ∧ FrameEnd U o_ U' L ({ frames := 0, cells := 0, slots := 0, locals := 0 } : Room).cells ({ frames := 0, cells := 0, slots := 0, locals := 0 } : Room).slots) := by
  refine MetFree.of_bodySF (plainFor_of_name pn_13) hisR ?_
  intro p e s m args below meth c s₁ Bd hml0 hP hK
  obtain ⟨rfl, hZ, hh⟩ := hP
  have hx := Bd.exec
  have hby := Bd.bytes
  have hml : c.maxLocals = 1 := hml0
  have hown : s.vm.findClass "com/example/navlint/navlint/model/State$Tab" = some m.cls := findClass_of_methodNamed Bd.named
  have hnm := (name_of_methodNamed Bd.named Bd.method).1
  have hlk := own_lk Bd
  have hret := Bd.returns
  have X0 : Stand p l e ({ frames := 0, cells := 0, slots := 0, locals := 0 } : Room) s m #[(.ref y)] below meth c s₁ [] 0 0 := Stand.of_body Bd
  have e0 : s₁.heap = h0 := by rw [← hh, Bd.state]; rfl
  have N0 := Fr.nil n0
  show own_Goes p e below s (Q_entry1 Z y o h0 n0) ({ frames := 0, cells := 0, slots := 0, locals := 0 } : Room).cells ({ frames := 0, cells := 0, slots := 0, locals := 0 } : Room).slots (s₁.setTop (entryFrame m #[(.ref y)] 1))
  refine own_go (fun _ ww => castTop (ef_entry1 m y o) ww) ?_
  show own_Goes _ _ _ _ _ _ _ (s₁.setTop (mkF m 0 #[.val (.ref y)] []))
  refine own_go (fun _ ww => XS.aloadN X0.here hx rfl (hb hby d21_0) rfl rfl ww) ?_
  show own_Goes _ _ _ _ _ _ _ (s₁.setTop (mkF m 1 #[.val (.ref y)] [(.ref y)]))
  obtain ⟨T692, X692, e692, st692⟩ := getF X0 hx hZ hown (host := "") (Or.inl (own_w hw 128 rfl)) Via.refl e0 Fy (g := (mkF m 1 #[.val (.ref y)] [(.ref y)])) rfl rfl (hb hby d21_1)
  refine own_go st692 ?_
  show own_Goes _ _ _ _ _ _ _ (T692.setTop (mkF m 4 #[.val (.ref y)] [(.ref o)]))
  exact own_out X692 hlk (v := some (.ref o)) (fun h => by rw [hret] at h; cases h) (fun fs hr => retOut X692 hx (t := (.object "com/example/navlint/navlint/model/Entry")) hret rfl (Or.inr (Or.inr (Or.inr (Or.inr ⟨rfl, rfl, rfl⟩)))) (hb hby d21_4) hr) e692 ⟨rfl, N0, rfl⟩ (by decide) (by decide)
theorem ef_law (m : MethodId) (x0 : Int32) (x1 : Int32) (aD : Addr) (kD : ClassId) (aL : Addr) (aM : Addr) (aX : Addr) (mr : Addr) (zc : Int32) : entryFrame m #[(.int x0), (.int x1)] maxLocals = mkF m 0 #[.val (.int x0), .val (.int x1), .unset, .unset, .unset, .unset, .unset, .unset, .unset] [] := by
  first | (simp [entryFrame, mkF, argsToLocals, Value.category, maxLocals]; done) | rfl
def Q_law (Z : State) (x0 : Int32) (x1 : Int32) (aD : Addr) (kD : ClassId) (aL : Addr) (aM : Addr) (aX : Addr) (mr : Addr) (zc : Int32) (h0 : Heap) (n0 : Nat) (v : Option Value) (h : Heap) (vm : Vm) (L : List Loc) : Prop := v = some (.int 1) ∧ Fr n0 L
set_option maxRecDepth 65536 in
set_option maxHeartbeats 40000000 in
theorem rm_law (l : Launch) (Z : State) (a0 : Array Value) (hw : ∀ d ∈ tables_1, d.before a0 Z = true) (ws : List Jvm.Cond) (x0 : Int32) (x1 : Int32) (aD : Addr) (kD : ClassId) (aL : Addr) (aM : Addr) (aX : Addr) (mr : Addr) (zc : Int32) (h0 : Heap) (n0 : Nat) (O0 : Old Z n0 h0) (SD : Sta Z Z.heap "java/util/ArrayList" "DEFAULTCAPACITY_EMPTY_ELEMENTDATA" "[Ljava/lang/Object;" (.ref aD)) (VD : Arv Z Z.heap aD kD (.object "java/lang/Object") (0 : Int32) [] .null) (SL : Sta Z Z.heap "java/util/ImmutableCollections" "EMPTY_LIST" "Ljava/util/ImmutableCollections$ListN;" (.ref aL)) (EL : Exa Z Z.heap aL "java/util/ImmutableCollections$ListN") (FL : Fld Z Z.heap aL "java/util/ImmutableCollections$ListN" "allowNulls" "Z" (.int (0 : Int32))) (SM : Sta Z Z.heap "java/util/ImmutableCollections" "EMPTY_MAP" "Ljava/util/ImmutableCollections$MapN;" (.ref aM)) (EM : Exa Z Z.heap aM "java/util/ImmutableCollections$MapN") (SX : Sta Z Z.heap "java/util/ImmutableCollections" "EMPTY" "Ljava/lang/Object;" (.ref aX)) (MK : Mir Z "[Ljava/lang/Object;" mr) (SC : Sta Z Z.heap "java/lang/String" "COMPACT_STRINGS" "Z" (.int zc)) (hzc : ¬ zc = 0) :
    MetFree l x (head1 (Jvm.Cond.code x code maxLocals ret :: ws) room_1) (fun av_ U => av_ = #[(.int x0), (.int x1)] ∧ Z.Warmed39 U.vm ∧ U.heap = h0 ∧ (fun vm_ : Vm => True) U.vm) (fun _ _ _ _ _ => True) (fun _ U o_ U' => ∃ v L, o_ = .returned v ∧ Q_law Z x0 x1 aD kD aL aM aX mr zc h0 n0 v U'.heap U'.vm L ∧ ReturnedEndW U o_ U' L room_1.cells room_1.slots) := by
  refine MetFree.of_bodySF (plainFor_of_name pn_14) hisR ?_
  intro p e s m args below meth c s₁ Bd hml0 hP hK
  obtain ⟨rfl, hZ, hh, hVI⟩ := hP
  have hZ : Z.Warmed39 (s.setVm s.vm).vm := hZ
  have hx := Bd.exec
  have hby := Bd.bytes
  have hml : c.maxLocals = 9 := hml0
  have hown : (s.setVm s.vm).vm.findClass "com/example/navlint/navlint/model/TabWaitsPinLaw" = some m.cls := findClass_of_methodNamed Bd.named
  have hnm := (name_of_methodNamed Bd.named Bd.method).1
  have hlk := own_lk Bd
  have hret := Bd.returns
  have X0 : Stand p l e room_1 (s.setVm s.vm) m #[(.int x0), (.int x1)] below meth c s₁ [] 0 0 := Stand.of_body Bd
  have e0 : s₁.heap = h0 := by rw [← hh, Bd.state]; rfl
  have N0 := Fr.nil n0
  have hS : s.Since s.vm h0.size := (State.WarmedH.refl s).since _
  have hk : h0.size ≤ h0.size := Nat.le_refl _
  show own_GoesW p e below s (Q_law Z x0 x1 aD kD aL aM aX mr zc h0 n0) room_1.cells room_1.slots (s₁.setTop (entryFrame m #[(.int x0), (.int x1)] maxLocals))
  refine own_goW (fun _ ww => castTop (ef_law m x0 x1 aD kD aL aM aX mr zc) ww) ?_
  show own_GoesW _ _ _ _ _ _ _ (s₁.setTop (mkF m 0 #[.val (.int x0), .val (.int x1), .unset, .unset, .unset, .unset, .unset, .unset, .unset] []))
  refine own_goW (fun _ ww => XS.iconst X0.here hx rfl (hb hby at_0) ww) ?_
  show own_GoesW _ _ _ _ _ _ _ (s₁.setTop (mkF m 1 #[.val (.int x0), .val (.int x1), .unset, .unset, .unset, .unset, .unset, .unset, .unset] [(.int (1 : Int32))]))
  obtain ⟨T693, h693, k693, X693, e693, E693, A693, st693⟩ := newP X0 hx hZ (own_w hw 0 rfl) e0 (g := (mkF m 1 #[.val (.int x0), .val (.int x1), .unset, .unset, .unset, .unset, .unset, .unset, .unset] [(.int (1 : Int32))])) rfl (hb hby at_1) rfl (by decide) (cap := 1) (by decide) (by decide) (by decide) (by decide)
  obtain ⟨b693, g693⟩ : ∃ z, z = h0.size := ⟨_, rfl⟩
  rw [← g693] at A693 st693
  have g_b693 : n0 ≤ b693 := Nat.le_trans (O0.1 ▸ O0.2.1) (Nat.le_of_eq g693.symm)
  have O693 := O0.ext E693
  have hk := Nat.le_trans hk E693.1
  have V693 : Arv Z h693 b693 k693 .char (1 : Int32) [(.int (0 : Int32))] (.int (0 : Int32)) := (Arv.new A693 (by decide)).pad (pad_rep [] (.int (0 : Int32)) 1)
  refine own_goW st693 ?_
  show own_GoesW _ _ _ _ _ _ _ (T693.setTop (mkF m 3 #[.val (.int x0), .val (.int x1), .unset, .unset, .unset, .unset, .unset, .unset, .unset] [(.ref b693)]))
  refine own_goW (fun _ ww => XS.dup X693.here hx rfl (hb hby at_3) rfl rfl ww) ?_
  show own_GoesW _ _ _ _ _ _ _ (T693.setTop (mkF m 4 #[.val (.int x0), .val (.int x1), .unset, .unset, .unset, .unset, .unset, .unset, .unset] [(.ref b693), (.ref b693)]))
  refine own_goW (fun _ ww => XS.iconst X693.here hx rfl (hb hby at_4) ww) ?_
  show own_GoesW _ _ _ _ _ _ _ (T693.setTop (mkF m 5 #[.val (.int x0), .val (.int x1), .unset, .unset, .unset, .unset, .unset, .unset, .unset] [(.int (0 : Int32)), (.ref b693), (.ref b693)]))
  refine own_goW (fun _ ww => XS.iloadN X693.here hx rfl (hb hby at_5) rfl  ww) ?_
  show own_GoesW _ _ _ _ _ _ _ (T693.setTop (mkF m 6 #[.val (.int x0), .val (.int x1), .unset, .unset, .unset, .unset, .unset, .unset, .unset] [(.int x1), (.int (0 : Int32)), (.ref b693), (.ref b693)]))
  refine own_goW (fun _ ww => XS.sipush X693.here hx rfl (hb hby at_6) ww) ?_
  show own_GoesW _ _ _ _ _ _ _ (T693.setTop (mkF m 9 #[.val (.int x0), .val (.int x1), .unset, .unset, .unset, .unset, .unset, .unset, .unset] [(.int (255 : Int32)), (.int x1), (.int (0 : Int32)), (.ref b693), (.ref b693)]))
  refine own_goW (fun _ ww => XS.iand X693.here hx rfl (hb hby at_9) rfl ww) ?_
  show own_GoesW _ _ _ _ _ _ _ (T693.setTop (mkF m 10 #[.val (.int x0), .val (.int x1), .unset, .unset, .unset, .unset, .unset, .unset, .unset] [(.int (x1 &&& (255 : Int32))), (.int (0 : Int32)), (.ref b693), (.ref b693)]))
  refine own_goW (fun _ ww => XT.i2c X693.here hx rfl (hb hby at_10) rfl ww) ?_
  show own_GoesW _ _ _ _ _ _ _ (T693.setTop (mkF m 11 #[.val (.int x0), .val (.int x1), .unset, .unset, .unset, .unset, .unset, .unset, .unset] [(.int ((x1 &&& (255 : Int32)).toUInt32.toUInt16.toUInt32.toInt32)), (.int (0 : Int32)), (.ref b693), (.ref b693)]))
  obtain ⟨c0, hc0⟩ : ∃ z, z = ((x1 &&& (255 : Int32)).toUInt32.toUInt16.toUInt32.toInt32) := ⟨_, rfl⟩
  have bc0 : ¬ c0 < 0 ∧ ¬ (255 : Int32) < c0 := by rw [hc0]; exact own_chr _
  rw [← hc0]
  show own_GoesW _ _ _ _ _ _ _ (T693.setTop (mkF m 11 #[.val (.int x0), .val (.int x1), .unset, .unset, .unset, .unset, .unset, .unset, .unset] [(.int c0), (.int (0 : Int32)), (.ref b693), (.ref b693)]))
  obtain ⟨cl694, Ar694, q694, S694, M694, H694, U694⟩ := id V693
  obtain ⟨T694, h694, X694, e694, W694, st694⟩ := stC X693 hx hZ e693 Ar694 (j := (0 : Int32)) (inb_of S694 ⟨by decide, by decide⟩) (g := (mkF m 11 #[.val (.int x0), .val (.int x1), .unset, .unset, .unset, .unset, .unset, .unset, .unset] [(.int c0), (.int (0 : Int32)), (.ref b693), (.ref b693)])) rfl rfl (hb hby at_11)
  have nr694 : nar .char c0 = c0 := (own_narc bc0)
  rw [nr694] at W694
  have ft694 : fits .char (.int c0) = true := by have q := fits_nar_char c0; rw [nr694] at q; exact q
  have f695 : Arv Z h694 b693 k693 .char (1 : Int32) [(.int c0)] (.int (0 : Int32)) := (Arv.set Ar694 q694 S694 M694 H694 U694 ft694 W694 0 rfl (Nat.le_of_ble_eq_true rfl))
  have hk := Nat.le_trans hk (Keep.of_wr W694).1
  have N694 := Fr.snoc X694 N0 g_b693
  have O694 := O693.wr W694 g_b693
  refine own_goW st694 ?_
  show own_GoesW _ _ _ _ _ _ _ (T694.setTop (mkF m 12 #[.val (.int x0), .val (.int x1), .unset, .unset, .unset, .unset, .unset, .unset, .unset] [(.ref b693)]))
  refine own_goW (fun _ ww => XS.astoreN X694.here hx rfl (hb hby at_12) rfl rfl (l' := #[.val (.int x0), .val (.int x1), .val (.ref b693), .unset, .unset, .unset, .unset, .unset, .unset]) rfl ww) ?_
  show own_GoesW _ _ _ _ _ _ _ (T694.setTop (mkF m 13 #[.val (.int x0), .val (.int x1), .val (.ref b693), .unset, .unset, .unset, .unset, .unset, .unset] []))
  obtain ⟨T696, h696, X696, e696, E696, A696, D696, -, st696⟩ := newO X694 hx hZ hown (own_w hw 1 rfl) (own_w hw 2 rfl) (own_w hw 3 rfl) e694 (g := (mkF m 13 #[.val (.int x0), .val (.int x1), .val (.ref b693), .unset, .unset, .unset, .unset, .unset, .unset] [])) rfl (hb hby at_13) (by decide) (by decide)
  obtain ⟨b696, g696⟩ : ∃ z, z = h694.size := ⟨_, rfl⟩
  rw [← g696] at A696 D696 st696
  have ne_b693_b696 : b693 ≠ b696 := Nat.ne_of_lt (Nat.lt_of_lt_of_le f695.lt (Nat.le_of_eq g696.symm))
  have g_b696 : n0 ≤ b696 := Nat.le_trans (O694.1 ▸ O694.2.1) (Nat.le_of_eq g696.symm)
  have f697 : Arv Z h696 b693 k693 .char (1 : Int32) [(.int c0)] (.int (0 : Int32)) := (Arv.ext f695 E696)
  have O696 := O694.ext E696
  have hk := Nat.le_trans hk E696.1
  have f698 : Fld Z h696 b696 "com/example/navlint/navlint/model/Entry" "page" "Ljava/lang/String;" .null := D696 (Or.inr (own_w hw 81 rfl)) (ty := (.object "java/lang/String")) (by decide)
  have f699 : Fld Z h696 b696 "com/example/navlint/navlint/model/Entry" "links" "Ljava/util/List;" .null := D696 (Or.inr (own_w hw 111 rfl)) (ty := (.object "java/util/List")) (by decide)
  have f700 : Fld Z h696 b696 "com/example/navlint/navlint/model/Entry" "snapshot" "Ljava/util/Map;" .null := D696 (Or.inr (own_w hw 118 rfl)) (ty := (.object "java/util/Map")) (by decide)
  have f701 : Fld Z h696 b696 "com/example/navlint/navlint/model/Entry" "request" "Lcom/example/navlint/navlint/model/Request;" .null := D696 (Or.inr (own_w hw 120 rfl)) (ty := (.object "com/example/navlint/navlint/model/Request")) (by decide)
  refine own_goW st696 ?_
  show own_GoesW _ _ _ _ _ _ _ (T696.setTop (mkF m 16 #[.val (.int x0), .val (.int x1), .val (.ref b693), .unset, .unset, .unset, .unset, .unset, .unset] [(.ref b696)]))
  refine own_goW (fun _ ww => XS.dup X696.here hx rfl (hb hby at_16) rfl rfl ww) ?_
  show own_GoesW _ _ _ _ _ _ _ (T696.setTop (mkF m 17 #[.val (.int x0), .val (.int x1), .val (.ref b693), .unset, .unset, .unset, .unset, .unset, .unset] [(.ref b696), (.ref b696)]))
  obtain ⟨T702, h702, X702, e702, E702, A702, D702, -, st702⟩ := newO X696 hx hZ hown (own_w hw 4 rfl) (own_w hw 5 rfl) (own_w hw 6 rfl) e696 (g := (mkF m 17 #[.val (.int x0), .val (.int x1), .val (.ref b693), .unset, .unset, .unset, .unset, .unset, .unset] [(.ref b696), (.ref b696)])) rfl (hb hby at_17) (by decide) (by decide)
  obtain ⟨b702, g702⟩ : ∃ z, z = h696.size := ⟨_, rfl⟩
  rw [← g702] at A702 D702 st702
  have ne_b693_b702 : b693 ≠ b702 := Nat.ne_of_lt (Nat.lt_of_lt_of_le f697.lt (Nat.le_of_eq g702.symm))
  have ne_b696_b702 : b696 ≠ b702 := Nat.ne_of_lt (Nat.lt_of_lt_of_le f698.lt (Nat.le_of_eq g702.symm))
  have g_b702 : n0 ≤ b702 := Nat.le_trans (O696.1 ▸ O696.2.1) (Nat.le_of_eq g702.symm)
  have f703 : Arv Z h702 b693 k693 .char (1 : Int32) [(.int c0)] (.int (0 : Int32)) := (Arv.ext f697 E702)
  have f704 := (f698.ext E702)
  have f705 := (f699.ext E702)
  have f706 := (f700.ext E702)
  have f707 := (f701.ext E702)
  have f708 := (A696.ext E702)
  have O702 := O696.ext E702
  have hk := Nat.le_trans hk E702.1
  have f709 : Fld Z h702 b702 "java/lang/String" "coder" "B" (.int (0 : Int32)) := D702 (Or.inr (own_w hw 30 rfl)) (ty := .byte) (by decide)
  have f710 : Fld Z h702 b702 "java/lang/String" "value" "[B" .null := D702 (Or.inr (own_w hw 32 rfl)) (ty := (.array .byte)) (by decide)
  refine own_goW st702 ?_
  show own_GoesW _ _ _ _ _ _ _ (T702.setTop (mkF m 20 #[.val (.int x0), .val (.int x1), .val (.ref b693), .unset, .unset, .unset, .unset, .unset, .unset] [(.ref b702), (.ref b696), (.ref b696)]))
  refine own_goW (fun _ ww => XS.dup X702.here hx rfl (hb hby at_20) rfl rfl ww) ?_
  show own_GoesW _ _ _ _ _ _ _ (T702.setTop (mkF m 21 #[.val (.int x0), .val (.int x1), .val (.ref b693), .unset, .unset, .unset, .unset, .unset, .unset] [(.ref b702), (.ref b702), (.ref b696), (.ref b696)]))
  refine own_goW (fun _ ww => XS.aloadN X702.here hx rfl (hb hby at_21) rfl rfl ww) ?_
  show own_GoesW _ _ _ _ _ _ _ (T702.setTop (mkF m 22 #[.val (.int x0), .val (.int x1), .val (.ref b693), .unset, .unset, .unset, .unset, .unset, .unset] [(.ref b693), (.ref b702), (.ref b702), (.ref b696), (.ref b696)]))
  have hp_b702 : ∀ c ∈ ([c0] : List Int32), ¬ c < 0 ∧ ¬ (255 : Int32) < c := (own_allc bc0 (fun _ q => nomatch q))
  obtain ⟨_, _, ⟨T711, L711, k711, n711⟩, -, X711, ⟨Lc711, hQ711, l711, y711, z711⟩, st711⟩ := X702.specialBack hx (y := own_y33) rfl hown (mvT hZ (own_w hw 7 rfl)) (mvT hZ (own_w hw 8 rfl)) (mvT hZ (own_w hw 9 rfl)) (by decide) (StrChars.Road.backV (W := 3) hZ (own_words hw) (kI := 4) (own_w hw 5 rfl) (cs := ([c0] : List Int32)) (bs := (([c0] : List Int32)).map (fun c => c.toInt8.toInt32)) (n := 1) g_b702 (own_ns O702) A702 f710 f709 f703 (SC.ext O702.2) hzc rfl rfl (by decide) (by decide) hp_b702 rfl (by decide) (by decide)) (g := (mkF m 22 #[.val (.int x0), .val (.int x1), .val (.ref b693), .unset, .unset, .unset, .unset, .unset, .unset] [(.ref b693), (.ref b702), (.ref b702), (.ref b696), (.ref b696)])) rfl (by rw [hml]; rfl) (Steps.refl _) (a := b702) (argsL := [(.ref b693)]) (rest := [(.ref b702), (.ref b696), (.ref b696)]) (lenOf pd_16 rfl) rfl (by show 2 * 0 + _ ≤ _; exact Nat.le_of_eq rfl) (hb hby at_22) (fun _ _ => ⟨rfl, e702, (by decide : 3 + 1 ≤ _), (by decide : 10 + 1 ≤ _)⟩)
  dsimp only [Pt.U, Pt.locs, Pt.cells, Pt.slots] at X711 l711 y711 z711 st711 hQ711
  subst l711 y711 z711
  obtain ⟨rfl, N711q, K711q, E711q, C711q, t711, kb711, -, G711q, -, V711q, A711q⟩ := hQ711
  have N711 := Fr.app N694 N711q
  have hk := Nat.le_trans hk (own_ks K711q)
  have ne_b693_t711 : b693 ≠ t711 := Nat.ne_of_lt (Nat.lt_of_lt_of_le f703.lt G711q)
  have ne_b696_t711 : b696 ≠ t711 := Nat.ne_of_lt (Nat.lt_of_lt_of_le f704.lt G711q)
  have ne_b702_t711 : b702 ≠ t711 := Nat.ne_of_lt (Nat.lt_of_lt_of_le f709.lt G711q)
  have g_t711 : n0 ≤ t711 := Nat.le_trans (O702.1 ▸ O702.2.1) G711q
  have f712 : Arv Z T711.heap b693 k693 .char (1 : Int32) [(.int c0)] (.int (0 : Int32)) := (f703.keep K711q (ninS ne_b693_b702 nin0))
  have f713 := (f704.keep K711q (ninS ne_b696_b702 nin0))
  have f714 := (f705.keep K711q (ninS ne_b696_b702 nin0))
  have f715 := (f706.keep K711q (ninS ne_b696_b702 nin0))
  have f716 := (f707.keep K711q (ninS ne_b696_b702 nin0))
  have f717 := (f708.keep K711q)
  have f718 := (A702.keep K711q)
  have O711 := O702.keep K711q (allS g_b702 all0)
  refine own_goW (fun _ ww => Steps.trans st711 ww) ?_
  show own_GoesW _ _ _ _ _ _ _ (T711.setTop (mkF m 25 #[.val (.int x0), .val (.int x1), .val (.ref b693), .unset, .unset, .unset, .unset, .unset, .unset] [(.ref b702), (.ref b696), (.ref b696)]))
  obtain ⟨T719, h719, X719, e719, E719, A719, D719, -, st719⟩ := newO X711 hx hZ hown (own_w hw 33 rfl) (own_w hw 34 rfl) (own_w hw 35 rfl) rfl (g := (mkF m 25 #[.val (.int x0), .val (.int x1), .val (.ref b693), .unset, .unset, .unset, .unset, .unset, .unset] [(.ref b702), (.ref b696), (.ref b696)])) rfl (hb hby at_25) (by decide) (by decide)
  obtain ⟨b719, g719⟩ : ∃ z, z = T711.heap.size := ⟨_, rfl⟩
  rw [← g719] at A719 D719 st719
  have ne_b696_b719 : b696 ≠ b719 := Nat.ne_of_lt (Nat.lt_of_lt_of_le f713.lt (Nat.le_of_eq g719.symm))
  have ne_b702_b719 : b702 ≠ b719 := Nat.ne_of_lt (Nat.lt_of_lt_of_le f718.lt (Nat.le_of_eq g719.symm))
  have g_b719 : n0 ≤ b719 := Nat.le_trans (O711.1 ▸ O711.2.1) (Nat.le_of_eq g719.symm)
  have f720 := (f713.ext E719)
  have f721 := (f714.ext E719)
  have f722 := (f715.ext E719)
  have f723 := (f716.ext E719)
  have f724 := (f717.ext E719)
  have f725 := (f718.ext E719)
  have O719 := O711.ext E719
  have hk := Nat.le_trans hk E719.1
  have f726 : Fld Z h719 b719 "java/util/AbstractList" "modCount" "I" (.int (0 : Int32)) := D719 (Or.inl (own_w hw 53 rfl)) (ty := .int) (by decide)
  have f727 : Fld Z h719 b719 "java/util/ArrayList" "elementData" "[Ljava/lang/Object;" .null := D719 (Or.inl (own_w hw 56 rfl)) (ty := (.array (.object "java/lang/Object"))) (by decide)
  have f728 : Fld Z h719 b719 "java/util/ArrayList" "size" "I" (.int (0 : Int32)) := D719 (Or.inl (own_w hw 105 rfl)) (ty := .int) (by decide)
  refine own_goW st719 ?_
  show own_GoesW _ _ _ _ _ _ _ (T719.setTop (mkF m 28 #[.val (.int x0), .val (.int x1), .val (.ref b693), .unset, .unset, .unset, .unset, .unset, .unset] [(.ref b719), (.ref b702), (.ref b696), (.ref b696)]))
  refine own_goW (fun _ ww => XS.dup X719.here hx rfl (hb hby at_28) rfl rfl ww) ?_
  show own_GoesW _ _ _ _ _ _ _ (T719.setTop (mkF m 29 #[.val (.int x0), .val (.int x1), .val (.ref b693), .unset, .unset, .unset, .unset, .unset, .unset] [(.ref b719), (.ref b719), (.ref b702), (.ref b696), (.ref b696)]))
  obtain ⟨_, _, ⟨T729, L729, k729, n729⟩, -, X729, ⟨Lc729, hQ729, l729, y729, z729⟩, st729⟩ := X719.specialBack hx (y := own_y5) rfl hown (mvT hZ (own_w hw 36 rfl)) (mvT hZ (own_w hw 37 rfl)) (mvT hZ (own_w hw 38 rfl)) (by decide) (backOf (W := 4) (rm_alinit l Z a0 hw [] b719 aD h719 n0 O719 f726 f727 f728 A719 g_b719 SD) hZ (own_w hw 38 rfl) (own_w hw 35 rfl) (by decide) (by decide)) (g := (mkF m 29 #[.val (.int x0), .val (.int x1), .val (.ref b693), .unset, .unset, .unset, .unset, .unset, .unset] [(.ref b719), (.ref b719), (.ref b702), (.ref b696), (.ref b696)])) rfl (by rw [hml]; rfl) (Steps.refl _) (a := b719) (argsL := []) (rest := [(.ref b719), (.ref b702), (.ref b696), (.ref b696)]) (lenOf pd_0 rfl) rfl (by show 2 * 0 + _ ≤ _; exact Nat.le_of_eq rfl) (hb hby at_29) (fun _ _ => ⟨rfl, e719, (by decide : 5 + 0 ≤ _), (by decide : 14 + 0 ≤ _)⟩)
  dsimp only [Pt.U, Pt.locs, Pt.cells, Pt.slots] at X729 l729 y729 z729 st729 hQ729
  subst l729 y729 z729
  obtain ⟨rfl, N729q, K729q, P729, Q729, R729⟩ := hQ729
  have N729 := Fr.app N711 N729q
  have hk := Nat.le_trans hk (own_ks K729q)
  have f730 := (f720.keep K729q (ninS ne_b696_b719 nin0))
  have f731 := (f721.keep K729q (ninS ne_b696_b719 nin0))
  have f732 := (f722.keep K729q (ninS ne_b696_b719 nin0))
  have f733 := (f723.keep K729q (ninS ne_b696_b719 nin0))
  have f734 := (f724.keep K729q)
  have f735 := (f725.keep K729q)
  have f736 := (A719.keep K729q)
  have O729 := O719.keep K729q (allS g_b719 all0)
  refine own_goW (fun _ ww => Steps.trans st729 ww) ?_
  show own_GoesW _ _ _ _ _ _ _ (T729.setTop (mkF m 32 #[.val (.int x0), .val (.int x1), .val (.ref b693), .unset, .unset, .unset, .unset, .unset, .unset] [(.ref b719), (.ref b702), (.ref b696), (.ref b696)]))
  obtain ⟨_, _, ⟨T737, L737, k737, n737⟩, -, X737, ⟨Lc737, hQ737, l737, y737, z737⟩, st737⟩ := Jvm.LawKit.callS X729 hx (y := own_y25) hown (mvT hZ (own_w hw 57 rfl)) (mvT hZ (own_w hw 58 rfl)) (mvT hZ (own_w hw 59 rfl)) (mvT hZ (own_w hw 60 rfl)) (by decide) (backOf (W := 4) (rm_mof l Z a0 hw [] aM T729.heap n0 O729 SM) hZ (own_w hw 60 rfl) (own_w hw 59 rfl) (by decide) (by decide)) (g := (mkF m 32 #[.val (.int x0), .val (.int x1), .val (.ref b693), .unset, .unset, .unset, .unset, .unset, .unset] [(.ref b719), (.ref b702), (.ref b696), (.ref b696)])) rfl (by rw [hml]; rfl) (argsL := []) (rest := [(.ref b719), (.ref b702), (.ref b696), (.ref b696)]) (lenOf pd_17 rfl) rfl (by show 2 * 0 + _ ≤ _; exact Nat.le_of_eq rfl) (hb hby at_32) (fun _ _ => ⟨rfl, rfl, (by decide : 5 + 0 ≤ _), (by decide : 14 + 0 ≤ _)⟩)
  dsimp only [Pt.U, Pt.locs, Pt.cells, Pt.slots] at X737 l737 y737 z737 st737 hQ737
  subst l737 y737 z737
  obtain ⟨rfl, N737q, e737⟩ := hQ737
  have N737 := Fr.app N729 N737q
  refine own_goW st737 ?_
  show own_GoesW _ _ _ _ _ _ _ (T737.setTop (mkF m 35 #[.val (.int x0), .val (.int x1), .val (.ref b693), .unset, .unset, .unset, .unset, .unset, .unset] [(.ref aM), (.ref b719), (.ref b702), (.ref b696), (.ref b696)]))
  refine own_goW (fun _ ww => XS.aconstNull X737.here hx rfl (hb hby at_35) ww) ?_
  show own_GoesW _ _ _ _ _ _ _ (T737.setTop (mkF m 36 #[.val (.int x0), .val (.int x1), .val (.ref b693), .unset, .unset, .unset, .unset, .unset, .unset] [.null, (.ref aM), (.ref b719), (.ref b702), (.ref b696), (.ref b696)]))
  obtain ⟨_, _, ⟨T738, L738, k738, n738⟩, -, X738, hS738, hg738, ⟨Lc738, hQ738, l738, y738, z738⟩, st738⟩ := X737.specialBackS hx (y := own_y27) rfl hown (mvT hZ (own_w hw 63 rfl)) (mvT hZ (own_w hw 64 rfl)) (mvT hZ (own_w hw 65 rfl)) (by decide) (own_backV (W := 1) (rm_eni l Z a0 hw [] b696 b702 b719 aL aM T729.heap n0 O729 f730 f731 f732 f733 f734 g_b696 f735 R729 f736 SL SM EM (Ne.symm ne_b696_b719)) hZ (fun _ _ => trivial) (own_w hw 65 rfl) (own_w hw 3 rfl) (by decide) (by decide)) (g := (mkF m 36 #[.val (.int x0), .val (.int x1), .val (.ref b693), .unset, .unset, .unset, .unset, .unset, .unset] [.null, (.ref aM), (.ref b719), (.ref b702), (.ref b696), (.ref b696)])) rfl (by rw [hml]; rfl) (Steps.refl _) (a := b696) (argsL := [(.ref b702), (.ref b719), (.ref aM), .null]) (rest := [(.ref b696)]) (lenOf pd_18 rfl) rfl (by show 2 * 0 + _ ≤ _; exact Nat.le_of_eq rfl) (hb hby at_36) (fun _ _ => ⟨rfl, e737, (by decide : 5 + 2 ≤ _), (by decide : 14 + 20 ≤ _)⟩)
  dsimp only [Pt.U, Pt.locs, Pt.cells, Pt.slots] at X738 l738 y738 z738 st738 hQ738 hS738 hg738
  subst l738 y738 z738
  obtain ⟨X738, hS, hZ, hown⟩ := rebS hS (show _ ≤ T737.heap.size from (by rw [e737]; exact hk)) X738 hS738 hg738 hZ hown
  obtain ⟨rfl, N738q, K738q⟩ := hQ738
  have N738 := Fr.app N737 N738q
  have hk : T738.heap.size ≤ T738.heap.size := Nat.le_refl _
  have f739 := (f734.keep K738q)
  have f740 := (f735.keep K738q)
  have f741 := (f736.keep K738q)
  have f742 := (P729.keep K738q (ninS (Ne.symm ne_b696_b719) nin0))
  have f743 := (Q729.keep K738q (ninS (Ne.symm ne_b696_b719) nin0))
  have f744 := (R729.keep K738q (ninS (Ne.symm ne_b696_b719) nin0))
  have O738 := O729.keep K738q (allS g_b696 all0)
  refine own_goW (fun _ ww => Steps.trans st738 ww) ?_
  show own_GoesW _ _ _ _ _ _ _ (T738.setTop (mkF m 39 #[.val (.int x0), .val (.int x1), .val (.ref b693), .unset, .unset, .unset, .unset, .unset, .unset] [(.ref b696)]))
  refine own_goW (fun _ ww => XS.astoreN X738.here hx rfl (hb hby at_39) rfl rfl (l' := #[.val (.int x0), .val (.int x1), .val (.ref b693), .val (.ref b696), .unset, .unset, .unset, .unset, .unset]) rfl ww) ?_
  show own_GoesW _ _ _ _ _ _ _ (T738.setTop (mkF m 40 #[.val (.int x0), .val (.int x1), .val (.ref b693), .val (.ref b696), .unset, .unset, .unset, .unset, .unset] []))
  obtain ⟨T745, h745, X745, e745, E745, A745, D745, -, st745⟩ := newO X738 hx hZ hown (own_w hw 33 rfl) (own_w hw 34 rfl) (own_w hw 35 rfl) rfl (g := (mkF m 40 #[.val (.int x0), .val (.int x1), .val (.ref b693), .val (.ref b696), .unset, .unset, .unset, .unset, .unset] [])) rfl (hb hby at_40) (by decide) (by decide)
  obtain ⟨b745, g745⟩ : ∃ z, z = T738.heap.size := ⟨_, rfl⟩
  rw [← g745] at A745 D745 st745
  have ne_b696_b745 : b696 ≠ b745 := Nat.ne_of_lt (Nat.lt_of_lt_of_le f739.lt (Nat.le_of_eq g745.symm))
  have g_b745 : n0 ≤ b745 := Nat.le_trans (O738.1 ▸ O738.2.1) (Nat.le_of_eq g745.symm)
  have f746 := (f739.ext E745)
  have O745 := O738.ext E745
  have hk := Nat.le_trans hk E745.1
  have f747 : Fld Z h745 b745 "java/util/AbstractList" "modCount" "I" (.int (0 : Int32)) := D745 (Or.inl (own_w hw 53 rfl)) (ty := .int) (by decide)
  have f748 : Fld Z h745 b745 "java/util/ArrayList" "elementData" "[Ljava/lang/Object;" .null := D745 (Or.inl (own_w hw 56 rfl)) (ty := (.array (.object "java/lang/Object"))) (by decide)
  have f749 : Fld Z h745 b745 "java/util/ArrayList" "size" "I" (.int (0 : Int32)) := D745 (Or.inl (own_w hw 105 rfl)) (ty := .int) (by decide)
  refine own_goW st745 ?_
  show own_GoesW _ _ _ _ _ _ _ (T745.setTop (mkF m 43 #[.val (.int x0), .val (.int x1), .val (.ref b693), .val (.ref b696), .unset, .unset, .unset, .unset, .unset] [(.ref b745)]))
  refine own_goW (fun _ ww => XS.dup X745.here hx rfl (hb hby at_43) rfl rfl ww) ?_
  show own_GoesW _ _ _ _ _ _ _ (T745.setTop (mkF m 44 #[.val (.int x0), .val (.int x1), .val (.ref b693), .val (.ref b696), .unset, .unset, .unset, .unset, .unset] [(.ref b745), (.ref b745)]))
  obtain ⟨_, _, ⟨T750, L750, k750, n750⟩, -, X750, ⟨Lc750, hQ750, l750, y750, z750⟩, st750⟩ := X745.specialBack hx (y := own_y5) rfl hown (mvT hZ (own_w hw 36 rfl)) (mvT hZ (own_w hw 37 rfl)) (mvT hZ (own_w hw 38 rfl)) (by decide) (backOf (W := 1) (rm_alinit l Z a0 hw [] b745 aD h745 n0 O745 f747 f748 f749 A745 g_b745 SD) hZ (own_w hw 38 rfl) (own_w hw 35 rfl) (by decide) (by decide)) (g := (mkF m 44 #[.val (.int x0), .val (.int x1), .val (.ref b693), .val (.ref b696), .unset, .unset, .unset, .unset, .unset] [(.ref b745), (.ref b745)])) rfl (by rw [hml]; rfl) (Steps.refl _) (a := b745) (argsL := []) (rest := [(.ref b745)]) (lenOf pd_0 rfl) rfl (by show 2 * 0 + _ ≤ _; exact Nat.le_of_eq rfl) (hb hby at_44) (fun _ _ => ⟨rfl, e745, (by decide : 8 + 0 ≤ _), (by decide : 37 + 0 ≤ _)⟩)
  dsimp only [Pt.U, Pt.locs, Pt.cells, Pt.slots] at X750 l750 y750 z750 st750 hQ750
  subst l750 y750 z750
  obtain ⟨rfl, N750q, K750q, P750, Q750, R750⟩ := hQ750
  have N750 := Fr.app N738 N750q
  have hk := Nat.le_trans hk (own_ks K750q)
  have f751 := (f746.keep K750q)
  have f752 := (A745.keep K750q)
  have O750 := O745.keep K750q (allS g_b745 all0)
  refine own_goW (fun _ ww => Steps.trans st750 ww) ?_
  show own_GoesW _ _ _ _ _ _ _ (T750.setTop (mkF m 47 #[.val (.int x0), .val (.int x1), .val (.ref b693), .val (.ref b696), .unset, .unset, .unset, .unset, .unset] [(.ref b745)]))
  refine own_goW (fun _ ww => XS.astore X750.here hx rfl (hb hby at_47) rfl rfl (l' := #[.val (.int x0), .val (.int x1), .val (.ref b693), .val (.ref b696), .val (.ref b745), .unset, .unset, .unset, .unset]) rfl ww) ?_
  show own_GoesW _ _ _ _ _ _ _ (T750.setTop (mkF m 49 #[.val (.int x0), .val (.int x1), .val (.ref b693), .val (.ref b696), .val (.ref b745), .unset, .unset, .unset, .unset] []))
  obtain ⟨T753, h753, X753, e753, E753, A753, D753, -, st753⟩ := newO X750 hx hZ hown (own_w hw 33 rfl) (own_w hw 34 rfl) (own_w hw 35 rfl) rfl (g := (mkF m 49 #[.val (.int x0), .val (.int x1), .val (.ref b693), .val (.ref b696), .val (.ref b745), .unset, .unset, .unset, .unset] [])) rfl (hb hby at_49) (by decide) (by decide)
  obtain ⟨b753, g753⟩ : ∃ z, z = T750.heap.size := ⟨_, rfl⟩
  rw [← g753] at A753 D753 st753
  have ne_b696_b753 : b696 ≠ b753 := Nat.ne_of_lt (Nat.lt_of_lt_of_le f751.lt (Nat.le_of_eq g753.symm))
  have ne_b745_b753 : b745 ≠ b753 := Nat.ne_of_lt (Nat.lt_of_lt_of_le f752.lt (Nat.le_of_eq g753.symm))
  have g_b753 : n0 ≤ b753 := Nat.le_trans (O750.1 ▸ O750.2.1) (Nat.le_of_eq g753.symm)
  have f754 := (f751.ext E753)
  have f755 := (f752.ext E753)
  have f756 := (P750.ext E753)
  have f757 := (Q750.ext E753)
  have f758 := (R750.ext E753)
  have O753 := O750.ext E753
  have hk := Nat.le_trans hk E753.1
  have f759 : Fld Z h753 b753 "java/util/AbstractList" "modCount" "I" (.int (0 : Int32)) := D753 (Or.inl (own_w hw 53 rfl)) (ty := .int) (by decide)
  have f760 : Fld Z h753 b753 "java/util/ArrayList" "elementData" "[Ljava/lang/Object;" .null := D753 (Or.inl (own_w hw 56 rfl)) (ty := (.array (.object "java/lang/Object"))) (by decide)
  have f761 : Fld Z h753 b753 "java/util/ArrayList" "size" "I" (.int (0 : Int32)) := D753 (Or.inl (own_w hw 105 rfl)) (ty := .int) (by decide)
  refine own_goW st753 ?_
  show own_GoesW _ _ _ _ _ _ _ (T753.setTop (mkF m 52 #[.val (.int x0), .val (.int x1), .val (.ref b693), .val (.ref b696), .val (.ref b745), .unset, .unset, .unset, .unset] [(.ref b753)]))
  refine own_goW (fun _ ww => XS.dup X753.here hx rfl (hb hby at_52) rfl rfl ww) ?_
  show own_GoesW _ _ _ _ _ _ _ (T753.setTop (mkF m 53 #[.val (.int x0), .val (.int x1), .val (.ref b693), .val (.ref b696), .val (.ref b745), .unset, .unset, .unset, .unset] [(.ref b753), (.ref b753)]))
  obtain ⟨_, _, ⟨T762, L762, k762, n762⟩, -, X762, ⟨Lc762, hQ762, l762, y762, z762⟩, st762⟩ := X753.specialBack hx (y := own_y5) rfl hown (mvT hZ (own_w hw 36 rfl)) (mvT hZ (own_w hw 37 rfl)) (mvT hZ (own_w hw 38 rfl)) (by decide) (backOf (W := 1) (rm_alinit l Z a0 hw [] b753 aD h753 n0 O753 f759 f760 f761 A753 g_b753 SD) hZ (own_w hw 38 rfl) (own_w hw 35 rfl) (by decide) (by decide)) (g := (mkF m 53 #[.val (.int x0), .val (.int x1), .val (.ref b693), .val (.ref b696), .val (.ref b745), .unset, .unset, .unset, .unset] [(.ref b753), (.ref b753)])) rfl (by rw [hml]; rfl) (Steps.refl _) (a := b753) (argsL := []) (rest := [(.ref b753)]) (lenOf pd_0 rfl) rfl (by show 2 * 0 + _ ≤ _; exact Nat.le_of_eq rfl) (hb hby at_53) (fun _ _ => ⟨rfl, e753, (by decide : 9 + 0 ≤ _), (by decide : 40 + 0 ≤ _)⟩)
  dsimp only [Pt.U, Pt.locs, Pt.cells, Pt.slots] at X762 l762 y762 z762 st762 hQ762
  subst l762 y762 z762
  obtain ⟨rfl, N762q, K762q, P762, Q762, R762⟩ := hQ762
  have N762 := Fr.app N750 N762q
  have hk := Nat.le_trans hk (own_ks K762q)
  have f763 := (f754.keep K762q)
  have f764 := (f755.keep K762q)
  have f765 := (f756.keep K762q (ninS ne_b745_b753 nin0))
  have f766 := (f757.keep K762q (ninS ne_b745_b753 nin0))
  have f767 := (f758.keep K762q (ninS ne_b745_b753 nin0))
  have f768 := (A753.keep K762q)
  have O762 := O753.keep K762q (allS g_b753 all0)
  refine own_goW (fun _ ww => Steps.trans st762 ww) ?_
  show own_GoesW _ _ _ _ _ _ _ (T762.setTop (mkF m 56 #[.val (.int x0), .val (.int x1), .val (.ref b693), .val (.ref b696), .val (.ref b745), .unset, .unset, .unset, .unset] [(.ref b753)]))
  refine own_goW (fun _ ww => XS.astore X762.here hx rfl (hb hby at_56) rfl rfl (l' := #[.val (.int x0), .val (.int x1), .val (.ref b693), .val (.ref b696), .val (.ref b745), .val (.ref b753), .unset, .unset, .unset]) rfl ww) ?_
  show own_GoesW _ _ _ _ _ _ _ (T762.setTop (mkF m 58 #[.val (.int x0), .val (.int x1), .val (.ref b693), .val (.ref b696), .val (.ref b745), .val (.ref b753), .unset, .unset, .unset] []))
  refine own_goW (fun _ ww => XS.iloadN X762.here hx rfl (hb hby at_58) rfl  ww) ?_
  show own_GoesW _ _ _ _ _ _ _ (T762.setTop (mkF m 59 #[.val (.int x0), .val (.int x1), .val (.ref b693), .val (.ref b696), .val (.ref b745), .val (.ref b753), .unset, .unset, .unset] [(.int x0)]))
  refine own_goW (fun _ ww => XS.iconst X762.here hx rfl (hb hby at_59) ww) ?_
  show own_GoesW _ _ _ _ _ _ _ (T762.setTop (mkF m 60 #[.val (.int x0), .val (.int x1), .val (.ref b693), .val (.ref b696), .val (.ref b745), .val (.ref b753), .unset, .unset, .unset] [(.int (2 : Int32)), (.int x0)]))
  refine own_goW (fun _ ww => XS.iand X762.here hx rfl (hb hby at_60) rfl ww) ?_
  show own_GoesW _ _ _ _ _ _ _ (T762.setTop (mkF m 61 #[.val (.int x0), .val (.int x1), .val (.ref b693), .val (.ref b696), .val (.ref b745), .val (.ref b753), .unset, .unset, .unset] [(.int (x0 &&& (2 : Int32)))]))
  by_cases hc769 : (x0 &&& (2 : Int32)) = (0 : Int32)
  ·
    refine own_goW (fun _ ww => XS.ifYes X762.here hx rfl (pc0 := 61) (pc' := 71) rfl (hb hby at_61) rfl (own_if .eq (teq hc769).1) (by decide) (by decide) ww) ?_
    show own_GoesW _ _ _ _ _ _ _ (T762.setTop (mkF m 71 #[.val (.int x0), .val (.int x1), .val (.ref b693), .val (.ref b696), .val (.ref b745), .val (.ref b753), .unset, .unset, .unset] []))
    refine own_goW (fun _ ww => XS.iloadN X762.here hx rfl (hb hby at_71) rfl  ww) ?_
    show own_GoesW _ _ _ _ _ _ _ (T762.setTop (mkF m 72 #[.val (.int x0), .val (.int x1), .val (.ref b693), .val (.ref b696), .val (.ref b745), .val (.ref b753), .unset, .unset, .unset] [(.int x0)]))
    refine own_goW (fun _ ww => XS.iconst X762.here hx rfl (hb hby at_72) ww) ?_
    show own_GoesW _ _ _ _ _ _ _ (T762.setTop (mkF m 73 #[.val (.int x0), .val (.int x1), .val (.ref b693), .val (.ref b696), .val (.ref b745), .val (.ref b753), .unset, .unset, .unset] [(.int (4 : Int32)), (.int x0)]))
    refine own_goW (fun _ ww => XS.iand X762.here hx rfl (hb hby at_73) rfl ww) ?_
    show own_GoesW _ _ _ _ _ _ _ (T762.setTop (mkF m 74 #[.val (.int x0), .val (.int x1), .val (.ref b693), .val (.ref b696), .val (.ref b745), .val (.ref b753), .unset, .unset, .unset] [(.int (x0 &&& (4 : Int32)))]))
    by_cases hc770 : (x0 &&& (4 : Int32)) = (0 : Int32)
    ·
      refine own_goW (fun _ ww => XS.ifYes X762.here hx rfl (pc0 := 74) (pc' := 84) rfl (hb hby at_74) rfl (own_if .eq (teq hc770).1) (by decide) (by decide) ww) ?_
      show own_GoesW _ _ _ _ _ _ _ (T762.setTop (mkF m 84 #[.val (.int x0), .val (.int x1), .val (.ref b693), .val (.ref b696), .val (.ref b745), .val (.ref b753), .unset, .unset, .unset] []))
      refine own_goW (fun _ ww => XS.iloadN X762.here hx rfl (hb hby at_84) rfl  ww) ?_
      show own_GoesW _ _ _ _ _ _ _ (T762.setTop (mkF m 85 #[.val (.int x0), .val (.int x1), .val (.ref b693), .val (.ref b696), .val (.ref b745), .val (.ref b753), .unset, .unset, .unset] [(.int x0)]))
      refine own_goW (fun _ ww => XS.iconst X762.here hx rfl (hb hby at_85) ww) ?_
      show own_GoesW _ _ _ _ _ _ _ (T762.setTop (mkF m 86 #[.val (.int x0), .val (.int x1), .val (.ref b693), .val (.ref b696), .val (.ref b745), .val (.ref b753), .unset, .unset, .unset] [(.int (1 : Int32)), (.int x0)]))
      refine own_goW (fun _ ww => XS.iand X762.here hx rfl (hb hby at_86) rfl ww) ?_
      show own_GoesW _ _ _ _ _ _ _ (T762.setTop (mkF m 87 #[.val (.int x0), .val (.int x1), .val (.ref b693), .val (.ref b696), .val (.ref b745), .val (.ref b753), .unset, .unset, .unset] [(.int (x0 &&& (1 : Int32)))]))
      by_cases hc771 : (x0 &&& (1 : Int32)) = (0 : Int32)
      ·
        refine own_goW (fun _ ww => XS.ifYes X762.here hx rfl (pc0 := 87) (pc' := 94) rfl (hb hby at_87) rfl (own_if .eq (teq hc771).1) (by decide) (by decide) ww) ?_
        show own_GoesW _ _ _ _ _ _ _ (T762.setTop (mkF m 94 #[.val (.int x0), .val (.int x1), .val (.ref b693), .val (.ref b696), .val (.ref b745), .val (.ref b753), .unset, .unset, .unset] []))
        refine own_goW (fun _ ww => XS.iconst X762.here hx rfl (hb hby at_94) ww) ?_
        show own_GoesW _ _ _ _ _ _ _ (T762.setTop (mkF m 95 #[.val (.int x0), .val (.int x1), .val (.ref b693), .val (.ref b696), .val (.ref b745), .val (.ref b753), .unset, .unset, .unset] [(.int (0 : Int32))]))
        refine own_goW (fun _ ww => XS.istore X762.here hx rfl (hb hby at_95) rfl (l' := #[.val (.int x0), .val (.int x1), .val (.ref b693), .val (.ref b696), .val (.ref b745), .val (.ref b753), .val (.int (0 : Int32)), .unset, .unset]) rfl ww) ?_
        show own_GoesW _ _ _ _ _ _ _ (T762.setTop (mkF m 97 #[.val (.int x0), .val (.int x1), .val (.ref b693), .val (.ref b696), .val (.ref b745), .val (.ref b753), .val (.int (0 : Int32)), .unset, .unset] []))
        obtain ⟨T772, h772, X772, e772, E772, A772, D772, -, st772⟩ := newO X762 hx hZ hown (own_w hw 121 rfl) (own_w hw 122 rfl) (own_w hw 123 rfl) rfl (g := (mkF m 97 #[.val (.int x0), .val (.int x1), .val (.ref b693), .val (.ref b696), .val (.ref b745), .val (.ref b753), .val (.int (0 : Int32)), .unset, .unset] [])) rfl (hb hby at_97) (by decide) (by decide)
        obtain ⟨b772, g772⟩ : ∃ z, z = T762.heap.size := ⟨_, rfl⟩
        rw [← g772] at A772 D772 st772
        have ne_b696_b772 : b696 ≠ b772 := Nat.ne_of_lt (Nat.lt_of_lt_of_le f763.lt (Nat.le_of_eq g772.symm))
        have ne_b745_b772 : b745 ≠ b772 := Nat.ne_of_lt (Nat.lt_of_lt_of_le f764.lt (Nat.le_of_eq g772.symm))
        have ne_b753_b772 : b753 ≠ b772 := Nat.ne_of_lt (Nat.lt_of_lt_of_le f768.lt (Nat.le_of_eq g772.symm))
        have g_b772 : n0 ≤ b772 := Nat.le_trans (O762.1 ▸ O762.2.1) (Nat.le_of_eq g772.symm)
        have f773 := (f763.ext E772)
        have f774 := (f764.ext E772)
        have f775 := (f765.ext E772)
        have f776 := (f766.ext E772)
        have f777 := (f767.ext E772)
        have f778 := (f768.ext E772)
        have f779 := (P762.ext E772)
        have f780 := (Q762.ext E772)
        have f781 := (R762.ext E772)
        have O772 := O762.ext E772
        have hk := Nat.le_trans hk E772.1
        have f782 : Fld Z h772 b772 "com/example/navlint/navlint/model/State$Tab" "entry" "Lcom/example/navlint/navlint/model/Entry;" .null := D772 (Or.inr (own_w hw 129 rfl)) (ty := (.object "com/example/navlint/navlint/model/Entry")) (by decide)
        have f783 : Fld Z h772 b772 "com/example/navlint/navlint/model/State$Tab" "back" "Ljava/util/List;" .null := D772 (Or.inr (own_w hw 132 rfl)) (ty := (.object "java/util/List")) (by decide)
        have f784 : Fld Z h772 b772 "com/example/navlint/navlint/model/State$Tab" "forward" "Ljava/util/List;" .null := D772 (Or.inr (own_w hw 134 rfl)) (ty := (.object "java/util/List")) (by decide)
        refine own_goW st772 ?_
        show own_GoesW _ _ _ _ _ _ _ (T772.setTop (mkF m 100 #[.val (.int x0), .val (.int x1), .val (.ref b693), .val (.ref b696), .val (.ref b745), .val (.ref b753), .val (.int (0 : Int32)), .unset, .unset] [(.ref b772)]))
        refine own_goW (fun _ ww => XS.dup X772.here hx rfl (hb hby at_100) rfl rfl ww) ?_
        show own_GoesW _ _ _ _ _ _ _ (T772.setTop (mkF m 101 #[.val (.int x0), .val (.int x1), .val (.ref b693), .val (.ref b696), .val (.ref b745), .val (.ref b753), .val (.int (0 : Int32)), .unset, .unset] [(.ref b772), (.ref b772)]))
        refine own_goW (fun _ ww => XS.iload X772.here hx rfl (hb hby at_101) rfl  ww) ?_
        show own_GoesW _ _ _ _ _ _ _ (T772.setTop (mkF m 103 #[.val (.int x0), .val (.int x1), .val (.ref b693), .val (.ref b696), .val (.ref b745), .val (.ref b753), .val (.int (0 : Int32)), .unset, .unset] [(.int (0 : Int32)), (.ref b772), (.ref b772)]))
        refine own_goW (fun _ ww => XS.ifYes X772.here hx rfl (pc0 := 103) (pc' := 110) rfl (hb hby at_103) rfl (own_if .eq (teq (by decide : (0 : Int32) = (0 : Int32))).1) (by decide) (by decide) ww) ?_
        show own_GoesW _ _ _ _ _ _ _ (T772.setTop (mkF m 110 #[.val (.int x0), .val (.int x1), .val (.ref b693), .val (.ref b696), .val (.ref b745), .val (.ref b753), .val (.int (0 : Int32)), .unset, .unset] [(.ref b772), (.ref b772)]))
        refine own_goW (fun _ ww => XS.aconstNull X772.here hx rfl (hb hby at_110) ww) ?_
        show own_GoesW _ _ _ _ _ _ _ (T772.setTop (mkF m 111 #[.val (.int x0), .val (.int x1), .val (.ref b693), .val (.ref b696), .val (.ref b745), .val (.ref b753), .val (.int (0 : Int32)), .unset, .unset] [.null, (.ref b772), (.ref b772)]))
        refine own_goW (fun _ ww => XS.aload X772.here hx rfl (hb hby at_111) rfl rfl ww) ?_
        show own_GoesW _ _ _ _ _ _ _ (T772.setTop (mkF m 113 #[.val (.int x0), .val (.int x1), .val (.ref b693), .val (.ref b696), .val (.ref b745), .val (.ref b753), .val (.int (0 : Int32)), .unset, .unset] [(.ref b745), .null, (.ref b772), (.ref b772)]))
        refine own_goW (fun _ ww => XS.aload X772.here hx rfl (hb hby at_113) rfl rfl ww) ?_
        show own_GoesW _ _ _ _ _ _ _ (T772.setTop (mkF m 115 #[.val (.int x0), .val (.int x1), .val (.ref b693), .val (.ref b696), .val (.ref b745), .val (.ref b753), .val (.int (0 : Int32)), .unset, .unset] [(.ref b753), (.ref b745), .null, (.ref b772), (.ref b772)]))
        obtain ⟨_, _, ⟨T785, L785, k785, n785⟩, -, X785, ⟨Lc785, hQ785, l785, y785, z785⟩, st785⟩ := X772.specialBack hx (y := own_y28) rfl hown (mvT hZ (own_w hw 124 rfl)) (mvT hZ (own_w hw 125 rfl)) (mvT hZ (own_w hw 126 rfl)) (by decide) (backOf (W := 1) (rm_ti0ee l Z a0 hw [] b772 b696 mr aL aX b745 b753 h772 n0 O772 f782 f783 f784 A772 g_b772 f773 MK SL SX EL FL f777 f774 ne_b745_b772 f781 f778 ne_b753_b772) hZ (own_w hw 126 rfl) (own_w hw 123 rfl) (by decide) (by decide)) (g := (mkF m 115 #[.val (.int x0), .val (.int x1), .val (.ref b693), .val (.ref b696), .val (.ref b745), .val (.ref b753), .val (.int (0 : Int32)), .unset, .unset] [(.ref b753), (.ref b745), .null, (.ref b772), (.ref b772)])) rfl (by rw [hml]; rfl) (Steps.refl _) (a := b772) (argsL := [.null, (.ref b745), (.ref b753)]) (rest := [(.ref b772)]) (lenOf pd_15 rfl) rfl (by show 2 * 0 + _ ≤ _; exact Nat.le_of_eq rfl) (hb hby at_115) (fun _ _ => ⟨rfl, e772, (by decide : 10 + 0 ≤ _), (by decide : 44 + 0 ≤ _)⟩)
        dsimp only [Pt.U, Pt.locs, Pt.cells, Pt.slots] at X785 l785 y785 z785 st785 hQ785
        subst l785 y785 z785
        obtain ⟨rfl, N785q, K785q, P785, Q785, R785⟩ := hQ785
        have N785 := Fr.app N762 N785q
        have hk := Nat.le_trans hk (own_ks K785q)
        have f786 := (f773.keep K785q)
        have f787 := (f774.keep K785q)
        have f788 := (f775.keep K785q (ninS ne_b745_b772 nin0))
        have f789 := (f776.keep K785q (ninS ne_b745_b772 nin0))
        have f790 := (f777.keep K785q (ninS ne_b745_b772 nin0))
        have f791 := (f778.keep K785q)
        have f792 := (f779.keep K785q (ninS ne_b753_b772 nin0))
        have f793 := (f780.keep K785q (ninS ne_b753_b772 nin0))
        have f794 := (f781.keep K785q (ninS ne_b753_b772 nin0))
        have f795 := (A772.keep K785q)
        have O785 := O772.keep K785q (allS g_b772 all0)
        refine own_goW (fun _ ww => Steps.trans st785 ww) ?_
        show own_GoesW _ _ _ _ _ _ _ (T785.setTop (mkF m 118 #[.val (.int x0), .val (.int x1), .val (.ref b693), .val (.ref b696), .val (.ref b745), .val (.ref b753), .val (.int (0 : Int32)), .unset, .unset] [(.ref b772)]))
        refine own_goW (fun _ ww => XS.astore X785.here hx rfl (hb hby at_118) rfl rfl (l' := #[.val (.int x0), .val (.int x1), .val (.ref b693), .val (.ref b696), .val (.ref b745), .val (.ref b753), .val (.int (0 : Int32)), .val (.ref b772), .unset]) rfl ww) ?_
        show own_GoesW _ _ _ _ _ _ _ (T785.setTop (mkF m 120 #[.val (.int x0), .val (.int x1), .val (.ref b693), .val (.ref b696), .val (.ref b745), .val (.ref b753), .val (.int (0 : Int32)), .val (.ref b772), .unset] []))
        refine own_goW (fun _ ww => XS.aload X785.here hx rfl (hb hby at_120) rfl rfl ww) ?_
        show own_GoesW _ _ _ _ _ _ _ (T785.setTop (mkF m 122 #[.val (.int x0), .val (.int x1), .val (.ref b693), .val (.ref b696), .val (.ref b745), .val (.ref b753), .val (.int (0 : Int32)), .val (.ref b772), .unset] [(.ref b772)]))
        obtain ⟨cq796, kq796, q796a, q796b, q796c⟩ := isOf hZ rfl f795
        obtain ⟨_, _, ⟨T796, L796, k796, n796⟩, -, X796, ⟨Lc796, hQ796, l796, y796, z796⟩, st796⟩ := X785.virtualBack hx (y := own_y31) (z := own_y31) hown (mvT hZ (own_w hw 135 rfl)) (mvT hZ (own_w hw 136 rfl)) (notFace_of_selects (args := #[]) (mvT hZ (own_w hw 138 rfl))) (mvT hZ (own_w hw 138 rfl)) (mvT hZ (own_w hw 137 rfl)) (by decide) (backOf (W := 0) (rm_waits0 l Z a0 hw [] b772 aL T785.heap n0 O785 P785) hZ (own_w hw 139 rfl) (own_w hw 123 rfl) (by decide) (by decide)) q796a q796c (g := (mkF m 122 #[.val (.int x0), .val (.int x1), .val (.ref b693), .val (.ref b696), .val (.ref b745), .val (.ref b753), .val (.int (0 : Int32)), .val (.ref b772), .unset] [(.ref b772)])) rfl (by rw [hml]; rfl) (Steps.refl _) (argsL := []) (rest := []) (lenOf pd_9 rfl) rfl (by show 2 * 0 + _ ≤ _; exact Nat.le_of_eq rfl) (hb hby at_122) (fun _ _ => ⟨rfl, rfl, (by decide : 10 + 0 ≤ _), (by decide : 44 + 0 ≤ _)⟩)
        dsimp only [Pt.U, Pt.locs, Pt.cells, Pt.slots] at X796 l796 y796 z796 st796 hQ796
        subst l796 y796 z796
        obtain ⟨rfl, N796q, e796⟩ := hQ796
        have N796 := Fr.app N785 N796q
        refine own_goW (fun _ ww => Steps.trans st796 ww) ?_
        show own_GoesW _ _ _ _ _ _ _ (T796.setTop (mkF m 125 #[.val (.int x0), .val (.int x1), .val (.ref b693), .val (.ref b696), .val (.ref b745), .val (.ref b753), .val (.int (0 : Int32)), .val (.ref b772), .unset] [(.int (1 : Int32))]))
        refine own_goW (fun _ ww => XS.iload X796.here hx rfl (hb hby at_125) rfl  ww) ?_
        show own_GoesW _ _ _ _ _ _ _ (T796.setTop (mkF m 127 #[.val (.int x0), .val (.int x1), .val (.ref b693), .val (.ref b696), .val (.ref b745), .val (.ref b753), .val (.int (0 : Int32)), .val (.ref b772), .unset] [(.int (0 : Int32)), (.int (1 : Int32))]))
        refine own_goW (fun _ ww => XS.ifNo X796.here hx rfl (hb hby at_127) rfl (own_if .ne (teq (by decide : (0 : Int32) = (0 : Int32))).2) ww) ?_
        show own_GoesW _ _ _ _ _ _ _ (T796.setTop (mkF m 130 #[.val (.int x0), .val (.int x1), .val (.ref b693), .val (.ref b696), .val (.ref b745), .val (.ref b753), .val (.int (0 : Int32)), .val (.ref b772), .unset] [(.int (1 : Int32))]))
        refine own_goW (fun _ ww => XS.iconst X796.here hx rfl (hb hby at_130) ww) ?_
        show own_GoesW _ _ _ _ _ _ _ (T796.setTop (mkF m 131 #[.val (.int x0), .val (.int x1), .val (.ref b693), .val (.ref b696), .val (.ref b745), .val (.ref b753), .val (.int (0 : Int32)), .val (.ref b772), .unset] [(.int (1 : Int32)), (.int (1 : Int32))]))
        refine own_goW (fun _ ww => XS.goto X796.here hx rfl (pc0 := 131) (pc' := 135) rfl (hb hby at_131) (by decide) (by decide) ww) ?_
        show own_GoesW _ _ _ _ _ _ _ (T796.setTop (mkF m 135 #[.val (.int x0), .val (.int x1), .val (.ref b693), .val (.ref b696), .val (.ref b745), .val (.ref b753), .val (.int (0 : Int32)), .val (.ref b772), .unset] [(.int (1 : Int32)), (.int (1 : Int32))]))
        refine own_goW (fun _ ww => XS.icmpNo X796.here hx rfl (hb hby at_135) rfl (teq (by decide : (1 : Int32) = (1 : Int32))).2 ww) ?_
        show own_GoesW _ _ _ _ _ _ _ (T796.setTop (mkF m 138 #[.val (.int x0), .val (.int x1), .val (.ref b693), .val (.ref b696), .val (.ref b745), .val (.ref b753), .val (.int (0 : Int32)), .val (.ref b772), .unset] []))
        refine own_goW (fun _ ww => XS.iconst X796.here hx rfl (hb hby at_138) ww) ?_
        show own_GoesW _ _ _ _ _ _ _ (T796.setTop (mkF m 139 #[.val (.int x0), .val (.int x1), .val (.ref b693), .val (.ref b696), .val (.ref b745), .val (.ref b753), .val (.int (0 : Int32)), .val (.ref b772), .unset] [(.int (1 : Int32))]))
        refine own_goW (fun _ ww => XS.goto X796.here hx rfl (pc0 := 139) (pc' := 143) rfl (hb hby at_139) (by decide) (by decide) ww) ?_
        show own_GoesW _ _ _ _ _ _ _ (T796.setTop (mkF m 143 #[.val (.int x0), .val (.int x1), .val (.ref b693), .val (.ref b696), .val (.ref b745), .val (.ref b753), .val (.int (0 : Int32)), .val (.ref b772), .unset] [(.int (1 : Int32))]))
        refine own_goW (fun _ ww => XS.istore X796.here hx rfl (hb hby at_143) rfl (l' := #[.val (.int x0), .val (.int x1), .val (.ref b693), .val (.ref b696), .val (.ref b745), .val (.ref b753), .val (.int (0 : Int32)), .val (.ref b772), .val (.int (1 : Int32))]) rfl ww) ?_
        show own_GoesW _ _ _ _ _ _ _ (T796.setTop (mkF m 145 #[.val (.int x0), .val (.int x1), .val (.ref b693), .val (.ref b696), .val (.ref b745), .val (.ref b753), .val (.int (0 : Int32)), .val (.ref b772), .val (.int (1 : Int32))] []))
        refine own_goW (fun _ ww => XS.iload X796.here hx rfl (hb hby at_145) rfl  ww) ?_
        show own_GoesW _ _ _ _ _ _ _ (T796.setTop (mkF m 147 #[.val (.int x0), .val (.int x1), .val (.ref b693), .val (.ref b696), .val (.ref b745), .val (.ref b753), .val (.int (0 : Int32)), .val (.ref b772), .val (.int (1 : Int32))] [(.int (1 : Int32))]))
        refine own_goW (fun _ ww => XS.ifNo X796.here hx rfl (hb hby at_147) rfl (own_if .eq (feq (by decide : ¬ ((1 : Int32) = (0 : Int32)))).1) ww) ?_
        show own_GoesW _ _ _ _ _ _ _ (T796.setTop (mkF m 150 #[.val (.int x0), .val (.int x1), .val (.ref b693), .val (.ref b696), .val (.ref b745), .val (.ref b753), .val (.int (0 : Int32)), .val (.ref b772), .val (.int (1 : Int32))] []))
        refine own_goW (fun _ ww => XS.aload X796.here hx rfl (hb hby at_150) rfl rfl ww) ?_
        show own_GoesW _ _ _ _ _ _ _ (T796.setTop (mkF m 152 #[.val (.int x0), .val (.int x1), .val (.ref b693), .val (.ref b696), .val (.ref b745), .val (.ref b753), .val (.int (0 : Int32)), .val (.ref b772), .val (.int (1 : Int32))] [(.ref b772)]))
        obtain ⟨cq797, kq797, q797a, q797b, q797c⟩ := isOf hZ e796 f795
        obtain ⟨_, _, ⟨T797, L797, k797, n797⟩, -, X797, ⟨Lc797, hQ797, l797, y797, z797⟩, st797⟩ := X796.virtualBack hx (y := own_y31) (z := own_y31) hown (mvT hZ (own_w hw 135 rfl)) (mvT hZ (own_w hw 136 rfl)) (notFace_of_selects (args := #[]) (mvT hZ (own_w hw 138 rfl))) (mvT hZ (own_w hw 138 rfl)) (mvT hZ (own_w hw 137 rfl)) (by decide) (backOf (W := 0) (rm_waits0 l Z a0 hw [] b772 aL T785.heap n0 O785 P785) hZ (own_w hw 139 rfl) (own_w hw 123 rfl) (by decide) (by decide)) q797a q797c (g := (mkF m 152 #[.val (.int x0), .val (.int x1), .val (.ref b693), .val (.ref b696), .val (.ref b745), .val (.ref b753), .val (.int (0 : Int32)), .val (.ref b772), .val (.int (1 : Int32))] [(.ref b772)])) rfl (by rw [hml]; rfl) (Steps.refl _) (argsL := []) (rest := []) (lenOf pd_9 rfl) rfl (by show 2 * 0 + _ ≤ _; exact Nat.le_of_eq rfl) (hb hby at_152) (fun _ _ => ⟨rfl, e796, (by decide : 10 + 0 ≤ _), (by decide : 44 + 0 ≤ _)⟩)
        dsimp only [Pt.U, Pt.locs, Pt.cells, Pt.slots] at X797 l797 y797 z797 st797 hQ797
        subst l797 y797 z797
        obtain ⟨rfl, N797q, e797⟩ := hQ797
        have N797 := Fr.app N796 N797q
        refine own_goW (fun _ ww => Steps.trans st797 ww) ?_
        show own_GoesW _ _ _ _ _ _ _ (T797.setTop (mkF m 155 #[.val (.int x0), .val (.int x1), .val (.ref b693), .val (.ref b696), .val (.ref b745), .val (.ref b753), .val (.int (0 : Int32)), .val (.ref b772), .val (.int (1 : Int32))] [(.int (1 : Int32))]))
        refine own_goW (fun _ ww => XS.aload X797.here hx rfl (hb hby at_155) rfl rfl ww) ?_
        show own_GoesW _ _ _ _ _ _ _ (T797.setTop (mkF m 157 #[.val (.int x0), .val (.int x1), .val (.ref b693), .val (.ref b696), .val (.ref b745), .val (.ref b753), .val (.int (0 : Int32)), .val (.ref b772), .val (.int (1 : Int32))] [(.ref b772), (.int (1 : Int32))]))
        obtain ⟨cq798, kq798, q798a, q798b, q798c⟩ := isOf hZ e797 f795
        obtain ⟨_, _, ⟨T798, L798, k798, n798⟩, -, X798, ⟨Lc798, hQ798, l798, y798, z798⟩, st798⟩ := X797.virtualBack hx (y := own_y32) (z := own_y32) hown (mvT hZ (own_w hw 140 rfl)) (mvT hZ (own_w hw 141 rfl)) (notFace_of_selects (args := #[]) (mvT hZ (own_w hw 143 rfl))) (mvT hZ (own_w hw 143 rfl)) (mvT hZ (own_w hw 142 rfl)) (by decide) (backOf (W := 1) (rm_entry0 l Z a0 hw [] b772 aL T785.heap n0 O785 P785) hZ (own_w hw 144 rfl) (own_w hw 123 rfl) (by decide) (by decide)) q798a q798c (g := (mkF m 157 #[.val (.int x0), .val (.int x1), .val (.ref b693), .val (.ref b696), .val (.ref b745), .val (.ref b753), .val (.int (0 : Int32)), .val (.ref b772), .val (.int (1 : Int32))] [(.ref b772), (.int (1 : Int32))])) rfl (by rw [hml]; rfl) (Steps.refl _) (argsL := []) (rest := [(.int (1 : Int32))]) (lenOf pd_19 rfl) rfl (by show 2 * 0 + _ ≤ _; exact Nat.le_of_eq rfl) (hb hby at_157) (fun _ _ => ⟨rfl, e797, (by decide : 10 + 0 ≤ _), (by decide : 44 + 0 ≤ _)⟩)
        dsimp only [Pt.U, Pt.locs, Pt.cells, Pt.slots] at X798 l798 y798 z798 st798 hQ798
        subst l798 y798 z798
        obtain ⟨rfl, N798q, e798⟩ := hQ798
        have N798 := Fr.app N797 N798q
        refine own_goW (fun _ ww => Steps.trans st798 ww) ?_
        show own_GoesW _ _ _ _ _ _ _ (T798.setTop (mkF m 160 #[.val (.int x0), .val (.int x1), .val (.ref b693), .val (.ref b696), .val (.ref b745), .val (.ref b753), .val (.int (0 : Int32)), .val (.ref b772), .val (.int (1 : Int32))] [.null, (.int (1 : Int32))]))
        refine own_goW (fun _ ww => XT.ifnonnullNo X798.here hx rfl (hb hby at_160) rfl ww) ?_
        show own_GoesW _ _ _ _ _ _ _ (T798.setTop (mkF m 163 #[.val (.int x0), .val (.int x1), .val (.ref b693), .val (.ref b696), .val (.ref b745), .val (.ref b753), .val (.int (0 : Int32)), .val (.ref b772), .val (.int (1 : Int32))] [(.int (1 : Int32))]))
        refine own_goW (fun _ ww => XS.iconst X798.here hx rfl (hb hby at_163) ww) ?_
        show own_GoesW _ _ _ _ _ _ _ (T798.setTop (mkF m 164 #[.val (.int x0), .val (.int x1), .val (.ref b693), .val (.ref b696), .val (.ref b745), .val (.ref b753), .val (.int (0 : Int32)), .val (.ref b772), .val (.int (1 : Int32))] [(.int (1 : Int32)), (.int (1 : Int32))]))
        refine own_goW (fun _ ww => XS.goto X798.here hx rfl (pc0 := 164) (pc' := 168) rfl (hb hby at_164) (by decide) (by decide) ww) ?_
        show own_GoesW _ _ _ _ _ _ _ (T798.setTop (mkF m 168 #[.val (.int x0), .val (.int x1), .val (.ref b693), .val (.ref b696), .val (.ref b745), .val (.ref b753), .val (.int (0 : Int32)), .val (.ref b772), .val (.int (1 : Int32))] [(.int (1 : Int32)), (.int (1 : Int32))]))
        refine own_goW (fun _ ww => XS.icmpNo X798.here hx rfl (hb hby at_168) rfl (teq (by decide : (1 : Int32) = (1 : Int32))).2 ww) ?_
        show own_GoesW _ _ _ _ _ _ _ (T798.setTop (mkF m 171 #[.val (.int x0), .val (.int x1), .val (.ref b693), .val (.ref b696), .val (.ref b745), .val (.ref b753), .val (.int (0 : Int32)), .val (.ref b772), .val (.int (1 : Int32))] []))
        refine own_goW (fun _ ww => XS.iconst X798.here hx rfl (hb hby at_171) ww) ?_
        show own_GoesW _ _ _ _ _ _ _ (T798.setTop (mkF m 172 #[.val (.int x0), .val (.int x1), .val (.ref b693), .val (.ref b696), .val (.ref b745), .val (.ref b753), .val (.int (0 : Int32)), .val (.ref b772), .val (.int (1 : Int32))] [(.int (1 : Int32))]))
        refine own_goW (fun _ ww => XS.goto X798.here hx rfl (pc0 := 172) (pc' := 176) rfl (hb hby at_172) (by decide) (by decide) ww) ?_
        show own_GoesW _ _ _ _ _ _ _ (T798.setTop (mkF m 176 #[.val (.int x0), .val (.int x1), .val (.ref b693), .val (.ref b696), .val (.ref b745), .val (.ref b753), .val (.int (0 : Int32)), .val (.ref b772), .val (.int (1 : Int32))] [(.int (1 : Int32))]))
        refine own_goW (fun _ ww => XS.istore X798.here hx rfl (hb hby at_176) rfl (l' := #[.val (.int x0), .val (.int x1), .val (.ref b693), .val (.ref b696), .val (.ref b745), .val (.ref b753), .val (.int (0 : Int32)), .val (.ref b772), .val (.int (1 : Int32))]) rfl ww) ?_
        show own_GoesW _ _ _ _ _ _ _ (T798.setTop (mkF m 178 #[.val (.int x0), .val (.int x1), .val (.ref b693), .val (.ref b696), .val (.ref b745), .val (.ref b753), .val (.int (0 : Int32)), .val (.ref b772), .val (.int (1 : Int32))] []))
        refine own_goW (fun _ ww => XS.iload X798.here hx rfl (hb hby at_178) rfl  ww) ?_
        show own_GoesW _ _ _ _ _ _ _ (T798.setTop (mkF m 180 #[.val (.int x0), .val (.int x1), .val (.ref b693), .val (.ref b696), .val (.ref b745), .val (.ref b753), .val (.int (0 : Int32)), .val (.ref b772), .val (.int (1 : Int32))] [(.int (1 : Int32))]))
        refine own_goW (fun _ ww => XS.ifNo X798.here hx rfl (hb hby at_180) rfl (own_if .eq (feq (by decide : ¬ ((1 : Int32) = (0 : Int32)))).1) ww) ?_
        show own_GoesW _ _ _ _ _ _ _ (T798.setTop (mkF m 183 #[.val (.int x0), .val (.int x1), .val (.ref b693), .val (.ref b696), .val (.ref b745), .val (.ref b753), .val (.int (0 : Int32)), .val (.ref b772), .val (.int (1 : Int32))] []))
        refine own_goW (fun _ ww => XS.aload X798.here hx rfl (hb hby at_183) rfl rfl ww) ?_
        show own_GoesW _ _ _ _ _ _ _ (T798.setTop (mkF m 185 #[.val (.int x0), .val (.int x1), .val (.ref b693), .val (.ref b696), .val (.ref b745), .val (.ref b753), .val (.int (0 : Int32)), .val (.ref b772), .val (.int (1 : Int32))] [(.ref b772)]))
        obtain ⟨cq799, kq799, q799a, q799b, q799c⟩ := isOf hZ e798 f795
        obtain ⟨_, _, ⟨T799, L799, k799, n799⟩, -, X799, ⟨Lc799, hQ799, l799, y799, z799⟩, st799⟩ := X798.virtualBack hx (y := own_y29) (z := own_y29) hown (mvT hZ (own_w hw 145 rfl)) (mvT hZ (own_w hw 146 rfl)) (notFace_of_selects (args := #[]) (mvT hZ (own_w hw 148 rfl))) (mvT hZ (own_w hw 148 rfl)) (mvT hZ (own_w hw 147 rfl)) (by decide) (backOf (W := 0) (rm_waitingII l Z a0 hw [] b772 b696 mr aL aX aL "java/util/ImmutableCollections$ListN" aL "java/util/ImmutableCollections$ListN" T785.heap n0 O785 f786 MK SL SX EL FL Q785 R785 (EL.ext O785.2) (Or.inr ⟨rfl, rfl⟩) (EL.ext O785.2) (Or.inr ⟨rfl, rfl⟩)) hZ (own_w hw 149 rfl) (own_w hw 123 rfl) (by decide) (by decide)) q799a q799c (g := (mkF m 185 #[.val (.int x0), .val (.int x1), .val (.ref b693), .val (.ref b696), .val (.ref b745), .val (.ref b753), .val (.int (0 : Int32)), .val (.ref b772), .val (.int (1 : Int32))] [(.ref b772)])) rfl (by rw [hml]; rfl) (Steps.refl _) (argsL := []) (rest := []) (lenOf pd_20 rfl) rfl (by show 2 * 0 + _ ≤ _; exact Nat.le_of_eq rfl) (hb hby at_185) (fun _ _ => ⟨rfl, e798, (by decide : 10 + 1 ≤ _), (by decide : 44 + 4 ≤ _)⟩)
        dsimp only [Pt.U, Pt.locs, Pt.cells, Pt.slots] at X799 l799 y799 z799 st799 hQ799
        subst l799 y799 z799
        obtain ⟨r799, rfl, N799q, B799, K799q, E799q, P799⟩ := hQ799
        have N799 := Fr.app N798 N799q
        have hk := Nat.le_trans hk (own_ks K799q)
        have ne_b696_r799 : b696 ≠ r799 := Nat.ne_of_lt (Nat.lt_of_lt_of_le f786.lt B799)
        have ne_b772_r799 : b772 ≠ r799 := Nat.ne_of_lt (Nat.lt_of_lt_of_le f795.lt B799)
        have g_r799 : n0 ≤ r799 := Nat.le_trans (O785.1 ▸ O785.2.1) B799
        have f800 := (f786.keep K799q)
        have f801 := (f795.keep K799q)
        have f802 := (P785.keep K799q nin0)
        have f803 := (Q785.keep K799q nin0)
        have f804 := (R785.keep K799q nin0)
        have O799 := O785.keep K799q all0
        refine own_goW (fun _ ww => Steps.trans st799 ww) ?_
        show own_GoesW _ _ _ _ _ _ _ (T799.setTop (mkF m 188 #[.val (.int x0), .val (.int x1), .val (.ref b693), .val (.ref b696), .val (.ref b745), .val (.ref b753), .val (.int (0 : Int32)), .val (.ref b772), .val (.int (1 : Int32))] [(.ref r799)]))
        obtain ⟨cq805, kq805, q805a, q805b, q805c⟩ := isOf hZ rfl E799q
        obtain ⟨_, _, ⟨T805, L805, k805, n805⟩, -, X805, ⟨Lc805, hQ805, l805, y805, z805⟩, st805⟩ := X799.virtualBack hx (y := own_y31) (z := own_y31) hown (mvT hZ (own_w hw 135 rfl)) (mvT hZ (own_w hw 136 rfl)) (notFace_of_selects (args := #[]) (mvT hZ (own_w hw 138 rfl))) (mvT hZ (own_w hw 138 rfl)) (mvT hZ (own_w hw 137 rfl)) (by decide) (backOf (W := 0) (rm_waits0 l Z a0 hw [] r799 aL T799.heap n0 O799 P799) hZ (own_w hw 139 rfl) (own_w hw 123 rfl) (by decide) (by decide)) q805a q805c (g := (mkF m 188 #[.val (.int x0), .val (.int x1), .val (.ref b693), .val (.ref b696), .val (.ref b745), .val (.ref b753), .val (.int (0 : Int32)), .val (.ref b772), .val (.int (1 : Int32))] [(.ref r799)])) rfl (by rw [hml]; rfl) (Steps.refl _) (argsL := []) (rest := []) (lenOf pd_9 rfl) rfl (by show 2 * 0 + _ ≤ _; exact Nat.le_of_eq rfl) (hb hby at_188) (fun _ _ => ⟨rfl, rfl, (by decide : 11 + 0 ≤ _), (by decide : 48 + 0 ≤ _)⟩)
        dsimp only [Pt.U, Pt.locs, Pt.cells, Pt.slots] at X805 l805 y805 z805 st805 hQ805
        subst l805 y805 z805
        obtain ⟨rfl, N805q, e805⟩ := hQ805
        have N805 := Fr.app N799 N805q
        refine own_goW (fun _ ww => Steps.trans st805 ww) ?_
        show own_GoesW _ _ _ _ _ _ _ (T805.setTop (mkF m 191 #[.val (.int x0), .val (.int x1), .val (.ref b693), .val (.ref b696), .val (.ref b745), .val (.ref b753), .val (.int (0 : Int32)), .val (.ref b772), .val (.int (1 : Int32))] [(.int (1 : Int32))]))
        refine own_goW (fun _ ww => XS.ifNo X805.here hx rfl (hb hby at_191) rfl (own_if .eq (feq (by decide : ¬ ((1 : Int32) = (0 : Int32)))).1) ww) ?_
        show own_GoesW _ _ _ _ _ _ _ (T805.setTop (mkF m 194 #[.val (.int x0), .val (.int x1), .val (.ref b693), .val (.ref b696), .val (.ref b745), .val (.ref b753), .val (.int (0 : Int32)), .val (.ref b772), .val (.int (1 : Int32))] []))
        refine own_goW (fun _ ww => XS.iconst X805.here hx rfl (hb hby at_194) ww) ?_
        show own_GoesW _ _ _ _ _ _ _ (T805.setTop (mkF m 195 #[.val (.int x0), .val (.int x1), .val (.ref b693), .val (.ref b696), .val (.ref b745), .val (.ref b753), .val (.int (0 : Int32)), .val (.ref b772), .val (.int (1 : Int32))] [(.int (1 : Int32))]))
        refine own_goW (fun _ ww => XS.goto X805.here hx rfl (pc0 := 195) (pc' := 199) rfl (hb hby at_195) (by decide) (by decide) ww) ?_
        show own_GoesW _ _ _ _ _ _ _ (T805.setTop (mkF m 199 #[.val (.int x0), .val (.int x1), .val (.ref b693), .val (.ref b696), .val (.ref b745), .val (.ref b753), .val (.int (0 : Int32)), .val (.ref b772), .val (.int (1 : Int32))] [(.int (1 : Int32))]))
        refine own_goW (fun _ ww => XS.istore X805.here hx rfl (hb hby at_199) rfl (l' := #[.val (.int x0), .val (.int x1), .val (.ref b693), .val (.ref b696), .val (.ref b745), .val (.ref b753), .val (.int (0 : Int32)), .val (.ref b772), .val (.int (1 : Int32))]) rfl ww) ?_
        show own_GoesW _ _ _ _ _ _ _ (T805.setTop (mkF m 201 #[.val (.int x0), .val (.int x1), .val (.ref b693), .val (.ref b696), .val (.ref b745), .val (.ref b753), .val (.int (0 : Int32)), .val (.ref b772), .val (.int (1 : Int32))] []))
        refine own_goW (fun _ ww => XS.iload X805.here hx rfl (hb hby at_201) rfl  ww) ?_
        show own_GoesW _ _ _ _ _ _ _ (T805.setTop (mkF m 203 #[.val (.int x0), .val (.int x1), .val (.ref b693), .val (.ref b696), .val (.ref b745), .val (.ref b753), .val (.int (0 : Int32)), .val (.ref b772), .val (.int (1 : Int32))] [(.int (1 : Int32))]))
        refine own_goW (fun _ ww => XS.ifNo X805.here hx rfl (hb hby at_203) rfl (own_if .eq (feq (by decide : ¬ ((1 : Int32) = (0 : Int32)))).1) ww) ?_
        show own_GoesW _ _ _ _ _ _ _ (T805.setTop (mkF m 206 #[.val (.int x0), .val (.int x1), .val (.ref b693), .val (.ref b696), .val (.ref b745), .val (.ref b753), .val (.int (0 : Int32)), .val (.ref b772), .val (.int (1 : Int32))] []))
        refine own_goW (fun _ ww => XS.aload X805.here hx rfl (hb hby at_206) rfl rfl ww) ?_
        show own_GoesW _ _ _ _ _ _ _ (T805.setTop (mkF m 208 #[.val (.int x0), .val (.int x1), .val (.ref b693), .val (.ref b696), .val (.ref b745), .val (.ref b753), .val (.int (0 : Int32)), .val (.ref b772), .val (.int (1 : Int32))] [(.ref b772)]))
        refine own_goW (fun _ ww => XS.aloadN X805.here hx rfl (hb hby at_208) rfl rfl ww) ?_
        show own_GoesW _ _ _ _ _ _ _ (T805.setTop (mkF m 209 #[.val (.int x0), .val (.int x1), .val (.ref b693), .val (.ref b696), .val (.ref b745), .val (.ref b753), .val (.int (0 : Int32)), .val (.ref b772), .val (.int (1 : Int32))] [(.ref b696), (.ref b772)]))
        obtain ⟨cq806, kq806, q806a, q806b, q806c⟩ := isOf hZ e805 f801
        obtain ⟨_, _, ⟨T806, L806, k806, n806⟩, -, X806, ⟨Lc806, hQ806, l806, y806, z806⟩, st806⟩ := X805.virtualBack hx (y := own_y30) (z := own_y30) hown (mvT hZ (own_w hw 160 rfl)) (mvT hZ (own_w hw 161 rfl)) (notFace_of_selects (args := #[]) (mvT hZ (own_w hw 163 rfl))) (mvT hZ (own_w hw 163 rfl)) (mvT hZ (own_w hw 162 rfl)) (by decide) (backOf (W := 0) (rm_showingII l Z a0 hw [] b772 b696 mr aL aX aL "java/util/ImmutableCollections$ListN" aL "java/util/ImmutableCollections$ListN" T799.heap n0 O799 f800 MK SL SX EL FL f803 f804 (EL.ext O799.2) (Or.inr ⟨rfl, rfl⟩) (EL.ext O799.2) (Or.inr ⟨rfl, rfl⟩)) hZ (own_w hw 164 rfl) (own_w hw 123 rfl) (by decide) (by decide)) q806a q806c (g := (mkF m 209 #[.val (.int x0), .val (.int x1), .val (.ref b693), .val (.ref b696), .val (.ref b745), .val (.ref b753), .val (.int (0 : Int32)), .val (.ref b772), .val (.int (1 : Int32))] [(.ref b696), (.ref b772)])) rfl (by rw [hml]; rfl) (Steps.refl _) (argsL := [(.ref b696)]) (rest := []) (lenOf pd_21 rfl) rfl (by show 2 * 0 + _ ≤ _; exact Nat.le_of_eq rfl) (hb hby at_209) (fun _ _ => ⟨rfl, e805, (by decide : 11 + 1 ≤ _), (by decide : 48 + 4 ≤ _)⟩)
        dsimp only [Pt.U, Pt.locs, Pt.cells, Pt.slots] at X806 l806 y806 z806 st806 hQ806
        subst l806 y806 z806
        obtain ⟨r806, rfl, N806q, B806, K806q, E806q, P806⟩ := hQ806
        have N806 := Fr.app N805 N806q
        have hk := Nat.le_trans hk (own_ks K806q)
        have ne_b696_r806 : b696 ≠ r806 := Nat.ne_of_lt (Nat.lt_of_lt_of_le f800.lt B806)
        have ne_b772_r806 : b772 ≠ r806 := Nat.ne_of_lt (Nat.lt_of_lt_of_le f801.lt B806)
        have g_r806 : n0 ≤ r806 := Nat.le_trans (O799.1 ▸ O799.2.1) B806
        have f807 := (f800.keep K806q)
        have f808 := (f801.keep K806q)
        have f809 := (f802.keep K806q nin0)
        have f810 := (f803.keep K806q nin0)
        have f811 := (f804.keep K806q nin0)
        have O806 := O799.keep K806q all0
        refine own_goW (fun _ ww => Steps.trans st806 ww) ?_
        show own_GoesW _ _ _ _ _ _ _ (T806.setTop (mkF m 212 #[.val (.int x0), .val (.int x1), .val (.ref b693), .val (.ref b696), .val (.ref b745), .val (.ref b753), .val (.int (0 : Int32)), .val (.ref b772), .val (.int (1 : Int32))] [(.ref r806)]))
        obtain ⟨cq812, kq812, q812a, q812b, q812c⟩ := isOf hZ rfl E806q
        obtain ⟨_, _, ⟨T812, L812, k812, n812⟩, -, X812, ⟨Lc812, hQ812, l812, y812, z812⟩, st812⟩ := X806.virtualBack hx (y := own_y31) (z := own_y31) hown (mvT hZ (own_w hw 135 rfl)) (mvT hZ (own_w hw 136 rfl)) (notFace_of_selects (args := #[]) (mvT hZ (own_w hw 138 rfl))) (mvT hZ (own_w hw 138 rfl)) (mvT hZ (own_w hw 137 rfl)) (by decide) (backOf (W := 0) (rm_waits1 l Z a0 hw [] r806 b696 T806.heap n0 O806 P806) hZ (own_w hw 139 rfl) (own_w hw 123 rfl) (by decide) (by decide)) q812a q812c (g := (mkF m 212 #[.val (.int x0), .val (.int x1), .val (.ref b693), .val (.ref b696), .val (.ref b745), .val (.ref b753), .val (.int (0 : Int32)), .val (.ref b772), .val (.int (1 : Int32))] [(.ref r806)])) rfl (by rw [hml]; rfl) (Steps.refl _) (argsL := []) (rest := []) (lenOf pd_9 rfl) rfl (by show 2 * 0 + _ ≤ _; exact Nat.le_of_eq rfl) (hb hby at_212) (fun _ _ => ⟨rfl, rfl, (by decide : 12 + 0 ≤ _), (by decide : 52 + 0 ≤ _)⟩)
        dsimp only [Pt.U, Pt.locs, Pt.cells, Pt.slots] at X812 l812 y812 z812 st812 hQ812
        subst l812 y812 z812
        obtain ⟨rfl, N812q, e812⟩ := hQ812
        have N812 := Fr.app N806 N812q
        refine own_goW (fun _ ww => Steps.trans st812 ww) ?_
        show own_GoesW _ _ _ _ _ _ _ (T812.setTop (mkF m 215 #[.val (.int x0), .val (.int x1), .val (.ref b693), .val (.ref b696), .val (.ref b745), .val (.ref b753), .val (.int (0 : Int32)), .val (.ref b772), .val (.int (1 : Int32))] [(.int (0 : Int32))]))
        refine own_goW (fun _ ww => XS.ifNo X812.here hx rfl (hb hby at_215) rfl (own_if .ne (teq (by decide : (0 : Int32) = (0 : Int32))).2) ww) ?_
        show own_GoesW _ _ _ _ _ _ _ (T812.setTop (mkF m 218 #[.val (.int x0), .val (.int x1), .val (.ref b693), .val (.ref b696), .val (.ref b745), .val (.ref b753), .val (.int (0 : Int32)), .val (.ref b772), .val (.int (1 : Int32))] []))
        refine own_goW (fun _ ww => XS.iconst X812.here hx rfl (hb hby at_218) ww) ?_
        show own_GoesW _ _ _ _ _ _ _ (T812.setTop (mkF m 219 #[.val (.int x0), .val (.int x1), .val (.ref b693), .val (.ref b696), .val (.ref b745), .val (.ref b753), .val (.int (0 : Int32)), .val (.ref b772), .val (.int (1 : Int32))] [(.int (1 : Int32))]))
        refine own_goW (fun _ ww => XS.goto X812.here hx rfl (pc0 := 219) (pc' := 223) rfl (hb hby at_219) (by decide) (by decide) ww) ?_
        show own_GoesW _ _ _ _ _ _ _ (T812.setTop (mkF m 223 #[.val (.int x0), .val (.int x1), .val (.ref b693), .val (.ref b696), .val (.ref b745), .val (.ref b753), .val (.int (0 : Int32)), .val (.ref b772), .val (.int (1 : Int32))] [(.int (1 : Int32))]))
        refine own_goW (fun _ ww => XS.istore X812.here hx rfl (hb hby at_223) rfl (l' := #[.val (.int x0), .val (.int x1), .val (.ref b693), .val (.ref b696), .val (.ref b745), .val (.ref b753), .val (.int (0 : Int32)), .val (.ref b772), .val (.int (1 : Int32))]) rfl ww) ?_
        show own_GoesW _ _ _ _ _ _ _ (T812.setTop (mkF m 225 #[.val (.int x0), .val (.int x1), .val (.ref b693), .val (.ref b696), .val (.ref b745), .val (.ref b753), .val (.int (0 : Int32)), .val (.ref b772), .val (.int (1 : Int32))] []))
        refine own_goW (fun _ ww => XS.iload X812.here hx rfl (hb hby at_225) rfl  ww) ?_
        show own_GoesW _ _ _ _ _ _ _ (T812.setTop (mkF m 227 #[.val (.int x0), .val (.int x1), .val (.ref b693), .val (.ref b696), .val (.ref b745), .val (.ref b753), .val (.int (0 : Int32)), .val (.ref b772), .val (.int (1 : Int32))] [(.int (1 : Int32))]))
        exact own_outW X812 hS hk hlk (v := some (.int (1 : Int32))) (fun h => by rw [hret] at h; cases h) (fun fs hr => retOut X812 hx (t := .boolean) hret (by decide) (Or.inl ⟨rfl, by simp, _, rfl⟩) (hb hby at_227) hr) e812 ⟨rfl, N812⟩ (by decide) (by decide)
      ·
        refine own_goW (fun _ ww => XS.ifNo X762.here hx rfl (hb hby at_87) rfl (own_if .eq (feq hc771).1) ww) ?_
        show own_GoesW _ _ _ _ _ _ _ (T762.setTop (mkF m 90 #[.val (.int x0), .val (.int x1), .val (.ref b693), .val (.ref b696), .val (.ref b745), .val (.ref b753), .unset, .unset, .unset] []))
        refine own_goW (fun _ ww => XS.iconst X762.here hx rfl (hb hby at_90) ww) ?_
        show own_GoesW _ _ _ _ _ _ _ (T762.setTop (mkF m 91 #[.val (.int x0), .val (.int x1), .val (.ref b693), .val (.ref b696), .val (.ref b745), .val (.ref b753), .unset, .unset, .unset] [(.int (1 : Int32))]))
        refine own_goW (fun _ ww => XS.goto X762.here hx rfl (pc0 := 91) (pc' := 95) rfl (hb hby at_91) (by decide) (by decide) ww) ?_
        show own_GoesW _ _ _ _ _ _ _ (T762.setTop (mkF m 95 #[.val (.int x0), .val (.int x1), .val (.ref b693), .val (.ref b696), .val (.ref b745), .val (.ref b753), .unset, .unset, .unset] [(.int (1 : Int32))]))
        refine own_goW (fun _ ww => XS.istore X762.here hx rfl (hb hby at_95) rfl (l' := #[.val (.int x0), .val (.int x1), .val (.ref b693), .val (.ref b696), .val (.ref b745), .val (.ref b753), .val (.int (1 : Int32)), .unset, .unset]) rfl ww) ?_
        show own_GoesW _ _ _ _ _ _ _ (T762.setTop (mkF m 97 #[.val (.int x0), .val (.int x1), .val (.ref b693), .val (.ref b696), .val (.ref b745), .val (.ref b753), .val (.int (1 : Int32)), .unset, .unset] []))
        obtain ⟨T813, h813, X813, e813, E813, A813, D813, -, st813⟩ := newO X762 hx hZ hown (own_w hw 121 rfl) (own_w hw 122 rfl) (own_w hw 123 rfl) rfl (g := (mkF m 97 #[.val (.int x0), .val (.int x1), .val (.ref b693), .val (.ref b696), .val (.ref b745), .val (.ref b753), .val (.int (1 : Int32)), .unset, .unset] [])) rfl (hb hby at_97) (by decide) (by decide)
        obtain ⟨b813, g813⟩ : ∃ z, z = T762.heap.size := ⟨_, rfl⟩
        rw [← g813] at A813 D813 st813
        have ne_b696_b813 : b696 ≠ b813 := Nat.ne_of_lt (Nat.lt_of_lt_of_le f763.lt (Nat.le_of_eq g813.symm))
        have ne_b745_b813 : b745 ≠ b813 := Nat.ne_of_lt (Nat.lt_of_lt_of_le f764.lt (Nat.le_of_eq g813.symm))
        have ne_b753_b813 : b753 ≠ b813 := Nat.ne_of_lt (Nat.lt_of_lt_of_le f768.lt (Nat.le_of_eq g813.symm))
        have g_b813 : n0 ≤ b813 := Nat.le_trans (O762.1 ▸ O762.2.1) (Nat.le_of_eq g813.symm)
        have f814 := (f763.ext E813)
        have f815 := (f764.ext E813)
        have f816 := (f765.ext E813)
        have f817 := (f766.ext E813)
        have f818 := (f767.ext E813)
        have f819 := (f768.ext E813)
        have f820 := (P762.ext E813)
        have f821 := (Q762.ext E813)
        have f822 := (R762.ext E813)
        have O813 := O762.ext E813
        have hk := Nat.le_trans hk E813.1
        have f823 : Fld Z h813 b813 "com/example/navlint/navlint/model/State$Tab" "entry" "Lcom/example/navlint/navlint/model/Entry;" .null := D813 (Or.inr (own_w hw 129 rfl)) (ty := (.object "com/example/navlint/navlint/model/Entry")) (by decide)
        have f824 : Fld Z h813 b813 "com/example/navlint/navlint/model/State$Tab" "back" "Ljava/util/List;" .null := D813 (Or.inr (own_w hw 132 rfl)) (ty := (.object "java/util/List")) (by decide)
        have f825 : Fld Z h813 b813 "com/example/navlint/navlint/model/State$Tab" "forward" "Ljava/util/List;" .null := D813 (Or.inr (own_w hw 134 rfl)) (ty := (.object "java/util/List")) (by decide)
        refine own_goW st813 ?_
        show own_GoesW _ _ _ _ _ _ _ (T813.setTop (mkF m 100 #[.val (.int x0), .val (.int x1), .val (.ref b693), .val (.ref b696), .val (.ref b745), .val (.ref b753), .val (.int (1 : Int32)), .unset, .unset] [(.ref b813)]))
        refine own_goW (fun _ ww => XS.dup X813.here hx rfl (hb hby at_100) rfl rfl ww) ?_
        show own_GoesW _ _ _ _ _ _ _ (T813.setTop (mkF m 101 #[.val (.int x0), .val (.int x1), .val (.ref b693), .val (.ref b696), .val (.ref b745), .val (.ref b753), .val (.int (1 : Int32)), .unset, .unset] [(.ref b813), (.ref b813)]))
        refine own_goW (fun _ ww => XS.iload X813.here hx rfl (hb hby at_101) rfl  ww) ?_
        show own_GoesW _ _ _ _ _ _ _ (T813.setTop (mkF m 103 #[.val (.int x0), .val (.int x1), .val (.ref b693), .val (.ref b696), .val (.ref b745), .val (.ref b753), .val (.int (1 : Int32)), .unset, .unset] [(.int (1 : Int32)), (.ref b813), (.ref b813)]))
        refine own_goW (fun _ ww => XS.ifNo X813.here hx rfl (hb hby at_103) rfl (own_if .eq (feq (by decide : ¬ ((1 : Int32) = (0 : Int32)))).1) ww) ?_
        show own_GoesW _ _ _ _ _ _ _ (T813.setTop (mkF m 106 #[.val (.int x0), .val (.int x1), .val (.ref b693), .val (.ref b696), .val (.ref b745), .val (.ref b753), .val (.int (1 : Int32)), .unset, .unset] [(.ref b813), (.ref b813)]))
        refine own_goW (fun _ ww => XS.aloadN X813.here hx rfl (hb hby at_106) rfl rfl ww) ?_
        show own_GoesW _ _ _ _ _ _ _ (T813.setTop (mkF m 107 #[.val (.int x0), .val (.int x1), .val (.ref b693), .val (.ref b696), .val (.ref b745), .val (.ref b753), .val (.int (1 : Int32)), .unset, .unset] [(.ref b696), (.ref b813), (.ref b813)]))
        refine own_goW (fun _ ww => XS.goto X813.here hx rfl (pc0 := 107) (pc' := 111) rfl (hb hby at_107) (by decide) (by decide) ww) ?_
        show own_GoesW _ _ _ _ _ _ _ (T813.setTop (mkF m 111 #[.val (.int x0), .val (.int x1), .val (.ref b693), .val (.ref b696), .val (.ref b745), .val (.ref b753), .val (.int (1 : Int32)), .unset, .unset] [(.ref b696), (.ref b813), (.ref b813)]))
        refine own_goW (fun _ ww => XS.aload X813.here hx rfl (hb hby at_111) rfl rfl ww) ?_
        show own_GoesW _ _ _ _ _ _ _ (T813.setTop (mkF m 113 #[.val (.int x0), .val (.int x1), .val (.ref b693), .val (.ref b696), .val (.ref b745), .val (.ref b753), .val (.int (1 : Int32)), .unset, .unset] [(.ref b745), (.ref b696), (.ref b813), (.ref b813)]))
        refine own_goW (fun _ ww => XS.aload X813.here hx rfl (hb hby at_113) rfl rfl ww) ?_
        show own_GoesW _ _ _ _ _ _ _ (T813.setTop (mkF m 115 #[.val (.int x0), .val (.int x1), .val (.ref b693), .val (.ref b696), .val (.ref b745), .val (.ref b753), .val (.int (1 : Int32)), .unset, .unset] [(.ref b753), (.ref b745), (.ref b696), (.ref b813), (.ref b813)]))
        obtain ⟨_, _, ⟨T826, L826, k826, n826⟩, -, X826, ⟨Lc826, hQ826, l826, y826, z826⟩, st826⟩ := X813.specialBack hx (y := own_y28) rfl hown (mvT hZ (own_w hw 124 rfl)) (mvT hZ (own_w hw 125 rfl)) (mvT hZ (own_w hw 126 rfl)) (by decide) (backOf (W := 1) (rm_ti1ee l Z a0 hw [] b813 b696 mr aL aX b745 b753 h813 n0 O813 f823 f824 f825 A813 g_b813 f814 MK SL SX EL FL f818 f815 ne_b745_b813 f822 f819 ne_b753_b813) hZ (own_w hw 126 rfl) (own_w hw 123 rfl) (by decide) (by decide)) (g := (mkF m 115 #[.val (.int x0), .val (.int x1), .val (.ref b693), .val (.ref b696), .val (.ref b745), .val (.ref b753), .val (.int (1 : Int32)), .unset, .unset] [(.ref b753), (.ref b745), (.ref b696), (.ref b813), (.ref b813)])) rfl (by rw [hml]; rfl) (Steps.refl _) (a := b813) (argsL := [(.ref b696), (.ref b745), (.ref b753)]) (rest := [(.ref b813)]) (lenOf pd_15 rfl) rfl (by show 2 * 0 + _ ≤ _; exact Nat.le_of_eq rfl) (hb hby at_115) (fun _ _ => ⟨rfl, e813, (by decide : 10 + 0 ≤ _), (by decide : 44 + 0 ≤ _)⟩)
        dsimp only [Pt.U, Pt.locs, Pt.cells, Pt.slots] at X826 l826 y826 z826 st826 hQ826
        subst l826 y826 z826
        obtain ⟨rfl, N826q, K826q, P826, Q826, R826⟩ := hQ826
        have N826 := Fr.app N762 N826q
        have hk := Nat.le_trans hk (own_ks K826q)
        have f827 := (f814.keep K826q)
        have f828 := (f815.keep K826q)
        have f829 := (f816.keep K826q (ninS ne_b745_b813 nin0))
        have f830 := (f817.keep K826q (ninS ne_b745_b813 nin0))
        have f831 := (f818.keep K826q (ninS ne_b745_b813 nin0))
        have f832 := (f819.keep K826q)
        have f833 := (f820.keep K826q (ninS ne_b753_b813 nin0))
        have f834 := (f821.keep K826q (ninS ne_b753_b813 nin0))
        have f835 := (f822.keep K826q (ninS ne_b753_b813 nin0))
        have f836 := (A813.keep K826q)
        have O826 := O813.keep K826q (allS g_b813 all0)
        refine own_goW (fun _ ww => Steps.trans st826 ww) ?_
        show own_GoesW _ _ _ _ _ _ _ (T826.setTop (mkF m 118 #[.val (.int x0), .val (.int x1), .val (.ref b693), .val (.ref b696), .val (.ref b745), .val (.ref b753), .val (.int (1 : Int32)), .unset, .unset] [(.ref b813)]))
        refine own_goW (fun _ ww => XS.astore X826.here hx rfl (hb hby at_118) rfl rfl (l' := #[.val (.int x0), .val (.int x1), .val (.ref b693), .val (.ref b696), .val (.ref b745), .val (.ref b753), .val (.int (1 : Int32)), .val (.ref b813), .unset]) rfl ww) ?_
        show own_GoesW _ _ _ _ _ _ _ (T826.setTop (mkF m 120 #[.val (.int x0), .val (.int x1), .val (.ref b693), .val (.ref b696), .val (.ref b745), .val (.ref b753), .val (.int (1 : Int32)), .val (.ref b813), .unset] []))
        refine own_goW (fun _ ww => XS.aload X826.here hx rfl (hb hby at_120) rfl rfl ww) ?_
        show own_GoesW _ _ _ _ _ _ _ (T826.setTop (mkF m 122 #[.val (.int x0), .val (.int x1), .val (.ref b693), .val (.ref b696), .val (.ref b745), .val (.ref b753), .val (.int (1 : Int32)), .val (.ref b813), .unset] [(.ref b813)]))
        obtain ⟨cq837, kq837, q837a, q837b, q837c⟩ := isOf hZ rfl f836
        obtain ⟨_, _, ⟨T837, L837, k837, n837⟩, -, X837, ⟨Lc837, hQ837, l837, y837, z837⟩, st837⟩ := X826.virtualBack hx (y := own_y31) (z := own_y31) hown (mvT hZ (own_w hw 135 rfl)) (mvT hZ (own_w hw 136 rfl)) (notFace_of_selects (args := #[]) (mvT hZ (own_w hw 138 rfl))) (mvT hZ (own_w hw 138 rfl)) (mvT hZ (own_w hw 137 rfl)) (by decide) (backOf (W := 0) (rm_waits1 l Z a0 hw [] b813 b696 T826.heap n0 O826 P826) hZ (own_w hw 139 rfl) (own_w hw 123 rfl) (by decide) (by decide)) q837a q837c (g := (mkF m 122 #[.val (.int x0), .val (.int x1), .val (.ref b693), .val (.ref b696), .val (.ref b745), .val (.ref b753), .val (.int (1 : Int32)), .val (.ref b813), .unset] [(.ref b813)])) rfl (by rw [hml]; rfl) (Steps.refl _) (argsL := []) (rest := []) (lenOf pd_9 rfl) rfl (by show 2 * 0 + _ ≤ _; exact Nat.le_of_eq rfl) (hb hby at_122) (fun _ _ => ⟨rfl, rfl, (by decide : 10 + 0 ≤ _), (by decide : 44 + 0 ≤ _)⟩)
        dsimp only [Pt.U, Pt.locs, Pt.cells, Pt.slots] at X837 l837 y837 z837 st837 hQ837
        subst l837 y837 z837
        obtain ⟨rfl, N837q, e837⟩ := hQ837
        have N837 := Fr.app N826 N837q
        refine own_goW (fun _ ww => Steps.trans st837 ww) ?_
        show own_GoesW _ _ _ _ _ _ _ (T837.setTop (mkF m 125 #[.val (.int x0), .val (.int x1), .val (.ref b693), .val (.ref b696), .val (.ref b745), .val (.ref b753), .val (.int (1 : Int32)), .val (.ref b813), .unset] [(.int (0 : Int32))]))
        refine own_goW (fun _ ww => XS.iload X837.here hx rfl (hb hby at_125) rfl  ww) ?_
        show own_GoesW _ _ _ _ _ _ _ (T837.setTop (mkF m 127 #[.val (.int x0), .val (.int x1), .val (.ref b693), .val (.ref b696), .val (.ref b745), .val (.ref b753), .val (.int (1 : Int32)), .val (.ref b813), .unset] [(.int (1 : Int32)), (.int (0 : Int32))]))
        refine own_goW (fun _ ww => XS.ifYes X837.here hx rfl (pc0 := 127) (pc' := 134) rfl (hb hby at_127) rfl (own_if .ne (feq (by decide : ¬ ((1 : Int32) = (0 : Int32)))).2) (by decide) (by decide) ww) ?_
        show own_GoesW _ _ _ _ _ _ _ (T837.setTop (mkF m 134 #[.val (.int x0), .val (.int x1), .val (.ref b693), .val (.ref b696), .val (.ref b745), .val (.ref b753), .val (.int (1 : Int32)), .val (.ref b813), .unset] [(.int (0 : Int32))]))
        refine own_goW (fun _ ww => XS.iconst X837.here hx rfl (hb hby at_134) ww) ?_
        show own_GoesW _ _ _ _ _ _ _ (T837.setTop (mkF m 135 #[.val (.int x0), .val (.int x1), .val (.ref b693), .val (.ref b696), .val (.ref b745), .val (.ref b753), .val (.int (1 : Int32)), .val (.ref b813), .unset] [(.int (0 : Int32)), (.int (0 : Int32))]))
        refine own_goW (fun _ ww => XS.icmpNo X837.here hx rfl (hb hby at_135) rfl (teq (by decide : (0 : Int32) = (0 : Int32))).2 ww) ?_
        show own_GoesW _ _ _ _ _ _ _ (T837.setTop (mkF m 138 #[.val (.int x0), .val (.int x1), .val (.ref b693), .val (.ref b696), .val (.ref b745), .val (.ref b753), .val (.int (1 : Int32)), .val (.ref b813), .unset] []))
        refine own_goW (fun _ ww => XS.iconst X837.here hx rfl (hb hby at_138) ww) ?_
        show own_GoesW _ _ _ _ _ _ _ (T837.setTop (mkF m 139 #[.val (.int x0), .val (.int x1), .val (.ref b693), .val (.ref b696), .val (.ref b745), .val (.ref b753), .val (.int (1 : Int32)), .val (.ref b813), .unset] [(.int (1 : Int32))]))
        refine own_goW (fun _ ww => XS.goto X837.here hx rfl (pc0 := 139) (pc' := 143) rfl (hb hby at_139) (by decide) (by decide) ww) ?_
        show own_GoesW _ _ _ _ _ _ _ (T837.setTop (mkF m 143 #[.val (.int x0), .val (.int x1), .val (.ref b693), .val (.ref b696), .val (.ref b745), .val (.ref b753), .val (.int (1 : Int32)), .val (.ref b813), .unset] [(.int (1 : Int32))]))
        refine own_goW (fun _ ww => XS.istore X837.here hx rfl (hb hby at_143) rfl (l' := #[.val (.int x0), .val (.int x1), .val (.ref b693), .val (.ref b696), .val (.ref b745), .val (.ref b753), .val (.int (1 : Int32)), .val (.ref b813), .val (.int (1 : Int32))]) rfl ww) ?_
        show own_GoesW _ _ _ _ _ _ _ (T837.setTop (mkF m 145 #[.val (.int x0), .val (.int x1), .val (.ref b693), .val (.ref b696), .val (.ref b745), .val (.ref b753), .val (.int (1 : Int32)), .val (.ref b813), .val (.int (1 : Int32))] []))
        refine own_goW (fun _ ww => XS.iload X837.here hx rfl (hb hby at_145) rfl  ww) ?_
        show own_GoesW _ _ _ _ _ _ _ (T837.setTop (mkF m 147 #[.val (.int x0), .val (.int x1), .val (.ref b693), .val (.ref b696), .val (.ref b745), .val (.ref b753), .val (.int (1 : Int32)), .val (.ref b813), .val (.int (1 : Int32))] [(.int (1 : Int32))]))
        refine own_goW (fun _ ww => XS.ifNo X837.here hx rfl (hb hby at_147) rfl (own_if .eq (feq (by decide : ¬ ((1 : Int32) = (0 : Int32)))).1) ww) ?_
        show own_GoesW _ _ _ _ _ _ _ (T837.setTop (mkF m 150 #[.val (.int x0), .val (.int x1), .val (.ref b693), .val (.ref b696), .val (.ref b745), .val (.ref b753), .val (.int (1 : Int32)), .val (.ref b813), .val (.int (1 : Int32))] []))
        refine own_goW (fun _ ww => XS.aload X837.here hx rfl (hb hby at_150) rfl rfl ww) ?_
        show own_GoesW _ _ _ _ _ _ _ (T837.setTop (mkF m 152 #[.val (.int x0), .val (.int x1), .val (.ref b693), .val (.ref b696), .val (.ref b745), .val (.ref b753), .val (.int (1 : Int32)), .val (.ref b813), .val (.int (1 : Int32))] [(.ref b813)]))
        obtain ⟨cq838, kq838, q838a, q838b, q838c⟩ := isOf hZ e837 f836
        obtain ⟨_, _, ⟨T838, L838, k838, n838⟩, -, X838, ⟨Lc838, hQ838, l838, y838, z838⟩, st838⟩ := X837.virtualBack hx (y := own_y31) (z := own_y31) hown (mvT hZ (own_w hw 135 rfl)) (mvT hZ (own_w hw 136 rfl)) (notFace_of_selects (args := #[]) (mvT hZ (own_w hw 138 rfl))) (mvT hZ (own_w hw 138 rfl)) (mvT hZ (own_w hw 137 rfl)) (by decide) (backOf (W := 0) (rm_waits1 l Z a0 hw [] b813 b696 T826.heap n0 O826 P826) hZ (own_w hw 139 rfl) (own_w hw 123 rfl) (by decide) (by decide)) q838a q838c (g := (mkF m 152 #[.val (.int x0), .val (.int x1), .val (.ref b693), .val (.ref b696), .val (.ref b745), .val (.ref b753), .val (.int (1 : Int32)), .val (.ref b813), .val (.int (1 : Int32))] [(.ref b813)])) rfl (by rw [hml]; rfl) (Steps.refl _) (argsL := []) (rest := []) (lenOf pd_9 rfl) rfl (by show 2 * 0 + _ ≤ _; exact Nat.le_of_eq rfl) (hb hby at_152) (fun _ _ => ⟨rfl, e837, (by decide : 10 + 0 ≤ _), (by decide : 44 + 0 ≤ _)⟩)
        dsimp only [Pt.U, Pt.locs, Pt.cells, Pt.slots] at X838 l838 y838 z838 st838 hQ838
        subst l838 y838 z838
        obtain ⟨rfl, N838q, e838⟩ := hQ838
        have N838 := Fr.app N837 N838q
        refine own_goW (fun _ ww => Steps.trans st838 ww) ?_
        show own_GoesW _ _ _ _ _ _ _ (T838.setTop (mkF m 155 #[.val (.int x0), .val (.int x1), .val (.ref b693), .val (.ref b696), .val (.ref b745), .val (.ref b753), .val (.int (1 : Int32)), .val (.ref b813), .val (.int (1 : Int32))] [(.int (0 : Int32))]))
        refine own_goW (fun _ ww => XS.aload X838.here hx rfl (hb hby at_155) rfl rfl ww) ?_
        show own_GoesW _ _ _ _ _ _ _ (T838.setTop (mkF m 157 #[.val (.int x0), .val (.int x1), .val (.ref b693), .val (.ref b696), .val (.ref b745), .val (.ref b753), .val (.int (1 : Int32)), .val (.ref b813), .val (.int (1 : Int32))] [(.ref b813), (.int (0 : Int32))]))
        obtain ⟨cq839, kq839, q839a, q839b, q839c⟩ := isOf hZ e838 f836
        obtain ⟨_, _, ⟨T839, L839, k839, n839⟩, -, X839, ⟨Lc839, hQ839, l839, y839, z839⟩, st839⟩ := X838.virtualBack hx (y := own_y32) (z := own_y32) hown (mvT hZ (own_w hw 140 rfl)) (mvT hZ (own_w hw 141 rfl)) (notFace_of_selects (args := #[]) (mvT hZ (own_w hw 143 rfl))) (mvT hZ (own_w hw 143 rfl)) (mvT hZ (own_w hw 142 rfl)) (by decide) (backOf (W := 1) (rm_entry1 l Z a0 hw [] b813 b696 T826.heap n0 O826 P826) hZ (own_w hw 144 rfl) (own_w hw 123 rfl) (by decide) (by decide)) q839a q839c (g := (mkF m 157 #[.val (.int x0), .val (.int x1), .val (.ref b693), .val (.ref b696), .val (.ref b745), .val (.ref b753), .val (.int (1 : Int32)), .val (.ref b813), .val (.int (1 : Int32))] [(.ref b813), (.int (0 : Int32))])) rfl (by rw [hml]; rfl) (Steps.refl _) (argsL := []) (rest := [(.int (0 : Int32))]) (lenOf pd_19 rfl) rfl (by show 2 * 0 + _ ≤ _; exact Nat.le_of_eq rfl) (hb hby at_157) (fun _ _ => ⟨rfl, e838, (by decide : 10 + 0 ≤ _), (by decide : 44 + 0 ≤ _)⟩)
        dsimp only [Pt.U, Pt.locs, Pt.cells, Pt.slots] at X839 l839 y839 z839 st839 hQ839
        subst l839 y839 z839
        obtain ⟨rfl, N839q, e839⟩ := hQ839
        have N839 := Fr.app N838 N839q
        refine own_goW (fun _ ww => Steps.trans st839 ww) ?_
        show own_GoesW _ _ _ _ _ _ _ (T839.setTop (mkF m 160 #[.val (.int x0), .val (.int x1), .val (.ref b693), .val (.ref b696), .val (.ref b745), .val (.ref b753), .val (.int (1 : Int32)), .val (.ref b813), .val (.int (1 : Int32))] [(.ref b696), (.int (0 : Int32))]))
        refine own_goW (fun _ ww => XT.ifnonnullYes X839.here hx rfl (pc0 := 160) (pc' := 167) rfl (hb hby at_160) rfl (by decide) (by decide) ww) ?_
        show own_GoesW _ _ _ _ _ _ _ (T839.setTop (mkF m 167 #[.val (.int x0), .val (.int x1), .val (.ref b693), .val (.ref b696), .val (.ref b745), .val (.ref b753), .val (.int (1 : Int32)), .val (.ref b813), .val (.int (1 : Int32))] [(.int (0 : Int32))]))
        refine own_goW (fun _ ww => XS.iconst X839.here hx rfl (hb hby at_167) ww) ?_
        show own_GoesW _ _ _ _ _ _ _ (T839.setTop (mkF m 168 #[.val (.int x0), .val (.int x1), .val (.ref b693), .val (.ref b696), .val (.ref b745), .val (.ref b753), .val (.int (1 : Int32)), .val (.ref b813), .val (.int (1 : Int32))] [(.int (0 : Int32)), (.int (0 : Int32))]))
        refine own_goW (fun _ ww => XS.icmpNo X839.here hx rfl (hb hby at_168) rfl (teq (by decide : (0 : Int32) = (0 : Int32))).2 ww) ?_
        show own_GoesW _ _ _ _ _ _ _ (T839.setTop (mkF m 171 #[.val (.int x0), .val (.int x1), .val (.ref b693), .val (.ref b696), .val (.ref b745), .val (.ref b753), .val (.int (1 : Int32)), .val (.ref b813), .val (.int (1 : Int32))] []))
        refine own_goW (fun _ ww => XS.iconst X839.here hx rfl (hb hby at_171) ww) ?_
        show own_GoesW _ _ _ _ _ _ _ (T839.setTop (mkF m 172 #[.val (.int x0), .val (.int x1), .val (.ref b693), .val (.ref b696), .val (.ref b745), .val (.ref b753), .val (.int (1 : Int32)), .val (.ref b813), .val (.int (1 : Int32))] [(.int (1 : Int32))]))
        refine own_goW (fun _ ww => XS.goto X839.here hx rfl (pc0 := 172) (pc' := 176) rfl (hb hby at_172) (by decide) (by decide) ww) ?_
        show own_GoesW _ _ _ _ _ _ _ (T839.setTop (mkF m 176 #[.val (.int x0), .val (.int x1), .val (.ref b693), .val (.ref b696), .val (.ref b745), .val (.ref b753), .val (.int (1 : Int32)), .val (.ref b813), .val (.int (1 : Int32))] [(.int (1 : Int32))]))
        refine own_goW (fun _ ww => XS.istore X839.here hx rfl (hb hby at_176) rfl (l' := #[.val (.int x0), .val (.int x1), .val (.ref b693), .val (.ref b696), .val (.ref b745), .val (.ref b753), .val (.int (1 : Int32)), .val (.ref b813), .val (.int (1 : Int32))]) rfl ww) ?_
        show own_GoesW _ _ _ _ _ _ _ (T839.setTop (mkF m 178 #[.val (.int x0), .val (.int x1), .val (.ref b693), .val (.ref b696), .val (.ref b745), .val (.ref b753), .val (.int (1 : Int32)), .val (.ref b813), .val (.int (1 : Int32))] []))
        refine own_goW (fun _ ww => XS.iload X839.here hx rfl (hb hby at_178) rfl  ww) ?_
        show own_GoesW _ _ _ _ _ _ _ (T839.setTop (mkF m 180 #[.val (.int x0), .val (.int x1), .val (.ref b693), .val (.ref b696), .val (.ref b745), .val (.ref b753), .val (.int (1 : Int32)), .val (.ref b813), .val (.int (1 : Int32))] [(.int (1 : Int32))]))
        refine own_goW (fun _ ww => XS.ifNo X839.here hx rfl (hb hby at_180) rfl (own_if .eq (feq (by decide : ¬ ((1 : Int32) = (0 : Int32)))).1) ww) ?_
        show own_GoesW _ _ _ _ _ _ _ (T839.setTop (mkF m 183 #[.val (.int x0), .val (.int x1), .val (.ref b693), .val (.ref b696), .val (.ref b745), .val (.ref b753), .val (.int (1 : Int32)), .val (.ref b813), .val (.int (1 : Int32))] []))
        refine own_goW (fun _ ww => XS.aload X839.here hx rfl (hb hby at_183) rfl rfl ww) ?_
        show own_GoesW _ _ _ _ _ _ _ (T839.setTop (mkF m 185 #[.val (.int x0), .val (.int x1), .val (.ref b693), .val (.ref b696), .val (.ref b745), .val (.ref b753), .val (.int (1 : Int32)), .val (.ref b813), .val (.int (1 : Int32))] [(.ref b813)]))
        obtain ⟨cq840, kq840, q840a, q840b, q840c⟩ := isOf hZ e839 f836
        obtain ⟨_, _, ⟨T840, L840, k840, n840⟩, -, X840, ⟨Lc840, hQ840, l840, y840, z840⟩, st840⟩ := X839.virtualBack hx (y := own_y29) (z := own_y29) hown (mvT hZ (own_w hw 145 rfl)) (mvT hZ (own_w hw 146 rfl)) (notFace_of_selects (args := #[]) (mvT hZ (own_w hw 148 rfl))) (mvT hZ (own_w hw 148 rfl)) (mvT hZ (own_w hw 147 rfl)) (by decide) (backOf (W := 0) (rm_waitingII l Z a0 hw [] b813 b696 mr aL aX aL "java/util/ImmutableCollections$ListN" aL "java/util/ImmutableCollections$ListN" T826.heap n0 O826 f827 MK SL SX EL FL Q826 R826 (EL.ext O826.2) (Or.inr ⟨rfl, rfl⟩) (EL.ext O826.2) (Or.inr ⟨rfl, rfl⟩)) hZ (own_w hw 149 rfl) (own_w hw 123 rfl) (by decide) (by decide)) q840a q840c (g := (mkF m 185 #[.val (.int x0), .val (.int x1), .val (.ref b693), .val (.ref b696), .val (.ref b745), .val (.ref b753), .val (.int (1 : Int32)), .val (.ref b813), .val (.int (1 : Int32))] [(.ref b813)])) rfl (by rw [hml]; rfl) (Steps.refl _) (argsL := []) (rest := []) (lenOf pd_20 rfl) rfl (by show 2 * 0 + _ ≤ _; exact Nat.le_of_eq rfl) (hb hby at_185) (fun _ _ => ⟨rfl, e839, (by decide : 10 + 1 ≤ _), (by decide : 44 + 4 ≤ _)⟩)
        dsimp only [Pt.U, Pt.locs, Pt.cells, Pt.slots] at X840 l840 y840 z840 st840 hQ840
        subst l840 y840 z840
        obtain ⟨r840, rfl, N840q, B840, K840q, E840q, P840⟩ := hQ840
        have N840 := Fr.app N839 N840q
        have hk := Nat.le_trans hk (own_ks K840q)
        have ne_b696_r840 : b696 ≠ r840 := Nat.ne_of_lt (Nat.lt_of_lt_of_le f827.lt B840)
        have ne_b813_r840 : b813 ≠ r840 := Nat.ne_of_lt (Nat.lt_of_lt_of_le f836.lt B840)
        have g_r840 : n0 ≤ r840 := Nat.le_trans (O826.1 ▸ O826.2.1) B840
        have f841 := (f827.keep K840q)
        have f842 := (f836.keep K840q)
        have f843 := (P826.keep K840q nin0)
        have f844 := (Q826.keep K840q nin0)
        have f845 := (R826.keep K840q nin0)
        have O840 := O826.keep K840q all0
        refine own_goW (fun _ ww => Steps.trans st840 ww) ?_
        show own_GoesW _ _ _ _ _ _ _ (T840.setTop (mkF m 188 #[.val (.int x0), .val (.int x1), .val (.ref b693), .val (.ref b696), .val (.ref b745), .val (.ref b753), .val (.int (1 : Int32)), .val (.ref b813), .val (.int (1 : Int32))] [(.ref r840)]))
        obtain ⟨cq846, kq846, q846a, q846b, q846c⟩ := isOf hZ rfl E840q
        obtain ⟨_, _, ⟨T846, L846, k846, n846⟩, -, X846, ⟨Lc846, hQ846, l846, y846, z846⟩, st846⟩ := X840.virtualBack hx (y := own_y31) (z := own_y31) hown (mvT hZ (own_w hw 135 rfl)) (mvT hZ (own_w hw 136 rfl)) (notFace_of_selects (args := #[]) (mvT hZ (own_w hw 138 rfl))) (mvT hZ (own_w hw 138 rfl)) (mvT hZ (own_w hw 137 rfl)) (by decide) (backOf (W := 0) (rm_waits0 l Z a0 hw [] r840 aL T840.heap n0 O840 P840) hZ (own_w hw 139 rfl) (own_w hw 123 rfl) (by decide) (by decide)) q846a q846c (g := (mkF m 188 #[.val (.int x0), .val (.int x1), .val (.ref b693), .val (.ref b696), .val (.ref b745), .val (.ref b753), .val (.int (1 : Int32)), .val (.ref b813), .val (.int (1 : Int32))] [(.ref r840)])) rfl (by rw [hml]; rfl) (Steps.refl _) (argsL := []) (rest := []) (lenOf pd_9 rfl) rfl (by show 2 * 0 + _ ≤ _; exact Nat.le_of_eq rfl) (hb hby at_188) (fun _ _ => ⟨rfl, rfl, (by decide : 11 + 0 ≤ _), (by decide : 48 + 0 ≤ _)⟩)
        dsimp only [Pt.U, Pt.locs, Pt.cells, Pt.slots] at X846 l846 y846 z846 st846 hQ846
        subst l846 y846 z846
        obtain ⟨rfl, N846q, e846⟩ := hQ846
        have N846 := Fr.app N840 N846q
        refine own_goW (fun _ ww => Steps.trans st846 ww) ?_
        show own_GoesW _ _ _ _ _ _ _ (T846.setTop (mkF m 191 #[.val (.int x0), .val (.int x1), .val (.ref b693), .val (.ref b696), .val (.ref b745), .val (.ref b753), .val (.int (1 : Int32)), .val (.ref b813), .val (.int (1 : Int32))] [(.int (1 : Int32))]))
        refine own_goW (fun _ ww => XS.ifNo X846.here hx rfl (hb hby at_191) rfl (own_if .eq (feq (by decide : ¬ ((1 : Int32) = (0 : Int32)))).1) ww) ?_
        show own_GoesW _ _ _ _ _ _ _ (T846.setTop (mkF m 194 #[.val (.int x0), .val (.int x1), .val (.ref b693), .val (.ref b696), .val (.ref b745), .val (.ref b753), .val (.int (1 : Int32)), .val (.ref b813), .val (.int (1 : Int32))] []))
        refine own_goW (fun _ ww => XS.iconst X846.here hx rfl (hb hby at_194) ww) ?_
        show own_GoesW _ _ _ _ _ _ _ (T846.setTop (mkF m 195 #[.val (.int x0), .val (.int x1), .val (.ref b693), .val (.ref b696), .val (.ref b745), .val (.ref b753), .val (.int (1 : Int32)), .val (.ref b813), .val (.int (1 : Int32))] [(.int (1 : Int32))]))
        refine own_goW (fun _ ww => XS.goto X846.here hx rfl (pc0 := 195) (pc' := 199) rfl (hb hby at_195) (by decide) (by decide) ww) ?_
        show own_GoesW _ _ _ _ _ _ _ (T846.setTop (mkF m 199 #[.val (.int x0), .val (.int x1), .val (.ref b693), .val (.ref b696), .val (.ref b745), .val (.ref b753), .val (.int (1 : Int32)), .val (.ref b813), .val (.int (1 : Int32))] [(.int (1 : Int32))]))
        refine own_goW (fun _ ww => XS.istore X846.here hx rfl (hb hby at_199) rfl (l' := #[.val (.int x0), .val (.int x1), .val (.ref b693), .val (.ref b696), .val (.ref b745), .val (.ref b753), .val (.int (1 : Int32)), .val (.ref b813), .val (.int (1 : Int32))]) rfl ww) ?_
        show own_GoesW _ _ _ _ _ _ _ (T846.setTop (mkF m 201 #[.val (.int x0), .val (.int x1), .val (.ref b693), .val (.ref b696), .val (.ref b745), .val (.ref b753), .val (.int (1 : Int32)), .val (.ref b813), .val (.int (1 : Int32))] []))
        refine own_goW (fun _ ww => XS.iload X846.here hx rfl (hb hby at_201) rfl  ww) ?_
        show own_GoesW _ _ _ _ _ _ _ (T846.setTop (mkF m 203 #[.val (.int x0), .val (.int x1), .val (.ref b693), .val (.ref b696), .val (.ref b745), .val (.ref b753), .val (.int (1 : Int32)), .val (.ref b813), .val (.int (1 : Int32))] [(.int (1 : Int32))]))
        refine own_goW (fun _ ww => XS.ifNo X846.here hx rfl (hb hby at_203) rfl (own_if .eq (feq (by decide : ¬ ((1 : Int32) = (0 : Int32)))).1) ww) ?_
        show own_GoesW _ _ _ _ _ _ _ (T846.setTop (mkF m 206 #[.val (.int x0), .val (.int x1), .val (.ref b693), .val (.ref b696), .val (.ref b745), .val (.ref b753), .val (.int (1 : Int32)), .val (.ref b813), .val (.int (1 : Int32))] []))
        refine own_goW (fun _ ww => XS.aload X846.here hx rfl (hb hby at_206) rfl rfl ww) ?_
        show own_GoesW _ _ _ _ _ _ _ (T846.setTop (mkF m 208 #[.val (.int x0), .val (.int x1), .val (.ref b693), .val (.ref b696), .val (.ref b745), .val (.ref b753), .val (.int (1 : Int32)), .val (.ref b813), .val (.int (1 : Int32))] [(.ref b813)]))
        refine own_goW (fun _ ww => XS.aloadN X846.here hx rfl (hb hby at_208) rfl rfl ww) ?_
        show own_GoesW _ _ _ _ _ _ _ (T846.setTop (mkF m 209 #[.val (.int x0), .val (.int x1), .val (.ref b693), .val (.ref b696), .val (.ref b745), .val (.ref b753), .val (.int (1 : Int32)), .val (.ref b813), .val (.int (1 : Int32))] [(.ref b696), (.ref b813)]))
        obtain ⟨cq847, kq847, q847a, q847b, q847c⟩ := isOf hZ e846 f842
        obtain ⟨_, _, ⟨T847, L847, k847, n847⟩, -, X847, ⟨Lc847, hQ847, l847, y847, z847⟩, st847⟩ := X846.virtualBack hx (y := own_y30) (z := own_y30) hown (mvT hZ (own_w hw 160 rfl)) (mvT hZ (own_w hw 161 rfl)) (notFace_of_selects (args := #[]) (mvT hZ (own_w hw 163 rfl))) (mvT hZ (own_w hw 163 rfl)) (mvT hZ (own_w hw 162 rfl)) (by decide) (backOf (W := 0) (rm_showingII l Z a0 hw [] b813 b696 mr aL aX aL "java/util/ImmutableCollections$ListN" aL "java/util/ImmutableCollections$ListN" T840.heap n0 O840 f841 MK SL SX EL FL f844 f845 (EL.ext O840.2) (Or.inr ⟨rfl, rfl⟩) (EL.ext O840.2) (Or.inr ⟨rfl, rfl⟩)) hZ (own_w hw 164 rfl) (own_w hw 123 rfl) (by decide) (by decide)) q847a q847c (g := (mkF m 209 #[.val (.int x0), .val (.int x1), .val (.ref b693), .val (.ref b696), .val (.ref b745), .val (.ref b753), .val (.int (1 : Int32)), .val (.ref b813), .val (.int (1 : Int32))] [(.ref b696), (.ref b813)])) rfl (by rw [hml]; rfl) (Steps.refl _) (argsL := [(.ref b696)]) (rest := []) (lenOf pd_21 rfl) rfl (by show 2 * 0 + _ ≤ _; exact Nat.le_of_eq rfl) (hb hby at_209) (fun _ _ => ⟨rfl, e846, (by decide : 11 + 1 ≤ _), (by decide : 48 + 4 ≤ _)⟩)
        dsimp only [Pt.U, Pt.locs, Pt.cells, Pt.slots] at X847 l847 y847 z847 st847 hQ847
        subst l847 y847 z847
        obtain ⟨r847, rfl, N847q, B847, K847q, E847q, P847⟩ := hQ847
        have N847 := Fr.app N846 N847q
        have hk := Nat.le_trans hk (own_ks K847q)
        have ne_b696_r847 : b696 ≠ r847 := Nat.ne_of_lt (Nat.lt_of_lt_of_le f841.lt B847)
        have ne_b813_r847 : b813 ≠ r847 := Nat.ne_of_lt (Nat.lt_of_lt_of_le f842.lt B847)
        have g_r847 : n0 ≤ r847 := Nat.le_trans (O840.1 ▸ O840.2.1) B847
        have f848 := (f841.keep K847q)
        have f849 := (f842.keep K847q)
        have f850 := (f843.keep K847q nin0)
        have f851 := (f844.keep K847q nin0)
        have f852 := (f845.keep K847q nin0)
        have O847 := O840.keep K847q all0
        refine own_goW (fun _ ww => Steps.trans st847 ww) ?_
        show own_GoesW _ _ _ _ _ _ _ (T847.setTop (mkF m 212 #[.val (.int x0), .val (.int x1), .val (.ref b693), .val (.ref b696), .val (.ref b745), .val (.ref b753), .val (.int (1 : Int32)), .val (.ref b813), .val (.int (1 : Int32))] [(.ref r847)]))
        obtain ⟨cq853, kq853, q853a, q853b, q853c⟩ := isOf hZ rfl E847q
        obtain ⟨_, _, ⟨T853, L853, k853, n853⟩, -, X853, ⟨Lc853, hQ853, l853, y853, z853⟩, st853⟩ := X847.virtualBack hx (y := own_y31) (z := own_y31) hown (mvT hZ (own_w hw 135 rfl)) (mvT hZ (own_w hw 136 rfl)) (notFace_of_selects (args := #[]) (mvT hZ (own_w hw 138 rfl))) (mvT hZ (own_w hw 138 rfl)) (mvT hZ (own_w hw 137 rfl)) (by decide) (backOf (W := 0) (rm_waits1 l Z a0 hw [] r847 b696 T847.heap n0 O847 P847) hZ (own_w hw 139 rfl) (own_w hw 123 rfl) (by decide) (by decide)) q853a q853c (g := (mkF m 212 #[.val (.int x0), .val (.int x1), .val (.ref b693), .val (.ref b696), .val (.ref b745), .val (.ref b753), .val (.int (1 : Int32)), .val (.ref b813), .val (.int (1 : Int32))] [(.ref r847)])) rfl (by rw [hml]; rfl) (Steps.refl _) (argsL := []) (rest := []) (lenOf pd_9 rfl) rfl (by show 2 * 0 + _ ≤ _; exact Nat.le_of_eq rfl) (hb hby at_212) (fun _ _ => ⟨rfl, rfl, (by decide : 12 + 0 ≤ _), (by decide : 52 + 0 ≤ _)⟩)
        dsimp only [Pt.U, Pt.locs, Pt.cells, Pt.slots] at X853 l853 y853 z853 st853 hQ853
        subst l853 y853 z853
        obtain ⟨rfl, N853q, e853⟩ := hQ853
        have N853 := Fr.app N847 N853q
        refine own_goW (fun _ ww => Steps.trans st853 ww) ?_
        show own_GoesW _ _ _ _ _ _ _ (T853.setTop (mkF m 215 #[.val (.int x0), .val (.int x1), .val (.ref b693), .val (.ref b696), .val (.ref b745), .val (.ref b753), .val (.int (1 : Int32)), .val (.ref b813), .val (.int (1 : Int32))] [(.int (0 : Int32))]))
        refine own_goW (fun _ ww => XS.ifNo X853.here hx rfl (hb hby at_215) rfl (own_if .ne (teq (by decide : (0 : Int32) = (0 : Int32))).2) ww) ?_
        show own_GoesW _ _ _ _ _ _ _ (T853.setTop (mkF m 218 #[.val (.int x0), .val (.int x1), .val (.ref b693), .val (.ref b696), .val (.ref b745), .val (.ref b753), .val (.int (1 : Int32)), .val (.ref b813), .val (.int (1 : Int32))] []))
        refine own_goW (fun _ ww => XS.iconst X853.here hx rfl (hb hby at_218) ww) ?_
        show own_GoesW _ _ _ _ _ _ _ (T853.setTop (mkF m 219 #[.val (.int x0), .val (.int x1), .val (.ref b693), .val (.ref b696), .val (.ref b745), .val (.ref b753), .val (.int (1 : Int32)), .val (.ref b813), .val (.int (1 : Int32))] [(.int (1 : Int32))]))
        refine own_goW (fun _ ww => XS.goto X853.here hx rfl (pc0 := 219) (pc' := 223) rfl (hb hby at_219) (by decide) (by decide) ww) ?_
        show own_GoesW _ _ _ _ _ _ _ (T853.setTop (mkF m 223 #[.val (.int x0), .val (.int x1), .val (.ref b693), .val (.ref b696), .val (.ref b745), .val (.ref b753), .val (.int (1 : Int32)), .val (.ref b813), .val (.int (1 : Int32))] [(.int (1 : Int32))]))
        refine own_goW (fun _ ww => XS.istore X853.here hx rfl (hb hby at_223) rfl (l' := #[.val (.int x0), .val (.int x1), .val (.ref b693), .val (.ref b696), .val (.ref b745), .val (.ref b753), .val (.int (1 : Int32)), .val (.ref b813), .val (.int (1 : Int32))]) rfl ww) ?_
        show own_GoesW _ _ _ _ _ _ _ (T853.setTop (mkF m 225 #[.val (.int x0), .val (.int x1), .val (.ref b693), .val (.ref b696), .val (.ref b745), .val (.ref b753), .val (.int (1 : Int32)), .val (.ref b813), .val (.int (1 : Int32))] []))
        refine own_goW (fun _ ww => XS.iload X853.here hx rfl (hb hby at_225) rfl  ww) ?_
        show own_GoesW _ _ _ _ _ _ _ (T853.setTop (mkF m 227 #[.val (.int x0), .val (.int x1), .val (.ref b693), .val (.ref b696), .val (.ref b745), .val (.ref b753), .val (.int (1 : Int32)), .val (.ref b813), .val (.int (1 : Int32))] [(.int (1 : Int32))]))
        exact own_outW X853 hS hk hlk (v := some (.int (1 : Int32))) (fun h => by rw [hret] at h; cases h) (fun fs hr => retOut X853 hx (t := .boolean) hret (by decide) (Or.inl ⟨rfl, by simp, _, rfl⟩) (hb hby at_227) hr) e853 ⟨rfl, N853⟩ (by decide) (by decide)
    ·
      refine own_goW (fun _ ww => XS.ifNo X762.here hx rfl (hb hby at_74) rfl (own_if .eq (feq hc770).1) ww) ?_
      show own_GoesW _ _ _ _ _ _ _ (T762.setTop (mkF m 77 #[.val (.int x0), .val (.int x1), .val (.ref b693), .val (.ref b696), .val (.ref b745), .val (.ref b753), .unset, .unset, .unset] []))
      refine own_goW (fun _ ww => XS.aload X762.here hx rfl (hb hby at_77) rfl rfl ww) ?_
      show own_GoesW _ _ _ _ _ _ _ (T762.setTop (mkF m 79 #[.val (.int x0), .val (.int x1), .val (.ref b693), .val (.ref b696), .val (.ref b745), .val (.ref b753), .unset, .unset, .unset] [(.ref b753)]))
      refine own_goW (fun _ ww => XS.aloadN X762.here hx rfl (hb hby at_79) rfl rfl ww) ?_
      show own_GoesW _ _ _ _ _ _ _ (T762.setTop (mkF m 80 #[.val (.int x0), .val (.int x1), .val (.ref b693), .val (.ref b696), .val (.ref b745), .val (.ref b753), .unset, .unset, .unset] [(.ref b696), (.ref b753)]))
      obtain ⟨cq854, kq854, q854a, q854b, q854c⟩ := isOf hZ rfl f768
      obtain ⟨_, _, ⟨T854, L854, k854, n854⟩, -, X854, ⟨Lc854, hQ854, l854, y854, z854⟩, st854⟩ := X762.virtualBack hx (y := own_y11) (z := own_y11) hown (mvT hZ (own_w hw 165 rfl)) (mvT hZ (own_w hw 166 rfl)) (notFace_of_selects (args := #[]) (mvT hZ (own_w hw 168 rfl))) (mvT hZ (own_w hw 168 rfl)) (mvT hZ (own_w hw 167 rfl)) (by decide) (backOf (W := 0) (rm_add1 l Z a0 hw [] b753 aD kD b696 T762.heap n0 O762 P762 Q762 R762 f768 g_b753 SD VD f763) hZ (own_w hw 169 rfl) (own_w hw 35 rfl) (by decide) (by decide)) q854a q854c (g := (mkF m 80 #[.val (.int x0), .val (.int x1), .val (.ref b693), .val (.ref b696), .val (.ref b745), .val (.ref b753), .unset, .unset, .unset] [(.ref b696), (.ref b753)])) rfl (by rw [hml]; rfl) (Steps.refl _) (argsL := [(.ref b696)]) (rest := []) (lenOf pd_22 rfl) rfl (by show 2 * 0 + _ ≤ _; exact Nat.le_of_eq rfl) (hb hby at_80) (fun _ _ => ⟨rfl, rfl, (by decide : 9 + 1 ≤ _), (by decide : 40 + 10 ≤ _)⟩)
      dsimp only [Pt.U, Pt.locs, Pt.cells, Pt.slots] at X854 l854 y854 z854 st854 hQ854
      subst l854 y854 z854
      obtain ⟨t854, kk854, rfl, N854q, B854, K854q, P854, Q854, R854, V854q, E854q⟩ := hQ854
      have N854 := Fr.app N762 N854q
      have hk := Nat.le_trans hk (own_ks K854q)
      have ne_b696_t854 : b696 ≠ t854 := Nat.ne_of_lt (Nat.lt_of_lt_of_le f763.lt B854)
      have ne_b745_t854 : b745 ≠ t854 := Nat.ne_of_lt (Nat.lt_of_lt_of_le f764.lt B854)
      have ne_b753_t854 : b753 ≠ t854 := Nat.ne_of_lt (Nat.lt_of_lt_of_le f768.lt B854)
      have g_t854 : n0 ≤ t854 := Nat.le_trans (O762.1 ▸ O762.2.1) B854
      have f855 := (f763.keep K854q)
      have f856 := (f764.keep K854q)
      have f857 := (f765.keep K854q (ninS ne_b745_b753 nin0))
      have f858 := (f766.keep K854q (ninS ne_b745_b753 nin0))
      have f859 := (f767.keep K854q (ninS ne_b745_b753 nin0))
      have f860 := (f768.keep K854q)
      have O854 := O762.keep K854q (allS g_b753 all0)
      refine own_goW (fun _ ww => Steps.trans st854 ww) ?_
      show own_GoesW _ _ _ _ _ _ _ (T854.setTop (mkF m 83 #[.val (.int x0), .val (.int x1), .val (.ref b693), .val (.ref b696), .val (.ref b745), .val (.ref b753), .unset, .unset, .unset] [(.int (1 : Int32))]))
      refine own_goW (fun _ ww => XT.pop X854.here hx rfl (hb hby at_83) rfl rfl ww) ?_
      show own_GoesW _ _ _ _ _ _ _ (T854.setTop (mkF m 84 #[.val (.int x0), .val (.int x1), .val (.ref b693), .val (.ref b696), .val (.ref b745), .val (.ref b753), .unset, .unset, .unset] []))
      refine own_goW (fun _ ww => XS.iloadN X854.here hx rfl (hb hby at_84) rfl  ww) ?_
      show own_GoesW _ _ _ _ _ _ _ (T854.setTop (mkF m 85 #[.val (.int x0), .val (.int x1), .val (.ref b693), .val (.ref b696), .val (.ref b745), .val (.ref b753), .unset, .unset, .unset] [(.int x0)]))
      refine own_goW (fun _ ww => XS.iconst X854.here hx rfl (hb hby at_85) ww) ?_
      show own_GoesW _ _ _ _ _ _ _ (T854.setTop (mkF m 86 #[.val (.int x0), .val (.int x1), .val (.ref b693), .val (.ref b696), .val (.ref b745), .val (.ref b753), .unset, .unset, .unset] [(.int (1 : Int32)), (.int x0)]))
      refine own_goW (fun _ ww => XS.iand X854.here hx rfl (hb hby at_86) rfl ww) ?_
      show own_GoesW _ _ _ _ _ _ _ (T854.setTop (mkF m 87 #[.val (.int x0), .val (.int x1), .val (.ref b693), .val (.ref b696), .val (.ref b745), .val (.ref b753), .unset, .unset, .unset] [(.int (x0 &&& (1 : Int32)))]))
      by_cases hc861 : (x0 &&& (1 : Int32)) = (0 : Int32)
      ·
        refine own_goW (fun _ ww => XS.ifYes X854.here hx rfl (pc0 := 87) (pc' := 94) rfl (hb hby at_87) rfl (own_if .eq (teq hc861).1) (by decide) (by decide) ww) ?_
        show own_GoesW _ _ _ _ _ _ _ (T854.setTop (mkF m 94 #[.val (.int x0), .val (.int x1), .val (.ref b693), .val (.ref b696), .val (.ref b745), .val (.ref b753), .unset, .unset, .unset] []))
        refine own_goW (fun _ ww => XS.iconst X854.here hx rfl (hb hby at_94) ww) ?_
        show own_GoesW _ _ _ _ _ _ _ (T854.setTop (mkF m 95 #[.val (.int x0), .val (.int x1), .val (.ref b693), .val (.ref b696), .val (.ref b745), .val (.ref b753), .unset, .unset, .unset] [(.int (0 : Int32))]))
        refine own_goW (fun _ ww => XS.istore X854.here hx rfl (hb hby at_95) rfl (l' := #[.val (.int x0), .val (.int x1), .val (.ref b693), .val (.ref b696), .val (.ref b745), .val (.ref b753), .val (.int (0 : Int32)), .unset, .unset]) rfl ww) ?_
        show own_GoesW _ _ _ _ _ _ _ (T854.setTop (mkF m 97 #[.val (.int x0), .val (.int x1), .val (.ref b693), .val (.ref b696), .val (.ref b745), .val (.ref b753), .val (.int (0 : Int32)), .unset, .unset] []))
        obtain ⟨T862, h862, X862, e862, E862, A862, D862, -, st862⟩ := newO X854 hx hZ hown (own_w hw 121 rfl) (own_w hw 122 rfl) (own_w hw 123 rfl) rfl (g := (mkF m 97 #[.val (.int x0), .val (.int x1), .val (.ref b693), .val (.ref b696), .val (.ref b745), .val (.ref b753), .val (.int (0 : Int32)), .unset, .unset] [])) rfl (hb hby at_97) (by decide) (by decide)
        obtain ⟨b862, g862⟩ : ∃ z, z = T854.heap.size := ⟨_, rfl⟩
        rw [← g862] at A862 D862 st862
        have ne_b696_b862 : b696 ≠ b862 := Nat.ne_of_lt (Nat.lt_of_lt_of_le f855.lt (Nat.le_of_eq g862.symm))
        have ne_b745_b862 : b745 ≠ b862 := Nat.ne_of_lt (Nat.lt_of_lt_of_le f856.lt (Nat.le_of_eq g862.symm))
        have ne_b753_b862 : b753 ≠ b862 := Nat.ne_of_lt (Nat.lt_of_lt_of_le f860.lt (Nat.le_of_eq g862.symm))
        have ne_t854_b862 : t854 ≠ b862 := Nat.ne_of_lt (Nat.lt_of_lt_of_le V854q.lt (Nat.le_of_eq g862.symm))
        have g_b862 : n0 ≤ b862 := Nat.le_trans (O854.1 ▸ O854.2.1) (Nat.le_of_eq g862.symm)
        have f863 := (f855.ext E862)
        have f864 := (f856.ext E862)
        have f865 := (f857.ext E862)
        have f866 := (f858.ext E862)
        have f867 := (f859.ext E862)
        have f868 := (f860.ext E862)
        have f869 := (P854.ext E862)
        have f870 := (Q854.ext E862)
        have f871 := (R854.ext E862)
        have f872 : Arv Z h862 t854 kk854 (.object "java/lang/Object") (10 : Int32) [(.ref b696), .null, .null, .null, .null, .null, .null, .null, .null, .null] .null := (Arv.ext V854q E862)
        have f873 := (E854q.ext E862)
        have O862 := O854.ext E862
        have hk := Nat.le_trans hk E862.1
        have f874 : Fld Z h862 b862 "com/example/navlint/navlint/model/State$Tab" "entry" "Lcom/example/navlint/navlint/model/Entry;" .null := D862 (Or.inr (own_w hw 129 rfl)) (ty := (.object "com/example/navlint/navlint/model/Entry")) (by decide)
        have f875 : Fld Z h862 b862 "com/example/navlint/navlint/model/State$Tab" "back" "Ljava/util/List;" .null := D862 (Or.inr (own_w hw 132 rfl)) (ty := (.object "java/util/List")) (by decide)
        have f876 : Fld Z h862 b862 "com/example/navlint/navlint/model/State$Tab" "forward" "Ljava/util/List;" .null := D862 (Or.inr (own_w hw 134 rfl)) (ty := (.object "java/util/List")) (by decide)
        refine own_goW st862 ?_
        show own_GoesW _ _ _ _ _ _ _ (T862.setTop (mkF m 100 #[.val (.int x0), .val (.int x1), .val (.ref b693), .val (.ref b696), .val (.ref b745), .val (.ref b753), .val (.int (0 : Int32)), .unset, .unset] [(.ref b862)]))
        refine own_goW (fun _ ww => XS.dup X862.here hx rfl (hb hby at_100) rfl rfl ww) ?_
        show own_GoesW _ _ _ _ _ _ _ (T862.setTop (mkF m 101 #[.val (.int x0), .val (.int x1), .val (.ref b693), .val (.ref b696), .val (.ref b745), .val (.ref b753), .val (.int (0 : Int32)), .unset, .unset] [(.ref b862), (.ref b862)]))
        refine own_goW (fun _ ww => XS.iload X862.here hx rfl (hb hby at_101) rfl  ww) ?_
        show own_GoesW _ _ _ _ _ _ _ (T862.setTop (mkF m 103 #[.val (.int x0), .val (.int x1), .val (.ref b693), .val (.ref b696), .val (.ref b745), .val (.ref b753), .val (.int (0 : Int32)), .unset, .unset] [(.int (0 : Int32)), (.ref b862), (.ref b862)]))
        refine own_goW (fun _ ww => XS.ifYes X862.here hx rfl (pc0 := 103) (pc' := 110) rfl (hb hby at_103) rfl (own_if .eq (teq (by decide : (0 : Int32) = (0 : Int32))).1) (by decide) (by decide) ww) ?_
        show own_GoesW _ _ _ _ _ _ _ (T862.setTop (mkF m 110 #[.val (.int x0), .val (.int x1), .val (.ref b693), .val (.ref b696), .val (.ref b745), .val (.ref b753), .val (.int (0 : Int32)), .unset, .unset] [(.ref b862), (.ref b862)]))
        refine own_goW (fun _ ww => XS.aconstNull X862.here hx rfl (hb hby at_110) ww) ?_
        show own_GoesW _ _ _ _ _ _ _ (T862.setTop (mkF m 111 #[.val (.int x0), .val (.int x1), .val (.ref b693), .val (.ref b696), .val (.ref b745), .val (.ref b753), .val (.int (0 : Int32)), .unset, .unset] [.null, (.ref b862), (.ref b862)]))
        refine own_goW (fun _ ww => XS.aload X862.here hx rfl (hb hby at_111) rfl rfl ww) ?_
        show own_GoesW _ _ _ _ _ _ _ (T862.setTop (mkF m 113 #[.val (.int x0), .val (.int x1), .val (.ref b693), .val (.ref b696), .val (.ref b745), .val (.ref b753), .val (.int (0 : Int32)), .unset, .unset] [(.ref b745), .null, (.ref b862), (.ref b862)]))
        refine own_goW (fun _ ww => XS.aload X862.here hx rfl (hb hby at_113) rfl rfl ww) ?_
        show own_GoesW _ _ _ _ _ _ _ (T862.setTop (mkF m 115 #[.val (.int x0), .val (.int x1), .val (.ref b693), .val (.ref b696), .val (.ref b745), .val (.ref b753), .val (.int (0 : Int32)), .unset, .unset] [(.ref b753), (.ref b745), .null, (.ref b862), (.ref b862)]))
        obtain ⟨_, _, ⟨T877, L877, k877, n877⟩, -, X877, ⟨Lc877, hQ877, l877, y877, z877⟩, st877⟩ := X862.specialBack hx (y := own_y28) rfl hown (mvT hZ (own_w hw 124 rfl)) (mvT hZ (own_w hw 125 rfl)) (mvT hZ (own_w hw 126 rfl)) (by decide) (backOf (W := 1) (rm_ti0en l Z a0 hw [] b862 b696 mr aL aX b745 b753 t854 kk854 h862 n0 O862 f874 f875 f876 A862 g_b862 f863 MK SL SX EL FL f867 f864 ne_b745_b862 f870 f871 f868 f872 f873 ne_b753_b862 ne_t854_b862) hZ (own_w hw 126 rfl) (own_w hw 123 rfl) (by decide) (by decide)) (g := (mkF m 115 #[.val (.int x0), .val (.int x1), .val (.ref b693), .val (.ref b696), .val (.ref b745), .val (.ref b753), .val (.int (0 : Int32)), .unset, .unset] [(.ref b753), (.ref b745), .null, (.ref b862), (.ref b862)])) rfl (by rw [hml]; rfl) (Steps.refl _) (a := b862) (argsL := [.null, (.ref b745), (.ref b753)]) (rest := [(.ref b862)]) (lenOf pd_15 rfl) rfl (by show 2 * 0 + _ ≤ _; exact Nat.le_of_eq rfl) (hb hby at_115) (fun _ _ => ⟨rfl, e862, (by decide : 11 + 2 ≤ _), (by decide : 54 + 3 ≤ _)⟩)
        dsimp only [Pt.U, Pt.locs, Pt.cells, Pt.slots] at X877 l877 y877 z877 st877 hQ877
        subst l877 y877 z877
        obtain ⟨r2_877, rfl, N877q, K877q, P877, Q877, R877, E1_877⟩ := hQ877
        have N877 := Fr.app N854 N877q
        have hk := Nat.le_trans hk (own_ks K877q)
        have f878 := (f863.keep K877q)
        have f879 := (f864.keep K877q)
        have f880 := (f865.keep K877q (ninS ne_b745_b862 nin0))
        have f881 := (f866.keep K877q (ninS ne_b745_b862 nin0))
        have f882 := (f867.keep K877q (ninS ne_b745_b862 nin0))
        have f883 := (f868.keep K877q)
        have f884 := (f869.keep K877q (ninS ne_b753_b862 nin0))
        have f885 := (f870.keep K877q (ninS ne_b753_b862 nin0))
        have f886 := (f871.keep K877q (ninS ne_b753_b862 nin0))
        have f887 : Arv Z T877.heap t854 kk854 (.object "java/lang/Object") (10 : Int32) [(.ref b696), .null, .null, .null, .null, .null, .null, .null, .null, .null] .null := (f872.keep K877q (ninS ne_t854_b862 nin0))
        have f888 := (f873.keep K877q)
        have f889 := (A862.keep K877q)
        have O877 := O862.keep K877q (allS g_b862 all0)
        refine own_goW (fun _ ww => Steps.trans st877 ww) ?_
        show own_GoesW _ _ _ _ _ _ _ (T877.setTop (mkF m 118 #[.val (.int x0), .val (.int x1), .val (.ref b693), .val (.ref b696), .val (.ref b745), .val (.ref b753), .val (.int (0 : Int32)), .unset, .unset] [(.ref b862)]))
        refine own_goW (fun _ ww => XS.astore X877.here hx rfl (hb hby at_118) rfl rfl (l' := #[.val (.int x0), .val (.int x1), .val (.ref b693), .val (.ref b696), .val (.ref b745), .val (.ref b753), .val (.int (0 : Int32)), .val (.ref b862), .unset]) rfl ww) ?_
        show own_GoesW _ _ _ _ _ _ _ (T877.setTop (mkF m 120 #[.val (.int x0), .val (.int x1), .val (.ref b693), .val (.ref b696), .val (.ref b745), .val (.ref b753), .val (.int (0 : Int32)), .val (.ref b862), .unset] []))
        refine own_goW (fun _ ww => XS.aload X877.here hx rfl (hb hby at_120) rfl rfl ww) ?_
        show own_GoesW _ _ _ _ _ _ _ (T877.setTop (mkF m 122 #[.val (.int x0), .val (.int x1), .val (.ref b693), .val (.ref b696), .val (.ref b745), .val (.ref b753), .val (.int (0 : Int32)), .val (.ref b862), .unset] [(.ref b862)]))
        obtain ⟨cq890, kq890, q890a, q890b, q890c⟩ := isOf hZ rfl f889
        obtain ⟨_, _, ⟨T890, L890, k890, n890⟩, -, X890, ⟨Lc890, hQ890, l890, y890, z890⟩, st890⟩ := X877.virtualBack hx (y := own_y31) (z := own_y31) hown (mvT hZ (own_w hw 135 rfl)) (mvT hZ (own_w hw 136 rfl)) (notFace_of_selects (args := #[]) (mvT hZ (own_w hw 138 rfl))) (mvT hZ (own_w hw 138 rfl)) (mvT hZ (own_w hw 137 rfl)) (by decide) (backOf (W := 0) (rm_waits0 l Z a0 hw [] b862 aL T877.heap n0 O877 P877) hZ (own_w hw 139 rfl) (own_w hw 123 rfl) (by decide) (by decide)) q890a q890c (g := (mkF m 122 #[.val (.int x0), .val (.int x1), .val (.ref b693), .val (.ref b696), .val (.ref b745), .val (.ref b753), .val (.int (0 : Int32)), .val (.ref b862), .unset] [(.ref b862)])) rfl (by rw [hml]; rfl) (Steps.refl _) (argsL := []) (rest := []) (lenOf pd_9 rfl) rfl (by show 2 * 0 + _ ≤ _; exact Nat.le_of_eq rfl) (hb hby at_122) (fun _ _ => ⟨rfl, rfl, (by decide : 13 + 0 ≤ _), (by decide : 57 + 0 ≤ _)⟩)
        dsimp only [Pt.U, Pt.locs, Pt.cells, Pt.slots] at X890 l890 y890 z890 st890 hQ890
        subst l890 y890 z890
        obtain ⟨rfl, N890q, e890⟩ := hQ890
        have N890 := Fr.app N877 N890q
        refine own_goW (fun _ ww => Steps.trans st890 ww) ?_
        show own_GoesW _ _ _ _ _ _ _ (T890.setTop (mkF m 125 #[.val (.int x0), .val (.int x1), .val (.ref b693), .val (.ref b696), .val (.ref b745), .val (.ref b753), .val (.int (0 : Int32)), .val (.ref b862), .unset] [(.int (1 : Int32))]))
        refine own_goW (fun _ ww => XS.iload X890.here hx rfl (hb hby at_125) rfl  ww) ?_
        show own_GoesW _ _ _ _ _ _ _ (T890.setTop (mkF m 127 #[.val (.int x0), .val (.int x1), .val (.ref b693), .val (.ref b696), .val (.ref b745), .val (.ref b753), .val (.int (0 : Int32)), .val (.ref b862), .unset] [(.int (0 : Int32)), (.int (1 : Int32))]))
        refine own_goW (fun _ ww => XS.ifNo X890.here hx rfl (hb hby at_127) rfl (own_if .ne (teq (by decide : (0 : Int32) = (0 : Int32))).2) ww) ?_
        show own_GoesW _ _ _ _ _ _ _ (T890.setTop (mkF m 130 #[.val (.int x0), .val (.int x1), .val (.ref b693), .val (.ref b696), .val (.ref b745), .val (.ref b753), .val (.int (0 : Int32)), .val (.ref b862), .unset] [(.int (1 : Int32))]))
        refine own_goW (fun _ ww => XS.iconst X890.here hx rfl (hb hby at_130) ww) ?_
        show own_GoesW _ _ _ _ _ _ _ (T890.setTop (mkF m 131 #[.val (.int x0), .val (.int x1), .val (.ref b693), .val (.ref b696), .val (.ref b745), .val (.ref b753), .val (.int (0 : Int32)), .val (.ref b862), .unset] [(.int (1 : Int32)), (.int (1 : Int32))]))
        refine own_goW (fun _ ww => XS.goto X890.here hx rfl (pc0 := 131) (pc' := 135) rfl (hb hby at_131) (by decide) (by decide) ww) ?_
        show own_GoesW _ _ _ _ _ _ _ (T890.setTop (mkF m 135 #[.val (.int x0), .val (.int x1), .val (.ref b693), .val (.ref b696), .val (.ref b745), .val (.ref b753), .val (.int (0 : Int32)), .val (.ref b862), .unset] [(.int (1 : Int32)), (.int (1 : Int32))]))
        refine own_goW (fun _ ww => XS.icmpNo X890.here hx rfl (hb hby at_135) rfl (teq (by decide : (1 : Int32) = (1 : Int32))).2 ww) ?_
        show own_GoesW _ _ _ _ _ _ _ (T890.setTop (mkF m 138 #[.val (.int x0), .val (.int x1), .val (.ref b693), .val (.ref b696), .val (.ref b745), .val (.ref b753), .val (.int (0 : Int32)), .val (.ref b862), .unset] []))
        refine own_goW (fun _ ww => XS.iconst X890.here hx rfl (hb hby at_138) ww) ?_
        show own_GoesW _ _ _ _ _ _ _ (T890.setTop (mkF m 139 #[.val (.int x0), .val (.int x1), .val (.ref b693), .val (.ref b696), .val (.ref b745), .val (.ref b753), .val (.int (0 : Int32)), .val (.ref b862), .unset] [(.int (1 : Int32))]))
        refine own_goW (fun _ ww => XS.goto X890.here hx rfl (pc0 := 139) (pc' := 143) rfl (hb hby at_139) (by decide) (by decide) ww) ?_
        show own_GoesW _ _ _ _ _ _ _ (T890.setTop (mkF m 143 #[.val (.int x0), .val (.int x1), .val (.ref b693), .val (.ref b696), .val (.ref b745), .val (.ref b753), .val (.int (0 : Int32)), .val (.ref b862), .unset] [(.int (1 : Int32))]))
        refine own_goW (fun _ ww => XS.istore X890.here hx rfl (hb hby at_143) rfl (l' := #[.val (.int x0), .val (.int x1), .val (.ref b693), .val (.ref b696), .val (.ref b745), .val (.ref b753), .val (.int (0 : Int32)), .val (.ref b862), .val (.int (1 : Int32))]) rfl ww) ?_
        show own_GoesW _ _ _ _ _ _ _ (T890.setTop (mkF m 145 #[.val (.int x0), .val (.int x1), .val (.ref b693), .val (.ref b696), .val (.ref b745), .val (.ref b753), .val (.int (0 : Int32)), .val (.ref b862), .val (.int (1 : Int32))] []))
        refine own_goW (fun _ ww => XS.iload X890.here hx rfl (hb hby at_145) rfl  ww) ?_
        show own_GoesW _ _ _ _ _ _ _ (T890.setTop (mkF m 147 #[.val (.int x0), .val (.int x1), .val (.ref b693), .val (.ref b696), .val (.ref b745), .val (.ref b753), .val (.int (0 : Int32)), .val (.ref b862), .val (.int (1 : Int32))] [(.int (1 : Int32))]))
        refine own_goW (fun _ ww => XS.ifNo X890.here hx rfl (hb hby at_147) rfl (own_if .eq (feq (by decide : ¬ ((1 : Int32) = (0 : Int32)))).1) ww) ?_
        show own_GoesW _ _ _ _ _ _ _ (T890.setTop (mkF m 150 #[.val (.int x0), .val (.int x1), .val (.ref b693), .val (.ref b696), .val (.ref b745), .val (.ref b753), .val (.int (0 : Int32)), .val (.ref b862), .val (.int (1 : Int32))] []))
        refine own_goW (fun _ ww => XS.aload X890.here hx rfl (hb hby at_150) rfl rfl ww) ?_
        show own_GoesW _ _ _ _ _ _ _ (T890.setTop (mkF m 152 #[.val (.int x0), .val (.int x1), .val (.ref b693), .val (.ref b696), .val (.ref b745), .val (.ref b753), .val (.int (0 : Int32)), .val (.ref b862), .val (.int (1 : Int32))] [(.ref b862)]))
        obtain ⟨cq891, kq891, q891a, q891b, q891c⟩ := isOf hZ e890 f889
        obtain ⟨_, _, ⟨T891, L891, k891, n891⟩, -, X891, ⟨Lc891, hQ891, l891, y891, z891⟩, st891⟩ := X890.virtualBack hx (y := own_y31) (z := own_y31) hown (mvT hZ (own_w hw 135 rfl)) (mvT hZ (own_w hw 136 rfl)) (notFace_of_selects (args := #[]) (mvT hZ (own_w hw 138 rfl))) (mvT hZ (own_w hw 138 rfl)) (mvT hZ (own_w hw 137 rfl)) (by decide) (backOf (W := 0) (rm_waits0 l Z a0 hw [] b862 aL T877.heap n0 O877 P877) hZ (own_w hw 139 rfl) (own_w hw 123 rfl) (by decide) (by decide)) q891a q891c (g := (mkF m 152 #[.val (.int x0), .val (.int x1), .val (.ref b693), .val (.ref b696), .val (.ref b745), .val (.ref b753), .val (.int (0 : Int32)), .val (.ref b862), .val (.int (1 : Int32))] [(.ref b862)])) rfl (by rw [hml]; rfl) (Steps.refl _) (argsL := []) (rest := []) (lenOf pd_9 rfl) rfl (by show 2 * 0 + _ ≤ _; exact Nat.le_of_eq rfl) (hb hby at_152) (fun _ _ => ⟨rfl, e890, (by decide : 13 + 0 ≤ _), (by decide : 57 + 0 ≤ _)⟩)
        dsimp only [Pt.U, Pt.locs, Pt.cells, Pt.slots] at X891 l891 y891 z891 st891 hQ891
        subst l891 y891 z891
        obtain ⟨rfl, N891q, e891⟩ := hQ891
        have N891 := Fr.app N890 N891q
        refine own_goW (fun _ ww => Steps.trans st891 ww) ?_
        show own_GoesW _ _ _ _ _ _ _ (T891.setTop (mkF m 155 #[.val (.int x0), .val (.int x1), .val (.ref b693), .val (.ref b696), .val (.ref b745), .val (.ref b753), .val (.int (0 : Int32)), .val (.ref b862), .val (.int (1 : Int32))] [(.int (1 : Int32))]))
        refine own_goW (fun _ ww => XS.aload X891.here hx rfl (hb hby at_155) rfl rfl ww) ?_
        show own_GoesW _ _ _ _ _ _ _ (T891.setTop (mkF m 157 #[.val (.int x0), .val (.int x1), .val (.ref b693), .val (.ref b696), .val (.ref b745), .val (.ref b753), .val (.int (0 : Int32)), .val (.ref b862), .val (.int (1 : Int32))] [(.ref b862), (.int (1 : Int32))]))
        obtain ⟨cq892, kq892, q892a, q892b, q892c⟩ := isOf hZ e891 f889
        obtain ⟨_, _, ⟨T892, L892, k892, n892⟩, -, X892, ⟨Lc892, hQ892, l892, y892, z892⟩, st892⟩ := X891.virtualBack hx (y := own_y32) (z := own_y32) hown (mvT hZ (own_w hw 140 rfl)) (mvT hZ (own_w hw 141 rfl)) (notFace_of_selects (args := #[]) (mvT hZ (own_w hw 143 rfl))) (mvT hZ (own_w hw 143 rfl)) (mvT hZ (own_w hw 142 rfl)) (by decide) (backOf (W := 1) (rm_entry0 l Z a0 hw [] b862 aL T877.heap n0 O877 P877) hZ (own_w hw 144 rfl) (own_w hw 123 rfl) (by decide) (by decide)) q892a q892c (g := (mkF m 157 #[.val (.int x0), .val (.int x1), .val (.ref b693), .val (.ref b696), .val (.ref b745), .val (.ref b753), .val (.int (0 : Int32)), .val (.ref b862), .val (.int (1 : Int32))] [(.ref b862), (.int (1 : Int32))])) rfl (by rw [hml]; rfl) (Steps.refl _) (argsL := []) (rest := [(.int (1 : Int32))]) (lenOf pd_19 rfl) rfl (by show 2 * 0 + _ ≤ _; exact Nat.le_of_eq rfl) (hb hby at_157) (fun _ _ => ⟨rfl, e891, (by decide : 13 + 0 ≤ _), (by decide : 57 + 0 ≤ _)⟩)
        dsimp only [Pt.U, Pt.locs, Pt.cells, Pt.slots] at X892 l892 y892 z892 st892 hQ892
        subst l892 y892 z892
        obtain ⟨rfl, N892q, e892⟩ := hQ892
        have N892 := Fr.app N891 N892q
        refine own_goW (fun _ ww => Steps.trans st892 ww) ?_
        show own_GoesW _ _ _ _ _ _ _ (T892.setTop (mkF m 160 #[.val (.int x0), .val (.int x1), .val (.ref b693), .val (.ref b696), .val (.ref b745), .val (.ref b753), .val (.int (0 : Int32)), .val (.ref b862), .val (.int (1 : Int32))] [.null, (.int (1 : Int32))]))
        refine own_goW (fun _ ww => XT.ifnonnullNo X892.here hx rfl (hb hby at_160) rfl ww) ?_
        show own_GoesW _ _ _ _ _ _ _ (T892.setTop (mkF m 163 #[.val (.int x0), .val (.int x1), .val (.ref b693), .val (.ref b696), .val (.ref b745), .val (.ref b753), .val (.int (0 : Int32)), .val (.ref b862), .val (.int (1 : Int32))] [(.int (1 : Int32))]))
        refine own_goW (fun _ ww => XS.iconst X892.here hx rfl (hb hby at_163) ww) ?_
        show own_GoesW _ _ _ _ _ _ _ (T892.setTop (mkF m 164 #[.val (.int x0), .val (.int x1), .val (.ref b693), .val (.ref b696), .val (.ref b745), .val (.ref b753), .val (.int (0 : Int32)), .val (.ref b862), .val (.int (1 : Int32))] [(.int (1 : Int32)), (.int (1 : Int32))]))
        refine own_goW (fun _ ww => XS.goto X892.here hx rfl (pc0 := 164) (pc' := 168) rfl (hb hby at_164) (by decide) (by decide) ww) ?_
        show own_GoesW _ _ _ _ _ _ _ (T892.setTop (mkF m 168 #[.val (.int x0), .val (.int x1), .val (.ref b693), .val (.ref b696), .val (.ref b745), .val (.ref b753), .val (.int (0 : Int32)), .val (.ref b862), .val (.int (1 : Int32))] [(.int (1 : Int32)), (.int (1 : Int32))]))
        refine own_goW (fun _ ww => XS.icmpNo X892.here hx rfl (hb hby at_168) rfl (teq (by decide : (1 : Int32) = (1 : Int32))).2 ww) ?_
        show own_GoesW _ _ _ _ _ _ _ (T892.setTop (mkF m 171 #[.val (.int x0), .val (.int x1), .val (.ref b693), .val (.ref b696), .val (.ref b745), .val (.ref b753), .val (.int (0 : Int32)), .val (.ref b862), .val (.int (1 : Int32))] []))
        refine own_goW (fun _ ww => XS.iconst X892.here hx rfl (hb hby at_171) ww) ?_
        show own_GoesW _ _ _ _ _ _ _ (T892.setTop (mkF m 172 #[.val (.int x0), .val (.int x1), .val (.ref b693), .val (.ref b696), .val (.ref b745), .val (.ref b753), .val (.int (0 : Int32)), .val (.ref b862), .val (.int (1 : Int32))] [(.int (1 : Int32))]))
        refine own_goW (fun _ ww => XS.goto X892.here hx rfl (pc0 := 172) (pc' := 176) rfl (hb hby at_172) (by decide) (by decide) ww) ?_
        show own_GoesW _ _ _ _ _ _ _ (T892.setTop (mkF m 176 #[.val (.int x0), .val (.int x1), .val (.ref b693), .val (.ref b696), .val (.ref b745), .val (.ref b753), .val (.int (0 : Int32)), .val (.ref b862), .val (.int (1 : Int32))] [(.int (1 : Int32))]))
        refine own_goW (fun _ ww => XS.istore X892.here hx rfl (hb hby at_176) rfl (l' := #[.val (.int x0), .val (.int x1), .val (.ref b693), .val (.ref b696), .val (.ref b745), .val (.ref b753), .val (.int (0 : Int32)), .val (.ref b862), .val (.int (1 : Int32))]) rfl ww) ?_
        show own_GoesW _ _ _ _ _ _ _ (T892.setTop (mkF m 178 #[.val (.int x0), .val (.int x1), .val (.ref b693), .val (.ref b696), .val (.ref b745), .val (.ref b753), .val (.int (0 : Int32)), .val (.ref b862), .val (.int (1 : Int32))] []))
        refine own_goW (fun _ ww => XS.iload X892.here hx rfl (hb hby at_178) rfl  ww) ?_
        show own_GoesW _ _ _ _ _ _ _ (T892.setTop (mkF m 180 #[.val (.int x0), .val (.int x1), .val (.ref b693), .val (.ref b696), .val (.ref b745), .val (.ref b753), .val (.int (0 : Int32)), .val (.ref b862), .val (.int (1 : Int32))] [(.int (1 : Int32))]))
        refine own_goW (fun _ ww => XS.ifNo X892.here hx rfl (hb hby at_180) rfl (own_if .eq (feq (by decide : ¬ ((1 : Int32) = (0 : Int32)))).1) ww) ?_
        show own_GoesW _ _ _ _ _ _ _ (T892.setTop (mkF m 183 #[.val (.int x0), .val (.int x1), .val (.ref b693), .val (.ref b696), .val (.ref b745), .val (.ref b753), .val (.int (0 : Int32)), .val (.ref b862), .val (.int (1 : Int32))] []))
        refine own_goW (fun _ ww => XS.aload X892.here hx rfl (hb hby at_183) rfl rfl ww) ?_
        show own_GoesW _ _ _ _ _ _ _ (T892.setTop (mkF m 185 #[.val (.int x0), .val (.int x1), .val (.ref b693), .val (.ref b696), .val (.ref b745), .val (.ref b753), .val (.int (0 : Int32)), .val (.ref b862), .val (.int (1 : Int32))] [(.ref b862)]))
        obtain ⟨cq893, kq893, q893a, q893b, q893c⟩ := isOf hZ e892 f889
        obtain ⟨_, _, ⟨T893, L893, k893, n893⟩, -, X893, ⟨Lc893, hQ893, l893, y893, z893⟩, st893⟩ := X892.virtualBack hx (y := own_y29) (z := own_y29) hown (mvT hZ (own_w hw 145 rfl)) (mvT hZ (own_w hw 146 rfl)) (notFace_of_selects (args := #[]) (mvT hZ (own_w hw 148 rfl))) (mvT hZ (own_w hw 148 rfl)) (mvT hZ (own_w hw 147 rfl)) (by decide) (backOf (W := 0) (rm_waitingII l Z a0 hw [] b862 b696 mr aL aX aL "java/util/ImmutableCollections$ListN" r2_877 "java/util/ImmutableCollections$List12" T877.heap n0 O877 f878 MK SL SX EL FL Q877 R877 (EL.ext O877.2) (Or.inr ⟨rfl, rfl⟩) E1_877 (Or.inl rfl)) hZ (own_w hw 149 rfl) (own_w hw 123 rfl) (by decide) (by decide)) q893a q893c (g := (mkF m 185 #[.val (.int x0), .val (.int x1), .val (.ref b693), .val (.ref b696), .val (.ref b745), .val (.ref b753), .val (.int (0 : Int32)), .val (.ref b862), .val (.int (1 : Int32))] [(.ref b862)])) rfl (by rw [hml]; rfl) (Steps.refl _) (argsL := []) (rest := []) (lenOf pd_20 rfl) rfl (by show 2 * 0 + _ ≤ _; exact Nat.le_of_eq rfl) (hb hby at_185) (fun _ _ => ⟨rfl, e892, (by decide : 13 + 1 ≤ _), (by decide : 57 + 4 ≤ _)⟩)
        dsimp only [Pt.U, Pt.locs, Pt.cells, Pt.slots] at X893 l893 y893 z893 st893 hQ893
        subst l893 y893 z893
        obtain ⟨r893, rfl, N893q, B893, K893q, E893q, P893⟩ := hQ893
        have N893 := Fr.app N892 N893q
        have hk := Nat.le_trans hk (own_ks K893q)
        have ne_b696_r893 : b696 ≠ r893 := Nat.ne_of_lt (Nat.lt_of_lt_of_le f878.lt B893)
        have ne_b862_r893 : b862 ≠ r893 := Nat.ne_of_lt (Nat.lt_of_lt_of_le f889.lt B893)
        have ne_r2_877_r893 : r2_877 ≠ r893 := Nat.ne_of_lt (Nat.lt_of_lt_of_le E1_877.lt B893)
        have g_r893 : n0 ≤ r893 := Nat.le_trans (O877.1 ▸ O877.2.1) B893
        have f894 := (f878.keep K893q)
        have f895 := (f889.keep K893q)
        have f896 := (P877.keep K893q nin0)
        have f897 := (Q877.keep K893q nin0)
        have f898 := (R877.keep K893q nin0)
        have f899 := (E1_877.keep K893q)
        have O893 := O877.keep K893q all0
        refine own_goW (fun _ ww => Steps.trans st893 ww) ?_
        show own_GoesW _ _ _ _ _ _ _ (T893.setTop (mkF m 188 #[.val (.int x0), .val (.int x1), .val (.ref b693), .val (.ref b696), .val (.ref b745), .val (.ref b753), .val (.int (0 : Int32)), .val (.ref b862), .val (.int (1 : Int32))] [(.ref r893)]))
        obtain ⟨cq900, kq900, q900a, q900b, q900c⟩ := isOf hZ rfl E893q
        obtain ⟨_, _, ⟨T900, L900, k900, n900⟩, -, X900, ⟨Lc900, hQ900, l900, y900, z900⟩, st900⟩ := X893.virtualBack hx (y := own_y31) (z := own_y31) hown (mvT hZ (own_w hw 135 rfl)) (mvT hZ (own_w hw 136 rfl)) (notFace_of_selects (args := #[]) (mvT hZ (own_w hw 138 rfl))) (mvT hZ (own_w hw 138 rfl)) (mvT hZ (own_w hw 137 rfl)) (by decide) (backOf (W := 0) (rm_waits0 l Z a0 hw [] r893 aL T893.heap n0 O893 P893) hZ (own_w hw 139 rfl) (own_w hw 123 rfl) (by decide) (by decide)) q900a q900c (g := (mkF m 188 #[.val (.int x0), .val (.int x1), .val (.ref b693), .val (.ref b696), .val (.ref b745), .val (.ref b753), .val (.int (0 : Int32)), .val (.ref b862), .val (.int (1 : Int32))] [(.ref r893)])) rfl (by rw [hml]; rfl) (Steps.refl _) (argsL := []) (rest := []) (lenOf pd_9 rfl) rfl (by show 2 * 0 + _ ≤ _; exact Nat.le_of_eq rfl) (hb hby at_188) (fun _ _ => ⟨rfl, rfl, (by decide : 14 + 0 ≤ _), (by decide : 61 + 0 ≤ _)⟩)
        dsimp only [Pt.U, Pt.locs, Pt.cells, Pt.slots] at X900 l900 y900 z900 st900 hQ900
        subst l900 y900 z900
        obtain ⟨rfl, N900q, e900⟩ := hQ900
        have N900 := Fr.app N893 N900q
        refine own_goW (fun _ ww => Steps.trans st900 ww) ?_
        show own_GoesW _ _ _ _ _ _ _ (T900.setTop (mkF m 191 #[.val (.int x0), .val (.int x1), .val (.ref b693), .val (.ref b696), .val (.ref b745), .val (.ref b753), .val (.int (0 : Int32)), .val (.ref b862), .val (.int (1 : Int32))] [(.int (1 : Int32))]))
        refine own_goW (fun _ ww => XS.ifNo X900.here hx rfl (hb hby at_191) rfl (own_if .eq (feq (by decide : ¬ ((1 : Int32) = (0 : Int32)))).1) ww) ?_
        show own_GoesW _ _ _ _ _ _ _ (T900.setTop (mkF m 194 #[.val (.int x0), .val (.int x1), .val (.ref b693), .val (.ref b696), .val (.ref b745), .val (.ref b753), .val (.int (0 : Int32)), .val (.ref b862), .val (.int (1 : Int32))] []))
        refine own_goW (fun _ ww => XS.iconst X900.here hx rfl (hb hby at_194) ww) ?_
        show own_GoesW _ _ _ _ _ _ _ (T900.setTop (mkF m 195 #[.val (.int x0), .val (.int x1), .val (.ref b693), .val (.ref b696), .val (.ref b745), .val (.ref b753), .val (.int (0 : Int32)), .val (.ref b862), .val (.int (1 : Int32))] [(.int (1 : Int32))]))
        refine own_goW (fun _ ww => XS.goto X900.here hx rfl (pc0 := 195) (pc' := 199) rfl (hb hby at_195) (by decide) (by decide) ww) ?_
        show own_GoesW _ _ _ _ _ _ _ (T900.setTop (mkF m 199 #[.val (.int x0), .val (.int x1), .val (.ref b693), .val (.ref b696), .val (.ref b745), .val (.ref b753), .val (.int (0 : Int32)), .val (.ref b862), .val (.int (1 : Int32))] [(.int (1 : Int32))]))
        refine own_goW (fun _ ww => XS.istore X900.here hx rfl (hb hby at_199) rfl (l' := #[.val (.int x0), .val (.int x1), .val (.ref b693), .val (.ref b696), .val (.ref b745), .val (.ref b753), .val (.int (0 : Int32)), .val (.ref b862), .val (.int (1 : Int32))]) rfl ww) ?_
        show own_GoesW _ _ _ _ _ _ _ (T900.setTop (mkF m 201 #[.val (.int x0), .val (.int x1), .val (.ref b693), .val (.ref b696), .val (.ref b745), .val (.ref b753), .val (.int (0 : Int32)), .val (.ref b862), .val (.int (1 : Int32))] []))
        refine own_goW (fun _ ww => XS.iload X900.here hx rfl (hb hby at_201) rfl  ww) ?_
        show own_GoesW _ _ _ _ _ _ _ (T900.setTop (mkF m 203 #[.val (.int x0), .val (.int x1), .val (.ref b693), .val (.ref b696), .val (.ref b745), .val (.ref b753), .val (.int (0 : Int32)), .val (.ref b862), .val (.int (1 : Int32))] [(.int (1 : Int32))]))
        refine own_goW (fun _ ww => XS.ifNo X900.here hx rfl (hb hby at_203) rfl (own_if .eq (feq (by decide : ¬ ((1 : Int32) = (0 : Int32)))).1) ww) ?_
        show own_GoesW _ _ _ _ _ _ _ (T900.setTop (mkF m 206 #[.val (.int x0), .val (.int x1), .val (.ref b693), .val (.ref b696), .val (.ref b745), .val (.ref b753), .val (.int (0 : Int32)), .val (.ref b862), .val (.int (1 : Int32))] []))
        refine own_goW (fun _ ww => XS.aload X900.here hx rfl (hb hby at_206) rfl rfl ww) ?_
        show own_GoesW _ _ _ _ _ _ _ (T900.setTop (mkF m 208 #[.val (.int x0), .val (.int x1), .val (.ref b693), .val (.ref b696), .val (.ref b745), .val (.ref b753), .val (.int (0 : Int32)), .val (.ref b862), .val (.int (1 : Int32))] [(.ref b862)]))
        refine own_goW (fun _ ww => XS.aloadN X900.here hx rfl (hb hby at_208) rfl rfl ww) ?_
        show own_GoesW _ _ _ _ _ _ _ (T900.setTop (mkF m 209 #[.val (.int x0), .val (.int x1), .val (.ref b693), .val (.ref b696), .val (.ref b745), .val (.ref b753), .val (.int (0 : Int32)), .val (.ref b862), .val (.int (1 : Int32))] [(.ref b696), (.ref b862)]))
        obtain ⟨cq901, kq901, q901a, q901b, q901c⟩ := isOf hZ e900 f895
        obtain ⟨_, _, ⟨T901, L901, k901, n901⟩, -, X901, ⟨Lc901, hQ901, l901, y901, z901⟩, st901⟩ := X900.virtualBack hx (y := own_y30) (z := own_y30) hown (mvT hZ (own_w hw 160 rfl)) (mvT hZ (own_w hw 161 rfl)) (notFace_of_selects (args := #[]) (mvT hZ (own_w hw 163 rfl))) (mvT hZ (own_w hw 163 rfl)) (mvT hZ (own_w hw 162 rfl)) (by decide) (backOf (W := 0) (rm_showingII l Z a0 hw [] b862 b696 mr aL aX aL "java/util/ImmutableCollections$ListN" r2_877 "java/util/ImmutableCollections$List12" T893.heap n0 O893 f894 MK SL SX EL FL f897 f898 (EL.ext O893.2) (Or.inr ⟨rfl, rfl⟩) f899 (Or.inl rfl)) hZ (own_w hw 164 rfl) (own_w hw 123 rfl) (by decide) (by decide)) q901a q901c (g := (mkF m 209 #[.val (.int x0), .val (.int x1), .val (.ref b693), .val (.ref b696), .val (.ref b745), .val (.ref b753), .val (.int (0 : Int32)), .val (.ref b862), .val (.int (1 : Int32))] [(.ref b696), (.ref b862)])) rfl (by rw [hml]; rfl) (Steps.refl _) (argsL := [(.ref b696)]) (rest := []) (lenOf pd_21 rfl) rfl (by show 2 * 0 + _ ≤ _; exact Nat.le_of_eq rfl) (hb hby at_209) (fun _ _ => ⟨rfl, e900, (by decide : 14 + 1 ≤ _), (by decide : 61 + 4 ≤ _)⟩)
        dsimp only [Pt.U, Pt.locs, Pt.cells, Pt.slots] at X901 l901 y901 z901 st901 hQ901
        subst l901 y901 z901
        obtain ⟨r901, rfl, N901q, B901, K901q, E901q, P901⟩ := hQ901
        have N901 := Fr.app N900 N901q
        have hk := Nat.le_trans hk (own_ks K901q)
        have ne_b696_r901 : b696 ≠ r901 := Nat.ne_of_lt (Nat.lt_of_lt_of_le f894.lt B901)
        have ne_b862_r901 : b862 ≠ r901 := Nat.ne_of_lt (Nat.lt_of_lt_of_le f895.lt B901)
        have ne_r2_877_r901 : r2_877 ≠ r901 := Nat.ne_of_lt (Nat.lt_of_lt_of_le f899.lt B901)
        have g_r901 : n0 ≤ r901 := Nat.le_trans (O893.1 ▸ O893.2.1) B901
        have f902 := (f894.keep K901q)
        have f903 := (f895.keep K901q)
        have f904 := (f896.keep K901q nin0)
        have f905 := (f897.keep K901q nin0)
        have f906 := (f898.keep K901q nin0)
        have f907 := (f899.keep K901q)
        have O901 := O893.keep K901q all0
        refine own_goW (fun _ ww => Steps.trans st901 ww) ?_
        show own_GoesW _ _ _ _ _ _ _ (T901.setTop (mkF m 212 #[.val (.int x0), .val (.int x1), .val (.ref b693), .val (.ref b696), .val (.ref b745), .val (.ref b753), .val (.int (0 : Int32)), .val (.ref b862), .val (.int (1 : Int32))] [(.ref r901)]))
        obtain ⟨cq908, kq908, q908a, q908b, q908c⟩ := isOf hZ rfl E901q
        obtain ⟨_, _, ⟨T908, L908, k908, n908⟩, -, X908, ⟨Lc908, hQ908, l908, y908, z908⟩, st908⟩ := X901.virtualBack hx (y := own_y31) (z := own_y31) hown (mvT hZ (own_w hw 135 rfl)) (mvT hZ (own_w hw 136 rfl)) (notFace_of_selects (args := #[]) (mvT hZ (own_w hw 138 rfl))) (mvT hZ (own_w hw 138 rfl)) (mvT hZ (own_w hw 137 rfl)) (by decide) (backOf (W := 0) (rm_waits1 l Z a0 hw [] r901 b696 T901.heap n0 O901 P901) hZ (own_w hw 139 rfl) (own_w hw 123 rfl) (by decide) (by decide)) q908a q908c (g := (mkF m 212 #[.val (.int x0), .val (.int x1), .val (.ref b693), .val (.ref b696), .val (.ref b745), .val (.ref b753), .val (.int (0 : Int32)), .val (.ref b862), .val (.int (1 : Int32))] [(.ref r901)])) rfl (by rw [hml]; rfl) (Steps.refl _) (argsL := []) (rest := []) (lenOf pd_9 rfl) rfl (by show 2 * 0 + _ ≤ _; exact Nat.le_of_eq rfl) (hb hby at_212) (fun _ _ => ⟨rfl, rfl, (by decide : 15 + 0 ≤ _), (by decide : 65 + 0 ≤ _)⟩)
        dsimp only [Pt.U, Pt.locs, Pt.cells, Pt.slots] at X908 l908 y908 z908 st908 hQ908
        subst l908 y908 z908
        obtain ⟨rfl, N908q, e908⟩ := hQ908
        have N908 := Fr.app N901 N908q
        refine own_goW (fun _ ww => Steps.trans st908 ww) ?_
        show own_GoesW _ _ _ _ _ _ _ (T908.setTop (mkF m 215 #[.val (.int x0), .val (.int x1), .val (.ref b693), .val (.ref b696), .val (.ref b745), .val (.ref b753), .val (.int (0 : Int32)), .val (.ref b862), .val (.int (1 : Int32))] [(.int (0 : Int32))]))
        refine own_goW (fun _ ww => XS.ifNo X908.here hx rfl (hb hby at_215) rfl (own_if .ne (teq (by decide : (0 : Int32) = (0 : Int32))).2) ww) ?_
        show own_GoesW _ _ _ _ _ _ _ (T908.setTop (mkF m 218 #[.val (.int x0), .val (.int x1), .val (.ref b693), .val (.ref b696), .val (.ref b745), .val (.ref b753), .val (.int (0 : Int32)), .val (.ref b862), .val (.int (1 : Int32))] []))
        refine own_goW (fun _ ww => XS.iconst X908.here hx rfl (hb hby at_218) ww) ?_
        show own_GoesW _ _ _ _ _ _ _ (T908.setTop (mkF m 219 #[.val (.int x0), .val (.int x1), .val (.ref b693), .val (.ref b696), .val (.ref b745), .val (.ref b753), .val (.int (0 : Int32)), .val (.ref b862), .val (.int (1 : Int32))] [(.int (1 : Int32))]))
        refine own_goW (fun _ ww => XS.goto X908.here hx rfl (pc0 := 219) (pc' := 223) rfl (hb hby at_219) (by decide) (by decide) ww) ?_
        show own_GoesW _ _ _ _ _ _ _ (T908.setTop (mkF m 223 #[.val (.int x0), .val (.int x1), .val (.ref b693), .val (.ref b696), .val (.ref b745), .val (.ref b753), .val (.int (0 : Int32)), .val (.ref b862), .val (.int (1 : Int32))] [(.int (1 : Int32))]))
        refine own_goW (fun _ ww => XS.istore X908.here hx rfl (hb hby at_223) rfl (l' := #[.val (.int x0), .val (.int x1), .val (.ref b693), .val (.ref b696), .val (.ref b745), .val (.ref b753), .val (.int (0 : Int32)), .val (.ref b862), .val (.int (1 : Int32))]) rfl ww) ?_
        show own_GoesW _ _ _ _ _ _ _ (T908.setTop (mkF m 225 #[.val (.int x0), .val (.int x1), .val (.ref b693), .val (.ref b696), .val (.ref b745), .val (.ref b753), .val (.int (0 : Int32)), .val (.ref b862), .val (.int (1 : Int32))] []))
        refine own_goW (fun _ ww => XS.iload X908.here hx rfl (hb hby at_225) rfl  ww) ?_
        show own_GoesW _ _ _ _ _ _ _ (T908.setTop (mkF m 227 #[.val (.int x0), .val (.int x1), .val (.ref b693), .val (.ref b696), .val (.ref b745), .val (.ref b753), .val (.int (0 : Int32)), .val (.ref b862), .val (.int (1 : Int32))] [(.int (1 : Int32))]))
        exact own_outW X908 hS hk hlk (v := some (.int (1 : Int32))) (fun h => by rw [hret] at h; cases h) (fun fs hr => retOut X908 hx (t := .boolean) hret (by decide) (Or.inl ⟨rfl, by simp, _, rfl⟩) (hb hby at_227) hr) e908 ⟨rfl, N908⟩ (by decide) (by decide)
      ·
        refine own_goW (fun _ ww => XS.ifNo X854.here hx rfl (hb hby at_87) rfl (own_if .eq (feq hc861).1) ww) ?_
        show own_GoesW _ _ _ _ _ _ _ (T854.setTop (mkF m 90 #[.val (.int x0), .val (.int x1), .val (.ref b693), .val (.ref b696), .val (.ref b745), .val (.ref b753), .unset, .unset, .unset] []))
        refine own_goW (fun _ ww => XS.iconst X854.here hx rfl (hb hby at_90) ww) ?_
        show own_GoesW _ _ _ _ _ _ _ (T854.setTop (mkF m 91 #[.val (.int x0), .val (.int x1), .val (.ref b693), .val (.ref b696), .val (.ref b745), .val (.ref b753), .unset, .unset, .unset] [(.int (1 : Int32))]))
        refine own_goW (fun _ ww => XS.goto X854.here hx rfl (pc0 := 91) (pc' := 95) rfl (hb hby at_91) (by decide) (by decide) ww) ?_
        show own_GoesW _ _ _ _ _ _ _ (T854.setTop (mkF m 95 #[.val (.int x0), .val (.int x1), .val (.ref b693), .val (.ref b696), .val (.ref b745), .val (.ref b753), .unset, .unset, .unset] [(.int (1 : Int32))]))
        refine own_goW (fun _ ww => XS.istore X854.here hx rfl (hb hby at_95) rfl (l' := #[.val (.int x0), .val (.int x1), .val (.ref b693), .val (.ref b696), .val (.ref b745), .val (.ref b753), .val (.int (1 : Int32)), .unset, .unset]) rfl ww) ?_
        show own_GoesW _ _ _ _ _ _ _ (T854.setTop (mkF m 97 #[.val (.int x0), .val (.int x1), .val (.ref b693), .val (.ref b696), .val (.ref b745), .val (.ref b753), .val (.int (1 : Int32)), .unset, .unset] []))
        obtain ⟨T909, h909, X909, e909, E909, A909, D909, -, st909⟩ := newO X854 hx hZ hown (own_w hw 121 rfl) (own_w hw 122 rfl) (own_w hw 123 rfl) rfl (g := (mkF m 97 #[.val (.int x0), .val (.int x1), .val (.ref b693), .val (.ref b696), .val (.ref b745), .val (.ref b753), .val (.int (1 : Int32)), .unset, .unset] [])) rfl (hb hby at_97) (by decide) (by decide)
        obtain ⟨b909, g909⟩ : ∃ z, z = T854.heap.size := ⟨_, rfl⟩
        rw [← g909] at A909 D909 st909
        have ne_b696_b909 : b696 ≠ b909 := Nat.ne_of_lt (Nat.lt_of_lt_of_le f855.lt (Nat.le_of_eq g909.symm))
        have ne_b745_b909 : b745 ≠ b909 := Nat.ne_of_lt (Nat.lt_of_lt_of_le f856.lt (Nat.le_of_eq g909.symm))
        have ne_b753_b909 : b753 ≠ b909 := Nat.ne_of_lt (Nat.lt_of_lt_of_le f860.lt (Nat.le_of_eq g909.symm))
        have ne_t854_b909 : t854 ≠ b909 := Nat.ne_of_lt (Nat.lt_of_lt_of_le V854q.lt (Nat.le_of_eq g909.symm))
        have g_b909 : n0 ≤ b909 := Nat.le_trans (O854.1 ▸ O854.2.1) (Nat.le_of_eq g909.symm)
        have f910 := (f855.ext E909)
        have f911 := (f856.ext E909)
        have f912 := (f857.ext E909)
        have f913 := (f858.ext E909)
        have f914 := (f859.ext E909)
        have f915 := (f860.ext E909)
        have f916 := (P854.ext E909)
        have f917 := (Q854.ext E909)
        have f918 := (R854.ext E909)
        have f919 : Arv Z h909 t854 kk854 (.object "java/lang/Object") (10 : Int32) [(.ref b696), .null, .null, .null, .null, .null, .null, .null, .null, .null] .null := (Arv.ext V854q E909)
        have f920 := (E854q.ext E909)
        have O909 := O854.ext E909
        have hk := Nat.le_trans hk E909.1
        have f921 : Fld Z h909 b909 "com/example/navlint/navlint/model/State$Tab" "entry" "Lcom/example/navlint/navlint/model/Entry;" .null := D909 (Or.inr (own_w hw 129 rfl)) (ty := (.object "com/example/navlint/navlint/model/Entry")) (by decide)
        have f922 : Fld Z h909 b909 "com/example/navlint/navlint/model/State$Tab" "back" "Ljava/util/List;" .null := D909 (Or.inr (own_w hw 132 rfl)) (ty := (.object "java/util/List")) (by decide)
        have f923 : Fld Z h909 b909 "com/example/navlint/navlint/model/State$Tab" "forward" "Ljava/util/List;" .null := D909 (Or.inr (own_w hw 134 rfl)) (ty := (.object "java/util/List")) (by decide)
        refine own_goW st909 ?_
        show own_GoesW _ _ _ _ _ _ _ (T909.setTop (mkF m 100 #[.val (.int x0), .val (.int x1), .val (.ref b693), .val (.ref b696), .val (.ref b745), .val (.ref b753), .val (.int (1 : Int32)), .unset, .unset] [(.ref b909)]))
        refine own_goW (fun _ ww => XS.dup X909.here hx rfl (hb hby at_100) rfl rfl ww) ?_
        show own_GoesW _ _ _ _ _ _ _ (T909.setTop (mkF m 101 #[.val (.int x0), .val (.int x1), .val (.ref b693), .val (.ref b696), .val (.ref b745), .val (.ref b753), .val (.int (1 : Int32)), .unset, .unset] [(.ref b909), (.ref b909)]))
        refine own_goW (fun _ ww => XS.iload X909.here hx rfl (hb hby at_101) rfl  ww) ?_
        show own_GoesW _ _ _ _ _ _ _ (T909.setTop (mkF m 103 #[.val (.int x0), .val (.int x1), .val (.ref b693), .val (.ref b696), .val (.ref b745), .val (.ref b753), .val (.int (1 : Int32)), .unset, .unset] [(.int (1 : Int32)), (.ref b909), (.ref b909)]))
        refine own_goW (fun _ ww => XS.ifNo X909.here hx rfl (hb hby at_103) rfl (own_if .eq (feq (by decide : ¬ ((1 : Int32) = (0 : Int32)))).1) ww) ?_
        show own_GoesW _ _ _ _ _ _ _ (T909.setTop (mkF m 106 #[.val (.int x0), .val (.int x1), .val (.ref b693), .val (.ref b696), .val (.ref b745), .val (.ref b753), .val (.int (1 : Int32)), .unset, .unset] [(.ref b909), (.ref b909)]))
        refine own_goW (fun _ ww => XS.aloadN X909.here hx rfl (hb hby at_106) rfl rfl ww) ?_
        show own_GoesW _ _ _ _ _ _ _ (T909.setTop (mkF m 107 #[.val (.int x0), .val (.int x1), .val (.ref b693), .val (.ref b696), .val (.ref b745), .val (.ref b753), .val (.int (1 : Int32)), .unset, .unset] [(.ref b696), (.ref b909), (.ref b909)]))
        refine own_goW (fun _ ww => XS.goto X909.here hx rfl (pc0 := 107) (pc' := 111) rfl (hb hby at_107) (by decide) (by decide) ww) ?_
        show own_GoesW _ _ _ _ _ _ _ (T909.setTop (mkF m 111 #[.val (.int x0), .val (.int x1), .val (.ref b693), .val (.ref b696), .val (.ref b745), .val (.ref b753), .val (.int (1 : Int32)), .unset, .unset] [(.ref b696), (.ref b909), (.ref b909)]))
        refine own_goW (fun _ ww => XS.aload X909.here hx rfl (hb hby at_111) rfl rfl ww) ?_
        show own_GoesW _ _ _ _ _ _ _ (T909.setTop (mkF m 113 #[.val (.int x0), .val (.int x1), .val (.ref b693), .val (.ref b696), .val (.ref b745), .val (.ref b753), .val (.int (1 : Int32)), .unset, .unset] [(.ref b745), (.ref b696), (.ref b909), (.ref b909)]))
        refine own_goW (fun _ ww => XS.aload X909.here hx rfl (hb hby at_113) rfl rfl ww) ?_
        show own_GoesW _ _ _ _ _ _ _ (T909.setTop (mkF m 115 #[.val (.int x0), .val (.int x1), .val (.ref b693), .val (.ref b696), .val (.ref b745), .val (.ref b753), .val (.int (1 : Int32)), .unset, .unset] [(.ref b753), (.ref b745), (.ref b696), (.ref b909), (.ref b909)]))
        obtain ⟨_, _, ⟨T924, L924, k924, n924⟩, -, X924, ⟨Lc924, hQ924, l924, y924, z924⟩, st924⟩ := X909.specialBack hx (y := own_y28) rfl hown (mvT hZ (own_w hw 124 rfl)) (mvT hZ (own_w hw 125 rfl)) (mvT hZ (own_w hw 126 rfl)) (by decide) (backOf (W := 1) (rm_ti1en l Z a0 hw [] b909 b696 mr aL aX b745 b753 t854 kk854 h909 n0 O909 f921 f922 f923 A909 g_b909 f910 MK SL SX EL FL f914 f911 ne_b745_b909 f917 f918 f915 f919 f920 ne_b753_b909 ne_t854_b909) hZ (own_w hw 126 rfl) (own_w hw 123 rfl) (by decide) (by decide)) (g := (mkF m 115 #[.val (.int x0), .val (.int x1), .val (.ref b693), .val (.ref b696), .val (.ref b745), .val (.ref b753), .val (.int (1 : Int32)), .unset, .unset] [(.ref b753), (.ref b745), (.ref b696), (.ref b909), (.ref b909)])) rfl (by rw [hml]; rfl) (Steps.refl _) (a := b909) (argsL := [(.ref b696), (.ref b745), (.ref b753)]) (rest := [(.ref b909)]) (lenOf pd_15 rfl) rfl (by show 2 * 0 + _ ≤ _; exact Nat.le_of_eq rfl) (hb hby at_115) (fun _ _ => ⟨rfl, e909, (by decide : 11 + 2 ≤ _), (by decide : 54 + 3 ≤ _)⟩)
        dsimp only [Pt.U, Pt.locs, Pt.cells, Pt.slots] at X924 l924 y924 z924 st924 hQ924
        subst l924 y924 z924
        obtain ⟨r2_924, rfl, N924q, K924q, P924, Q924, R924, E1_924⟩ := hQ924
        have N924 := Fr.app N854 N924q
        have hk := Nat.le_trans hk (own_ks K924q)
        have f925 := (f910.keep K924q)
        have f926 := (f911.keep K924q)
        have f927 := (f912.keep K924q (ninS ne_b745_b909 nin0))
        have f928 := (f913.keep K924q (ninS ne_b745_b909 nin0))
        have f929 := (f914.keep K924q (ninS ne_b745_b909 nin0))
        have f930 := (f915.keep K924q)
        have f931 := (f916.keep K924q (ninS ne_b753_b909 nin0))
        have f932 := (f917.keep K924q (ninS ne_b753_b909 nin0))
        have f933 := (f918.keep K924q (ninS ne_b753_b909 nin0))
        have f934 : Arv Z T924.heap t854 kk854 (.object "java/lang/Object") (10 : Int32) [(.ref b696), .null, .null, .null, .null, .null, .null, .null, .null, .null] .null := (f919.keep K924q (ninS ne_t854_b909 nin0))
        have f935 := (f920.keep K924q)
        have f936 := (A909.keep K924q)
        have O924 := O909.keep K924q (allS g_b909 all0)
        refine own_goW (fun _ ww => Steps.trans st924 ww) ?_
        show own_GoesW _ _ _ _ _ _ _ (T924.setTop (mkF m 118 #[.val (.int x0), .val (.int x1), .val (.ref b693), .val (.ref b696), .val (.ref b745), .val (.ref b753), .val (.int (1 : Int32)), .unset, .unset] [(.ref b909)]))
        refine own_goW (fun _ ww => XS.astore X924.here hx rfl (hb hby at_118) rfl rfl (l' := #[.val (.int x0), .val (.int x1), .val (.ref b693), .val (.ref b696), .val (.ref b745), .val (.ref b753), .val (.int (1 : Int32)), .val (.ref b909), .unset]) rfl ww) ?_
        show own_GoesW _ _ _ _ _ _ _ (T924.setTop (mkF m 120 #[.val (.int x0), .val (.int x1), .val (.ref b693), .val (.ref b696), .val (.ref b745), .val (.ref b753), .val (.int (1 : Int32)), .val (.ref b909), .unset] []))
        refine own_goW (fun _ ww => XS.aload X924.here hx rfl (hb hby at_120) rfl rfl ww) ?_
        show own_GoesW _ _ _ _ _ _ _ (T924.setTop (mkF m 122 #[.val (.int x0), .val (.int x1), .val (.ref b693), .val (.ref b696), .val (.ref b745), .val (.ref b753), .val (.int (1 : Int32)), .val (.ref b909), .unset] [(.ref b909)]))
        obtain ⟨cq937, kq937, q937a, q937b, q937c⟩ := isOf hZ rfl f936
        obtain ⟨_, _, ⟨T937, L937, k937, n937⟩, -, X937, ⟨Lc937, hQ937, l937, y937, z937⟩, st937⟩ := X924.virtualBack hx (y := own_y31) (z := own_y31) hown (mvT hZ (own_w hw 135 rfl)) (mvT hZ (own_w hw 136 rfl)) (notFace_of_selects (args := #[]) (mvT hZ (own_w hw 138 rfl))) (mvT hZ (own_w hw 138 rfl)) (mvT hZ (own_w hw 137 rfl)) (by decide) (backOf (W := 0) (rm_waits1 l Z a0 hw [] b909 b696 T924.heap n0 O924 P924) hZ (own_w hw 139 rfl) (own_w hw 123 rfl) (by decide) (by decide)) q937a q937c (g := (mkF m 122 #[.val (.int x0), .val (.int x1), .val (.ref b693), .val (.ref b696), .val (.ref b745), .val (.ref b753), .val (.int (1 : Int32)), .val (.ref b909), .unset] [(.ref b909)])) rfl (by rw [hml]; rfl) (Steps.refl _) (argsL := []) (rest := []) (lenOf pd_9 rfl) rfl (by show 2 * 0 + _ ≤ _; exact Nat.le_of_eq rfl) (hb hby at_122) (fun _ _ => ⟨rfl, rfl, (by decide : 13 + 0 ≤ _), (by decide : 57 + 0 ≤ _)⟩)
        dsimp only [Pt.U, Pt.locs, Pt.cells, Pt.slots] at X937 l937 y937 z937 st937 hQ937
        subst l937 y937 z937
        obtain ⟨rfl, N937q, e937⟩ := hQ937
        have N937 := Fr.app N924 N937q
        refine own_goW (fun _ ww => Steps.trans st937 ww) ?_
        show own_GoesW _ _ _ _ _ _ _ (T937.setTop (mkF m 125 #[.val (.int x0), .val (.int x1), .val (.ref b693), .val (.ref b696), .val (.ref b745), .val (.ref b753), .val (.int (1 : Int32)), .val (.ref b909), .unset] [(.int (0 : Int32))]))
        refine own_goW (fun _ ww => XS.iload X937.here hx rfl (hb hby at_125) rfl  ww) ?_
        show own_GoesW _ _ _ _ _ _ _ (T937.setTop (mkF m 127 #[.val (.int x0), .val (.int x1), .val (.ref b693), .val (.ref b696), .val (.ref b745), .val (.ref b753), .val (.int (1 : Int32)), .val (.ref b909), .unset] [(.int (1 : Int32)), (.int (0 : Int32))]))
        refine own_goW (fun _ ww => XS.ifYes X937.here hx rfl (pc0 := 127) (pc' := 134) rfl (hb hby at_127) rfl (own_if .ne (feq (by decide : ¬ ((1 : Int32) = (0 : Int32)))).2) (by decide) (by decide) ww) ?_
        show own_GoesW _ _ _ _ _ _ _ (T937.setTop (mkF m 134 #[.val (.int x0), .val (.int x1), .val (.ref b693), .val (.ref b696), .val (.ref b745), .val (.ref b753), .val (.int (1 : Int32)), .val (.ref b909), .unset] [(.int (0 : Int32))]))
        refine own_goW (fun _ ww => XS.iconst X937.here hx rfl (hb hby at_134) ww) ?_
        show own_GoesW _ _ _ _ _ _ _ (T937.setTop (mkF m 135 #[.val (.int x0), .val (.int x1), .val (.ref b693), .val (.ref b696), .val (.ref b745), .val (.ref b753), .val (.int (1 : Int32)), .val (.ref b909), .unset] [(.int (0 : Int32)), (.int (0 : Int32))]))
        refine own_goW (fun _ ww => XS.icmpNo X937.here hx rfl (hb hby at_135) rfl (teq (by decide : (0 : Int32) = (0 : Int32))).2 ww) ?_
        show own_GoesW _ _ _ _ _ _ _ (T937.setTop (mkF m 138 #[.val (.int x0), .val (.int x1), .val (.ref b693), .val (.ref b696), .val (.ref b745), .val (.ref b753), .val (.int (1 : Int32)), .val (.ref b909), .unset] []))
        refine own_goW (fun _ ww => XS.iconst X937.here hx rfl (hb hby at_138) ww) ?_
        show own_GoesW _ _ _ _ _ _ _ (T937.setTop (mkF m 139 #[.val (.int x0), .val (.int x1), .val (.ref b693), .val (.ref b696), .val (.ref b745), .val (.ref b753), .val (.int (1 : Int32)), .val (.ref b909), .unset] [(.int (1 : Int32))]))
        refine own_goW (fun _ ww => XS.goto X937.here hx rfl (pc0 := 139) (pc' := 143) rfl (hb hby at_139) (by decide) (by decide) ww) ?_
        show own_GoesW _ _ _ _ _ _ _ (T937.setTop (mkF m 143 #[.val (.int x0), .val (.int x1), .val (.ref b693), .val (.ref b696), .val (.ref b745), .val (.ref b753), .val (.int (1 : Int32)), .val (.ref b909), .unset] [(.int (1 : Int32))]))
        refine own_goW (fun _ ww => XS.istore X937.here hx rfl (hb hby at_143) rfl (l' := #[.val (.int x0), .val (.int x1), .val (.ref b693), .val (.ref b696), .val (.ref b745), .val (.ref b753), .val (.int (1 : Int32)), .val (.ref b909), .val (.int (1 : Int32))]) rfl ww) ?_
        show own_GoesW _ _ _ _ _ _ _ (T937.setTop (mkF m 145 #[.val (.int x0), .val (.int x1), .val (.ref b693), .val (.ref b696), .val (.ref b745), .val (.ref b753), .val (.int (1 : Int32)), .val (.ref b909), .val (.int (1 : Int32))] []))
        refine own_goW (fun _ ww => XS.iload X937.here hx rfl (hb hby at_145) rfl  ww) ?_
        show own_GoesW _ _ _ _ _ _ _ (T937.setTop (mkF m 147 #[.val (.int x0), .val (.int x1), .val (.ref b693), .val (.ref b696), .val (.ref b745), .val (.ref b753), .val (.int (1 : Int32)), .val (.ref b909), .val (.int (1 : Int32))] [(.int (1 : Int32))]))
        refine own_goW (fun _ ww => XS.ifNo X937.here hx rfl (hb hby at_147) rfl (own_if .eq (feq (by decide : ¬ ((1 : Int32) = (0 : Int32)))).1) ww) ?_
        show own_GoesW _ _ _ _ _ _ _ (T937.setTop (mkF m 150 #[.val (.int x0), .val (.int x1), .val (.ref b693), .val (.ref b696), .val (.ref b745), .val (.ref b753), .val (.int (1 : Int32)), .val (.ref b909), .val (.int (1 : Int32))] []))
        refine own_goW (fun _ ww => XS.aload X937.here hx rfl (hb hby at_150) rfl rfl ww) ?_
        show own_GoesW _ _ _ _ _ _ _ (T937.setTop (mkF m 152 #[.val (.int x0), .val (.int x1), .val (.ref b693), .val (.ref b696), .val (.ref b745), .val (.ref b753), .val (.int (1 : Int32)), .val (.ref b909), .val (.int (1 : Int32))] [(.ref b909)]))
        obtain ⟨cq938, kq938, q938a, q938b, q938c⟩ := isOf hZ e937 f936
        obtain ⟨_, _, ⟨T938, L938, k938, n938⟩, -, X938, ⟨Lc938, hQ938, l938, y938, z938⟩, st938⟩ := X937.virtualBack hx (y := own_y31) (z := own_y31) hown (mvT hZ (own_w hw 135 rfl)) (mvT hZ (own_w hw 136 rfl)) (notFace_of_selects (args := #[]) (mvT hZ (own_w hw 138 rfl))) (mvT hZ (own_w hw 138 rfl)) (mvT hZ (own_w hw 137 rfl)) (by decide) (backOf (W := 0) (rm_waits1 l Z a0 hw [] b909 b696 T924.heap n0 O924 P924) hZ (own_w hw 139 rfl) (own_w hw 123 rfl) (by decide) (by decide)) q938a q938c (g := (mkF m 152 #[.val (.int x0), .val (.int x1), .val (.ref b693), .val (.ref b696), .val (.ref b745), .val (.ref b753), .val (.int (1 : Int32)), .val (.ref b909), .val (.int (1 : Int32))] [(.ref b909)])) rfl (by rw [hml]; rfl) (Steps.refl _) (argsL := []) (rest := []) (lenOf pd_9 rfl) rfl (by show 2 * 0 + _ ≤ _; exact Nat.le_of_eq rfl) (hb hby at_152) (fun _ _ => ⟨rfl, e937, (by decide : 13 + 0 ≤ _), (by decide : 57 + 0 ≤ _)⟩)
        dsimp only [Pt.U, Pt.locs, Pt.cells, Pt.slots] at X938 l938 y938 z938 st938 hQ938
        subst l938 y938 z938
        obtain ⟨rfl, N938q, e938⟩ := hQ938
        have N938 := Fr.app N937 N938q
        refine own_goW (fun _ ww => Steps.trans st938 ww) ?_
        show own_GoesW _ _ _ _ _ _ _ (T938.setTop (mkF m 155 #[.val (.int x0), .val (.int x1), .val (.ref b693), .val (.ref b696), .val (.ref b745), .val (.ref b753), .val (.int (1 : Int32)), .val (.ref b909), .val (.int (1 : Int32))] [(.int (0 : Int32))]))
        refine own_goW (fun _ ww => XS.aload X938.here hx rfl (hb hby at_155) rfl rfl ww) ?_
        show own_GoesW _ _ _ _ _ _ _ (T938.setTop (mkF m 157 #[.val (.int x0), .val (.int x1), .val (.ref b693), .val (.ref b696), .val (.ref b745), .val (.ref b753), .val (.int (1 : Int32)), .val (.ref b909), .val (.int (1 : Int32))] [(.ref b909), (.int (0 : Int32))]))
        obtain ⟨cq939, kq939, q939a, q939b, q939c⟩ := isOf hZ e938 f936
        obtain ⟨_, _, ⟨T939, L939, k939, n939⟩, -, X939, ⟨Lc939, hQ939, l939, y939, z939⟩, st939⟩ := X938.virtualBack hx (y := own_y32) (z := own_y32) hown (mvT hZ (own_w hw 140 rfl)) (mvT hZ (own_w hw 141 rfl)) (notFace_of_selects (args := #[]) (mvT hZ (own_w hw 143 rfl))) (mvT hZ (own_w hw 143 rfl)) (mvT hZ (own_w hw 142 rfl)) (by decide) (backOf (W := 1) (rm_entry1 l Z a0 hw [] b909 b696 T924.heap n0 O924 P924) hZ (own_w hw 144 rfl) (own_w hw 123 rfl) (by decide) (by decide)) q939a q939c (g := (mkF m 157 #[.val (.int x0), .val (.int x1), .val (.ref b693), .val (.ref b696), .val (.ref b745), .val (.ref b753), .val (.int (1 : Int32)), .val (.ref b909), .val (.int (1 : Int32))] [(.ref b909), (.int (0 : Int32))])) rfl (by rw [hml]; rfl) (Steps.refl _) (argsL := []) (rest := [(.int (0 : Int32))]) (lenOf pd_19 rfl) rfl (by show 2 * 0 + _ ≤ _; exact Nat.le_of_eq rfl) (hb hby at_157) (fun _ _ => ⟨rfl, e938, (by decide : 13 + 0 ≤ _), (by decide : 57 + 0 ≤ _)⟩)
        dsimp only [Pt.U, Pt.locs, Pt.cells, Pt.slots] at X939 l939 y939 z939 st939 hQ939
        subst l939 y939 z939
        obtain ⟨rfl, N939q, e939⟩ := hQ939
        have N939 := Fr.app N938 N939q
        refine own_goW (fun _ ww => Steps.trans st939 ww) ?_
        show own_GoesW _ _ _ _ _ _ _ (T939.setTop (mkF m 160 #[.val (.int x0), .val (.int x1), .val (.ref b693), .val (.ref b696), .val (.ref b745), .val (.ref b753), .val (.int (1 : Int32)), .val (.ref b909), .val (.int (1 : Int32))] [(.ref b696), (.int (0 : Int32))]))
        refine own_goW (fun _ ww => XT.ifnonnullYes X939.here hx rfl (pc0 := 160) (pc' := 167) rfl (hb hby at_160) rfl (by decide) (by decide) ww) ?_
        show own_GoesW _ _ _ _ _ _ _ (T939.setTop (mkF m 167 #[.val (.int x0), .val (.int x1), .val (.ref b693), .val (.ref b696), .val (.ref b745), .val (.ref b753), .val (.int (1 : Int32)), .val (.ref b909), .val (.int (1 : Int32))] [(.int (0 : Int32))]))
        refine own_goW (fun _ ww => XS.iconst X939.here hx rfl (hb hby at_167) ww) ?_
        show own_GoesW _ _ _ _ _ _ _ (T939.setTop (mkF m 168 #[.val (.int x0), .val (.int x1), .val (.ref b693), .val (.ref b696), .val (.ref b745), .val (.ref b753), .val (.int (1 : Int32)), .val (.ref b909), .val (.int (1 : Int32))] [(.int (0 : Int32)), (.int (0 : Int32))]))
        refine own_goW (fun _ ww => XS.icmpNo X939.here hx rfl (hb hby at_168) rfl (teq (by decide : (0 : Int32) = (0 : Int32))).2 ww) ?_
        show own_GoesW _ _ _ _ _ _ _ (T939.setTop (mkF m 171 #[.val (.int x0), .val (.int x1), .val (.ref b693), .val (.ref b696), .val (.ref b745), .val (.ref b753), .val (.int (1 : Int32)), .val (.ref b909), .val (.int (1 : Int32))] []))
        refine own_goW (fun _ ww => XS.iconst X939.here hx rfl (hb hby at_171) ww) ?_
        show own_GoesW _ _ _ _ _ _ _ (T939.setTop (mkF m 172 #[.val (.int x0), .val (.int x1), .val (.ref b693), .val (.ref b696), .val (.ref b745), .val (.ref b753), .val (.int (1 : Int32)), .val (.ref b909), .val (.int (1 : Int32))] [(.int (1 : Int32))]))
        refine own_goW (fun _ ww => XS.goto X939.here hx rfl (pc0 := 172) (pc' := 176) rfl (hb hby at_172) (by decide) (by decide) ww) ?_
        show own_GoesW _ _ _ _ _ _ _ (T939.setTop (mkF m 176 #[.val (.int x0), .val (.int x1), .val (.ref b693), .val (.ref b696), .val (.ref b745), .val (.ref b753), .val (.int (1 : Int32)), .val (.ref b909), .val (.int (1 : Int32))] [(.int (1 : Int32))]))
        refine own_goW (fun _ ww => XS.istore X939.here hx rfl (hb hby at_176) rfl (l' := #[.val (.int x0), .val (.int x1), .val (.ref b693), .val (.ref b696), .val (.ref b745), .val (.ref b753), .val (.int (1 : Int32)), .val (.ref b909), .val (.int (1 : Int32))]) rfl ww) ?_
        show own_GoesW _ _ _ _ _ _ _ (T939.setTop (mkF m 178 #[.val (.int x0), .val (.int x1), .val (.ref b693), .val (.ref b696), .val (.ref b745), .val (.ref b753), .val (.int (1 : Int32)), .val (.ref b909), .val (.int (1 : Int32))] []))
        refine own_goW (fun _ ww => XS.iload X939.here hx rfl (hb hby at_178) rfl  ww) ?_
        show own_GoesW _ _ _ _ _ _ _ (T939.setTop (mkF m 180 #[.val (.int x0), .val (.int x1), .val (.ref b693), .val (.ref b696), .val (.ref b745), .val (.ref b753), .val (.int (1 : Int32)), .val (.ref b909), .val (.int (1 : Int32))] [(.int (1 : Int32))]))
        refine own_goW (fun _ ww => XS.ifNo X939.here hx rfl (hb hby at_180) rfl (own_if .eq (feq (by decide : ¬ ((1 : Int32) = (0 : Int32)))).1) ww) ?_
        show own_GoesW _ _ _ _ _ _ _ (T939.setTop (mkF m 183 #[.val (.int x0), .val (.int x1), .val (.ref b693), .val (.ref b696), .val (.ref b745), .val (.ref b753), .val (.int (1 : Int32)), .val (.ref b909), .val (.int (1 : Int32))] []))
        refine own_goW (fun _ ww => XS.aload X939.here hx rfl (hb hby at_183) rfl rfl ww) ?_
        show own_GoesW _ _ _ _ _ _ _ (T939.setTop (mkF m 185 #[.val (.int x0), .val (.int x1), .val (.ref b693), .val (.ref b696), .val (.ref b745), .val (.ref b753), .val (.int (1 : Int32)), .val (.ref b909), .val (.int (1 : Int32))] [(.ref b909)]))
        obtain ⟨cq940, kq940, q940a, q940b, q940c⟩ := isOf hZ e939 f936
        obtain ⟨_, _, ⟨T940, L940, k940, n940⟩, -, X940, ⟨Lc940, hQ940, l940, y940, z940⟩, st940⟩ := X939.virtualBack hx (y := own_y29) (z := own_y29) hown (mvT hZ (own_w hw 145 rfl)) (mvT hZ (own_w hw 146 rfl)) (notFace_of_selects (args := #[]) (mvT hZ (own_w hw 148 rfl))) (mvT hZ (own_w hw 148 rfl)) (mvT hZ (own_w hw 147 rfl)) (by decide) (backOf (W := 0) (rm_waitingII l Z a0 hw [] b909 b696 mr aL aX aL "java/util/ImmutableCollections$ListN" r2_924 "java/util/ImmutableCollections$List12" T924.heap n0 O924 f925 MK SL SX EL FL Q924 R924 (EL.ext O924.2) (Or.inr ⟨rfl, rfl⟩) E1_924 (Or.inl rfl)) hZ (own_w hw 149 rfl) (own_w hw 123 rfl) (by decide) (by decide)) q940a q940c (g := (mkF m 185 #[.val (.int x0), .val (.int x1), .val (.ref b693), .val (.ref b696), .val (.ref b745), .val (.ref b753), .val (.int (1 : Int32)), .val (.ref b909), .val (.int (1 : Int32))] [(.ref b909)])) rfl (by rw [hml]; rfl) (Steps.refl _) (argsL := []) (rest := []) (lenOf pd_20 rfl) rfl (by show 2 * 0 + _ ≤ _; exact Nat.le_of_eq rfl) (hb hby at_185) (fun _ _ => ⟨rfl, e939, (by decide : 13 + 1 ≤ _), (by decide : 57 + 4 ≤ _)⟩)
        dsimp only [Pt.U, Pt.locs, Pt.cells, Pt.slots] at X940 l940 y940 z940 st940 hQ940
        subst l940 y940 z940
        obtain ⟨r940, rfl, N940q, B940, K940q, E940q, P940⟩ := hQ940
        have N940 := Fr.app N939 N940q
        have hk := Nat.le_trans hk (own_ks K940q)
        have ne_b696_r940 : b696 ≠ r940 := Nat.ne_of_lt (Nat.lt_of_lt_of_le f925.lt B940)
        have ne_b909_r940 : b909 ≠ r940 := Nat.ne_of_lt (Nat.lt_of_lt_of_le f936.lt B940)
        have ne_r2_924_r940 : r2_924 ≠ r940 := Nat.ne_of_lt (Nat.lt_of_lt_of_le E1_924.lt B940)
        have g_r940 : n0 ≤ r940 := Nat.le_trans (O924.1 ▸ O924.2.1) B940
        have f941 := (f925.keep K940q)
        have f942 := (f936.keep K940q)
        have f943 := (P924.keep K940q nin0)
        have f944 := (Q924.keep K940q nin0)
        have f945 := (R924.keep K940q nin0)
        have f946 := (E1_924.keep K940q)
        have O940 := O924.keep K940q all0
        refine own_goW (fun _ ww => Steps.trans st940 ww) ?_
        show own_GoesW _ _ _ _ _ _ _ (T940.setTop (mkF m 188 #[.val (.int x0), .val (.int x1), .val (.ref b693), .val (.ref b696), .val (.ref b745), .val (.ref b753), .val (.int (1 : Int32)), .val (.ref b909), .val (.int (1 : Int32))] [(.ref r940)]))
        obtain ⟨cq947, kq947, q947a, q947b, q947c⟩ := isOf hZ rfl E940q
        obtain ⟨_, _, ⟨T947, L947, k947, n947⟩, -, X947, ⟨Lc947, hQ947, l947, y947, z947⟩, st947⟩ := X940.virtualBack hx (y := own_y31) (z := own_y31) hown (mvT hZ (own_w hw 135 rfl)) (mvT hZ (own_w hw 136 rfl)) (notFace_of_selects (args := #[]) (mvT hZ (own_w hw 138 rfl))) (mvT hZ (own_w hw 138 rfl)) (mvT hZ (own_w hw 137 rfl)) (by decide) (backOf (W := 0) (rm_waits0 l Z a0 hw [] r940 aL T940.heap n0 O940 P940) hZ (own_w hw 139 rfl) (own_w hw 123 rfl) (by decide) (by decide)) q947a q947c (g := (mkF m 188 #[.val (.int x0), .val (.int x1), .val (.ref b693), .val (.ref b696), .val (.ref b745), .val (.ref b753), .val (.int (1 : Int32)), .val (.ref b909), .val (.int (1 : Int32))] [(.ref r940)])) rfl (by rw [hml]; rfl) (Steps.refl _) (argsL := []) (rest := []) (lenOf pd_9 rfl) rfl (by show 2 * 0 + _ ≤ _; exact Nat.le_of_eq rfl) (hb hby at_188) (fun _ _ => ⟨rfl, rfl, (by decide : 14 + 0 ≤ _), (by decide : 61 + 0 ≤ _)⟩)
        dsimp only [Pt.U, Pt.locs, Pt.cells, Pt.slots] at X947 l947 y947 z947 st947 hQ947
        subst l947 y947 z947
        obtain ⟨rfl, N947q, e947⟩ := hQ947
        have N947 := Fr.app N940 N947q
        refine own_goW (fun _ ww => Steps.trans st947 ww) ?_
        show own_GoesW _ _ _ _ _ _ _ (T947.setTop (mkF m 191 #[.val (.int x0), .val (.int x1), .val (.ref b693), .val (.ref b696), .val (.ref b745), .val (.ref b753), .val (.int (1 : Int32)), .val (.ref b909), .val (.int (1 : Int32))] [(.int (1 : Int32))]))
        refine own_goW (fun _ ww => XS.ifNo X947.here hx rfl (hb hby at_191) rfl (own_if .eq (feq (by decide : ¬ ((1 : Int32) = (0 : Int32)))).1) ww) ?_
        show own_GoesW _ _ _ _ _ _ _ (T947.setTop (mkF m 194 #[.val (.int x0), .val (.int x1), .val (.ref b693), .val (.ref b696), .val (.ref b745), .val (.ref b753), .val (.int (1 : Int32)), .val (.ref b909), .val (.int (1 : Int32))] []))
        refine own_goW (fun _ ww => XS.iconst X947.here hx rfl (hb hby at_194) ww) ?_
        show own_GoesW _ _ _ _ _ _ _ (T947.setTop (mkF m 195 #[.val (.int x0), .val (.int x1), .val (.ref b693), .val (.ref b696), .val (.ref b745), .val (.ref b753), .val (.int (1 : Int32)), .val (.ref b909), .val (.int (1 : Int32))] [(.int (1 : Int32))]))
        refine own_goW (fun _ ww => XS.goto X947.here hx rfl (pc0 := 195) (pc' := 199) rfl (hb hby at_195) (by decide) (by decide) ww) ?_
        show own_GoesW _ _ _ _ _ _ _ (T947.setTop (mkF m 199 #[.val (.int x0), .val (.int x1), .val (.ref b693), .val (.ref b696), .val (.ref b745), .val (.ref b753), .val (.int (1 : Int32)), .val (.ref b909), .val (.int (1 : Int32))] [(.int (1 : Int32))]))
        refine own_goW (fun _ ww => XS.istore X947.here hx rfl (hb hby at_199) rfl (l' := #[.val (.int x0), .val (.int x1), .val (.ref b693), .val (.ref b696), .val (.ref b745), .val (.ref b753), .val (.int (1 : Int32)), .val (.ref b909), .val (.int (1 : Int32))]) rfl ww) ?_
        show own_GoesW _ _ _ _ _ _ _ (T947.setTop (mkF m 201 #[.val (.int x0), .val (.int x1), .val (.ref b693), .val (.ref b696), .val (.ref b745), .val (.ref b753), .val (.int (1 : Int32)), .val (.ref b909), .val (.int (1 : Int32))] []))
        refine own_goW (fun _ ww => XS.iload X947.here hx rfl (hb hby at_201) rfl  ww) ?_
        show own_GoesW _ _ _ _ _ _ _ (T947.setTop (mkF m 203 #[.val (.int x0), .val (.int x1), .val (.ref b693), .val (.ref b696), .val (.ref b745), .val (.ref b753), .val (.int (1 : Int32)), .val (.ref b909), .val (.int (1 : Int32))] [(.int (1 : Int32))]))
        refine own_goW (fun _ ww => XS.ifNo X947.here hx rfl (hb hby at_203) rfl (own_if .eq (feq (by decide : ¬ ((1 : Int32) = (0 : Int32)))).1) ww) ?_
        show own_GoesW _ _ _ _ _ _ _ (T947.setTop (mkF m 206 #[.val (.int x0), .val (.int x1), .val (.ref b693), .val (.ref b696), .val (.ref b745), .val (.ref b753), .val (.int (1 : Int32)), .val (.ref b909), .val (.int (1 : Int32))] []))
        refine own_goW (fun _ ww => XS.aload X947.here hx rfl (hb hby at_206) rfl rfl ww) ?_
        show own_GoesW _ _ _ _ _ _ _ (T947.setTop (mkF m 208 #[.val (.int x0), .val (.int x1), .val (.ref b693), .val (.ref b696), .val (.ref b745), .val (.ref b753), .val (.int (1 : Int32)), .val (.ref b909), .val (.int (1 : Int32))] [(.ref b909)]))
        refine own_goW (fun _ ww => XS.aloadN X947.here hx rfl (hb hby at_208) rfl rfl ww) ?_
        show own_GoesW _ _ _ _ _ _ _ (T947.setTop (mkF m 209 #[.val (.int x0), .val (.int x1), .val (.ref b693), .val (.ref b696), .val (.ref b745), .val (.ref b753), .val (.int (1 : Int32)), .val (.ref b909), .val (.int (1 : Int32))] [(.ref b696), (.ref b909)]))
        obtain ⟨cq948, kq948, q948a, q948b, q948c⟩ := isOf hZ e947 f942
        obtain ⟨_, _, ⟨T948, L948, k948, n948⟩, -, X948, ⟨Lc948, hQ948, l948, y948, z948⟩, st948⟩ := X947.virtualBack hx (y := own_y30) (z := own_y30) hown (mvT hZ (own_w hw 160 rfl)) (mvT hZ (own_w hw 161 rfl)) (notFace_of_selects (args := #[]) (mvT hZ (own_w hw 163 rfl))) (mvT hZ (own_w hw 163 rfl)) (mvT hZ (own_w hw 162 rfl)) (by decide) (backOf (W := 0) (rm_showingII l Z a0 hw [] b909 b696 mr aL aX aL "java/util/ImmutableCollections$ListN" r2_924 "java/util/ImmutableCollections$List12" T940.heap n0 O940 f941 MK SL SX EL FL f944 f945 (EL.ext O940.2) (Or.inr ⟨rfl, rfl⟩) f946 (Or.inl rfl)) hZ (own_w hw 164 rfl) (own_w hw 123 rfl) (by decide) (by decide)) q948a q948c (g := (mkF m 209 #[.val (.int x0), .val (.int x1), .val (.ref b693), .val (.ref b696), .val (.ref b745), .val (.ref b753), .val (.int (1 : Int32)), .val (.ref b909), .val (.int (1 : Int32))] [(.ref b696), (.ref b909)])) rfl (by rw [hml]; rfl) (Steps.refl _) (argsL := [(.ref b696)]) (rest := []) (lenOf pd_21 rfl) rfl (by show 2 * 0 + _ ≤ _; exact Nat.le_of_eq rfl) (hb hby at_209) (fun _ _ => ⟨rfl, e947, (by decide : 14 + 1 ≤ _), (by decide : 61 + 4 ≤ _)⟩)
        dsimp only [Pt.U, Pt.locs, Pt.cells, Pt.slots] at X948 l948 y948 z948 st948 hQ948
        subst l948 y948 z948
        obtain ⟨r948, rfl, N948q, B948, K948q, E948q, P948⟩ := hQ948
        have N948 := Fr.app N947 N948q
        have hk := Nat.le_trans hk (own_ks K948q)
        have ne_b696_r948 : b696 ≠ r948 := Nat.ne_of_lt (Nat.lt_of_lt_of_le f941.lt B948)
        have ne_b909_r948 : b909 ≠ r948 := Nat.ne_of_lt (Nat.lt_of_lt_of_le f942.lt B948)
        have ne_r2_924_r948 : r2_924 ≠ r948 := Nat.ne_of_lt (Nat.lt_of_lt_of_le f946.lt B948)
        have g_r948 : n0 ≤ r948 := Nat.le_trans (O940.1 ▸ O940.2.1) B948
        have f949 := (f941.keep K948q)
        have f950 := (f942.keep K948q)
        have f951 := (f943.keep K948q nin0)
        have f952 := (f944.keep K948q nin0)
        have f953 := (f945.keep K948q nin0)
        have f954 := (f946.keep K948q)
        have O948 := O940.keep K948q all0
        refine own_goW (fun _ ww => Steps.trans st948 ww) ?_
        show own_GoesW _ _ _ _ _ _ _ (T948.setTop (mkF m 212 #[.val (.int x0), .val (.int x1), .val (.ref b693), .val (.ref b696), .val (.ref b745), .val (.ref b753), .val (.int (1 : Int32)), .val (.ref b909), .val (.int (1 : Int32))] [(.ref r948)]))
        obtain ⟨cq955, kq955, q955a, q955b, q955c⟩ := isOf hZ rfl E948q
        obtain ⟨_, _, ⟨T955, L955, k955, n955⟩, -, X955, ⟨Lc955, hQ955, l955, y955, z955⟩, st955⟩ := X948.virtualBack hx (y := own_y31) (z := own_y31) hown (mvT hZ (own_w hw 135 rfl)) (mvT hZ (own_w hw 136 rfl)) (notFace_of_selects (args := #[]) (mvT hZ (own_w hw 138 rfl))) (mvT hZ (own_w hw 138 rfl)) (mvT hZ (own_w hw 137 rfl)) (by decide) (backOf (W := 0) (rm_waits1 l Z a0 hw [] r948 b696 T948.heap n0 O948 P948) hZ (own_w hw 139 rfl) (own_w hw 123 rfl) (by decide) (by decide)) q955a q955c (g := (mkF m 212 #[.val (.int x0), .val (.int x1), .val (.ref b693), .val (.ref b696), .val (.ref b745), .val (.ref b753), .val (.int (1 : Int32)), .val (.ref b909), .val (.int (1 : Int32))] [(.ref r948)])) rfl (by rw [hml]; rfl) (Steps.refl _) (argsL := []) (rest := []) (lenOf pd_9 rfl) rfl (by show 2 * 0 + _ ≤ _; exact Nat.le_of_eq rfl) (hb hby at_212) (fun _ _ => ⟨rfl, rfl, (by decide : 15 + 0 ≤ _), (by decide : 65 + 0 ≤ _)⟩)
        dsimp only [Pt.U, Pt.locs, Pt.cells, Pt.slots] at X955 l955 y955 z955 st955 hQ955
        subst l955 y955 z955
        obtain ⟨rfl, N955q, e955⟩ := hQ955
        have N955 := Fr.app N948 N955q
        refine own_goW (fun _ ww => Steps.trans st955 ww) ?_
        show own_GoesW _ _ _ _ _ _ _ (T955.setTop (mkF m 215 #[.val (.int x0), .val (.int x1), .val (.ref b693), .val (.ref b696), .val (.ref b745), .val (.ref b753), .val (.int (1 : Int32)), .val (.ref b909), .val (.int (1 : Int32))] [(.int (0 : Int32))]))
        refine own_goW (fun _ ww => XS.ifNo X955.here hx rfl (hb hby at_215) rfl (own_if .ne (teq (by decide : (0 : Int32) = (0 : Int32))).2) ww) ?_
        show own_GoesW _ _ _ _ _ _ _ (T955.setTop (mkF m 218 #[.val (.int x0), .val (.int x1), .val (.ref b693), .val (.ref b696), .val (.ref b745), .val (.ref b753), .val (.int (1 : Int32)), .val (.ref b909), .val (.int (1 : Int32))] []))
        refine own_goW (fun _ ww => XS.iconst X955.here hx rfl (hb hby at_218) ww) ?_
        show own_GoesW _ _ _ _ _ _ _ (T955.setTop (mkF m 219 #[.val (.int x0), .val (.int x1), .val (.ref b693), .val (.ref b696), .val (.ref b745), .val (.ref b753), .val (.int (1 : Int32)), .val (.ref b909), .val (.int (1 : Int32))] [(.int (1 : Int32))]))
        refine own_goW (fun _ ww => XS.goto X955.here hx rfl (pc0 := 219) (pc' := 223) rfl (hb hby at_219) (by decide) (by decide) ww) ?_
        show own_GoesW _ _ _ _ _ _ _ (T955.setTop (mkF m 223 #[.val (.int x0), .val (.int x1), .val (.ref b693), .val (.ref b696), .val (.ref b745), .val (.ref b753), .val (.int (1 : Int32)), .val (.ref b909), .val (.int (1 : Int32))] [(.int (1 : Int32))]))
        refine own_goW (fun _ ww => XS.istore X955.here hx rfl (hb hby at_223) rfl (l' := #[.val (.int x0), .val (.int x1), .val (.ref b693), .val (.ref b696), .val (.ref b745), .val (.ref b753), .val (.int (1 : Int32)), .val (.ref b909), .val (.int (1 : Int32))]) rfl ww) ?_
        show own_GoesW _ _ _ _ _ _ _ (T955.setTop (mkF m 225 #[.val (.int x0), .val (.int x1), .val (.ref b693), .val (.ref b696), .val (.ref b745), .val (.ref b753), .val (.int (1 : Int32)), .val (.ref b909), .val (.int (1 : Int32))] []))
        refine own_goW (fun _ ww => XS.iload X955.here hx rfl (hb hby at_225) rfl  ww) ?_
        show own_GoesW _ _ _ _ _ _ _ (T955.setTop (mkF m 227 #[.val (.int x0), .val (.int x1), .val (.ref b693), .val (.ref b696), .val (.ref b745), .val (.ref b753), .val (.int (1 : Int32)), .val (.ref b909), .val (.int (1 : Int32))] [(.int (1 : Int32))]))
        exact own_outW X955 hS hk hlk (v := some (.int (1 : Int32))) (fun h => by rw [hret] at h; cases h) (fun fs hr => retOut X955 hx (t := .boolean) hret (by decide) (Or.inl ⟨rfl, by simp, _, rfl⟩) (hb hby at_227) hr) e955 ⟨rfl, N955⟩ (by decide) (by decide)
  ·
    refine own_goW (fun _ ww => XS.ifNo X762.here hx rfl (hb hby at_61) rfl (own_if .eq (feq hc769).1) ww) ?_
    show own_GoesW _ _ _ _ _ _ _ (T762.setTop (mkF m 64 #[.val (.int x0), .val (.int x1), .val (.ref b693), .val (.ref b696), .val (.ref b745), .val (.ref b753), .unset, .unset, .unset] []))
    refine own_goW (fun _ ww => XS.aload X762.here hx rfl (hb hby at_64) rfl rfl ww) ?_
    show own_GoesW _ _ _ _ _ _ _ (T762.setTop (mkF m 66 #[.val (.int x0), .val (.int x1), .val (.ref b693), .val (.ref b696), .val (.ref b745), .val (.ref b753), .unset, .unset, .unset] [(.ref b745)]))
    refine own_goW (fun _ ww => XS.aloadN X762.here hx rfl (hb hby at_66) rfl rfl ww) ?_
    show own_GoesW _ _ _ _ _ _ _ (T762.setTop (mkF m 67 #[.val (.int x0), .val (.int x1), .val (.ref b693), .val (.ref b696), .val (.ref b745), .val (.ref b753), .unset, .unset, .unset] [(.ref b696), (.ref b745)]))
    obtain ⟨cq956, kq956, q956a, q956b, q956c⟩ := isOf hZ rfl f764
    obtain ⟨_, _, ⟨T956, L956, k956, n956⟩, -, X956, ⟨Lc956, hQ956, l956, y956, z956⟩, st956⟩ := X762.virtualBack hx (y := own_y11) (z := own_y11) hown (mvT hZ (own_w hw 165 rfl)) (mvT hZ (own_w hw 166 rfl)) (notFace_of_selects (args := #[]) (mvT hZ (own_w hw 168 rfl))) (mvT hZ (own_w hw 168 rfl)) (mvT hZ (own_w hw 167 rfl)) (by decide) (backOf (W := 0) (rm_add1 l Z a0 hw [] b745 aD kD b696 T762.heap n0 O762 f765 f766 f767 f764 g_b745 SD VD f763) hZ (own_w hw 169 rfl) (own_w hw 35 rfl) (by decide) (by decide)) q956a q956c (g := (mkF m 67 #[.val (.int x0), .val (.int x1), .val (.ref b693), .val (.ref b696), .val (.ref b745), .val (.ref b753), .unset, .unset, .unset] [(.ref b696), (.ref b745)])) rfl (by rw [hml]; rfl) (Steps.refl _) (argsL := [(.ref b696)]) (rest := []) (lenOf pd_22 rfl) rfl (by show 2 * 0 + _ ≤ _; exact Nat.le_of_eq rfl) (hb hby at_67) (fun _ _ => ⟨rfl, rfl, (by decide : 9 + 1 ≤ _), (by decide : 40 + 10 ≤ _)⟩)
    dsimp only [Pt.U, Pt.locs, Pt.cells, Pt.slots] at X956 l956 y956 z956 st956 hQ956
    subst l956 y956 z956
    obtain ⟨t956, kk956, rfl, N956q, B956, K956q, P956, Q956, R956, V956q, E956q⟩ := hQ956
    have N956 := Fr.app N762 N956q
    have hk := Nat.le_trans hk (own_ks K956q)
    have ne_b696_t956 : b696 ≠ t956 := Nat.ne_of_lt (Nat.lt_of_lt_of_le f763.lt B956)
    have ne_b745_t956 : b745 ≠ t956 := Nat.ne_of_lt (Nat.lt_of_lt_of_le f764.lt B956)
    have ne_b753_t956 : b753 ≠ t956 := Nat.ne_of_lt (Nat.lt_of_lt_of_le f768.lt B956)
    have g_t956 : n0 ≤ t956 := Nat.le_trans (O762.1 ▸ O762.2.1) B956
    have f957 := (f763.keep K956q)
    have f958 := (f764.keep K956q)
    have f959 := (f768.keep K956q)
    have f960 := (P762.keep K956q (ninS (Ne.symm ne_b745_b753) nin0))
    have f961 := (Q762.keep K956q (ninS (Ne.symm ne_b745_b753) nin0))
    have f962 := (R762.keep K956q (ninS (Ne.symm ne_b745_b753) nin0))
    have O956 := O762.keep K956q (allS g_b745 all0)
    refine own_goW (fun _ ww => Steps.trans st956 ww) ?_
    show own_GoesW _ _ _ _ _ _ _ (T956.setTop (mkF m 70 #[.val (.int x0), .val (.int x1), .val (.ref b693), .val (.ref b696), .val (.ref b745), .val (.ref b753), .unset, .unset, .unset] [(.int (1 : Int32))]))
    refine own_goW (fun _ ww => XT.pop X956.here hx rfl (hb hby at_70) rfl rfl ww) ?_
    show own_GoesW _ _ _ _ _ _ _ (T956.setTop (mkF m 71 #[.val (.int x0), .val (.int x1), .val (.ref b693), .val (.ref b696), .val (.ref b745), .val (.ref b753), .unset, .unset, .unset] []))
    refine own_goW (fun _ ww => XS.iloadN X956.here hx rfl (hb hby at_71) rfl  ww) ?_
    show own_GoesW _ _ _ _ _ _ _ (T956.setTop (mkF m 72 #[.val (.int x0), .val (.int x1), .val (.ref b693), .val (.ref b696), .val (.ref b745), .val (.ref b753), .unset, .unset, .unset] [(.int x0)]))
    refine own_goW (fun _ ww => XS.iconst X956.here hx rfl (hb hby at_72) ww) ?_
    show own_GoesW _ _ _ _ _ _ _ (T956.setTop (mkF m 73 #[.val (.int x0), .val (.int x1), .val (.ref b693), .val (.ref b696), .val (.ref b745), .val (.ref b753), .unset, .unset, .unset] [(.int (4 : Int32)), (.int x0)]))
    refine own_goW (fun _ ww => XS.iand X956.here hx rfl (hb hby at_73) rfl ww) ?_
    show own_GoesW _ _ _ _ _ _ _ (T956.setTop (mkF m 74 #[.val (.int x0), .val (.int x1), .val (.ref b693), .val (.ref b696), .val (.ref b745), .val (.ref b753), .unset, .unset, .unset] [(.int (x0 &&& (4 : Int32)))]))
    by_cases hc963 : (x0 &&& (4 : Int32)) = (0 : Int32)
    ·
      refine own_goW (fun _ ww => XS.ifYes X956.here hx rfl (pc0 := 74) (pc' := 84) rfl (hb hby at_74) rfl (own_if .eq (teq hc963).1) (by decide) (by decide) ww) ?_
      show own_GoesW _ _ _ _ _ _ _ (T956.setTop (mkF m 84 #[.val (.int x0), .val (.int x1), .val (.ref b693), .val (.ref b696), .val (.ref b745), .val (.ref b753), .unset, .unset, .unset] []))
      refine own_goW (fun _ ww => XS.iloadN X956.here hx rfl (hb hby at_84) rfl  ww) ?_
      show own_GoesW _ _ _ _ _ _ _ (T956.setTop (mkF m 85 #[.val (.int x0), .val (.int x1), .val (.ref b693), .val (.ref b696), .val (.ref b745), .val (.ref b753), .unset, .unset, .unset] [(.int x0)]))
      refine own_goW (fun _ ww => XS.iconst X956.here hx rfl (hb hby at_85) ww) ?_
      show own_GoesW _ _ _ _ _ _ _ (T956.setTop (mkF m 86 #[.val (.int x0), .val (.int x1), .val (.ref b693), .val (.ref b696), .val (.ref b745), .val (.ref b753), .unset, .unset, .unset] [(.int (1 : Int32)), (.int x0)]))
      refine own_goW (fun _ ww => XS.iand X956.here hx rfl (hb hby at_86) rfl ww) ?_
      show own_GoesW _ _ _ _ _ _ _ (T956.setTop (mkF m 87 #[.val (.int x0), .val (.int x1), .val (.ref b693), .val (.ref b696), .val (.ref b745), .val (.ref b753), .unset, .unset, .unset] [(.int (x0 &&& (1 : Int32)))]))
      by_cases hc964 : (x0 &&& (1 : Int32)) = (0 : Int32)
      ·
        refine own_goW (fun _ ww => XS.ifYes X956.here hx rfl (pc0 := 87) (pc' := 94) rfl (hb hby at_87) rfl (own_if .eq (teq hc964).1) (by decide) (by decide) ww) ?_
        show own_GoesW _ _ _ _ _ _ _ (T956.setTop (mkF m 94 #[.val (.int x0), .val (.int x1), .val (.ref b693), .val (.ref b696), .val (.ref b745), .val (.ref b753), .unset, .unset, .unset] []))
        refine own_goW (fun _ ww => XS.iconst X956.here hx rfl (hb hby at_94) ww) ?_
        show own_GoesW _ _ _ _ _ _ _ (T956.setTop (mkF m 95 #[.val (.int x0), .val (.int x1), .val (.ref b693), .val (.ref b696), .val (.ref b745), .val (.ref b753), .unset, .unset, .unset] [(.int (0 : Int32))]))
        refine own_goW (fun _ ww => XS.istore X956.here hx rfl (hb hby at_95) rfl (l' := #[.val (.int x0), .val (.int x1), .val (.ref b693), .val (.ref b696), .val (.ref b745), .val (.ref b753), .val (.int (0 : Int32)), .unset, .unset]) rfl ww) ?_
        show own_GoesW _ _ _ _ _ _ _ (T956.setTop (mkF m 97 #[.val (.int x0), .val (.int x1), .val (.ref b693), .val (.ref b696), .val (.ref b745), .val (.ref b753), .val (.int (0 : Int32)), .unset, .unset] []))
        obtain ⟨T965, h965, X965, e965, E965, A965, D965, -, st965⟩ := newO X956 hx hZ hown (own_w hw 121 rfl) (own_w hw 122 rfl) (own_w hw 123 rfl) rfl (g := (mkF m 97 #[.val (.int x0), .val (.int x1), .val (.ref b693), .val (.ref b696), .val (.ref b745), .val (.ref b753), .val (.int (0 : Int32)), .unset, .unset] [])) rfl (hb hby at_97) (by decide) (by decide)
        obtain ⟨b965, g965⟩ : ∃ z, z = T956.heap.size := ⟨_, rfl⟩
        rw [← g965] at A965 D965 st965
        have ne_b696_b965 : b696 ≠ b965 := Nat.ne_of_lt (Nat.lt_of_lt_of_le f957.lt (Nat.le_of_eq g965.symm))
        have ne_b745_b965 : b745 ≠ b965 := Nat.ne_of_lt (Nat.lt_of_lt_of_le f958.lt (Nat.le_of_eq g965.symm))
        have ne_b753_b965 : b753 ≠ b965 := Nat.ne_of_lt (Nat.lt_of_lt_of_le f959.lt (Nat.le_of_eq g965.symm))
        have ne_t956_b965 : t956 ≠ b965 := Nat.ne_of_lt (Nat.lt_of_lt_of_le V956q.lt (Nat.le_of_eq g965.symm))
        have g_b965 : n0 ≤ b965 := Nat.le_trans (O956.1 ▸ O956.2.1) (Nat.le_of_eq g965.symm)
        have f966 := (f957.ext E965)
        have f967 := (f958.ext E965)
        have f968 := (f959.ext E965)
        have f969 := (f960.ext E965)
        have f970 := (f961.ext E965)
        have f971 := (f962.ext E965)
        have f972 := (P956.ext E965)
        have f973 := (Q956.ext E965)
        have f974 := (R956.ext E965)
        have f975 : Arv Z h965 t956 kk956 (.object "java/lang/Object") (10 : Int32) [(.ref b696), .null, .null, .null, .null, .null, .null, .null, .null, .null] .null := (Arv.ext V956q E965)
        have f976 := (E956q.ext E965)
        have O965 := O956.ext E965
        have hk := Nat.le_trans hk E965.1
        have f977 : Fld Z h965 b965 "com/example/navlint/navlint/model/State$Tab" "entry" "Lcom/example/navlint/navlint/model/Entry;" .null := D965 (Or.inr (own_w hw 129 rfl)) (ty := (.object "com/example/navlint/navlint/model/Entry")) (by decide)
        have f978 : Fld Z h965 b965 "com/example/navlint/navlint/model/State$Tab" "back" "Ljava/util/List;" .null := D965 (Or.inr (own_w hw 132 rfl)) (ty := (.object "java/util/List")) (by decide)
        have f979 : Fld Z h965 b965 "com/example/navlint/navlint/model/State$Tab" "forward" "Ljava/util/List;" .null := D965 (Or.inr (own_w hw 134 rfl)) (ty := (.object "java/util/List")) (by decide)
        refine own_goW st965 ?_
        show own_GoesW _ _ _ _ _ _ _ (T965.setTop (mkF m 100 #[.val (.int x0), .val (.int x1), .val (.ref b693), .val (.ref b696), .val (.ref b745), .val (.ref b753), .val (.int (0 : Int32)), .unset, .unset] [(.ref b965)]))
        refine own_goW (fun _ ww => XS.dup X965.here hx rfl (hb hby at_100) rfl rfl ww) ?_
        show own_GoesW _ _ _ _ _ _ _ (T965.setTop (mkF m 101 #[.val (.int x0), .val (.int x1), .val (.ref b693), .val (.ref b696), .val (.ref b745), .val (.ref b753), .val (.int (0 : Int32)), .unset, .unset] [(.ref b965), (.ref b965)]))
        refine own_goW (fun _ ww => XS.iload X965.here hx rfl (hb hby at_101) rfl  ww) ?_
        show own_GoesW _ _ _ _ _ _ _ (T965.setTop (mkF m 103 #[.val (.int x0), .val (.int x1), .val (.ref b693), .val (.ref b696), .val (.ref b745), .val (.ref b753), .val (.int (0 : Int32)), .unset, .unset] [(.int (0 : Int32)), (.ref b965), (.ref b965)]))
        refine own_goW (fun _ ww => XS.ifYes X965.here hx rfl (pc0 := 103) (pc' := 110) rfl (hb hby at_103) rfl (own_if .eq (teq (by decide : (0 : Int32) = (0 : Int32))).1) (by decide) (by decide) ww) ?_
        show own_GoesW _ _ _ _ _ _ _ (T965.setTop (mkF m 110 #[.val (.int x0), .val (.int x1), .val (.ref b693), .val (.ref b696), .val (.ref b745), .val (.ref b753), .val (.int (0 : Int32)), .unset, .unset] [(.ref b965), (.ref b965)]))
        refine own_goW (fun _ ww => XS.aconstNull X965.here hx rfl (hb hby at_110) ww) ?_
        show own_GoesW _ _ _ _ _ _ _ (T965.setTop (mkF m 111 #[.val (.int x0), .val (.int x1), .val (.ref b693), .val (.ref b696), .val (.ref b745), .val (.ref b753), .val (.int (0 : Int32)), .unset, .unset] [.null, (.ref b965), (.ref b965)]))
        refine own_goW (fun _ ww => XS.aload X965.here hx rfl (hb hby at_111) rfl rfl ww) ?_
        show own_GoesW _ _ _ _ _ _ _ (T965.setTop (mkF m 113 #[.val (.int x0), .val (.int x1), .val (.ref b693), .val (.ref b696), .val (.ref b745), .val (.ref b753), .val (.int (0 : Int32)), .unset, .unset] [(.ref b745), .null, (.ref b965), (.ref b965)]))
        refine own_goW (fun _ ww => XS.aload X965.here hx rfl (hb hby at_113) rfl rfl ww) ?_
        show own_GoesW _ _ _ _ _ _ _ (T965.setTop (mkF m 115 #[.val (.int x0), .val (.int x1), .val (.ref b693), .val (.ref b696), .val (.ref b745), .val (.ref b753), .val (.int (0 : Int32)), .unset, .unset] [(.ref b753), (.ref b745), .null, (.ref b965), (.ref b965)]))
        obtain ⟨_, _, ⟨T980, L980, k980, n980⟩, -, X980, ⟨Lc980, hQ980, l980, y980, z980⟩, st980⟩ := X965.specialBack hx (y := own_y28) rfl hown (mvT hZ (own_w hw 124 rfl)) (mvT hZ (own_w hw 125 rfl)) (mvT hZ (own_w hw 126 rfl)) (by decide) (backOf (W := 1) (rm_ti0ne l Z a0 hw [] b965 b696 mr aL aX b745 t956 kk956 b753 h965 n0 O965 f977 f978 f979 A965 g_b965 f966 MK SL SX EL FL f973 f974 f967 f975 f976 ne_b745_b965 ne_t956_b965 f971 f968 ne_b753_b965) hZ (own_w hw 126 rfl) (own_w hw 123 rfl) (by decide) (by decide)) (g := (mkF m 115 #[.val (.int x0), .val (.int x1), .val (.ref b693), .val (.ref b696), .val (.ref b745), .val (.ref b753), .val (.int (0 : Int32)), .unset, .unset] [(.ref b753), (.ref b745), .null, (.ref b965), (.ref b965)])) rfl (by rw [hml]; rfl) (Steps.refl _) (a := b965) (argsL := [.null, (.ref b745), (.ref b753)]) (rest := [(.ref b965)]) (lenOf pd_15 rfl) rfl (by show 2 * 0 + _ ≤ _; exact Nat.le_of_eq rfl) (hb hby at_115) (fun _ _ => ⟨rfl, e965, (by decide : 11 + 2 ≤ _), (by decide : 54 + 3 ≤ _)⟩)
        dsimp only [Pt.U, Pt.locs, Pt.cells, Pt.slots] at X980 l980 y980 z980 st980 hQ980
        subst l980 y980 z980
        obtain ⟨r1_980, rfl, N980q, K980q, P980, Q980, R980, E0_980⟩ := hQ980
        have N980 := Fr.app N956 N980q
        have hk := Nat.le_trans hk (own_ks K980q)
        have f981 := (f966.keep K980q)
        have f982 := (f967.keep K980q)
        have f983 := (f968.keep K980q)
        have f984 := (f969.keep K980q (ninS ne_b753_b965 nin0))
        have f985 := (f970.keep K980q (ninS ne_b753_b965 nin0))
        have f986 := (f971.keep K980q (ninS ne_b753_b965 nin0))
        have f987 := (f972.keep K980q (ninS ne_b745_b965 nin0))
        have f988 := (f973.keep K980q (ninS ne_b745_b965 nin0))
        have f989 := (f974.keep K980q (ninS ne_b745_b965 nin0))
        have f990 : Arv Z T980.heap t956 kk956 (.object "java/lang/Object") (10 : Int32) [(.ref b696), .null, .null, .null, .null, .null, .null, .null, .null, .null] .null := (f975.keep K980q (ninS ne_t956_b965 nin0))
        have f991 := (f976.keep K980q)
        have f992 := (A965.keep K980q)
        have O980 := O965.keep K980q (allS g_b965 all0)
        refine own_goW (fun _ ww => Steps.trans st980 ww) ?_
        show own_GoesW _ _ _ _ _ _ _ (T980.setTop (mkF m 118 #[.val (.int x0), .val (.int x1), .val (.ref b693), .val (.ref b696), .val (.ref b745), .val (.ref b753), .val (.int (0 : Int32)), .unset, .unset] [(.ref b965)]))
        refine own_goW (fun _ ww => XS.astore X980.here hx rfl (hb hby at_118) rfl rfl (l' := #[.val (.int x0), .val (.int x1), .val (.ref b693), .val (.ref b696), .val (.ref b745), .val (.ref b753), .val (.int (0 : Int32)), .val (.ref b965), .unset]) rfl ww) ?_
        show own_GoesW _ _ _ _ _ _ _ (T980.setTop (mkF m 120 #[.val (.int x0), .val (.int x1), .val (.ref b693), .val (.ref b696), .val (.ref b745), .val (.ref b753), .val (.int (0 : Int32)), .val (.ref b965), .unset] []))
        refine own_goW (fun _ ww => XS.aload X980.here hx rfl (hb hby at_120) rfl rfl ww) ?_
        show own_GoesW _ _ _ _ _ _ _ (T980.setTop (mkF m 122 #[.val (.int x0), .val (.int x1), .val (.ref b693), .val (.ref b696), .val (.ref b745), .val (.ref b753), .val (.int (0 : Int32)), .val (.ref b965), .unset] [(.ref b965)]))
        obtain ⟨cq993, kq993, q993a, q993b, q993c⟩ := isOf hZ rfl f992
        obtain ⟨_, _, ⟨T993, L993, k993, n993⟩, -, X993, ⟨Lc993, hQ993, l993, y993, z993⟩, st993⟩ := X980.virtualBack hx (y := own_y31) (z := own_y31) hown (mvT hZ (own_w hw 135 rfl)) (mvT hZ (own_w hw 136 rfl)) (notFace_of_selects (args := #[]) (mvT hZ (own_w hw 138 rfl))) (mvT hZ (own_w hw 138 rfl)) (mvT hZ (own_w hw 137 rfl)) (by decide) (backOf (W := 0) (rm_waits0 l Z a0 hw [] b965 aL T980.heap n0 O980 P980) hZ (own_w hw 139 rfl) (own_w hw 123 rfl) (by decide) (by decide)) q993a q993c (g := (mkF m 122 #[.val (.int x0), .val (.int x1), .val (.ref b693), .val (.ref b696), .val (.ref b745), .val (.ref b753), .val (.int (0 : Int32)), .val (.ref b965), .unset] [(.ref b965)])) rfl (by rw [hml]; rfl) (Steps.refl _) (argsL := []) (rest := []) (lenOf pd_9 rfl) rfl (by show 2 * 0 + _ ≤ _; exact Nat.le_of_eq rfl) (hb hby at_122) (fun _ _ => ⟨rfl, rfl, (by decide : 13 + 0 ≤ _), (by decide : 57 + 0 ≤ _)⟩)
        dsimp only [Pt.U, Pt.locs, Pt.cells, Pt.slots] at X993 l993 y993 z993 st993 hQ993
        subst l993 y993 z993
        obtain ⟨rfl, N993q, e993⟩ := hQ993
        have N993 := Fr.app N980 N993q
        refine own_goW (fun _ ww => Steps.trans st993 ww) ?_
        show own_GoesW _ _ _ _ _ _ _ (T993.setTop (mkF m 125 #[.val (.int x0), .val (.int x1), .val (.ref b693), .val (.ref b696), .val (.ref b745), .val (.ref b753), .val (.int (0 : Int32)), .val (.ref b965), .unset] [(.int (1 : Int32))]))
        refine own_goW (fun _ ww => XS.iload X993.here hx rfl (hb hby at_125) rfl  ww) ?_
        show own_GoesW _ _ _ _ _ _ _ (T993.setTop (mkF m 127 #[.val (.int x0), .val (.int x1), .val (.ref b693), .val (.ref b696), .val (.ref b745), .val (.ref b753), .val (.int (0 : Int32)), .val (.ref b965), .unset] [(.int (0 : Int32)), (.int (1 : Int32))]))
        refine own_goW (fun _ ww => XS.ifNo X993.here hx rfl (hb hby at_127) rfl (own_if .ne (teq (by decide : (0 : Int32) = (0 : Int32))).2) ww) ?_
        show own_GoesW _ _ _ _ _ _ _ (T993.setTop (mkF m 130 #[.val (.int x0), .val (.int x1), .val (.ref b693), .val (.ref b696), .val (.ref b745), .val (.ref b753), .val (.int (0 : Int32)), .val (.ref b965), .unset] [(.int (1 : Int32))]))
        refine own_goW (fun _ ww => XS.iconst X993.here hx rfl (hb hby at_130) ww) ?_
        show own_GoesW _ _ _ _ _ _ _ (T993.setTop (mkF m 131 #[.val (.int x0), .val (.int x1), .val (.ref b693), .val (.ref b696), .val (.ref b745), .val (.ref b753), .val (.int (0 : Int32)), .val (.ref b965), .unset] [(.int (1 : Int32)), (.int (1 : Int32))]))
        refine own_goW (fun _ ww => XS.goto X993.here hx rfl (pc0 := 131) (pc' := 135) rfl (hb hby at_131) (by decide) (by decide) ww) ?_
        show own_GoesW _ _ _ _ _ _ _ (T993.setTop (mkF m 135 #[.val (.int x0), .val (.int x1), .val (.ref b693), .val (.ref b696), .val (.ref b745), .val (.ref b753), .val (.int (0 : Int32)), .val (.ref b965), .unset] [(.int (1 : Int32)), (.int (1 : Int32))]))
        refine own_goW (fun _ ww => XS.icmpNo X993.here hx rfl (hb hby at_135) rfl (teq (by decide : (1 : Int32) = (1 : Int32))).2 ww) ?_
        show own_GoesW _ _ _ _ _ _ _ (T993.setTop (mkF m 138 #[.val (.int x0), .val (.int x1), .val (.ref b693), .val (.ref b696), .val (.ref b745), .val (.ref b753), .val (.int (0 : Int32)), .val (.ref b965), .unset] []))
        refine own_goW (fun _ ww => XS.iconst X993.here hx rfl (hb hby at_138) ww) ?_
        show own_GoesW _ _ _ _ _ _ _ (T993.setTop (mkF m 139 #[.val (.int x0), .val (.int x1), .val (.ref b693), .val (.ref b696), .val (.ref b745), .val (.ref b753), .val (.int (0 : Int32)), .val (.ref b965), .unset] [(.int (1 : Int32))]))
        refine own_goW (fun _ ww => XS.goto X993.here hx rfl (pc0 := 139) (pc' := 143) rfl (hb hby at_139) (by decide) (by decide) ww) ?_
        show own_GoesW _ _ _ _ _ _ _ (T993.setTop (mkF m 143 #[.val (.int x0), .val (.int x1), .val (.ref b693), .val (.ref b696), .val (.ref b745), .val (.ref b753), .val (.int (0 : Int32)), .val (.ref b965), .unset] [(.int (1 : Int32))]))
        refine own_goW (fun _ ww => XS.istore X993.here hx rfl (hb hby at_143) rfl (l' := #[.val (.int x0), .val (.int x1), .val (.ref b693), .val (.ref b696), .val (.ref b745), .val (.ref b753), .val (.int (0 : Int32)), .val (.ref b965), .val (.int (1 : Int32))]) rfl ww) ?_
        show own_GoesW _ _ _ _ _ _ _ (T993.setTop (mkF m 145 #[.val (.int x0), .val (.int x1), .val (.ref b693), .val (.ref b696), .val (.ref b745), .val (.ref b753), .val (.int (0 : Int32)), .val (.ref b965), .val (.int (1 : Int32))] []))
        refine own_goW (fun _ ww => XS.iload X993.here hx rfl (hb hby at_145) rfl  ww) ?_
        show own_GoesW _ _ _ _ _ _ _ (T993.setTop (mkF m 147 #[.val (.int x0), .val (.int x1), .val (.ref b693), .val (.ref b696), .val (.ref b745), .val (.ref b753), .val (.int (0 : Int32)), .val (.ref b965), .val (.int (1 : Int32))] [(.int (1 : Int32))]))
        refine own_goW (fun _ ww => XS.ifNo X993.here hx rfl (hb hby at_147) rfl (own_if .eq (feq (by decide : ¬ ((1 : Int32) = (0 : Int32)))).1) ww) ?_
        show own_GoesW _ _ _ _ _ _ _ (T993.setTop (mkF m 150 #[.val (.int x0), .val (.int x1), .val (.ref b693), .val (.ref b696), .val (.ref b745), .val (.ref b753), .val (.int (0 : Int32)), .val (.ref b965), .val (.int (1 : Int32))] []))
        refine own_goW (fun _ ww => XS.aload X993.here hx rfl (hb hby at_150) rfl rfl ww) ?_
        show own_GoesW _ _ _ _ _ _ _ (T993.setTop (mkF m 152 #[.val (.int x0), .val (.int x1), .val (.ref b693), .val (.ref b696), .val (.ref b745), .val (.ref b753), .val (.int (0 : Int32)), .val (.ref b965), .val (.int (1 : Int32))] [(.ref b965)]))
        obtain ⟨cq994, kq994, q994a, q994b, q994c⟩ := isOf hZ e993 f992
        obtain ⟨_, _, ⟨T994, L994, k994, n994⟩, -, X994, ⟨Lc994, hQ994, l994, y994, z994⟩, st994⟩ := X993.virtualBack hx (y := own_y31) (z := own_y31) hown (mvT hZ (own_w hw 135 rfl)) (mvT hZ (own_w hw 136 rfl)) (notFace_of_selects (args := #[]) (mvT hZ (own_w hw 138 rfl))) (mvT hZ (own_w hw 138 rfl)) (mvT hZ (own_w hw 137 rfl)) (by decide) (backOf (W := 0) (rm_waits0 l Z a0 hw [] b965 aL T980.heap n0 O980 P980) hZ (own_w hw 139 rfl) (own_w hw 123 rfl) (by decide) (by decide)) q994a q994c (g := (mkF m 152 #[.val (.int x0), .val (.int x1), .val (.ref b693), .val (.ref b696), .val (.ref b745), .val (.ref b753), .val (.int (0 : Int32)), .val (.ref b965), .val (.int (1 : Int32))] [(.ref b965)])) rfl (by rw [hml]; rfl) (Steps.refl _) (argsL := []) (rest := []) (lenOf pd_9 rfl) rfl (by show 2 * 0 + _ ≤ _; exact Nat.le_of_eq rfl) (hb hby at_152) (fun _ _ => ⟨rfl, e993, (by decide : 13 + 0 ≤ _), (by decide : 57 + 0 ≤ _)⟩)
        dsimp only [Pt.U, Pt.locs, Pt.cells, Pt.slots] at X994 l994 y994 z994 st994 hQ994
        subst l994 y994 z994
        obtain ⟨rfl, N994q, e994⟩ := hQ994
        have N994 := Fr.app N993 N994q
        refine own_goW (fun _ ww => Steps.trans st994 ww) ?_
        show own_GoesW _ _ _ _ _ _ _ (T994.setTop (mkF m 155 #[.val (.int x0), .val (.int x1), .val (.ref b693), .val (.ref b696), .val (.ref b745), .val (.ref b753), .val (.int (0 : Int32)), .val (.ref b965), .val (.int (1 : Int32))] [(.int (1 : Int32))]))
        refine own_goW (fun _ ww => XS.aload X994.here hx rfl (hb hby at_155) rfl rfl ww) ?_
        show own_GoesW _ _ _ _ _ _ _ (T994.setTop (mkF m 157 #[.val (.int x0), .val (.int x1), .val (.ref b693), .val (.ref b696), .val (.ref b745), .val (.ref b753), .val (.int (0 : Int32)), .val (.ref b965), .val (.int (1 : Int32))] [(.ref b965), (.int (1 : Int32))]))
        obtain ⟨cq995, kq995, q995a, q995b, q995c⟩ := isOf hZ e994 f992
        obtain ⟨_, _, ⟨T995, L995, k995, n995⟩, -, X995, ⟨Lc995, hQ995, l995, y995, z995⟩, st995⟩ := X994.virtualBack hx (y := own_y32) (z := own_y32) hown (mvT hZ (own_w hw 140 rfl)) (mvT hZ (own_w hw 141 rfl)) (notFace_of_selects (args := #[]) (mvT hZ (own_w hw 143 rfl))) (mvT hZ (own_w hw 143 rfl)) (mvT hZ (own_w hw 142 rfl)) (by decide) (backOf (W := 1) (rm_entry0 l Z a0 hw [] b965 aL T980.heap n0 O980 P980) hZ (own_w hw 144 rfl) (own_w hw 123 rfl) (by decide) (by decide)) q995a q995c (g := (mkF m 157 #[.val (.int x0), .val (.int x1), .val (.ref b693), .val (.ref b696), .val (.ref b745), .val (.ref b753), .val (.int (0 : Int32)), .val (.ref b965), .val (.int (1 : Int32))] [(.ref b965), (.int (1 : Int32))])) rfl (by rw [hml]; rfl) (Steps.refl _) (argsL := []) (rest := [(.int (1 : Int32))]) (lenOf pd_19 rfl) rfl (by show 2 * 0 + _ ≤ _; exact Nat.le_of_eq rfl) (hb hby at_157) (fun _ _ => ⟨rfl, e994, (by decide : 13 + 0 ≤ _), (by decide : 57 + 0 ≤ _)⟩)
        dsimp only [Pt.U, Pt.locs, Pt.cells, Pt.slots] at X995 l995 y995 z995 st995 hQ995
        subst l995 y995 z995
        obtain ⟨rfl, N995q, e995⟩ := hQ995
        have N995 := Fr.app N994 N995q
        refine own_goW (fun _ ww => Steps.trans st995 ww) ?_
        show own_GoesW _ _ _ _ _ _ _ (T995.setTop (mkF m 160 #[.val (.int x0), .val (.int x1), .val (.ref b693), .val (.ref b696), .val (.ref b745), .val (.ref b753), .val (.int (0 : Int32)), .val (.ref b965), .val (.int (1 : Int32))] [.null, (.int (1 : Int32))]))
        refine own_goW (fun _ ww => XT.ifnonnullNo X995.here hx rfl (hb hby at_160) rfl ww) ?_
        show own_GoesW _ _ _ _ _ _ _ (T995.setTop (mkF m 163 #[.val (.int x0), .val (.int x1), .val (.ref b693), .val (.ref b696), .val (.ref b745), .val (.ref b753), .val (.int (0 : Int32)), .val (.ref b965), .val (.int (1 : Int32))] [(.int (1 : Int32))]))
        refine own_goW (fun _ ww => XS.iconst X995.here hx rfl (hb hby at_163) ww) ?_
        show own_GoesW _ _ _ _ _ _ _ (T995.setTop (mkF m 164 #[.val (.int x0), .val (.int x1), .val (.ref b693), .val (.ref b696), .val (.ref b745), .val (.ref b753), .val (.int (0 : Int32)), .val (.ref b965), .val (.int (1 : Int32))] [(.int (1 : Int32)), (.int (1 : Int32))]))
        refine own_goW (fun _ ww => XS.goto X995.here hx rfl (pc0 := 164) (pc' := 168) rfl (hb hby at_164) (by decide) (by decide) ww) ?_
        show own_GoesW _ _ _ _ _ _ _ (T995.setTop (mkF m 168 #[.val (.int x0), .val (.int x1), .val (.ref b693), .val (.ref b696), .val (.ref b745), .val (.ref b753), .val (.int (0 : Int32)), .val (.ref b965), .val (.int (1 : Int32))] [(.int (1 : Int32)), (.int (1 : Int32))]))
        refine own_goW (fun _ ww => XS.icmpNo X995.here hx rfl (hb hby at_168) rfl (teq (by decide : (1 : Int32) = (1 : Int32))).2 ww) ?_
        show own_GoesW _ _ _ _ _ _ _ (T995.setTop (mkF m 171 #[.val (.int x0), .val (.int x1), .val (.ref b693), .val (.ref b696), .val (.ref b745), .val (.ref b753), .val (.int (0 : Int32)), .val (.ref b965), .val (.int (1 : Int32))] []))
        refine own_goW (fun _ ww => XS.iconst X995.here hx rfl (hb hby at_171) ww) ?_
        show own_GoesW _ _ _ _ _ _ _ (T995.setTop (mkF m 172 #[.val (.int x0), .val (.int x1), .val (.ref b693), .val (.ref b696), .val (.ref b745), .val (.ref b753), .val (.int (0 : Int32)), .val (.ref b965), .val (.int (1 : Int32))] [(.int (1 : Int32))]))
        refine own_goW (fun _ ww => XS.goto X995.here hx rfl (pc0 := 172) (pc' := 176) rfl (hb hby at_172) (by decide) (by decide) ww) ?_
        show own_GoesW _ _ _ _ _ _ _ (T995.setTop (mkF m 176 #[.val (.int x0), .val (.int x1), .val (.ref b693), .val (.ref b696), .val (.ref b745), .val (.ref b753), .val (.int (0 : Int32)), .val (.ref b965), .val (.int (1 : Int32))] [(.int (1 : Int32))]))
        refine own_goW (fun _ ww => XS.istore X995.here hx rfl (hb hby at_176) rfl (l' := #[.val (.int x0), .val (.int x1), .val (.ref b693), .val (.ref b696), .val (.ref b745), .val (.ref b753), .val (.int (0 : Int32)), .val (.ref b965), .val (.int (1 : Int32))]) rfl ww) ?_
        show own_GoesW _ _ _ _ _ _ _ (T995.setTop (mkF m 178 #[.val (.int x0), .val (.int x1), .val (.ref b693), .val (.ref b696), .val (.ref b745), .val (.ref b753), .val (.int (0 : Int32)), .val (.ref b965), .val (.int (1 : Int32))] []))
        refine own_goW (fun _ ww => XS.iload X995.here hx rfl (hb hby at_178) rfl  ww) ?_
        show own_GoesW _ _ _ _ _ _ _ (T995.setTop (mkF m 180 #[.val (.int x0), .val (.int x1), .val (.ref b693), .val (.ref b696), .val (.ref b745), .val (.ref b753), .val (.int (0 : Int32)), .val (.ref b965), .val (.int (1 : Int32))] [(.int (1 : Int32))]))
        refine own_goW (fun _ ww => XS.ifNo X995.here hx rfl (hb hby at_180) rfl (own_if .eq (feq (by decide : ¬ ((1 : Int32) = (0 : Int32)))).1) ww) ?_
        show own_GoesW _ _ _ _ _ _ _ (T995.setTop (mkF m 183 #[.val (.int x0), .val (.int x1), .val (.ref b693), .val (.ref b696), .val (.ref b745), .val (.ref b753), .val (.int (0 : Int32)), .val (.ref b965), .val (.int (1 : Int32))] []))
        refine own_goW (fun _ ww => XS.aload X995.here hx rfl (hb hby at_183) rfl rfl ww) ?_
        show own_GoesW _ _ _ _ _ _ _ (T995.setTop (mkF m 185 #[.val (.int x0), .val (.int x1), .val (.ref b693), .val (.ref b696), .val (.ref b745), .val (.ref b753), .val (.int (0 : Int32)), .val (.ref b965), .val (.int (1 : Int32))] [(.ref b965)]))
        obtain ⟨cq996, kq996, q996a, q996b, q996c⟩ := isOf hZ e995 f992
        obtain ⟨_, _, ⟨T996, L996, k996, n996⟩, -, X996, ⟨Lc996, hQ996, l996, y996, z996⟩, st996⟩ := X995.virtualBack hx (y := own_y29) (z := own_y29) hown (mvT hZ (own_w hw 145 rfl)) (mvT hZ (own_w hw 146 rfl)) (notFace_of_selects (args := #[]) (mvT hZ (own_w hw 148 rfl))) (mvT hZ (own_w hw 148 rfl)) (mvT hZ (own_w hw 147 rfl)) (by decide) (backOf (W := 0) (rm_waitingII l Z a0 hw [] b965 b696 mr aL aX r1_980 "java/util/ImmutableCollections$List12" aL "java/util/ImmutableCollections$ListN" T980.heap n0 O980 f981 MK SL SX EL FL Q980 R980 E0_980 (Or.inl rfl) (EL.ext O980.2) (Or.inr ⟨rfl, rfl⟩)) hZ (own_w hw 149 rfl) (own_w hw 123 rfl) (by decide) (by decide)) q996a q996c (g := (mkF m 185 #[.val (.int x0), .val (.int x1), .val (.ref b693), .val (.ref b696), .val (.ref b745), .val (.ref b753), .val (.int (0 : Int32)), .val (.ref b965), .val (.int (1 : Int32))] [(.ref b965)])) rfl (by rw [hml]; rfl) (Steps.refl _) (argsL := []) (rest := []) (lenOf pd_20 rfl) rfl (by show 2 * 0 + _ ≤ _; exact Nat.le_of_eq rfl) (hb hby at_185) (fun _ _ => ⟨rfl, e995, (by decide : 13 + 1 ≤ _), (by decide : 57 + 4 ≤ _)⟩)
        dsimp only [Pt.U, Pt.locs, Pt.cells, Pt.slots] at X996 l996 y996 z996 st996 hQ996
        subst l996 y996 z996
        obtain ⟨r996, rfl, N996q, B996, K996q, E996q, P996⟩ := hQ996
        have N996 := Fr.app N995 N996q
        have hk := Nat.le_trans hk (own_ks K996q)
        have ne_b696_r996 : b696 ≠ r996 := Nat.ne_of_lt (Nat.lt_of_lt_of_le f981.lt B996)
        have ne_b965_r996 : b965 ≠ r996 := Nat.ne_of_lt (Nat.lt_of_lt_of_le f992.lt B996)
        have ne_r1_980_r996 : r1_980 ≠ r996 := Nat.ne_of_lt (Nat.lt_of_lt_of_le E0_980.lt B996)
        have g_r996 : n0 ≤ r996 := Nat.le_trans (O980.1 ▸ O980.2.1) B996
        have f997 := (f981.keep K996q)
        have f998 := (f992.keep K996q)
        have f999 := (P980.keep K996q nin0)
        have f1000 := (Q980.keep K996q nin0)
        have f1001 := (R980.keep K996q nin0)
        have f1002 := (E0_980.keep K996q)
        have O996 := O980.keep K996q all0
        refine own_goW (fun _ ww => Steps.trans st996 ww) ?_
        show own_GoesW _ _ _ _ _ _ _ (T996.setTop (mkF m 188 #[.val (.int x0), .val (.int x1), .val (.ref b693), .val (.ref b696), .val (.ref b745), .val (.ref b753), .val (.int (0 : Int32)), .val (.ref b965), .val (.int (1 : Int32))] [(.ref r996)]))
        obtain ⟨cq1003, kq1003, q1003a, q1003b, q1003c⟩ := isOf hZ rfl E996q
        obtain ⟨_, _, ⟨T1003, L1003, k1003, n1003⟩, -, X1003, ⟨Lc1003, hQ1003, l1003, y1003, z1003⟩, st1003⟩ := X996.virtualBack hx (y := own_y31) (z := own_y31) hown (mvT hZ (own_w hw 135 rfl)) (mvT hZ (own_w hw 136 rfl)) (notFace_of_selects (args := #[]) (mvT hZ (own_w hw 138 rfl))) (mvT hZ (own_w hw 138 rfl)) (mvT hZ (own_w hw 137 rfl)) (by decide) (backOf (W := 0) (rm_waits0 l Z a0 hw [] r996 aL T996.heap n0 O996 P996) hZ (own_w hw 139 rfl) (own_w hw 123 rfl) (by decide) (by decide)) q1003a q1003c (g := (mkF m 188 #[.val (.int x0), .val (.int x1), .val (.ref b693), .val (.ref b696), .val (.ref b745), .val (.ref b753), .val (.int (0 : Int32)), .val (.ref b965), .val (.int (1 : Int32))] [(.ref r996)])) rfl (by rw [hml]; rfl) (Steps.refl _) (argsL := []) (rest := []) (lenOf pd_9 rfl) rfl (by show 2 * 0 + _ ≤ _; exact Nat.le_of_eq rfl) (hb hby at_188) (fun _ _ => ⟨rfl, rfl, (by decide : 14 + 0 ≤ _), (by decide : 61 + 0 ≤ _)⟩)
        dsimp only [Pt.U, Pt.locs, Pt.cells, Pt.slots] at X1003 l1003 y1003 z1003 st1003 hQ1003
        subst l1003 y1003 z1003
        obtain ⟨rfl, N1003q, e1003⟩ := hQ1003
        have N1003 := Fr.app N996 N1003q
        refine own_goW (fun _ ww => Steps.trans st1003 ww) ?_
        show own_GoesW _ _ _ _ _ _ _ (T1003.setTop (mkF m 191 #[.val (.int x0), .val (.int x1), .val (.ref b693), .val (.ref b696), .val (.ref b745), .val (.ref b753), .val (.int (0 : Int32)), .val (.ref b965), .val (.int (1 : Int32))] [(.int (1 : Int32))]))
        refine own_goW (fun _ ww => XS.ifNo X1003.here hx rfl (hb hby at_191) rfl (own_if .eq (feq (by decide : ¬ ((1 : Int32) = (0 : Int32)))).1) ww) ?_
        show own_GoesW _ _ _ _ _ _ _ (T1003.setTop (mkF m 194 #[.val (.int x0), .val (.int x1), .val (.ref b693), .val (.ref b696), .val (.ref b745), .val (.ref b753), .val (.int (0 : Int32)), .val (.ref b965), .val (.int (1 : Int32))] []))
        refine own_goW (fun _ ww => XS.iconst X1003.here hx rfl (hb hby at_194) ww) ?_
        show own_GoesW _ _ _ _ _ _ _ (T1003.setTop (mkF m 195 #[.val (.int x0), .val (.int x1), .val (.ref b693), .val (.ref b696), .val (.ref b745), .val (.ref b753), .val (.int (0 : Int32)), .val (.ref b965), .val (.int (1 : Int32))] [(.int (1 : Int32))]))
        refine own_goW (fun _ ww => XS.goto X1003.here hx rfl (pc0 := 195) (pc' := 199) rfl (hb hby at_195) (by decide) (by decide) ww) ?_
        show own_GoesW _ _ _ _ _ _ _ (T1003.setTop (mkF m 199 #[.val (.int x0), .val (.int x1), .val (.ref b693), .val (.ref b696), .val (.ref b745), .val (.ref b753), .val (.int (0 : Int32)), .val (.ref b965), .val (.int (1 : Int32))] [(.int (1 : Int32))]))
        refine own_goW (fun _ ww => XS.istore X1003.here hx rfl (hb hby at_199) rfl (l' := #[.val (.int x0), .val (.int x1), .val (.ref b693), .val (.ref b696), .val (.ref b745), .val (.ref b753), .val (.int (0 : Int32)), .val (.ref b965), .val (.int (1 : Int32))]) rfl ww) ?_
        show own_GoesW _ _ _ _ _ _ _ (T1003.setTop (mkF m 201 #[.val (.int x0), .val (.int x1), .val (.ref b693), .val (.ref b696), .val (.ref b745), .val (.ref b753), .val (.int (0 : Int32)), .val (.ref b965), .val (.int (1 : Int32))] []))
        refine own_goW (fun _ ww => XS.iload X1003.here hx rfl (hb hby at_201) rfl  ww) ?_
        show own_GoesW _ _ _ _ _ _ _ (T1003.setTop (mkF m 203 #[.val (.int x0), .val (.int x1), .val (.ref b693), .val (.ref b696), .val (.ref b745), .val (.ref b753), .val (.int (0 : Int32)), .val (.ref b965), .val (.int (1 : Int32))] [(.int (1 : Int32))]))
        refine own_goW (fun _ ww => XS.ifNo X1003.here hx rfl (hb hby at_203) rfl (own_if .eq (feq (by decide : ¬ ((1 : Int32) = (0 : Int32)))).1) ww) ?_
        show own_GoesW _ _ _ _ _ _ _ (T1003.setTop (mkF m 206 #[.val (.int x0), .val (.int x1), .val (.ref b693), .val (.ref b696), .val (.ref b745), .val (.ref b753), .val (.int (0 : Int32)), .val (.ref b965), .val (.int (1 : Int32))] []))
        refine own_goW (fun _ ww => XS.aload X1003.here hx rfl (hb hby at_206) rfl rfl ww) ?_
        show own_GoesW _ _ _ _ _ _ _ (T1003.setTop (mkF m 208 #[.val (.int x0), .val (.int x1), .val (.ref b693), .val (.ref b696), .val (.ref b745), .val (.ref b753), .val (.int (0 : Int32)), .val (.ref b965), .val (.int (1 : Int32))] [(.ref b965)]))
        refine own_goW (fun _ ww => XS.aloadN X1003.here hx rfl (hb hby at_208) rfl rfl ww) ?_
        show own_GoesW _ _ _ _ _ _ _ (T1003.setTop (mkF m 209 #[.val (.int x0), .val (.int x1), .val (.ref b693), .val (.ref b696), .val (.ref b745), .val (.ref b753), .val (.int (0 : Int32)), .val (.ref b965), .val (.int (1 : Int32))] [(.ref b696), (.ref b965)]))
        obtain ⟨cq1004, kq1004, q1004a, q1004b, q1004c⟩ := isOf hZ e1003 f998
        obtain ⟨_, _, ⟨T1004, L1004, k1004, n1004⟩, -, X1004, ⟨Lc1004, hQ1004, l1004, y1004, z1004⟩, st1004⟩ := X1003.virtualBack hx (y := own_y30) (z := own_y30) hown (mvT hZ (own_w hw 160 rfl)) (mvT hZ (own_w hw 161 rfl)) (notFace_of_selects (args := #[]) (mvT hZ (own_w hw 163 rfl))) (mvT hZ (own_w hw 163 rfl)) (mvT hZ (own_w hw 162 rfl)) (by decide) (backOf (W := 0) (rm_showingII l Z a0 hw [] b965 b696 mr aL aX r1_980 "java/util/ImmutableCollections$List12" aL "java/util/ImmutableCollections$ListN" T996.heap n0 O996 f997 MK SL SX EL FL f1000 f1001 f1002 (Or.inl rfl) (EL.ext O996.2) (Or.inr ⟨rfl, rfl⟩)) hZ (own_w hw 164 rfl) (own_w hw 123 rfl) (by decide) (by decide)) q1004a q1004c (g := (mkF m 209 #[.val (.int x0), .val (.int x1), .val (.ref b693), .val (.ref b696), .val (.ref b745), .val (.ref b753), .val (.int (0 : Int32)), .val (.ref b965), .val (.int (1 : Int32))] [(.ref b696), (.ref b965)])) rfl (by rw [hml]; rfl) (Steps.refl _) (argsL := [(.ref b696)]) (rest := []) (lenOf pd_21 rfl) rfl (by show 2 * 0 + _ ≤ _; exact Nat.le_of_eq rfl) (hb hby at_209) (fun _ _ => ⟨rfl, e1003, (by decide : 14 + 1 ≤ _), (by decide : 61 + 4 ≤ _)⟩)
        dsimp only [Pt.U, Pt.locs, Pt.cells, Pt.slots] at X1004 l1004 y1004 z1004 st1004 hQ1004
        subst l1004 y1004 z1004
        obtain ⟨r1004, rfl, N1004q, B1004, K1004q, E1004q, P1004⟩ := hQ1004
        have N1004 := Fr.app N1003 N1004q
        have hk := Nat.le_trans hk (own_ks K1004q)
        have ne_b696_r1004 : b696 ≠ r1004 := Nat.ne_of_lt (Nat.lt_of_lt_of_le f997.lt B1004)
        have ne_b965_r1004 : b965 ≠ r1004 := Nat.ne_of_lt (Nat.lt_of_lt_of_le f998.lt B1004)
        have ne_r1_980_r1004 : r1_980 ≠ r1004 := Nat.ne_of_lt (Nat.lt_of_lt_of_le f1002.lt B1004)
        have g_r1004 : n0 ≤ r1004 := Nat.le_trans (O996.1 ▸ O996.2.1) B1004
        have f1005 := (f997.keep K1004q)
        have f1006 := (f998.keep K1004q)
        have f1007 := (f999.keep K1004q nin0)
        have f1008 := (f1000.keep K1004q nin0)
        have f1009 := (f1001.keep K1004q nin0)
        have f1010 := (f1002.keep K1004q)
        have O1004 := O996.keep K1004q all0
        refine own_goW (fun _ ww => Steps.trans st1004 ww) ?_
        show own_GoesW _ _ _ _ _ _ _ (T1004.setTop (mkF m 212 #[.val (.int x0), .val (.int x1), .val (.ref b693), .val (.ref b696), .val (.ref b745), .val (.ref b753), .val (.int (0 : Int32)), .val (.ref b965), .val (.int (1 : Int32))] [(.ref r1004)]))
        obtain ⟨cq1011, kq1011, q1011a, q1011b, q1011c⟩ := isOf hZ rfl E1004q
        obtain ⟨_, _, ⟨T1011, L1011, k1011, n1011⟩, -, X1011, ⟨Lc1011, hQ1011, l1011, y1011, z1011⟩, st1011⟩ := X1004.virtualBack hx (y := own_y31) (z := own_y31) hown (mvT hZ (own_w hw 135 rfl)) (mvT hZ (own_w hw 136 rfl)) (notFace_of_selects (args := #[]) (mvT hZ (own_w hw 138 rfl))) (mvT hZ (own_w hw 138 rfl)) (mvT hZ (own_w hw 137 rfl)) (by decide) (backOf (W := 0) (rm_waits1 l Z a0 hw [] r1004 b696 T1004.heap n0 O1004 P1004) hZ (own_w hw 139 rfl) (own_w hw 123 rfl) (by decide) (by decide)) q1011a q1011c (g := (mkF m 212 #[.val (.int x0), .val (.int x1), .val (.ref b693), .val (.ref b696), .val (.ref b745), .val (.ref b753), .val (.int (0 : Int32)), .val (.ref b965), .val (.int (1 : Int32))] [(.ref r1004)])) rfl (by rw [hml]; rfl) (Steps.refl _) (argsL := []) (rest := []) (lenOf pd_9 rfl) rfl (by show 2 * 0 + _ ≤ _; exact Nat.le_of_eq rfl) (hb hby at_212) (fun _ _ => ⟨rfl, rfl, (by decide : 15 + 0 ≤ _), (by decide : 65 + 0 ≤ _)⟩)
        dsimp only [Pt.U, Pt.locs, Pt.cells, Pt.slots] at X1011 l1011 y1011 z1011 st1011 hQ1011
        subst l1011 y1011 z1011
        obtain ⟨rfl, N1011q, e1011⟩ := hQ1011
        have N1011 := Fr.app N1004 N1011q
        refine own_goW (fun _ ww => Steps.trans st1011 ww) ?_
        show own_GoesW _ _ _ _ _ _ _ (T1011.setTop (mkF m 215 #[.val (.int x0), .val (.int x1), .val (.ref b693), .val (.ref b696), .val (.ref b745), .val (.ref b753), .val (.int (0 : Int32)), .val (.ref b965), .val (.int (1 : Int32))] [(.int (0 : Int32))]))
        refine own_goW (fun _ ww => XS.ifNo X1011.here hx rfl (hb hby at_215) rfl (own_if .ne (teq (by decide : (0 : Int32) = (0 : Int32))).2) ww) ?_
        show own_GoesW _ _ _ _ _ _ _ (T1011.setTop (mkF m 218 #[.val (.int x0), .val (.int x1), .val (.ref b693), .val (.ref b696), .val (.ref b745), .val (.ref b753), .val (.int (0 : Int32)), .val (.ref b965), .val (.int (1 : Int32))] []))
        refine own_goW (fun _ ww => XS.iconst X1011.here hx rfl (hb hby at_218) ww) ?_
        show own_GoesW _ _ _ _ _ _ _ (T1011.setTop (mkF m 219 #[.val (.int x0), .val (.int x1), .val (.ref b693), .val (.ref b696), .val (.ref b745), .val (.ref b753), .val (.int (0 : Int32)), .val (.ref b965), .val (.int (1 : Int32))] [(.int (1 : Int32))]))
        refine own_goW (fun _ ww => XS.goto X1011.here hx rfl (pc0 := 219) (pc' := 223) rfl (hb hby at_219) (by decide) (by decide) ww) ?_
        show own_GoesW _ _ _ _ _ _ _ (T1011.setTop (mkF m 223 #[.val (.int x0), .val (.int x1), .val (.ref b693), .val (.ref b696), .val (.ref b745), .val (.ref b753), .val (.int (0 : Int32)), .val (.ref b965), .val (.int (1 : Int32))] [(.int (1 : Int32))]))
        refine own_goW (fun _ ww => XS.istore X1011.here hx rfl (hb hby at_223) rfl (l' := #[.val (.int x0), .val (.int x1), .val (.ref b693), .val (.ref b696), .val (.ref b745), .val (.ref b753), .val (.int (0 : Int32)), .val (.ref b965), .val (.int (1 : Int32))]) rfl ww) ?_
        show own_GoesW _ _ _ _ _ _ _ (T1011.setTop (mkF m 225 #[.val (.int x0), .val (.int x1), .val (.ref b693), .val (.ref b696), .val (.ref b745), .val (.ref b753), .val (.int (0 : Int32)), .val (.ref b965), .val (.int (1 : Int32))] []))
        refine own_goW (fun _ ww => XS.iload X1011.here hx rfl (hb hby at_225) rfl  ww) ?_
        show own_GoesW _ _ _ _ _ _ _ (T1011.setTop (mkF m 227 #[.val (.int x0), .val (.int x1), .val (.ref b693), .val (.ref b696), .val (.ref b745), .val (.ref b753), .val (.int (0 : Int32)), .val (.ref b965), .val (.int (1 : Int32))] [(.int (1 : Int32))]))
        exact own_outW X1011 hS hk hlk (v := some (.int (1 : Int32))) (fun h => by rw [hret] at h; cases h) (fun fs hr => retOut X1011 hx (t := .boolean) hret (by decide) (Or.inl ⟨rfl, by simp, _, rfl⟩) (hb hby at_227) hr) e1011 ⟨rfl, N1011⟩ (by decide) (by decide)
      ·
        refine own_goW (fun _ ww => XS.ifNo X956.here hx rfl (hb hby at_87) rfl (own_if .eq (feq hc964).1) ww) ?_
        show own_GoesW _ _ _ _ _ _ _ (T956.setTop (mkF m 90 #[.val (.int x0), .val (.int x1), .val (.ref b693), .val (.ref b696), .val (.ref b745), .val (.ref b753), .unset, .unset, .unset] []))
        refine own_goW (fun _ ww => XS.iconst X956.here hx rfl (hb hby at_90) ww) ?_
        show own_GoesW _ _ _ _ _ _ _ (T956.setTop (mkF m 91 #[.val (.int x0), .val (.int x1), .val (.ref b693), .val (.ref b696), .val (.ref b745), .val (.ref b753), .unset, .unset, .unset] [(.int (1 : Int32))]))
        refine own_goW (fun _ ww => XS.goto X956.here hx rfl (pc0 := 91) (pc' := 95) rfl (hb hby at_91) (by decide) (by decide) ww) ?_
        show own_GoesW _ _ _ _ _ _ _ (T956.setTop (mkF m 95 #[.val (.int x0), .val (.int x1), .val (.ref b693), .val (.ref b696), .val (.ref b745), .val (.ref b753), .unset, .unset, .unset] [(.int (1 : Int32))]))
        refine own_goW (fun _ ww => XS.istore X956.here hx rfl (hb hby at_95) rfl (l' := #[.val (.int x0), .val (.int x1), .val (.ref b693), .val (.ref b696), .val (.ref b745), .val (.ref b753), .val (.int (1 : Int32)), .unset, .unset]) rfl ww) ?_
        show own_GoesW _ _ _ _ _ _ _ (T956.setTop (mkF m 97 #[.val (.int x0), .val (.int x1), .val (.ref b693), .val (.ref b696), .val (.ref b745), .val (.ref b753), .val (.int (1 : Int32)), .unset, .unset] []))
        obtain ⟨T1012, h1012, X1012, e1012, E1012, A1012, D1012, -, st1012⟩ := newO X956 hx hZ hown (own_w hw 121 rfl) (own_w hw 122 rfl) (own_w hw 123 rfl) rfl (g := (mkF m 97 #[.val (.int x0), .val (.int x1), .val (.ref b693), .val (.ref b696), .val (.ref b745), .val (.ref b753), .val (.int (1 : Int32)), .unset, .unset] [])) rfl (hb hby at_97) (by decide) (by decide)
        obtain ⟨b1012, g1012⟩ : ∃ z, z = T956.heap.size := ⟨_, rfl⟩
        rw [← g1012] at A1012 D1012 st1012
        have ne_b696_b1012 : b696 ≠ b1012 := Nat.ne_of_lt (Nat.lt_of_lt_of_le f957.lt (Nat.le_of_eq g1012.symm))
        have ne_b745_b1012 : b745 ≠ b1012 := Nat.ne_of_lt (Nat.lt_of_lt_of_le f958.lt (Nat.le_of_eq g1012.symm))
        have ne_b753_b1012 : b753 ≠ b1012 := Nat.ne_of_lt (Nat.lt_of_lt_of_le f959.lt (Nat.le_of_eq g1012.symm))
        have ne_t956_b1012 : t956 ≠ b1012 := Nat.ne_of_lt (Nat.lt_of_lt_of_le V956q.lt (Nat.le_of_eq g1012.symm))
        have g_b1012 : n0 ≤ b1012 := Nat.le_trans (O956.1 ▸ O956.2.1) (Nat.le_of_eq g1012.symm)
        have f1013 := (f957.ext E1012)
        have f1014 := (f958.ext E1012)
        have f1015 := (f959.ext E1012)
        have f1016 := (f960.ext E1012)
        have f1017 := (f961.ext E1012)
        have f1018 := (f962.ext E1012)
        have f1019 := (P956.ext E1012)
        have f1020 := (Q956.ext E1012)
        have f1021 := (R956.ext E1012)
        have f1022 : Arv Z h1012 t956 kk956 (.object "java/lang/Object") (10 : Int32) [(.ref b696), .null, .null, .null, .null, .null, .null, .null, .null, .null] .null := (Arv.ext V956q E1012)
        have f1023 := (E956q.ext E1012)
        have O1012 := O956.ext E1012
        have hk := Nat.le_trans hk E1012.1
        have f1024 : Fld Z h1012 b1012 "com/example/navlint/navlint/model/State$Tab" "entry" "Lcom/example/navlint/navlint/model/Entry;" .null := D1012 (Or.inr (own_w hw 129 rfl)) (ty := (.object "com/example/navlint/navlint/model/Entry")) (by decide)
        have f1025 : Fld Z h1012 b1012 "com/example/navlint/navlint/model/State$Tab" "back" "Ljava/util/List;" .null := D1012 (Or.inr (own_w hw 132 rfl)) (ty := (.object "java/util/List")) (by decide)
        have f1026 : Fld Z h1012 b1012 "com/example/navlint/navlint/model/State$Tab" "forward" "Ljava/util/List;" .null := D1012 (Or.inr (own_w hw 134 rfl)) (ty := (.object "java/util/List")) (by decide)
        refine own_goW st1012 ?_
        show own_GoesW _ _ _ _ _ _ _ (T1012.setTop (mkF m 100 #[.val (.int x0), .val (.int x1), .val (.ref b693), .val (.ref b696), .val (.ref b745), .val (.ref b753), .val (.int (1 : Int32)), .unset, .unset] [(.ref b1012)]))
        refine own_goW (fun _ ww => XS.dup X1012.here hx rfl (hb hby at_100) rfl rfl ww) ?_
        show own_GoesW _ _ _ _ _ _ _ (T1012.setTop (mkF m 101 #[.val (.int x0), .val (.int x1), .val (.ref b693), .val (.ref b696), .val (.ref b745), .val (.ref b753), .val (.int (1 : Int32)), .unset, .unset] [(.ref b1012), (.ref b1012)]))
        refine own_goW (fun _ ww => XS.iload X1012.here hx rfl (hb hby at_101) rfl  ww) ?_
        show own_GoesW _ _ _ _ _ _ _ (T1012.setTop (mkF m 103 #[.val (.int x0), .val (.int x1), .val (.ref b693), .val (.ref b696), .val (.ref b745), .val (.ref b753), .val (.int (1 : Int32)), .unset, .unset] [(.int (1 : Int32)), (.ref b1012), (.ref b1012)]))
        refine own_goW (fun _ ww => XS.ifNo X1012.here hx rfl (hb hby at_103) rfl (own_if .eq (feq (by decide : ¬ ((1 : Int32) = (0 : Int32)))).1) ww) ?_
        show own_GoesW _ _ _ _ _ _ _ (T1012.setTop (mkF m 106 #[.val (.int x0), .val (.int x1), .val (.ref b693), .val (.ref b696), .val (.ref b745), .val (.ref b753), .val (.int (1 : Int32)), .unset, .unset] [(.ref b1012), (.ref b1012)]))
        refine own_goW (fun _ ww => XS.aloadN X1012.here hx rfl (hb hby at_106) rfl rfl ww) ?_
        show own_GoesW _ _ _ _ _ _ _ (T1012.setTop (mkF m 107 #[.val (.int x0), .val (.int x1), .val (.ref b693), .val (.ref b696), .val (.ref b745), .val (.ref b753), .val (.int (1 : Int32)), .unset, .unset] [(.ref b696), (.ref b1012), (.ref b1012)]))
        refine own_goW (fun _ ww => XS.goto X1012.here hx rfl (pc0 := 107) (pc' := 111) rfl (hb hby at_107) (by decide) (by decide) ww) ?_
        show own_GoesW _ _ _ _ _ _ _ (T1012.setTop (mkF m 111 #[.val (.int x0), .val (.int x1), .val (.ref b693), .val (.ref b696), .val (.ref b745), .val (.ref b753), .val (.int (1 : Int32)), .unset, .unset] [(.ref b696), (.ref b1012), (.ref b1012)]))
        refine own_goW (fun _ ww => XS.aload X1012.here hx rfl (hb hby at_111) rfl rfl ww) ?_
        show own_GoesW _ _ _ _ _ _ _ (T1012.setTop (mkF m 113 #[.val (.int x0), .val (.int x1), .val (.ref b693), .val (.ref b696), .val (.ref b745), .val (.ref b753), .val (.int (1 : Int32)), .unset, .unset] [(.ref b745), (.ref b696), (.ref b1012), (.ref b1012)]))
        refine own_goW (fun _ ww => XS.aload X1012.here hx rfl (hb hby at_113) rfl rfl ww) ?_
        show own_GoesW _ _ _ _ _ _ _ (T1012.setTop (mkF m 115 #[.val (.int x0), .val (.int x1), .val (.ref b693), .val (.ref b696), .val (.ref b745), .val (.ref b753), .val (.int (1 : Int32)), .unset, .unset] [(.ref b753), (.ref b745), (.ref b696), (.ref b1012), (.ref b1012)]))
        obtain ⟨_, _, ⟨T1027, L1027, k1027, n1027⟩, -, X1027, ⟨Lc1027, hQ1027, l1027, y1027, z1027⟩, st1027⟩ := X1012.specialBack hx (y := own_y28) rfl hown (mvT hZ (own_w hw 124 rfl)) (mvT hZ (own_w hw 125 rfl)) (mvT hZ (own_w hw 126 rfl)) (by decide) (backOf (W := 1) (rm_ti1ne l Z a0 hw [] b1012 b696 mr aL aX b745 t956 kk956 b753 h1012 n0 O1012 f1024 f1025 f1026 A1012 g_b1012 f1013 MK SL SX EL FL f1020 f1021 f1014 f1022 f1023 ne_b745_b1012 ne_t956_b1012 f1018 f1015 ne_b753_b1012) hZ (own_w hw 126 rfl) (own_w hw 123 rfl) (by decide) (by decide)) (g := (mkF m 115 #[.val (.int x0), .val (.int x1), .val (.ref b693), .val (.ref b696), .val (.ref b745), .val (.ref b753), .val (.int (1 : Int32)), .unset, .unset] [(.ref b753), (.ref b745), (.ref b696), (.ref b1012), (.ref b1012)])) rfl (by rw [hml]; rfl) (Steps.refl _) (a := b1012) (argsL := [(.ref b696), (.ref b745), (.ref b753)]) (rest := [(.ref b1012)]) (lenOf pd_15 rfl) rfl (by show 2 * 0 + _ ≤ _; exact Nat.le_of_eq rfl) (hb hby at_115) (fun _ _ => ⟨rfl, e1012, (by decide : 11 + 2 ≤ _), (by decide : 54 + 3 ≤ _)⟩)
        dsimp only [Pt.U, Pt.locs, Pt.cells, Pt.slots] at X1027 l1027 y1027 z1027 st1027 hQ1027
        subst l1027 y1027 z1027
        obtain ⟨r1_1027, rfl, N1027q, K1027q, P1027, Q1027, R1027, E0_1027⟩ := hQ1027
        have N1027 := Fr.app N956 N1027q
        have hk := Nat.le_trans hk (own_ks K1027q)
        have f1028 := (f1013.keep K1027q)
        have f1029 := (f1014.keep K1027q)
        have f1030 := (f1015.keep K1027q)
        have f1031 := (f1016.keep K1027q (ninS ne_b753_b1012 nin0))
        have f1032 := (f1017.keep K1027q (ninS ne_b753_b1012 nin0))
        have f1033 := (f1018.keep K1027q (ninS ne_b753_b1012 nin0))
        have f1034 := (f1019.keep K1027q (ninS ne_b745_b1012 nin0))
        have f1035 := (f1020.keep K1027q (ninS ne_b745_b1012 nin0))
        have f1036 := (f1021.keep K1027q (ninS ne_b745_b1012 nin0))
        have f1037 : Arv Z T1027.heap t956 kk956 (.object "java/lang/Object") (10 : Int32) [(.ref b696), .null, .null, .null, .null, .null, .null, .null, .null, .null] .null := (f1022.keep K1027q (ninS ne_t956_b1012 nin0))
        have f1038 := (f1023.keep K1027q)
        have f1039 := (A1012.keep K1027q)
        have O1027 := O1012.keep K1027q (allS g_b1012 all0)
        refine own_goW (fun _ ww => Steps.trans st1027 ww) ?_
        show own_GoesW _ _ _ _ _ _ _ (T1027.setTop (mkF m 118 #[.val (.int x0), .val (.int x1), .val (.ref b693), .val (.ref b696), .val (.ref b745), .val (.ref b753), .val (.int (1 : Int32)), .unset, .unset] [(.ref b1012)]))
        refine own_goW (fun _ ww => XS.astore X1027.here hx rfl (hb hby at_118) rfl rfl (l' := #[.val (.int x0), .val (.int x1), .val (.ref b693), .val (.ref b696), .val (.ref b745), .val (.ref b753), .val (.int (1 : Int32)), .val (.ref b1012), .unset]) rfl ww) ?_
        show own_GoesW _ _ _ _ _ _ _ (T1027.setTop (mkF m 120 #[.val (.int x0), .val (.int x1), .val (.ref b693), .val (.ref b696), .val (.ref b745), .val (.ref b753), .val (.int (1 : Int32)), .val (.ref b1012), .unset] []))
        refine own_goW (fun _ ww => XS.aload X1027.here hx rfl (hb hby at_120) rfl rfl ww) ?_
        show own_GoesW _ _ _ _ _ _ _ (T1027.setTop (mkF m 122 #[.val (.int x0), .val (.int x1), .val (.ref b693), .val (.ref b696), .val (.ref b745), .val (.ref b753), .val (.int (1 : Int32)), .val (.ref b1012), .unset] [(.ref b1012)]))
        obtain ⟨cq1040, kq1040, q1040a, q1040b, q1040c⟩ := isOf hZ rfl f1039
        obtain ⟨_, _, ⟨T1040, L1040, k1040, n1040⟩, -, X1040, ⟨Lc1040, hQ1040, l1040, y1040, z1040⟩, st1040⟩ := X1027.virtualBack hx (y := own_y31) (z := own_y31) hown (mvT hZ (own_w hw 135 rfl)) (mvT hZ (own_w hw 136 rfl)) (notFace_of_selects (args := #[]) (mvT hZ (own_w hw 138 rfl))) (mvT hZ (own_w hw 138 rfl)) (mvT hZ (own_w hw 137 rfl)) (by decide) (backOf (W := 0) (rm_waits1 l Z a0 hw [] b1012 b696 T1027.heap n0 O1027 P1027) hZ (own_w hw 139 rfl) (own_w hw 123 rfl) (by decide) (by decide)) q1040a q1040c (g := (mkF m 122 #[.val (.int x0), .val (.int x1), .val (.ref b693), .val (.ref b696), .val (.ref b745), .val (.ref b753), .val (.int (1 : Int32)), .val (.ref b1012), .unset] [(.ref b1012)])) rfl (by rw [hml]; rfl) (Steps.refl _) (argsL := []) (rest := []) (lenOf pd_9 rfl) rfl (by show 2 * 0 + _ ≤ _; exact Nat.le_of_eq rfl) (hb hby at_122) (fun _ _ => ⟨rfl, rfl, (by decide : 13 + 0 ≤ _), (by decide : 57 + 0 ≤ _)⟩)
        dsimp only [Pt.U, Pt.locs, Pt.cells, Pt.slots] at X1040 l1040 y1040 z1040 st1040 hQ1040
        subst l1040 y1040 z1040
        obtain ⟨rfl, N1040q, e1040⟩ := hQ1040
        have N1040 := Fr.app N1027 N1040q
        refine own_goW (fun _ ww => Steps.trans st1040 ww) ?_
        show own_GoesW _ _ _ _ _ _ _ (T1040.setTop (mkF m 125 #[.val (.int x0), .val (.int x1), .val (.ref b693), .val (.ref b696), .val (.ref b745), .val (.ref b753), .val (.int (1 : Int32)), .val (.ref b1012), .unset] [(.int (0 : Int32))]))
        refine own_goW (fun _ ww => XS.iload X1040.here hx rfl (hb hby at_125) rfl  ww) ?_
        show own_GoesW _ _ _ _ _ _ _ (T1040.setTop (mkF m 127 #[.val (.int x0), .val (.int x1), .val (.ref b693), .val (.ref b696), .val (.ref b745), .val (.ref b753), .val (.int (1 : Int32)), .val (.ref b1012), .unset] [(.int (1 : Int32)), (.int (0 : Int32))]))
        refine own_goW (fun _ ww => XS.ifYes X1040.here hx rfl (pc0 := 127) (pc' := 134) rfl (hb hby at_127) rfl (own_if .ne (feq (by decide : ¬ ((1 : Int32) = (0 : Int32)))).2) (by decide) (by decide) ww) ?_
        show own_GoesW _ _ _ _ _ _ _ (T1040.setTop (mkF m 134 #[.val (.int x0), .val (.int x1), .val (.ref b693), .val (.ref b696), .val (.ref b745), .val (.ref b753), .val (.int (1 : Int32)), .val (.ref b1012), .unset] [(.int (0 : Int32))]))
        refine own_goW (fun _ ww => XS.iconst X1040.here hx rfl (hb hby at_134) ww) ?_
        show own_GoesW _ _ _ _ _ _ _ (T1040.setTop (mkF m 135 #[.val (.int x0), .val (.int x1), .val (.ref b693), .val (.ref b696), .val (.ref b745), .val (.ref b753), .val (.int (1 : Int32)), .val (.ref b1012), .unset] [(.int (0 : Int32)), (.int (0 : Int32))]))
        refine own_goW (fun _ ww => XS.icmpNo X1040.here hx rfl (hb hby at_135) rfl (teq (by decide : (0 : Int32) = (0 : Int32))).2 ww) ?_
        show own_GoesW _ _ _ _ _ _ _ (T1040.setTop (mkF m 138 #[.val (.int x0), .val (.int x1), .val (.ref b693), .val (.ref b696), .val (.ref b745), .val (.ref b753), .val (.int (1 : Int32)), .val (.ref b1012), .unset] []))
        refine own_goW (fun _ ww => XS.iconst X1040.here hx rfl (hb hby at_138) ww) ?_
        show own_GoesW _ _ _ _ _ _ _ (T1040.setTop (mkF m 139 #[.val (.int x0), .val (.int x1), .val (.ref b693), .val (.ref b696), .val (.ref b745), .val (.ref b753), .val (.int (1 : Int32)), .val (.ref b1012), .unset] [(.int (1 : Int32))]))
        refine own_goW (fun _ ww => XS.goto X1040.here hx rfl (pc0 := 139) (pc' := 143) rfl (hb hby at_139) (by decide) (by decide) ww) ?_
        show own_GoesW _ _ _ _ _ _ _ (T1040.setTop (mkF m 143 #[.val (.int x0), .val (.int x1), .val (.ref b693), .val (.ref b696), .val (.ref b745), .val (.ref b753), .val (.int (1 : Int32)), .val (.ref b1012), .unset] [(.int (1 : Int32))]))
        refine own_goW (fun _ ww => XS.istore X1040.here hx rfl (hb hby at_143) rfl (l' := #[.val (.int x0), .val (.int x1), .val (.ref b693), .val (.ref b696), .val (.ref b745), .val (.ref b753), .val (.int (1 : Int32)), .val (.ref b1012), .val (.int (1 : Int32))]) rfl ww) ?_
        show own_GoesW _ _ _ _ _ _ _ (T1040.setTop (mkF m 145 #[.val (.int x0), .val (.int x1), .val (.ref b693), .val (.ref b696), .val (.ref b745), .val (.ref b753), .val (.int (1 : Int32)), .val (.ref b1012), .val (.int (1 : Int32))] []))
        refine own_goW (fun _ ww => XS.iload X1040.here hx rfl (hb hby at_145) rfl  ww) ?_
        show own_GoesW _ _ _ _ _ _ _ (T1040.setTop (mkF m 147 #[.val (.int x0), .val (.int x1), .val (.ref b693), .val (.ref b696), .val (.ref b745), .val (.ref b753), .val (.int (1 : Int32)), .val (.ref b1012), .val (.int (1 : Int32))] [(.int (1 : Int32))]))
        refine own_goW (fun _ ww => XS.ifNo X1040.here hx rfl (hb hby at_147) rfl (own_if .eq (feq (by decide : ¬ ((1 : Int32) = (0 : Int32)))).1) ww) ?_
        show own_GoesW _ _ _ _ _ _ _ (T1040.setTop (mkF m 150 #[.val (.int x0), .val (.int x1), .val (.ref b693), .val (.ref b696), .val (.ref b745), .val (.ref b753), .val (.int (1 : Int32)), .val (.ref b1012), .val (.int (1 : Int32))] []))
        refine own_goW (fun _ ww => XS.aload X1040.here hx rfl (hb hby at_150) rfl rfl ww) ?_
        show own_GoesW _ _ _ _ _ _ _ (T1040.setTop (mkF m 152 #[.val (.int x0), .val (.int x1), .val (.ref b693), .val (.ref b696), .val (.ref b745), .val (.ref b753), .val (.int (1 : Int32)), .val (.ref b1012), .val (.int (1 : Int32))] [(.ref b1012)]))
        obtain ⟨cq1041, kq1041, q1041a, q1041b, q1041c⟩ := isOf hZ e1040 f1039
        obtain ⟨_, _, ⟨T1041, L1041, k1041, n1041⟩, -, X1041, ⟨Lc1041, hQ1041, l1041, y1041, z1041⟩, st1041⟩ := X1040.virtualBack hx (y := own_y31) (z := own_y31) hown (mvT hZ (own_w hw 135 rfl)) (mvT hZ (own_w hw 136 rfl)) (notFace_of_selects (args := #[]) (mvT hZ (own_w hw 138 rfl))) (mvT hZ (own_w hw 138 rfl)) (mvT hZ (own_w hw 137 rfl)) (by decide) (backOf (W := 0) (rm_waits1 l Z a0 hw [] b1012 b696 T1027.heap n0 O1027 P1027) hZ (own_w hw 139 rfl) (own_w hw 123 rfl) (by decide) (by decide)) q1041a q1041c (g := (mkF m 152 #[.val (.int x0), .val (.int x1), .val (.ref b693), .val (.ref b696), .val (.ref b745), .val (.ref b753), .val (.int (1 : Int32)), .val (.ref b1012), .val (.int (1 : Int32))] [(.ref b1012)])) rfl (by rw [hml]; rfl) (Steps.refl _) (argsL := []) (rest := []) (lenOf pd_9 rfl) rfl (by show 2 * 0 + _ ≤ _; exact Nat.le_of_eq rfl) (hb hby at_152) (fun _ _ => ⟨rfl, e1040, (by decide : 13 + 0 ≤ _), (by decide : 57 + 0 ≤ _)⟩)
        dsimp only [Pt.U, Pt.locs, Pt.cells, Pt.slots] at X1041 l1041 y1041 z1041 st1041 hQ1041
        subst l1041 y1041 z1041
        obtain ⟨rfl, N1041q, e1041⟩ := hQ1041
        have N1041 := Fr.app N1040 N1041q
        refine own_goW (fun _ ww => Steps.trans st1041 ww) ?_
        show own_GoesW _ _ _ _ _ _ _ (T1041.setTop (mkF m 155 #[.val (.int x0), .val (.int x1), .val (.ref b693), .val (.ref b696), .val (.ref b745), .val (.ref b753), .val (.int (1 : Int32)), .val (.ref b1012), .val (.int (1 : Int32))] [(.int (0 : Int32))]))
        refine own_goW (fun _ ww => XS.aload X1041.here hx rfl (hb hby at_155) rfl rfl ww) ?_
        show own_GoesW _ _ _ _ _ _ _ (T1041.setTop (mkF m 157 #[.val (.int x0), .val (.int x1), .val (.ref b693), .val (.ref b696), .val (.ref b745), .val (.ref b753), .val (.int (1 : Int32)), .val (.ref b1012), .val (.int (1 : Int32))] [(.ref b1012), (.int (0 : Int32))]))
        obtain ⟨cq1042, kq1042, q1042a, q1042b, q1042c⟩ := isOf hZ e1041 f1039
        obtain ⟨_, _, ⟨T1042, L1042, k1042, n1042⟩, -, X1042, ⟨Lc1042, hQ1042, l1042, y1042, z1042⟩, st1042⟩ := X1041.virtualBack hx (y := own_y32) (z := own_y32) hown (mvT hZ (own_w hw 140 rfl)) (mvT hZ (own_w hw 141 rfl)) (notFace_of_selects (args := #[]) (mvT hZ (own_w hw 143 rfl))) (mvT hZ (own_w hw 143 rfl)) (mvT hZ (own_w hw 142 rfl)) (by decide) (backOf (W := 1) (rm_entry1 l Z a0 hw [] b1012 b696 T1027.heap n0 O1027 P1027) hZ (own_w hw 144 rfl) (own_w hw 123 rfl) (by decide) (by decide)) q1042a q1042c (g := (mkF m 157 #[.val (.int x0), .val (.int x1), .val (.ref b693), .val (.ref b696), .val (.ref b745), .val (.ref b753), .val (.int (1 : Int32)), .val (.ref b1012), .val (.int (1 : Int32))] [(.ref b1012), (.int (0 : Int32))])) rfl (by rw [hml]; rfl) (Steps.refl _) (argsL := []) (rest := [(.int (0 : Int32))]) (lenOf pd_19 rfl) rfl (by show 2 * 0 + _ ≤ _; exact Nat.le_of_eq rfl) (hb hby at_157) (fun _ _ => ⟨rfl, e1041, (by decide : 13 + 0 ≤ _), (by decide : 57 + 0 ≤ _)⟩)
        dsimp only [Pt.U, Pt.locs, Pt.cells, Pt.slots] at X1042 l1042 y1042 z1042 st1042 hQ1042
        subst l1042 y1042 z1042
        obtain ⟨rfl, N1042q, e1042⟩ := hQ1042
        have N1042 := Fr.app N1041 N1042q
        refine own_goW (fun _ ww => Steps.trans st1042 ww) ?_
        show own_GoesW _ _ _ _ _ _ _ (T1042.setTop (mkF m 160 #[.val (.int x0), .val (.int x1), .val (.ref b693), .val (.ref b696), .val (.ref b745), .val (.ref b753), .val (.int (1 : Int32)), .val (.ref b1012), .val (.int (1 : Int32))] [(.ref b696), (.int (0 : Int32))]))
        refine own_goW (fun _ ww => XT.ifnonnullYes X1042.here hx rfl (pc0 := 160) (pc' := 167) rfl (hb hby at_160) rfl (by decide) (by decide) ww) ?_
        show own_GoesW _ _ _ _ _ _ _ (T1042.setTop (mkF m 167 #[.val (.int x0), .val (.int x1), .val (.ref b693), .val (.ref b696), .val (.ref b745), .val (.ref b753), .val (.int (1 : Int32)), .val (.ref b1012), .val (.int (1 : Int32))] [(.int (0 : Int32))]))
        refine own_goW (fun _ ww => XS.iconst X1042.here hx rfl (hb hby at_167) ww) ?_
        show own_GoesW _ _ _ _ _ _ _ (T1042.setTop (mkF m 168 #[.val (.int x0), .val (.int x1), .val (.ref b693), .val (.ref b696), .val (.ref b745), .val (.ref b753), .val (.int (1 : Int32)), .val (.ref b1012), .val (.int (1 : Int32))] [(.int (0 : Int32)), (.int (0 : Int32))]))
        refine own_goW (fun _ ww => XS.icmpNo X1042.here hx rfl (hb hby at_168) rfl (teq (by decide : (0 : Int32) = (0 : Int32))).2 ww) ?_
        show own_GoesW _ _ _ _ _ _ _ (T1042.setTop (mkF m 171 #[.val (.int x0), .val (.int x1), .val (.ref b693), .val (.ref b696), .val (.ref b745), .val (.ref b753), .val (.int (1 : Int32)), .val (.ref b1012), .val (.int (1 : Int32))] []))
        refine own_goW (fun _ ww => XS.iconst X1042.here hx rfl (hb hby at_171) ww) ?_
        show own_GoesW _ _ _ _ _ _ _ (T1042.setTop (mkF m 172 #[.val (.int x0), .val (.int x1), .val (.ref b693), .val (.ref b696), .val (.ref b745), .val (.ref b753), .val (.int (1 : Int32)), .val (.ref b1012), .val (.int (1 : Int32))] [(.int (1 : Int32))]))
        refine own_goW (fun _ ww => XS.goto X1042.here hx rfl (pc0 := 172) (pc' := 176) rfl (hb hby at_172) (by decide) (by decide) ww) ?_
        show own_GoesW _ _ _ _ _ _ _ (T1042.setTop (mkF m 176 #[.val (.int x0), .val (.int x1), .val (.ref b693), .val (.ref b696), .val (.ref b745), .val (.ref b753), .val (.int (1 : Int32)), .val (.ref b1012), .val (.int (1 : Int32))] [(.int (1 : Int32))]))
        refine own_goW (fun _ ww => XS.istore X1042.here hx rfl (hb hby at_176) rfl (l' := #[.val (.int x0), .val (.int x1), .val (.ref b693), .val (.ref b696), .val (.ref b745), .val (.ref b753), .val (.int (1 : Int32)), .val (.ref b1012), .val (.int (1 : Int32))]) rfl ww) ?_
        show own_GoesW _ _ _ _ _ _ _ (T1042.setTop (mkF m 178 #[.val (.int x0), .val (.int x1), .val (.ref b693), .val (.ref b696), .val (.ref b745), .val (.ref b753), .val (.int (1 : Int32)), .val (.ref b1012), .val (.int (1 : Int32))] []))
        refine own_goW (fun _ ww => XS.iload X1042.here hx rfl (hb hby at_178) rfl  ww) ?_
        show own_GoesW _ _ _ _ _ _ _ (T1042.setTop (mkF m 180 #[.val (.int x0), .val (.int x1), .val (.ref b693), .val (.ref b696), .val (.ref b745), .val (.ref b753), .val (.int (1 : Int32)), .val (.ref b1012), .val (.int (1 : Int32))] [(.int (1 : Int32))]))
        refine own_goW (fun _ ww => XS.ifNo X1042.here hx rfl (hb hby at_180) rfl (own_if .eq (feq (by decide : ¬ ((1 : Int32) = (0 : Int32)))).1) ww) ?_
        show own_GoesW _ _ _ _ _ _ _ (T1042.setTop (mkF m 183 #[.val (.int x0), .val (.int x1), .val (.ref b693), .val (.ref b696), .val (.ref b745), .val (.ref b753), .val (.int (1 : Int32)), .val (.ref b1012), .val (.int (1 : Int32))] []))
        refine own_goW (fun _ ww => XS.aload X1042.here hx rfl (hb hby at_183) rfl rfl ww) ?_
        show own_GoesW _ _ _ _ _ _ _ (T1042.setTop (mkF m 185 #[.val (.int x0), .val (.int x1), .val (.ref b693), .val (.ref b696), .val (.ref b745), .val (.ref b753), .val (.int (1 : Int32)), .val (.ref b1012), .val (.int (1 : Int32))] [(.ref b1012)]))
        obtain ⟨cq1043, kq1043, q1043a, q1043b, q1043c⟩ := isOf hZ e1042 f1039
        obtain ⟨_, _, ⟨T1043, L1043, k1043, n1043⟩, -, X1043, ⟨Lc1043, hQ1043, l1043, y1043, z1043⟩, st1043⟩ := X1042.virtualBack hx (y := own_y29) (z := own_y29) hown (mvT hZ (own_w hw 145 rfl)) (mvT hZ (own_w hw 146 rfl)) (notFace_of_selects (args := #[]) (mvT hZ (own_w hw 148 rfl))) (mvT hZ (own_w hw 148 rfl)) (mvT hZ (own_w hw 147 rfl)) (by decide) (backOf (W := 0) (rm_waitingII l Z a0 hw [] b1012 b696 mr aL aX r1_1027 "java/util/ImmutableCollections$List12" aL "java/util/ImmutableCollections$ListN" T1027.heap n0 O1027 f1028 MK SL SX EL FL Q1027 R1027 E0_1027 (Or.inl rfl) (EL.ext O1027.2) (Or.inr ⟨rfl, rfl⟩)) hZ (own_w hw 149 rfl) (own_w hw 123 rfl) (by decide) (by decide)) q1043a q1043c (g := (mkF m 185 #[.val (.int x0), .val (.int x1), .val (.ref b693), .val (.ref b696), .val (.ref b745), .val (.ref b753), .val (.int (1 : Int32)), .val (.ref b1012), .val (.int (1 : Int32))] [(.ref b1012)])) rfl (by rw [hml]; rfl) (Steps.refl _) (argsL := []) (rest := []) (lenOf pd_20 rfl) rfl (by show 2 * 0 + _ ≤ _; exact Nat.le_of_eq rfl) (hb hby at_185) (fun _ _ => ⟨rfl, e1042, (by decide : 13 + 1 ≤ _), (by decide : 57 + 4 ≤ _)⟩)
        dsimp only [Pt.U, Pt.locs, Pt.cells, Pt.slots] at X1043 l1043 y1043 z1043 st1043 hQ1043
        subst l1043 y1043 z1043
        obtain ⟨r1043, rfl, N1043q, B1043, K1043q, E1043q, P1043⟩ := hQ1043
        have N1043 := Fr.app N1042 N1043q
        have hk := Nat.le_trans hk (own_ks K1043q)
        have ne_b696_r1043 : b696 ≠ r1043 := Nat.ne_of_lt (Nat.lt_of_lt_of_le f1028.lt B1043)
        have ne_b1012_r1043 : b1012 ≠ r1043 := Nat.ne_of_lt (Nat.lt_of_lt_of_le f1039.lt B1043)
        have ne_r1_1027_r1043 : r1_1027 ≠ r1043 := Nat.ne_of_lt (Nat.lt_of_lt_of_le E0_1027.lt B1043)
        have g_r1043 : n0 ≤ r1043 := Nat.le_trans (O1027.1 ▸ O1027.2.1) B1043
        have f1044 := (f1028.keep K1043q)
        have f1045 := (f1039.keep K1043q)
        have f1046 := (P1027.keep K1043q nin0)
        have f1047 := (Q1027.keep K1043q nin0)
        have f1048 := (R1027.keep K1043q nin0)
        have f1049 := (E0_1027.keep K1043q)
        have O1043 := O1027.keep K1043q all0
        refine own_goW (fun _ ww => Steps.trans st1043 ww) ?_
        show own_GoesW _ _ _ _ _ _ _ (T1043.setTop (mkF m 188 #[.val (.int x0), .val (.int x1), .val (.ref b693), .val (.ref b696), .val (.ref b745), .val (.ref b753), .val (.int (1 : Int32)), .val (.ref b1012), .val (.int (1 : Int32))] [(.ref r1043)]))
        obtain ⟨cq1050, kq1050, q1050a, q1050b, q1050c⟩ := isOf hZ rfl E1043q
        obtain ⟨_, _, ⟨T1050, L1050, k1050, n1050⟩, -, X1050, ⟨Lc1050, hQ1050, l1050, y1050, z1050⟩, st1050⟩ := X1043.virtualBack hx (y := own_y31) (z := own_y31) hown (mvT hZ (own_w hw 135 rfl)) (mvT hZ (own_w hw 136 rfl)) (notFace_of_selects (args := #[]) (mvT hZ (own_w hw 138 rfl))) (mvT hZ (own_w hw 138 rfl)) (mvT hZ (own_w hw 137 rfl)) (by decide) (backOf (W := 0) (rm_waits0 l Z a0 hw [] r1043 aL T1043.heap n0 O1043 P1043) hZ (own_w hw 139 rfl) (own_w hw 123 rfl) (by decide) (by decide)) q1050a q1050c (g := (mkF m 188 #[.val (.int x0), .val (.int x1), .val (.ref b693), .val (.ref b696), .val (.ref b745), .val (.ref b753), .val (.int (1 : Int32)), .val (.ref b1012), .val (.int (1 : Int32))] [(.ref r1043)])) rfl (by rw [hml]; rfl) (Steps.refl _) (argsL := []) (rest := []) (lenOf pd_9 rfl) rfl (by show 2 * 0 + _ ≤ _; exact Nat.le_of_eq rfl) (hb hby at_188) (fun _ _ => ⟨rfl, rfl, (by decide : 14 + 0 ≤ _), (by decide : 61 + 0 ≤ _)⟩)
        dsimp only [Pt.U, Pt.locs, Pt.cells, Pt.slots] at X1050 l1050 y1050 z1050 st1050 hQ1050
        subst l1050 y1050 z1050
        obtain ⟨rfl, N1050q, e1050⟩ := hQ1050
        have N1050 := Fr.app N1043 N1050q
        refine own_goW (fun _ ww => Steps.trans st1050 ww) ?_
        show own_GoesW _ _ _ _ _ _ _ (T1050.setTop (mkF m 191 #[.val (.int x0), .val (.int x1), .val (.ref b693), .val (.ref b696), .val (.ref b745), .val (.ref b753), .val (.int (1 : Int32)), .val (.ref b1012), .val (.int (1 : Int32))] [(.int (1 : Int32))]))
        refine own_goW (fun _ ww => XS.ifNo X1050.here hx rfl (hb hby at_191) rfl (own_if .eq (feq (by decide : ¬ ((1 : Int32) = (0 : Int32)))).1) ww) ?_
        show own_GoesW _ _ _ _ _ _ _ (T1050.setTop (mkF m 194 #[.val (.int x0), .val (.int x1), .val (.ref b693), .val (.ref b696), .val (.ref b745), .val (.ref b753), .val (.int (1 : Int32)), .val (.ref b1012), .val (.int (1 : Int32))] []))
        refine own_goW (fun _ ww => XS.iconst X1050.here hx rfl (hb hby at_194) ww) ?_
        show own_GoesW _ _ _ _ _ _ _ (T1050.setTop (mkF m 195 #[.val (.int x0), .val (.int x1), .val (.ref b693), .val (.ref b696), .val (.ref b745), .val (.ref b753), .val (.int (1 : Int32)), .val (.ref b1012), .val (.int (1 : Int32))] [(.int (1 : Int32))]))
        refine own_goW (fun _ ww => XS.goto X1050.here hx rfl (pc0 := 195) (pc' := 199) rfl (hb hby at_195) (by decide) (by decide) ww) ?_
        show own_GoesW _ _ _ _ _ _ _ (T1050.setTop (mkF m 199 #[.val (.int x0), .val (.int x1), .val (.ref b693), .val (.ref b696), .val (.ref b745), .val (.ref b753), .val (.int (1 : Int32)), .val (.ref b1012), .val (.int (1 : Int32))] [(.int (1 : Int32))]))
        refine own_goW (fun _ ww => XS.istore X1050.here hx rfl (hb hby at_199) rfl (l' := #[.val (.int x0), .val (.int x1), .val (.ref b693), .val (.ref b696), .val (.ref b745), .val (.ref b753), .val (.int (1 : Int32)), .val (.ref b1012), .val (.int (1 : Int32))]) rfl ww) ?_
        show own_GoesW _ _ _ _ _ _ _ (T1050.setTop (mkF m 201 #[.val (.int x0), .val (.int x1), .val (.ref b693), .val (.ref b696), .val (.ref b745), .val (.ref b753), .val (.int (1 : Int32)), .val (.ref b1012), .val (.int (1 : Int32))] []))
        refine own_goW (fun _ ww => XS.iload X1050.here hx rfl (hb hby at_201) rfl  ww) ?_
        show own_GoesW _ _ _ _ _ _ _ (T1050.setTop (mkF m 203 #[.val (.int x0), .val (.int x1), .val (.ref b693), .val (.ref b696), .val (.ref b745), .val (.ref b753), .val (.int (1 : Int32)), .val (.ref b1012), .val (.int (1 : Int32))] [(.int (1 : Int32))]))
        refine own_goW (fun _ ww => XS.ifNo X1050.here hx rfl (hb hby at_203) rfl (own_if .eq (feq (by decide : ¬ ((1 : Int32) = (0 : Int32)))).1) ww) ?_
        show own_GoesW _ _ _ _ _ _ _ (T1050.setTop (mkF m 206 #[.val (.int x0), .val (.int x1), .val (.ref b693), .val (.ref b696), .val (.ref b745), .val (.ref b753), .val (.int (1 : Int32)), .val (.ref b1012), .val (.int (1 : Int32))] []))
        refine own_goW (fun _ ww => XS.aload X1050.here hx rfl (hb hby at_206) rfl rfl ww) ?_
        show own_GoesW _ _ _ _ _ _ _ (T1050.setTop (mkF m 208 #[.val (.int x0), .val (.int x1), .val (.ref b693), .val (.ref b696), .val (.ref b745), .val (.ref b753), .val (.int (1 : Int32)), .val (.ref b1012), .val (.int (1 : Int32))] [(.ref b1012)]))
        refine own_goW (fun _ ww => XS.aloadN X1050.here hx rfl (hb hby at_208) rfl rfl ww) ?_
        show own_GoesW _ _ _ _ _ _ _ (T1050.setTop (mkF m 209 #[.val (.int x0), .val (.int x1), .val (.ref b693), .val (.ref b696), .val (.ref b745), .val (.ref b753), .val (.int (1 : Int32)), .val (.ref b1012), .val (.int (1 : Int32))] [(.ref b696), (.ref b1012)]))
        obtain ⟨cq1051, kq1051, q1051a, q1051b, q1051c⟩ := isOf hZ e1050 f1045
        obtain ⟨_, _, ⟨T1051, L1051, k1051, n1051⟩, -, X1051, ⟨Lc1051, hQ1051, l1051, y1051, z1051⟩, st1051⟩ := X1050.virtualBack hx (y := own_y30) (z := own_y30) hown (mvT hZ (own_w hw 160 rfl)) (mvT hZ (own_w hw 161 rfl)) (notFace_of_selects (args := #[]) (mvT hZ (own_w hw 163 rfl))) (mvT hZ (own_w hw 163 rfl)) (mvT hZ (own_w hw 162 rfl)) (by decide) (backOf (W := 0) (rm_showingII l Z a0 hw [] b1012 b696 mr aL aX r1_1027 "java/util/ImmutableCollections$List12" aL "java/util/ImmutableCollections$ListN" T1043.heap n0 O1043 f1044 MK SL SX EL FL f1047 f1048 f1049 (Or.inl rfl) (EL.ext O1043.2) (Or.inr ⟨rfl, rfl⟩)) hZ (own_w hw 164 rfl) (own_w hw 123 rfl) (by decide) (by decide)) q1051a q1051c (g := (mkF m 209 #[.val (.int x0), .val (.int x1), .val (.ref b693), .val (.ref b696), .val (.ref b745), .val (.ref b753), .val (.int (1 : Int32)), .val (.ref b1012), .val (.int (1 : Int32))] [(.ref b696), (.ref b1012)])) rfl (by rw [hml]; rfl) (Steps.refl _) (argsL := [(.ref b696)]) (rest := []) (lenOf pd_21 rfl) rfl (by show 2 * 0 + _ ≤ _; exact Nat.le_of_eq rfl) (hb hby at_209) (fun _ _ => ⟨rfl, e1050, (by decide : 14 + 1 ≤ _), (by decide : 61 + 4 ≤ _)⟩)
        dsimp only [Pt.U, Pt.locs, Pt.cells, Pt.slots] at X1051 l1051 y1051 z1051 st1051 hQ1051
        subst l1051 y1051 z1051
        obtain ⟨r1051, rfl, N1051q, B1051, K1051q, E1051q, P1051⟩ := hQ1051
        have N1051 := Fr.app N1050 N1051q
        have hk := Nat.le_trans hk (own_ks K1051q)
        have ne_b696_r1051 : b696 ≠ r1051 := Nat.ne_of_lt (Nat.lt_of_lt_of_le f1044.lt B1051)
        have ne_b1012_r1051 : b1012 ≠ r1051 := Nat.ne_of_lt (Nat.lt_of_lt_of_le f1045.lt B1051)
        have ne_r1_1027_r1051 : r1_1027 ≠ r1051 := Nat.ne_of_lt (Nat.lt_of_lt_of_le f1049.lt B1051)
        have g_r1051 : n0 ≤ r1051 := Nat.le_trans (O1043.1 ▸ O1043.2.1) B1051
        have f1052 := (f1044.keep K1051q)
        have f1053 := (f1045.keep K1051q)
        have f1054 := (f1046.keep K1051q nin0)
        have f1055 := (f1047.keep K1051q nin0)
        have f1056 := (f1048.keep K1051q nin0)
        have f1057 := (f1049.keep K1051q)
        have O1051 := O1043.keep K1051q all0
        refine own_goW (fun _ ww => Steps.trans st1051 ww) ?_
        show own_GoesW _ _ _ _ _ _ _ (T1051.setTop (mkF m 212 #[.val (.int x0), .val (.int x1), .val (.ref b693), .val (.ref b696), .val (.ref b745), .val (.ref b753), .val (.int (1 : Int32)), .val (.ref b1012), .val (.int (1 : Int32))] [(.ref r1051)]))
        obtain ⟨cq1058, kq1058, q1058a, q1058b, q1058c⟩ := isOf hZ rfl E1051q
        obtain ⟨_, _, ⟨T1058, L1058, k1058, n1058⟩, -, X1058, ⟨Lc1058, hQ1058, l1058, y1058, z1058⟩, st1058⟩ := X1051.virtualBack hx (y := own_y31) (z := own_y31) hown (mvT hZ (own_w hw 135 rfl)) (mvT hZ (own_w hw 136 rfl)) (notFace_of_selects (args := #[]) (mvT hZ (own_w hw 138 rfl))) (mvT hZ (own_w hw 138 rfl)) (mvT hZ (own_w hw 137 rfl)) (by decide) (backOf (W := 0) (rm_waits1 l Z a0 hw [] r1051 b696 T1051.heap n0 O1051 P1051) hZ (own_w hw 139 rfl) (own_w hw 123 rfl) (by decide) (by decide)) q1058a q1058c (g := (mkF m 212 #[.val (.int x0), .val (.int x1), .val (.ref b693), .val (.ref b696), .val (.ref b745), .val (.ref b753), .val (.int (1 : Int32)), .val (.ref b1012), .val (.int (1 : Int32))] [(.ref r1051)])) rfl (by rw [hml]; rfl) (Steps.refl _) (argsL := []) (rest := []) (lenOf pd_9 rfl) rfl (by show 2 * 0 + _ ≤ _; exact Nat.le_of_eq rfl) (hb hby at_212) (fun _ _ => ⟨rfl, rfl, (by decide : 15 + 0 ≤ _), (by decide : 65 + 0 ≤ _)⟩)
        dsimp only [Pt.U, Pt.locs, Pt.cells, Pt.slots] at X1058 l1058 y1058 z1058 st1058 hQ1058
        subst l1058 y1058 z1058
        obtain ⟨rfl, N1058q, e1058⟩ := hQ1058
        have N1058 := Fr.app N1051 N1058q
        refine own_goW (fun _ ww => Steps.trans st1058 ww) ?_
        show own_GoesW _ _ _ _ _ _ _ (T1058.setTop (mkF m 215 #[.val (.int x0), .val (.int x1), .val (.ref b693), .val (.ref b696), .val (.ref b745), .val (.ref b753), .val (.int (1 : Int32)), .val (.ref b1012), .val (.int (1 : Int32))] [(.int (0 : Int32))]))
        refine own_goW (fun _ ww => XS.ifNo X1058.here hx rfl (hb hby at_215) rfl (own_if .ne (teq (by decide : (0 : Int32) = (0 : Int32))).2) ww) ?_
        show own_GoesW _ _ _ _ _ _ _ (T1058.setTop (mkF m 218 #[.val (.int x0), .val (.int x1), .val (.ref b693), .val (.ref b696), .val (.ref b745), .val (.ref b753), .val (.int (1 : Int32)), .val (.ref b1012), .val (.int (1 : Int32))] []))
        refine own_goW (fun _ ww => XS.iconst X1058.here hx rfl (hb hby at_218) ww) ?_
        show own_GoesW _ _ _ _ _ _ _ (T1058.setTop (mkF m 219 #[.val (.int x0), .val (.int x1), .val (.ref b693), .val (.ref b696), .val (.ref b745), .val (.ref b753), .val (.int (1 : Int32)), .val (.ref b1012), .val (.int (1 : Int32))] [(.int (1 : Int32))]))
        refine own_goW (fun _ ww => XS.goto X1058.here hx rfl (pc0 := 219) (pc' := 223) rfl (hb hby at_219) (by decide) (by decide) ww) ?_
        show own_GoesW _ _ _ _ _ _ _ (T1058.setTop (mkF m 223 #[.val (.int x0), .val (.int x1), .val (.ref b693), .val (.ref b696), .val (.ref b745), .val (.ref b753), .val (.int (1 : Int32)), .val (.ref b1012), .val (.int (1 : Int32))] [(.int (1 : Int32))]))
        refine own_goW (fun _ ww => XS.istore X1058.here hx rfl (hb hby at_223) rfl (l' := #[.val (.int x0), .val (.int x1), .val (.ref b693), .val (.ref b696), .val (.ref b745), .val (.ref b753), .val (.int (1 : Int32)), .val (.ref b1012), .val (.int (1 : Int32))]) rfl ww) ?_
        show own_GoesW _ _ _ _ _ _ _ (T1058.setTop (mkF m 225 #[.val (.int x0), .val (.int x1), .val (.ref b693), .val (.ref b696), .val (.ref b745), .val (.ref b753), .val (.int (1 : Int32)), .val (.ref b1012), .val (.int (1 : Int32))] []))
        refine own_goW (fun _ ww => XS.iload X1058.here hx rfl (hb hby at_225) rfl  ww) ?_
        show own_GoesW _ _ _ _ _ _ _ (T1058.setTop (mkF m 227 #[.val (.int x0), .val (.int x1), .val (.ref b693), .val (.ref b696), .val (.ref b745), .val (.ref b753), .val (.int (1 : Int32)), .val (.ref b1012), .val (.int (1 : Int32))] [(.int (1 : Int32))]))
        exact own_outW X1058 hS hk hlk (v := some (.int (1 : Int32))) (fun h => by rw [hret] at h; cases h) (fun fs hr => retOut X1058 hx (t := .boolean) hret (by decide) (Or.inl ⟨rfl, by simp, _, rfl⟩) (hb hby at_227) hr) e1058 ⟨rfl, N1058⟩ (by decide) (by decide)
    ·
      refine own_goW (fun _ ww => XS.ifNo X956.here hx rfl (hb hby at_74) rfl (own_if .eq (feq hc963).1) ww) ?_
      show own_GoesW _ _ _ _ _ _ _ (T956.setTop (mkF m 77 #[.val (.int x0), .val (.int x1), .val (.ref b693), .val (.ref b696), .val (.ref b745), .val (.ref b753), .unset, .unset, .unset] []))
      refine own_goW (fun _ ww => XS.aload X956.here hx rfl (hb hby at_77) rfl rfl ww) ?_
      show own_GoesW _ _ _ _ _ _ _ (T956.setTop (mkF m 79 #[.val (.int x0), .val (.int x1), .val (.ref b693), .val (.ref b696), .val (.ref b745), .val (.ref b753), .unset, .unset, .unset] [(.ref b753)]))
      refine own_goW (fun _ ww => XS.aloadN X956.here hx rfl (hb hby at_79) rfl rfl ww) ?_
      show own_GoesW _ _ _ _ _ _ _ (T956.setTop (mkF m 80 #[.val (.int x0), .val (.int x1), .val (.ref b693), .val (.ref b696), .val (.ref b745), .val (.ref b753), .unset, .unset, .unset] [(.ref b696), (.ref b753)]))
      obtain ⟨cq1059, kq1059, q1059a, q1059b, q1059c⟩ := isOf hZ rfl f959
      obtain ⟨_, _, ⟨T1059, L1059, k1059, n1059⟩, -, X1059, ⟨Lc1059, hQ1059, l1059, y1059, z1059⟩, st1059⟩ := X956.virtualBack hx (y := own_y11) (z := own_y11) hown (mvT hZ (own_w hw 165 rfl)) (mvT hZ (own_w hw 166 rfl)) (notFace_of_selects (args := #[]) (mvT hZ (own_w hw 168 rfl))) (mvT hZ (own_w hw 168 rfl)) (mvT hZ (own_w hw 167 rfl)) (by decide) (backOf (W := 0) (rm_add1 l Z a0 hw [] b753 aD kD b696 T956.heap n0 O956 f960 f961 f962 f959 g_b753 SD VD f957) hZ (own_w hw 169 rfl) (own_w hw 35 rfl) (by decide) (by decide)) q1059a q1059c (g := (mkF m 80 #[.val (.int x0), .val (.int x1), .val (.ref b693), .val (.ref b696), .val (.ref b745), .val (.ref b753), .unset, .unset, .unset] [(.ref b696), (.ref b753)])) rfl (by rw [hml]; rfl) (Steps.refl _) (argsL := [(.ref b696)]) (rest := []) (lenOf pd_22 rfl) rfl (by show 2 * 0 + _ ≤ _; exact Nat.le_of_eq rfl) (hb hby at_80) (fun _ _ => ⟨rfl, rfl, (by decide : 10 + 1 ≤ _), (by decide : 50 + 10 ≤ _)⟩)
      dsimp only [Pt.U, Pt.locs, Pt.cells, Pt.slots] at X1059 l1059 y1059 z1059 st1059 hQ1059
      subst l1059 y1059 z1059
      obtain ⟨t1059, kk1059, rfl, N1059q, B1059, K1059q, P1059, Q1059, R1059, V1059q, E1059q⟩ := hQ1059
      have N1059 := Fr.app N956 N1059q
      have hk := Nat.le_trans hk (own_ks K1059q)
      have ne_b696_t1059 : b696 ≠ t1059 := Nat.ne_of_lt (Nat.lt_of_lt_of_le f957.lt B1059)
      have ne_b745_t1059 : b745 ≠ t1059 := Nat.ne_of_lt (Nat.lt_of_lt_of_le f958.lt B1059)
      have ne_b753_t1059 : b753 ≠ t1059 := Nat.ne_of_lt (Nat.lt_of_lt_of_le f959.lt B1059)
      have ne_t956_t1059 : t956 ≠ t1059 := Nat.ne_of_lt (Nat.lt_of_lt_of_le V956q.lt B1059)
      have g_t1059 : n0 ≤ t1059 := Nat.le_trans (O956.1 ▸ O956.2.1) B1059
      have f1060 := (f957.keep K1059q)
      have f1061 := (f958.keep K1059q)
      have f1062 := (f959.keep K1059q)
      have f1063 := (P956.keep K1059q (ninS ne_b745_b753 nin0))
      have f1064 := (Q956.keep K1059q (ninS ne_b745_b753 nin0))
      have f1065 := (R956.keep K1059q (ninS ne_b745_b753 nin0))
      have f1066 : Arv Z T1059.heap t956 kk956 (.object "java/lang/Object") (10 : Int32) [(.ref b696), .null, .null, .null, .null, .null, .null, .null, .null, .null] .null := (V956q.keep K1059q (ninS (Ne.symm ne_b753_t956) nin0))
      have f1067 := (E956q.keep K1059q)
      have O1059 := O956.keep K1059q (allS g_b753 all0)
      refine own_goW (fun _ ww => Steps.trans st1059 ww) ?_
      show own_GoesW _ _ _ _ _ _ _ (T1059.setTop (mkF m 83 #[.val (.int x0), .val (.int x1), .val (.ref b693), .val (.ref b696), .val (.ref b745), .val (.ref b753), .unset, .unset, .unset] [(.int (1 : Int32))]))
      refine own_goW (fun _ ww => XT.pop X1059.here hx rfl (hb hby at_83) rfl rfl ww) ?_
      show own_GoesW _ _ _ _ _ _ _ (T1059.setTop (mkF m 84 #[.val (.int x0), .val (.int x1), .val (.ref b693), .val (.ref b696), .val (.ref b745), .val (.ref b753), .unset, .unset, .unset] []))
      refine own_goW (fun _ ww => XS.iloadN X1059.here hx rfl (hb hby at_84) rfl  ww) ?_
      show own_GoesW _ _ _ _ _ _ _ (T1059.setTop (mkF m 85 #[.val (.int x0), .val (.int x1), .val (.ref b693), .val (.ref b696), .val (.ref b745), .val (.ref b753), .unset, .unset, .unset] [(.int x0)]))
      refine own_goW (fun _ ww => XS.iconst X1059.here hx rfl (hb hby at_85) ww) ?_
      show own_GoesW _ _ _ _ _ _ _ (T1059.setTop (mkF m 86 #[.val (.int x0), .val (.int x1), .val (.ref b693), .val (.ref b696), .val (.ref b745), .val (.ref b753), .unset, .unset, .unset] [(.int (1 : Int32)), (.int x0)]))
      refine own_goW (fun _ ww => XS.iand X1059.here hx rfl (hb hby at_86) rfl ww) ?_
      show own_GoesW _ _ _ _ _ _ _ (T1059.setTop (mkF m 87 #[.val (.int x0), .val (.int x1), .val (.ref b693), .val (.ref b696), .val (.ref b745), .val (.ref b753), .unset, .unset, .unset] [(.int (x0 &&& (1 : Int32)))]))
      by_cases hc1068 : (x0 &&& (1 : Int32)) = (0 : Int32)
      ·
        refine own_goW (fun _ ww => XS.ifYes X1059.here hx rfl (pc0 := 87) (pc' := 94) rfl (hb hby at_87) rfl (own_if .eq (teq hc1068).1) (by decide) (by decide) ww) ?_
        show own_GoesW _ _ _ _ _ _ _ (T1059.setTop (mkF m 94 #[.val (.int x0), .val (.int x1), .val (.ref b693), .val (.ref b696), .val (.ref b745), .val (.ref b753), .unset, .unset, .unset] []))
        refine own_goW (fun _ ww => XS.iconst X1059.here hx rfl (hb hby at_94) ww) ?_
        show own_GoesW _ _ _ _ _ _ _ (T1059.setTop (mkF m 95 #[.val (.int x0), .val (.int x1), .val (.ref b693), .val (.ref b696), .val (.ref b745), .val (.ref b753), .unset, .unset, .unset] [(.int (0 : Int32))]))
        refine own_goW (fun _ ww => XS.istore X1059.here hx rfl (hb hby at_95) rfl (l' := #[.val (.int x0), .val (.int x1), .val (.ref b693), .val (.ref b696), .val (.ref b745), .val (.ref b753), .val (.int (0 : Int32)), .unset, .unset]) rfl ww) ?_
        show own_GoesW _ _ _ _ _ _ _ (T1059.setTop (mkF m 97 #[.val (.int x0), .val (.int x1), .val (.ref b693), .val (.ref b696), .val (.ref b745), .val (.ref b753), .val (.int (0 : Int32)), .unset, .unset] []))
        obtain ⟨T1069, h1069, X1069, e1069, E1069, A1069, D1069, -, st1069⟩ := newO X1059 hx hZ hown (own_w hw 121 rfl) (own_w hw 122 rfl) (own_w hw 123 rfl) rfl (g := (mkF m 97 #[.val (.int x0), .val (.int x1), .val (.ref b693), .val (.ref b696), .val (.ref b745), .val (.ref b753), .val (.int (0 : Int32)), .unset, .unset] [])) rfl (hb hby at_97) (by decide) (by decide)
        obtain ⟨b1069, g1069⟩ : ∃ z, z = T1059.heap.size := ⟨_, rfl⟩
        rw [← g1069] at A1069 D1069 st1069
        have ne_b696_b1069 : b696 ≠ b1069 := Nat.ne_of_lt (Nat.lt_of_lt_of_le f1060.lt (Nat.le_of_eq g1069.symm))
        have ne_b745_b1069 : b745 ≠ b1069 := Nat.ne_of_lt (Nat.lt_of_lt_of_le f1061.lt (Nat.le_of_eq g1069.symm))
        have ne_b753_b1069 : b753 ≠ b1069 := Nat.ne_of_lt (Nat.lt_of_lt_of_le f1062.lt (Nat.le_of_eq g1069.symm))
        have ne_t956_b1069 : t956 ≠ b1069 := Nat.ne_of_lt (Nat.lt_of_lt_of_le f1066.lt (Nat.le_of_eq g1069.symm))
        have ne_t1059_b1069 : t1059 ≠ b1069 := Nat.ne_of_lt (Nat.lt_of_lt_of_le V1059q.lt (Nat.le_of_eq g1069.symm))
        have g_b1069 : n0 ≤ b1069 := Nat.le_trans (O1059.1 ▸ O1059.2.1) (Nat.le_of_eq g1069.symm)
        have f1070 := (f1060.ext E1069)
        have f1071 := (f1061.ext E1069)
        have f1072 := (f1062.ext E1069)
        have f1073 := (f1063.ext E1069)
        have f1074 := (f1064.ext E1069)
        have f1075 := (f1065.ext E1069)
        have f1076 : Arv Z h1069 t956 kk956 (.object "java/lang/Object") (10 : Int32) [(.ref b696), .null, .null, .null, .null, .null, .null, .null, .null, .null] .null := (Arv.ext f1066 E1069)
        have f1077 := (f1067.ext E1069)
        have f1078 := (P1059.ext E1069)
        have f1079 := (Q1059.ext E1069)
        have f1080 := (R1059.ext E1069)
        have f1081 : Arv Z h1069 t1059 kk1059 (.object "java/lang/Object") (10 : Int32) [(.ref b696), .null, .null, .null, .null, .null, .null, .null, .null, .null] .null := (Arv.ext V1059q E1069)
        have f1082 := (E1059q.ext E1069)
        have O1069 := O1059.ext E1069
        have hk := Nat.le_trans hk E1069.1
        have f1083 : Fld Z h1069 b1069 "com/example/navlint/navlint/model/State$Tab" "entry" "Lcom/example/navlint/navlint/model/Entry;" .null := D1069 (Or.inr (own_w hw 129 rfl)) (ty := (.object "com/example/navlint/navlint/model/Entry")) (by decide)
        have f1084 : Fld Z h1069 b1069 "com/example/navlint/navlint/model/State$Tab" "back" "Ljava/util/List;" .null := D1069 (Or.inr (own_w hw 132 rfl)) (ty := (.object "java/util/List")) (by decide)
        have f1085 : Fld Z h1069 b1069 "com/example/navlint/navlint/model/State$Tab" "forward" "Ljava/util/List;" .null := D1069 (Or.inr (own_w hw 134 rfl)) (ty := (.object "java/util/List")) (by decide)
        refine own_goW st1069 ?_
        show own_GoesW _ _ _ _ _ _ _ (T1069.setTop (mkF m 100 #[.val (.int x0), .val (.int x1), .val (.ref b693), .val (.ref b696), .val (.ref b745), .val (.ref b753), .val (.int (0 : Int32)), .unset, .unset] [(.ref b1069)]))
        refine own_goW (fun _ ww => XS.dup X1069.here hx rfl (hb hby at_100) rfl rfl ww) ?_
        show own_GoesW _ _ _ _ _ _ _ (T1069.setTop (mkF m 101 #[.val (.int x0), .val (.int x1), .val (.ref b693), .val (.ref b696), .val (.ref b745), .val (.ref b753), .val (.int (0 : Int32)), .unset, .unset] [(.ref b1069), (.ref b1069)]))
        refine own_goW (fun _ ww => XS.iload X1069.here hx rfl (hb hby at_101) rfl  ww) ?_
        show own_GoesW _ _ _ _ _ _ _ (T1069.setTop (mkF m 103 #[.val (.int x0), .val (.int x1), .val (.ref b693), .val (.ref b696), .val (.ref b745), .val (.ref b753), .val (.int (0 : Int32)), .unset, .unset] [(.int (0 : Int32)), (.ref b1069), (.ref b1069)]))
        refine own_goW (fun _ ww => XS.ifYes X1069.here hx rfl (pc0 := 103) (pc' := 110) rfl (hb hby at_103) rfl (own_if .eq (teq (by decide : (0 : Int32) = (0 : Int32))).1) (by decide) (by decide) ww) ?_
        show own_GoesW _ _ _ _ _ _ _ (T1069.setTop (mkF m 110 #[.val (.int x0), .val (.int x1), .val (.ref b693), .val (.ref b696), .val (.ref b745), .val (.ref b753), .val (.int (0 : Int32)), .unset, .unset] [(.ref b1069), (.ref b1069)]))
        refine own_goW (fun _ ww => XS.aconstNull X1069.here hx rfl (hb hby at_110) ww) ?_
        show own_GoesW _ _ _ _ _ _ _ (T1069.setTop (mkF m 111 #[.val (.int x0), .val (.int x1), .val (.ref b693), .val (.ref b696), .val (.ref b745), .val (.ref b753), .val (.int (0 : Int32)), .unset, .unset] [.null, (.ref b1069), (.ref b1069)]))
        refine own_goW (fun _ ww => XS.aload X1069.here hx rfl (hb hby at_111) rfl rfl ww) ?_
        show own_GoesW _ _ _ _ _ _ _ (T1069.setTop (mkF m 113 #[.val (.int x0), .val (.int x1), .val (.ref b693), .val (.ref b696), .val (.ref b745), .val (.ref b753), .val (.int (0 : Int32)), .unset, .unset] [(.ref b745), .null, (.ref b1069), (.ref b1069)]))
        refine own_goW (fun _ ww => XS.aload X1069.here hx rfl (hb hby at_113) rfl rfl ww) ?_
        show own_GoesW _ _ _ _ _ _ _ (T1069.setTop (mkF m 115 #[.val (.int x0), .val (.int x1), .val (.ref b693), .val (.ref b696), .val (.ref b745), .val (.ref b753), .val (.int (0 : Int32)), .unset, .unset] [(.ref b753), (.ref b745), .null, (.ref b1069), (.ref b1069)]))
        obtain ⟨_, _, ⟨T1086, L1086, k1086, n1086⟩, -, X1086, ⟨Lc1086, hQ1086, l1086, y1086, z1086⟩, st1086⟩ := X1069.specialBack hx (y := own_y28) rfl hown (mvT hZ (own_w hw 124 rfl)) (mvT hZ (own_w hw 125 rfl)) (mvT hZ (own_w hw 126 rfl)) (by decide) (backOf (W := 1) (rm_ti0nn l Z a0 hw [] b1069 b696 mr aL aX b745 t956 kk956 b753 t1059 kk1059 h1069 n0 O1069 f1083 f1084 f1085 A1069 g_b1069 f1070 MK SL SX EL FL f1074 f1075 f1071 f1076 f1077 ne_b745_b1069 ne_t956_b1069 f1079 f1080 f1072 f1081 f1082 ne_b753_b1069 ne_t1059_b1069) hZ (own_w hw 126 rfl) (own_w hw 123 rfl) (by decide) (by decide)) (g := (mkF m 115 #[.val (.int x0), .val (.int x1), .val (.ref b693), .val (.ref b696), .val (.ref b745), .val (.ref b753), .val (.int (0 : Int32)), .unset, .unset] [(.ref b753), (.ref b745), .null, (.ref b1069), (.ref b1069)])) rfl (by rw [hml]; rfl) (Steps.refl _) (a := b1069) (argsL := [.null, (.ref b745), (.ref b753)]) (rest := [(.ref b1069)]) (lenOf pd_15 rfl) rfl (by show 2 * 0 + _ ≤ _; exact Nat.le_of_eq rfl) (hb hby at_115) (fun _ _ => ⟨rfl, e1069, (by decide : 12 + 4 ≤ _), (by decide : 64 + 6 ≤ _)⟩)
        dsimp only [Pt.U, Pt.locs, Pt.cells, Pt.slots] at X1086 l1086 y1086 z1086 st1086 hQ1086
        subst l1086 y1086 z1086
        obtain ⟨r1_1086, r2_1086, rfl, N1086q, K1086q, P1086, Q1086, R1086, E0_1086, E1_1086⟩ := hQ1086
        have N1086 := Fr.app N1059 N1086q
        have hk := Nat.le_trans hk (own_ks K1086q)
        have f1087 := (f1070.keep K1086q)
        have f1088 := (f1071.keep K1086q)
        have f1089 := (f1072.keep K1086q)
        have f1090 := (f1073.keep K1086q (ninS ne_b745_b1069 nin0))
        have f1091 := (f1074.keep K1086q (ninS ne_b745_b1069 nin0))
        have f1092 := (f1075.keep K1086q (ninS ne_b745_b1069 nin0))
        have f1093 : Arv Z T1086.heap t956 kk956 (.object "java/lang/Object") (10 : Int32) [(.ref b696), .null, .null, .null, .null, .null, .null, .null, .null, .null] .null := (f1076.keep K1086q (ninS ne_t956_b1069 nin0))
        have f1094 := (f1077.keep K1086q)
        have f1095 := (f1078.keep K1086q (ninS ne_b753_b1069 nin0))
        have f1096 := (f1079.keep K1086q (ninS ne_b753_b1069 nin0))
        have f1097 := (f1080.keep K1086q (ninS ne_b753_b1069 nin0))
        have f1098 : Arv Z T1086.heap t1059 kk1059 (.object "java/lang/Object") (10 : Int32) [(.ref b696), .null, .null, .null, .null, .null, .null, .null, .null, .null] .null := (f1081.keep K1086q (ninS ne_t1059_b1069 nin0))
        have f1099 := (f1082.keep K1086q)
        have f1100 := (A1069.keep K1086q)
        have O1086 := O1069.keep K1086q (allS g_b1069 all0)
        refine own_goW (fun _ ww => Steps.trans st1086 ww) ?_
        show own_GoesW _ _ _ _ _ _ _ (T1086.setTop (mkF m 118 #[.val (.int x0), .val (.int x1), .val (.ref b693), .val (.ref b696), .val (.ref b745), .val (.ref b753), .val (.int (0 : Int32)), .unset, .unset] [(.ref b1069)]))
        refine own_goW (fun _ ww => XS.astore X1086.here hx rfl (hb hby at_118) rfl rfl (l' := #[.val (.int x0), .val (.int x1), .val (.ref b693), .val (.ref b696), .val (.ref b745), .val (.ref b753), .val (.int (0 : Int32)), .val (.ref b1069), .unset]) rfl ww) ?_
        show own_GoesW _ _ _ _ _ _ _ (T1086.setTop (mkF m 120 #[.val (.int x0), .val (.int x1), .val (.ref b693), .val (.ref b696), .val (.ref b745), .val (.ref b753), .val (.int (0 : Int32)), .val (.ref b1069), .unset] []))
        refine own_goW (fun _ ww => XS.aload X1086.here hx rfl (hb hby at_120) rfl rfl ww) ?_
        show own_GoesW _ _ _ _ _ _ _ (T1086.setTop (mkF m 122 #[.val (.int x0), .val (.int x1), .val (.ref b693), .val (.ref b696), .val (.ref b745), .val (.ref b753), .val (.int (0 : Int32)), .val (.ref b1069), .unset] [(.ref b1069)]))
        obtain ⟨cq1101, kq1101, q1101a, q1101b, q1101c⟩ := isOf hZ rfl f1100
        obtain ⟨_, _, ⟨T1101, L1101, k1101, n1101⟩, -, X1101, ⟨Lc1101, hQ1101, l1101, y1101, z1101⟩, st1101⟩ := X1086.virtualBack hx (y := own_y31) (z := own_y31) hown (mvT hZ (own_w hw 135 rfl)) (mvT hZ (own_w hw 136 rfl)) (notFace_of_selects (args := #[]) (mvT hZ (own_w hw 138 rfl))) (mvT hZ (own_w hw 138 rfl)) (mvT hZ (own_w hw 137 rfl)) (by decide) (backOf (W := 0) (rm_waits0 l Z a0 hw [] b1069 aL T1086.heap n0 O1086 P1086) hZ (own_w hw 139 rfl) (own_w hw 123 rfl) (by decide) (by decide)) q1101a q1101c (g := (mkF m 122 #[.val (.int x0), .val (.int x1), .val (.ref b693), .val (.ref b696), .val (.ref b745), .val (.ref b753), .val (.int (0 : Int32)), .val (.ref b1069), .unset] [(.ref b1069)])) rfl (by rw [hml]; rfl) (Steps.refl _) (argsL := []) (rest := []) (lenOf pd_9 rfl) rfl (by show 2 * 0 + _ ≤ _; exact Nat.le_of_eq rfl) (hb hby at_122) (fun _ _ => ⟨rfl, rfl, (by decide : 16 + 0 ≤ _), (by decide : 70 + 0 ≤ _)⟩)
        dsimp only [Pt.U, Pt.locs, Pt.cells, Pt.slots] at X1101 l1101 y1101 z1101 st1101 hQ1101
        subst l1101 y1101 z1101
        obtain ⟨rfl, N1101q, e1101⟩ := hQ1101
        have N1101 := Fr.app N1086 N1101q
        refine own_goW (fun _ ww => Steps.trans st1101 ww) ?_
        show own_GoesW _ _ _ _ _ _ _ (T1101.setTop (mkF m 125 #[.val (.int x0), .val (.int x1), .val (.ref b693), .val (.ref b696), .val (.ref b745), .val (.ref b753), .val (.int (0 : Int32)), .val (.ref b1069), .unset] [(.int (1 : Int32))]))
        refine own_goW (fun _ ww => XS.iload X1101.here hx rfl (hb hby at_125) rfl  ww) ?_
        show own_GoesW _ _ _ _ _ _ _ (T1101.setTop (mkF m 127 #[.val (.int x0), .val (.int x1), .val (.ref b693), .val (.ref b696), .val (.ref b745), .val (.ref b753), .val (.int (0 : Int32)), .val (.ref b1069), .unset] [(.int (0 : Int32)), (.int (1 : Int32))]))
        refine own_goW (fun _ ww => XS.ifNo X1101.here hx rfl (hb hby at_127) rfl (own_if .ne (teq (by decide : (0 : Int32) = (0 : Int32))).2) ww) ?_
        show own_GoesW _ _ _ _ _ _ _ (T1101.setTop (mkF m 130 #[.val (.int x0), .val (.int x1), .val (.ref b693), .val (.ref b696), .val (.ref b745), .val (.ref b753), .val (.int (0 : Int32)), .val (.ref b1069), .unset] [(.int (1 : Int32))]))
        refine own_goW (fun _ ww => XS.iconst X1101.here hx rfl (hb hby at_130) ww) ?_
        show own_GoesW _ _ _ _ _ _ _ (T1101.setTop (mkF m 131 #[.val (.int x0), .val (.int x1), .val (.ref b693), .val (.ref b696), .val (.ref b745), .val (.ref b753), .val (.int (0 : Int32)), .val (.ref b1069), .unset] [(.int (1 : Int32)), (.int (1 : Int32))]))
        refine own_goW (fun _ ww => XS.goto X1101.here hx rfl (pc0 := 131) (pc' := 135) rfl (hb hby at_131) (by decide) (by decide) ww) ?_
        show own_GoesW _ _ _ _ _ _ _ (T1101.setTop (mkF m 135 #[.val (.int x0), .val (.int x1), .val (.ref b693), .val (.ref b696), .val (.ref b745), .val (.ref b753), .val (.int (0 : Int32)), .val (.ref b1069), .unset] [(.int (1 : Int32)), (.int (1 : Int32))]))
        refine own_goW (fun _ ww => XS.icmpNo X1101.here hx rfl (hb hby at_135) rfl (teq (by decide : (1 : Int32) = (1 : Int32))).2 ww) ?_
        show own_GoesW _ _ _ _ _ _ _ (T1101.setTop (mkF m 138 #[.val (.int x0), .val (.int x1), .val (.ref b693), .val (.ref b696), .val (.ref b745), .val (.ref b753), .val (.int (0 : Int32)), .val (.ref b1069), .unset] []))
        refine own_goW (fun _ ww => XS.iconst X1101.here hx rfl (hb hby at_138) ww) ?_
        show own_GoesW _ _ _ _ _ _ _ (T1101.setTop (mkF m 139 #[.val (.int x0), .val (.int x1), .val (.ref b693), .val (.ref b696), .val (.ref b745), .val (.ref b753), .val (.int (0 : Int32)), .val (.ref b1069), .unset] [(.int (1 : Int32))]))
        refine own_goW (fun _ ww => XS.goto X1101.here hx rfl (pc0 := 139) (pc' := 143) rfl (hb hby at_139) (by decide) (by decide) ww) ?_
        show own_GoesW _ _ _ _ _ _ _ (T1101.setTop (mkF m 143 #[.val (.int x0), .val (.int x1), .val (.ref b693), .val (.ref b696), .val (.ref b745), .val (.ref b753), .val (.int (0 : Int32)), .val (.ref b1069), .unset] [(.int (1 : Int32))]))
        refine own_goW (fun _ ww => XS.istore X1101.here hx rfl (hb hby at_143) rfl (l' := #[.val (.int x0), .val (.int x1), .val (.ref b693), .val (.ref b696), .val (.ref b745), .val (.ref b753), .val (.int (0 : Int32)), .val (.ref b1069), .val (.int (1 : Int32))]) rfl ww) ?_
        show own_GoesW _ _ _ _ _ _ _ (T1101.setTop (mkF m 145 #[.val (.int x0), .val (.int x1), .val (.ref b693), .val (.ref b696), .val (.ref b745), .val (.ref b753), .val (.int (0 : Int32)), .val (.ref b1069), .val (.int (1 : Int32))] []))
        refine own_goW (fun _ ww => XS.iload X1101.here hx rfl (hb hby at_145) rfl  ww) ?_
        show own_GoesW _ _ _ _ _ _ _ (T1101.setTop (mkF m 147 #[.val (.int x0), .val (.int x1), .val (.ref b693), .val (.ref b696), .val (.ref b745), .val (.ref b753), .val (.int (0 : Int32)), .val (.ref b1069), .val (.int (1 : Int32))] [(.int (1 : Int32))]))
        refine own_goW (fun _ ww => XS.ifNo X1101.here hx rfl (hb hby at_147) rfl (own_if .eq (feq (by decide : ¬ ((1 : Int32) = (0 : Int32)))).1) ww) ?_
        show own_GoesW _ _ _ _ _ _ _ (T1101.setTop (mkF m 150 #[.val (.int x0), .val (.int x1), .val (.ref b693), .val (.ref b696), .val (.ref b745), .val (.ref b753), .val (.int (0 : Int32)), .val (.ref b1069), .val (.int (1 : Int32))] []))
        refine own_goW (fun _ ww => XS.aload X1101.here hx rfl (hb hby at_150) rfl rfl ww) ?_
        show own_GoesW _ _ _ _ _ _ _ (T1101.setTop (mkF m 152 #[.val (.int x0), .val (.int x1), .val (.ref b693), .val (.ref b696), .val (.ref b745), .val (.ref b753), .val (.int (0 : Int32)), .val (.ref b1069), .val (.int (1 : Int32))] [(.ref b1069)]))
        obtain ⟨cq1102, kq1102, q1102a, q1102b, q1102c⟩ := isOf hZ e1101 f1100
        obtain ⟨_, _, ⟨T1102, L1102, k1102, n1102⟩, -, X1102, ⟨Lc1102, hQ1102, l1102, y1102, z1102⟩, st1102⟩ := X1101.virtualBack hx (y := own_y31) (z := own_y31) hown (mvT hZ (own_w hw 135 rfl)) (mvT hZ (own_w hw 136 rfl)) (notFace_of_selects (args := #[]) (mvT hZ (own_w hw 138 rfl))) (mvT hZ (own_w hw 138 rfl)) (mvT hZ (own_w hw 137 rfl)) (by decide) (backOf (W := 0) (rm_waits0 l Z a0 hw [] b1069 aL T1086.heap n0 O1086 P1086) hZ (own_w hw 139 rfl) (own_w hw 123 rfl) (by decide) (by decide)) q1102a q1102c (g := (mkF m 152 #[.val (.int x0), .val (.int x1), .val (.ref b693), .val (.ref b696), .val (.ref b745), .val (.ref b753), .val (.int (0 : Int32)), .val (.ref b1069), .val (.int (1 : Int32))] [(.ref b1069)])) rfl (by rw [hml]; rfl) (Steps.refl _) (argsL := []) (rest := []) (lenOf pd_9 rfl) rfl (by show 2 * 0 + _ ≤ _; exact Nat.le_of_eq rfl) (hb hby at_152) (fun _ _ => ⟨rfl, e1101, (by decide : 16 + 0 ≤ _), (by decide : 70 + 0 ≤ _)⟩)
        dsimp only [Pt.U, Pt.locs, Pt.cells, Pt.slots] at X1102 l1102 y1102 z1102 st1102 hQ1102
        subst l1102 y1102 z1102
        obtain ⟨rfl, N1102q, e1102⟩ := hQ1102
        have N1102 := Fr.app N1101 N1102q
        refine own_goW (fun _ ww => Steps.trans st1102 ww) ?_
        show own_GoesW _ _ _ _ _ _ _ (T1102.setTop (mkF m 155 #[.val (.int x0), .val (.int x1), .val (.ref b693), .val (.ref b696), .val (.ref b745), .val (.ref b753), .val (.int (0 : Int32)), .val (.ref b1069), .val (.int (1 : Int32))] [(.int (1 : Int32))]))
        refine own_goW (fun _ ww => XS.aload X1102.here hx rfl (hb hby at_155) rfl rfl ww) ?_
        show own_GoesW _ _ _ _ _ _ _ (T1102.setTop (mkF m 157 #[.val (.int x0), .val (.int x1), .val (.ref b693), .val (.ref b696), .val (.ref b745), .val (.ref b753), .val (.int (0 : Int32)), .val (.ref b1069), .val (.int (1 : Int32))] [(.ref b1069), (.int (1 : Int32))]))
        obtain ⟨cq1103, kq1103, q1103a, q1103b, q1103c⟩ := isOf hZ e1102 f1100
        obtain ⟨_, _, ⟨T1103, L1103, k1103, n1103⟩, -, X1103, ⟨Lc1103, hQ1103, l1103, y1103, z1103⟩, st1103⟩ := X1102.virtualBack hx (y := own_y32) (z := own_y32) hown (mvT hZ (own_w hw 140 rfl)) (mvT hZ (own_w hw 141 rfl)) (notFace_of_selects (args := #[]) (mvT hZ (own_w hw 143 rfl))) (mvT hZ (own_w hw 143 rfl)) (mvT hZ (own_w hw 142 rfl)) (by decide) (backOf (W := 1) (rm_entry0 l Z a0 hw [] b1069 aL T1086.heap n0 O1086 P1086) hZ (own_w hw 144 rfl) (own_w hw 123 rfl) (by decide) (by decide)) q1103a q1103c (g := (mkF m 157 #[.val (.int x0), .val (.int x1), .val (.ref b693), .val (.ref b696), .val (.ref b745), .val (.ref b753), .val (.int (0 : Int32)), .val (.ref b1069), .val (.int (1 : Int32))] [(.ref b1069), (.int (1 : Int32))])) rfl (by rw [hml]; rfl) (Steps.refl _) (argsL := []) (rest := [(.int (1 : Int32))]) (lenOf pd_19 rfl) rfl (by show 2 * 0 + _ ≤ _; exact Nat.le_of_eq rfl) (hb hby at_157) (fun _ _ => ⟨rfl, e1102, (by decide : 16 + 0 ≤ _), (by decide : 70 + 0 ≤ _)⟩)
        dsimp only [Pt.U, Pt.locs, Pt.cells, Pt.slots] at X1103 l1103 y1103 z1103 st1103 hQ1103
        subst l1103 y1103 z1103
        obtain ⟨rfl, N1103q, e1103⟩ := hQ1103
        have N1103 := Fr.app N1102 N1103q
        refine own_goW (fun _ ww => Steps.trans st1103 ww) ?_
        show own_GoesW _ _ _ _ _ _ _ (T1103.setTop (mkF m 160 #[.val (.int x0), .val (.int x1), .val (.ref b693), .val (.ref b696), .val (.ref b745), .val (.ref b753), .val (.int (0 : Int32)), .val (.ref b1069), .val (.int (1 : Int32))] [.null, (.int (1 : Int32))]))
        refine own_goW (fun _ ww => XT.ifnonnullNo X1103.here hx rfl (hb hby at_160) rfl ww) ?_
        show own_GoesW _ _ _ _ _ _ _ (T1103.setTop (mkF m 163 #[.val (.int x0), .val (.int x1), .val (.ref b693), .val (.ref b696), .val (.ref b745), .val (.ref b753), .val (.int (0 : Int32)), .val (.ref b1069), .val (.int (1 : Int32))] [(.int (1 : Int32))]))
        refine own_goW (fun _ ww => XS.iconst X1103.here hx rfl (hb hby at_163) ww) ?_
        show own_GoesW _ _ _ _ _ _ _ (T1103.setTop (mkF m 164 #[.val (.int x0), .val (.int x1), .val (.ref b693), .val (.ref b696), .val (.ref b745), .val (.ref b753), .val (.int (0 : Int32)), .val (.ref b1069), .val (.int (1 : Int32))] [(.int (1 : Int32)), (.int (1 : Int32))]))
        refine own_goW (fun _ ww => XS.goto X1103.here hx rfl (pc0 := 164) (pc' := 168) rfl (hb hby at_164) (by decide) (by decide) ww) ?_
        show own_GoesW _ _ _ _ _ _ _ (T1103.setTop (mkF m 168 #[.val (.int x0), .val (.int x1), .val (.ref b693), .val (.ref b696), .val (.ref b745), .val (.ref b753), .val (.int (0 : Int32)), .val (.ref b1069), .val (.int (1 : Int32))] [(.int (1 : Int32)), (.int (1 : Int32))]))
        refine own_goW (fun _ ww => XS.icmpNo X1103.here hx rfl (hb hby at_168) rfl (teq (by decide : (1 : Int32) = (1 : Int32))).2 ww) ?_
        show own_GoesW _ _ _ _ _ _ _ (T1103.setTop (mkF m 171 #[.val (.int x0), .val (.int x1), .val (.ref b693), .val (.ref b696), .val (.ref b745), .val (.ref b753), .val (.int (0 : Int32)), .val (.ref b1069), .val (.int (1 : Int32))] []))
        refine own_goW (fun _ ww => XS.iconst X1103.here hx rfl (hb hby at_171) ww) ?_
        show own_GoesW _ _ _ _ _ _ _ (T1103.setTop (mkF m 172 #[.val (.int x0), .val (.int x1), .val (.ref b693), .val (.ref b696), .val (.ref b745), .val (.ref b753), .val (.int (0 : Int32)), .val (.ref b1069), .val (.int (1 : Int32))] [(.int (1 : Int32))]))
        refine own_goW (fun _ ww => XS.goto X1103.here hx rfl (pc0 := 172) (pc' := 176) rfl (hb hby at_172) (by decide) (by decide) ww) ?_
        show own_GoesW _ _ _ _ _ _ _ (T1103.setTop (mkF m 176 #[.val (.int x0), .val (.int x1), .val (.ref b693), .val (.ref b696), .val (.ref b745), .val (.ref b753), .val (.int (0 : Int32)), .val (.ref b1069), .val (.int (1 : Int32))] [(.int (1 : Int32))]))
        refine own_goW (fun _ ww => XS.istore X1103.here hx rfl (hb hby at_176) rfl (l' := #[.val (.int x0), .val (.int x1), .val (.ref b693), .val (.ref b696), .val (.ref b745), .val (.ref b753), .val (.int (0 : Int32)), .val (.ref b1069), .val (.int (1 : Int32))]) rfl ww) ?_
        show own_GoesW _ _ _ _ _ _ _ (T1103.setTop (mkF m 178 #[.val (.int x0), .val (.int x1), .val (.ref b693), .val (.ref b696), .val (.ref b745), .val (.ref b753), .val (.int (0 : Int32)), .val (.ref b1069), .val (.int (1 : Int32))] []))
        refine own_goW (fun _ ww => XS.iload X1103.here hx rfl (hb hby at_178) rfl  ww) ?_
        show own_GoesW _ _ _ _ _ _ _ (T1103.setTop (mkF m 180 #[.val (.int x0), .val (.int x1), .val (.ref b693), .val (.ref b696), .val (.ref b745), .val (.ref b753), .val (.int (0 : Int32)), .val (.ref b1069), .val (.int (1 : Int32))] [(.int (1 : Int32))]))
        refine own_goW (fun _ ww => XS.ifNo X1103.here hx rfl (hb hby at_180) rfl (own_if .eq (feq (by decide : ¬ ((1 : Int32) = (0 : Int32)))).1) ww) ?_
        show own_GoesW _ _ _ _ _ _ _ (T1103.setTop (mkF m 183 #[.val (.int x0), .val (.int x1), .val (.ref b693), .val (.ref b696), .val (.ref b745), .val (.ref b753), .val (.int (0 : Int32)), .val (.ref b1069), .val (.int (1 : Int32))] []))
        refine own_goW (fun _ ww => XS.aload X1103.here hx rfl (hb hby at_183) rfl rfl ww) ?_
        show own_GoesW _ _ _ _ _ _ _ (T1103.setTop (mkF m 185 #[.val (.int x0), .val (.int x1), .val (.ref b693), .val (.ref b696), .val (.ref b745), .val (.ref b753), .val (.int (0 : Int32)), .val (.ref b1069), .val (.int (1 : Int32))] [(.ref b1069)]))
        obtain ⟨cq1104, kq1104, q1104a, q1104b, q1104c⟩ := isOf hZ e1103 f1100
        obtain ⟨_, _, ⟨T1104, L1104, k1104, n1104⟩, -, X1104, ⟨Lc1104, hQ1104, l1104, y1104, z1104⟩, st1104⟩ := X1103.virtualBack hx (y := own_y29) (z := own_y29) hown (mvT hZ (own_w hw 145 rfl)) (mvT hZ (own_w hw 146 rfl)) (notFace_of_selects (args := #[]) (mvT hZ (own_w hw 148 rfl))) (mvT hZ (own_w hw 148 rfl)) (mvT hZ (own_w hw 147 rfl)) (by decide) (backOf (W := 0) (rm_waitingII l Z a0 hw [] b1069 b696 mr aL aX r1_1086 "java/util/ImmutableCollections$List12" r2_1086 "java/util/ImmutableCollections$List12" T1086.heap n0 O1086 f1087 MK SL SX EL FL Q1086 R1086 E0_1086 (Or.inl rfl) E1_1086 (Or.inl rfl)) hZ (own_w hw 149 rfl) (own_w hw 123 rfl) (by decide) (by decide)) q1104a q1104c (g := (mkF m 185 #[.val (.int x0), .val (.int x1), .val (.ref b693), .val (.ref b696), .val (.ref b745), .val (.ref b753), .val (.int (0 : Int32)), .val (.ref b1069), .val (.int (1 : Int32))] [(.ref b1069)])) rfl (by rw [hml]; rfl) (Steps.refl _) (argsL := []) (rest := []) (lenOf pd_20 rfl) rfl (by show 2 * 0 + _ ≤ _; exact Nat.le_of_eq rfl) (hb hby at_185) (fun _ _ => ⟨rfl, e1103, (by decide : 16 + 1 ≤ _), (by decide : 70 + 4 ≤ _)⟩)
        dsimp only [Pt.U, Pt.locs, Pt.cells, Pt.slots] at X1104 l1104 y1104 z1104 st1104 hQ1104
        subst l1104 y1104 z1104
        obtain ⟨r1104, rfl, N1104q, B1104, K1104q, E1104q, P1104⟩ := hQ1104
        have N1104 := Fr.app N1103 N1104q
        have hk := Nat.le_trans hk (own_ks K1104q)
        have ne_b696_r1104 : b696 ≠ r1104 := Nat.ne_of_lt (Nat.lt_of_lt_of_le f1087.lt B1104)
        have ne_b1069_r1104 : b1069 ≠ r1104 := Nat.ne_of_lt (Nat.lt_of_lt_of_le f1100.lt B1104)
        have ne_r1_1086_r1104 : r1_1086 ≠ r1104 := Nat.ne_of_lt (Nat.lt_of_lt_of_le E0_1086.lt B1104)
        have ne_r2_1086_r1104 : r2_1086 ≠ r1104 := Nat.ne_of_lt (Nat.lt_of_lt_of_le E1_1086.lt B1104)
        have g_r1104 : n0 ≤ r1104 := Nat.le_trans (O1086.1 ▸ O1086.2.1) B1104
        have f1105 := (f1087.keep K1104q)
        have f1106 := (f1100.keep K1104q)
        have f1107 := (P1086.keep K1104q nin0)
        have f1108 := (Q1086.keep K1104q nin0)
        have f1109 := (R1086.keep K1104q nin0)
        have f1110 := (E0_1086.keep K1104q)
        have f1111 := (E1_1086.keep K1104q)
        have O1104 := O1086.keep K1104q all0
        refine own_goW (fun _ ww => Steps.trans st1104 ww) ?_
        show own_GoesW _ _ _ _ _ _ _ (T1104.setTop (mkF m 188 #[.val (.int x0), .val (.int x1), .val (.ref b693), .val (.ref b696), .val (.ref b745), .val (.ref b753), .val (.int (0 : Int32)), .val (.ref b1069), .val (.int (1 : Int32))] [(.ref r1104)]))
        obtain ⟨cq1112, kq1112, q1112a, q1112b, q1112c⟩ := isOf hZ rfl E1104q
        obtain ⟨_, _, ⟨T1112, L1112, k1112, n1112⟩, -, X1112, ⟨Lc1112, hQ1112, l1112, y1112, z1112⟩, st1112⟩ := X1104.virtualBack hx (y := own_y31) (z := own_y31) hown (mvT hZ (own_w hw 135 rfl)) (mvT hZ (own_w hw 136 rfl)) (notFace_of_selects (args := #[]) (mvT hZ (own_w hw 138 rfl))) (mvT hZ (own_w hw 138 rfl)) (mvT hZ (own_w hw 137 rfl)) (by decide) (backOf (W := 0) (rm_waits0 l Z a0 hw [] r1104 aL T1104.heap n0 O1104 P1104) hZ (own_w hw 139 rfl) (own_w hw 123 rfl) (by decide) (by decide)) q1112a q1112c (g := (mkF m 188 #[.val (.int x0), .val (.int x1), .val (.ref b693), .val (.ref b696), .val (.ref b745), .val (.ref b753), .val (.int (0 : Int32)), .val (.ref b1069), .val (.int (1 : Int32))] [(.ref r1104)])) rfl (by rw [hml]; rfl) (Steps.refl _) (argsL := []) (rest := []) (lenOf pd_9 rfl) rfl (by show 2 * 0 + _ ≤ _; exact Nat.le_of_eq rfl) (hb hby at_188) (fun _ _ => ⟨rfl, rfl, (by decide : 17 + 0 ≤ _), (by decide : 74 + 0 ≤ _)⟩)
        dsimp only [Pt.U, Pt.locs, Pt.cells, Pt.slots] at X1112 l1112 y1112 z1112 st1112 hQ1112
        subst l1112 y1112 z1112
        obtain ⟨rfl, N1112q, e1112⟩ := hQ1112
        have N1112 := Fr.app N1104 N1112q
        refine own_goW (fun _ ww => Steps.trans st1112 ww) ?_
        show own_GoesW _ _ _ _ _ _ _ (T1112.setTop (mkF m 191 #[.val (.int x0), .val (.int x1), .val (.ref b693), .val (.ref b696), .val (.ref b745), .val (.ref b753), .val (.int (0 : Int32)), .val (.ref b1069), .val (.int (1 : Int32))] [(.int (1 : Int32))]))
        refine own_goW (fun _ ww => XS.ifNo X1112.here hx rfl (hb hby at_191) rfl (own_if .eq (feq (by decide : ¬ ((1 : Int32) = (0 : Int32)))).1) ww) ?_
        show own_GoesW _ _ _ _ _ _ _ (T1112.setTop (mkF m 194 #[.val (.int x0), .val (.int x1), .val (.ref b693), .val (.ref b696), .val (.ref b745), .val (.ref b753), .val (.int (0 : Int32)), .val (.ref b1069), .val (.int (1 : Int32))] []))
        refine own_goW (fun _ ww => XS.iconst X1112.here hx rfl (hb hby at_194) ww) ?_
        show own_GoesW _ _ _ _ _ _ _ (T1112.setTop (mkF m 195 #[.val (.int x0), .val (.int x1), .val (.ref b693), .val (.ref b696), .val (.ref b745), .val (.ref b753), .val (.int (0 : Int32)), .val (.ref b1069), .val (.int (1 : Int32))] [(.int (1 : Int32))]))
        refine own_goW (fun _ ww => XS.goto X1112.here hx rfl (pc0 := 195) (pc' := 199) rfl (hb hby at_195) (by decide) (by decide) ww) ?_
        show own_GoesW _ _ _ _ _ _ _ (T1112.setTop (mkF m 199 #[.val (.int x0), .val (.int x1), .val (.ref b693), .val (.ref b696), .val (.ref b745), .val (.ref b753), .val (.int (0 : Int32)), .val (.ref b1069), .val (.int (1 : Int32))] [(.int (1 : Int32))]))
        refine own_goW (fun _ ww => XS.istore X1112.here hx rfl (hb hby at_199) rfl (l' := #[.val (.int x0), .val (.int x1), .val (.ref b693), .val (.ref b696), .val (.ref b745), .val (.ref b753), .val (.int (0 : Int32)), .val (.ref b1069), .val (.int (1 : Int32))]) rfl ww) ?_
        show own_GoesW _ _ _ _ _ _ _ (T1112.setTop (mkF m 201 #[.val (.int x0), .val (.int x1), .val (.ref b693), .val (.ref b696), .val (.ref b745), .val (.ref b753), .val (.int (0 : Int32)), .val (.ref b1069), .val (.int (1 : Int32))] []))
        refine own_goW (fun _ ww => XS.iload X1112.here hx rfl (hb hby at_201) rfl  ww) ?_
        show own_GoesW _ _ _ _ _ _ _ (T1112.setTop (mkF m 203 #[.val (.int x0), .val (.int x1), .val (.ref b693), .val (.ref b696), .val (.ref b745), .val (.ref b753), .val (.int (0 : Int32)), .val (.ref b1069), .val (.int (1 : Int32))] [(.int (1 : Int32))]))
        refine own_goW (fun _ ww => XS.ifNo X1112.here hx rfl (hb hby at_203) rfl (own_if .eq (feq (by decide : ¬ ((1 : Int32) = (0 : Int32)))).1) ww) ?_
        show own_GoesW _ _ _ _ _ _ _ (T1112.setTop (mkF m 206 #[.val (.int x0), .val (.int x1), .val (.ref b693), .val (.ref b696), .val (.ref b745), .val (.ref b753), .val (.int (0 : Int32)), .val (.ref b1069), .val (.int (1 : Int32))] []))
        refine own_goW (fun _ ww => XS.aload X1112.here hx rfl (hb hby at_206) rfl rfl ww) ?_
        show own_GoesW _ _ _ _ _ _ _ (T1112.setTop (mkF m 208 #[.val (.int x0), .val (.int x1), .val (.ref b693), .val (.ref b696), .val (.ref b745), .val (.ref b753), .val (.int (0 : Int32)), .val (.ref b1069), .val (.int (1 : Int32))] [(.ref b1069)]))
        refine own_goW (fun _ ww => XS.aloadN X1112.here hx rfl (hb hby at_208) rfl rfl ww) ?_
        show own_GoesW _ _ _ _ _ _ _ (T1112.setTop (mkF m 209 #[.val (.int x0), .val (.int x1), .val (.ref b693), .val (.ref b696), .val (.ref b745), .val (.ref b753), .val (.int (0 : Int32)), .val (.ref b1069), .val (.int (1 : Int32))] [(.ref b696), (.ref b1069)]))
        obtain ⟨cq1113, kq1113, q1113a, q1113b, q1113c⟩ := isOf hZ e1112 f1106
        obtain ⟨_, _, ⟨T1113, L1113, k1113, n1113⟩, -, X1113, ⟨Lc1113, hQ1113, l1113, y1113, z1113⟩, st1113⟩ := X1112.virtualBack hx (y := own_y30) (z := own_y30) hown (mvT hZ (own_w hw 160 rfl)) (mvT hZ (own_w hw 161 rfl)) (notFace_of_selects (args := #[]) (mvT hZ (own_w hw 163 rfl))) (mvT hZ (own_w hw 163 rfl)) (mvT hZ (own_w hw 162 rfl)) (by decide) (backOf (W := 0) (rm_showingII l Z a0 hw [] b1069 b696 mr aL aX r1_1086 "java/util/ImmutableCollections$List12" r2_1086 "java/util/ImmutableCollections$List12" T1104.heap n0 O1104 f1105 MK SL SX EL FL f1108 f1109 f1110 (Or.inl rfl) f1111 (Or.inl rfl)) hZ (own_w hw 164 rfl) (own_w hw 123 rfl) (by decide) (by decide)) q1113a q1113c (g := (mkF m 209 #[.val (.int x0), .val (.int x1), .val (.ref b693), .val (.ref b696), .val (.ref b745), .val (.ref b753), .val (.int (0 : Int32)), .val (.ref b1069), .val (.int (1 : Int32))] [(.ref b696), (.ref b1069)])) rfl (by rw [hml]; rfl) (Steps.refl _) (argsL := [(.ref b696)]) (rest := []) (lenOf pd_21 rfl) rfl (by show 2 * 0 + _ ≤ _; exact Nat.le_of_eq rfl) (hb hby at_209) (fun _ _ => ⟨rfl, e1112, (by decide : 17 + 1 ≤ _), (by decide : 74 + 4 ≤ _)⟩)
        dsimp only [Pt.U, Pt.locs, Pt.cells, Pt.slots] at X1113 l1113 y1113 z1113 st1113 hQ1113
        subst l1113 y1113 z1113
        obtain ⟨r1113, rfl, N1113q, B1113, K1113q, E1113q, P1113⟩ := hQ1113
        have N1113 := Fr.app N1112 N1113q
        have hk := Nat.le_trans hk (own_ks K1113q)
        have ne_b696_r1113 : b696 ≠ r1113 := Nat.ne_of_lt (Nat.lt_of_lt_of_le f1105.lt B1113)
        have ne_b1069_r1113 : b1069 ≠ r1113 := Nat.ne_of_lt (Nat.lt_of_lt_of_le f1106.lt B1113)
        have ne_r1_1086_r1113 : r1_1086 ≠ r1113 := Nat.ne_of_lt (Nat.lt_of_lt_of_le f1110.lt B1113)
        have ne_r2_1086_r1113 : r2_1086 ≠ r1113 := Nat.ne_of_lt (Nat.lt_of_lt_of_le f1111.lt B1113)
        have g_r1113 : n0 ≤ r1113 := Nat.le_trans (O1104.1 ▸ O1104.2.1) B1113
        have f1114 := (f1105.keep K1113q)
        have f1115 := (f1106.keep K1113q)
        have f1116 := (f1107.keep K1113q nin0)
        have f1117 := (f1108.keep K1113q nin0)
        have f1118 := (f1109.keep K1113q nin0)
        have f1119 := (f1110.keep K1113q)
        have f1120 := (f1111.keep K1113q)
        have O1113 := O1104.keep K1113q all0
        refine own_goW (fun _ ww => Steps.trans st1113 ww) ?_
        show own_GoesW _ _ _ _ _ _ _ (T1113.setTop (mkF m 212 #[.val (.int x0), .val (.int x1), .val (.ref b693), .val (.ref b696), .val (.ref b745), .val (.ref b753), .val (.int (0 : Int32)), .val (.ref b1069), .val (.int (1 : Int32))] [(.ref r1113)]))
        obtain ⟨cq1121, kq1121, q1121a, q1121b, q1121c⟩ := isOf hZ rfl E1113q
        obtain ⟨_, _, ⟨T1121, L1121, k1121, n1121⟩, -, X1121, ⟨Lc1121, hQ1121, l1121, y1121, z1121⟩, st1121⟩ := X1113.virtualBack hx (y := own_y31) (z := own_y31) hown (mvT hZ (own_w hw 135 rfl)) (mvT hZ (own_w hw 136 rfl)) (notFace_of_selects (args := #[]) (mvT hZ (own_w hw 138 rfl))) (mvT hZ (own_w hw 138 rfl)) (mvT hZ (own_w hw 137 rfl)) (by decide) (backOf (W := 0) (rm_waits1 l Z a0 hw [] r1113 b696 T1113.heap n0 O1113 P1113) hZ (own_w hw 139 rfl) (own_w hw 123 rfl) (by decide) (by decide)) q1121a q1121c (g := (mkF m 212 #[.val (.int x0), .val (.int x1), .val (.ref b693), .val (.ref b696), .val (.ref b745), .val (.ref b753), .val (.int (0 : Int32)), .val (.ref b1069), .val (.int (1 : Int32))] [(.ref r1113)])) rfl (by rw [hml]; rfl) (Steps.refl _) (argsL := []) (rest := []) (lenOf pd_9 rfl) rfl (by show 2 * 0 + _ ≤ _; exact Nat.le_of_eq rfl) (hb hby at_212) (fun _ _ => ⟨rfl, rfl, (by decide : 18 + 0 ≤ _), (by decide : 78 + 0 ≤ _)⟩)
        dsimp only [Pt.U, Pt.locs, Pt.cells, Pt.slots] at X1121 l1121 y1121 z1121 st1121 hQ1121
        subst l1121 y1121 z1121
        obtain ⟨rfl, N1121q, e1121⟩ := hQ1121
        have N1121 := Fr.app N1113 N1121q
        refine own_goW (fun _ ww => Steps.trans st1121 ww) ?_
        show own_GoesW _ _ _ _ _ _ _ (T1121.setTop (mkF m 215 #[.val (.int x0), .val (.int x1), .val (.ref b693), .val (.ref b696), .val (.ref b745), .val (.ref b753), .val (.int (0 : Int32)), .val (.ref b1069), .val (.int (1 : Int32))] [(.int (0 : Int32))]))
        refine own_goW (fun _ ww => XS.ifNo X1121.here hx rfl (hb hby at_215) rfl (own_if .ne (teq (by decide : (0 : Int32) = (0 : Int32))).2) ww) ?_
        show own_GoesW _ _ _ _ _ _ _ (T1121.setTop (mkF m 218 #[.val (.int x0), .val (.int x1), .val (.ref b693), .val (.ref b696), .val (.ref b745), .val (.ref b753), .val (.int (0 : Int32)), .val (.ref b1069), .val (.int (1 : Int32))] []))
        refine own_goW (fun _ ww => XS.iconst X1121.here hx rfl (hb hby at_218) ww) ?_
        show own_GoesW _ _ _ _ _ _ _ (T1121.setTop (mkF m 219 #[.val (.int x0), .val (.int x1), .val (.ref b693), .val (.ref b696), .val (.ref b745), .val (.ref b753), .val (.int (0 : Int32)), .val (.ref b1069), .val (.int (1 : Int32))] [(.int (1 : Int32))]))
        refine own_goW (fun _ ww => XS.goto X1121.here hx rfl (pc0 := 219) (pc' := 223) rfl (hb hby at_219) (by decide) (by decide) ww) ?_
        show own_GoesW _ _ _ _ _ _ _ (T1121.setTop (mkF m 223 #[.val (.int x0), .val (.int x1), .val (.ref b693), .val (.ref b696), .val (.ref b745), .val (.ref b753), .val (.int (0 : Int32)), .val (.ref b1069), .val (.int (1 : Int32))] [(.int (1 : Int32))]))
        refine own_goW (fun _ ww => XS.istore X1121.here hx rfl (hb hby at_223) rfl (l' := #[.val (.int x0), .val (.int x1), .val (.ref b693), .val (.ref b696), .val (.ref b745), .val (.ref b753), .val (.int (0 : Int32)), .val (.ref b1069), .val (.int (1 : Int32))]) rfl ww) ?_
        show own_GoesW _ _ _ _ _ _ _ (T1121.setTop (mkF m 225 #[.val (.int x0), .val (.int x1), .val (.ref b693), .val (.ref b696), .val (.ref b745), .val (.ref b753), .val (.int (0 : Int32)), .val (.ref b1069), .val (.int (1 : Int32))] []))
        refine own_goW (fun _ ww => XS.iload X1121.here hx rfl (hb hby at_225) rfl  ww) ?_
        show own_GoesW _ _ _ _ _ _ _ (T1121.setTop (mkF m 227 #[.val (.int x0), .val (.int x1), .val (.ref b693), .val (.ref b696), .val (.ref b745), .val (.ref b753), .val (.int (0 : Int32)), .val (.ref b1069), .val (.int (1 : Int32))] [(.int (1 : Int32))]))
        exact own_outW X1121 hS hk hlk (v := some (.int (1 : Int32))) (fun h => by rw [hret] at h; cases h) (fun fs hr => retOut X1121 hx (t := .boolean) hret (by decide) (Or.inl ⟨rfl, by simp, _, rfl⟩) (hb hby at_227) hr) e1121 ⟨rfl, N1121⟩ (by decide) (by decide)
      ·
        refine own_goW (fun _ ww => XS.ifNo X1059.here hx rfl (hb hby at_87) rfl (own_if .eq (feq hc1068).1) ww) ?_
        show own_GoesW _ _ _ _ _ _ _ (T1059.setTop (mkF m 90 #[.val (.int x0), .val (.int x1), .val (.ref b693), .val (.ref b696), .val (.ref b745), .val (.ref b753), .unset, .unset, .unset] []))
        refine own_goW (fun _ ww => XS.iconst X1059.here hx rfl (hb hby at_90) ww) ?_
        show own_GoesW _ _ _ _ _ _ _ (T1059.setTop (mkF m 91 #[.val (.int x0), .val (.int x1), .val (.ref b693), .val (.ref b696), .val (.ref b745), .val (.ref b753), .unset, .unset, .unset] [(.int (1 : Int32))]))
        refine own_goW (fun _ ww => XS.goto X1059.here hx rfl (pc0 := 91) (pc' := 95) rfl (hb hby at_91) (by decide) (by decide) ww) ?_
        show own_GoesW _ _ _ _ _ _ _ (T1059.setTop (mkF m 95 #[.val (.int x0), .val (.int x1), .val (.ref b693), .val (.ref b696), .val (.ref b745), .val (.ref b753), .unset, .unset, .unset] [(.int (1 : Int32))]))
        refine own_goW (fun _ ww => XS.istore X1059.here hx rfl (hb hby at_95) rfl (l' := #[.val (.int x0), .val (.int x1), .val (.ref b693), .val (.ref b696), .val (.ref b745), .val (.ref b753), .val (.int (1 : Int32)), .unset, .unset]) rfl ww) ?_
        show own_GoesW _ _ _ _ _ _ _ (T1059.setTop (mkF m 97 #[.val (.int x0), .val (.int x1), .val (.ref b693), .val (.ref b696), .val (.ref b745), .val (.ref b753), .val (.int (1 : Int32)), .unset, .unset] []))
        obtain ⟨T1122, h1122, X1122, e1122, E1122, A1122, D1122, -, st1122⟩ := newO X1059 hx hZ hown (own_w hw 121 rfl) (own_w hw 122 rfl) (own_w hw 123 rfl) rfl (g := (mkF m 97 #[.val (.int x0), .val (.int x1), .val (.ref b693), .val (.ref b696), .val (.ref b745), .val (.ref b753), .val (.int (1 : Int32)), .unset, .unset] [])) rfl (hb hby at_97) (by decide) (by decide)
        obtain ⟨b1122, g1122⟩ : ∃ z, z = T1059.heap.size := ⟨_, rfl⟩
        rw [← g1122] at A1122 D1122 st1122
        have ne_b696_b1122 : b696 ≠ b1122 := Nat.ne_of_lt (Nat.lt_of_lt_of_le f1060.lt (Nat.le_of_eq g1122.symm))
        have ne_b745_b1122 : b745 ≠ b1122 := Nat.ne_of_lt (Nat.lt_of_lt_of_le f1061.lt (Nat.le_of_eq g1122.symm))
        have ne_b753_b1122 : b753 ≠ b1122 := Nat.ne_of_lt (Nat.lt_of_lt_of_le f1062.lt (Nat.le_of_eq g1122.symm))
        have ne_t956_b1122 : t956 ≠ b1122 := Nat.ne_of_lt (Nat.lt_of_lt_of_le f1066.lt (Nat.le_of_eq g1122.symm))
        have ne_t1059_b1122 : t1059 ≠ b1122 := Nat.ne_of_lt (Nat.lt_of_lt_of_le V1059q.lt (Nat.le_of_eq g1122.symm))
        have g_b1122 : n0 ≤ b1122 := Nat.le_trans (O1059.1 ▸ O1059.2.1) (Nat.le_of_eq g1122.symm)
        have f1123 := (f1060.ext E1122)
        have f1124 := (f1061.ext E1122)
        have f1125 := (f1062.ext E1122)
        have f1126 := (f1063.ext E1122)
        have f1127 := (f1064.ext E1122)
        have f1128 := (f1065.ext E1122)
        have f1129 : Arv Z h1122 t956 kk956 (.object "java/lang/Object") (10 : Int32) [(.ref b696), .null, .null, .null, .null, .null, .null, .null, .null, .null] .null := (Arv.ext f1066 E1122)
        have f1130 := (f1067.ext E1122)
        have f1131 := (P1059.ext E1122)
        have f1132 := (Q1059.ext E1122)
        have f1133 := (R1059.ext E1122)
        have f1134 : Arv Z h1122 t1059 kk1059 (.object "java/lang/Object") (10 : Int32) [(.ref b696), .null, .null, .null, .null, .null, .null, .null, .null, .null] .null := (Arv.ext V1059q E1122)
        have f1135 := (E1059q.ext E1122)
        have O1122 := O1059.ext E1122
        have hk := Nat.le_trans hk E1122.1
        have f1136 : Fld Z h1122 b1122 "com/example/navlint/navlint/model/State$Tab" "entry" "Lcom/example/navlint/navlint/model/Entry;" .null := D1122 (Or.inr (own_w hw 129 rfl)) (ty := (.object "com/example/navlint/navlint/model/Entry")) (by decide)
        have f1137 : Fld Z h1122 b1122 "com/example/navlint/navlint/model/State$Tab" "back" "Ljava/util/List;" .null := D1122 (Or.inr (own_w hw 132 rfl)) (ty := (.object "java/util/List")) (by decide)
        have f1138 : Fld Z h1122 b1122 "com/example/navlint/navlint/model/State$Tab" "forward" "Ljava/util/List;" .null := D1122 (Or.inr (own_w hw 134 rfl)) (ty := (.object "java/util/List")) (by decide)
        refine own_goW st1122 ?_
        show own_GoesW _ _ _ _ _ _ _ (T1122.setTop (mkF m 100 #[.val (.int x0), .val (.int x1), .val (.ref b693), .val (.ref b696), .val (.ref b745), .val (.ref b753), .val (.int (1 : Int32)), .unset, .unset] [(.ref b1122)]))
        refine own_goW (fun _ ww => XS.dup X1122.here hx rfl (hb hby at_100) rfl rfl ww) ?_
        show own_GoesW _ _ _ _ _ _ _ (T1122.setTop (mkF m 101 #[.val (.int x0), .val (.int x1), .val (.ref b693), .val (.ref b696), .val (.ref b745), .val (.ref b753), .val (.int (1 : Int32)), .unset, .unset] [(.ref b1122), (.ref b1122)]))
        refine own_goW (fun _ ww => XS.iload X1122.here hx rfl (hb hby at_101) rfl  ww) ?_
        show own_GoesW _ _ _ _ _ _ _ (T1122.setTop (mkF m 103 #[.val (.int x0), .val (.int x1), .val (.ref b693), .val (.ref b696), .val (.ref b745), .val (.ref b753), .val (.int (1 : Int32)), .unset, .unset] [(.int (1 : Int32)), (.ref b1122), (.ref b1122)]))
        refine own_goW (fun _ ww => XS.ifNo X1122.here hx rfl (hb hby at_103) rfl (own_if .eq (feq (by decide : ¬ ((1 : Int32) = (0 : Int32)))).1) ww) ?_
        show own_GoesW _ _ _ _ _ _ _ (T1122.setTop (mkF m 106 #[.val (.int x0), .val (.int x1), .val (.ref b693), .val (.ref b696), .val (.ref b745), .val (.ref b753), .val (.int (1 : Int32)), .unset, .unset] [(.ref b1122), (.ref b1122)]))
        refine own_goW (fun _ ww => XS.aloadN X1122.here hx rfl (hb hby at_106) rfl rfl ww) ?_
        show own_GoesW _ _ _ _ _ _ _ (T1122.setTop (mkF m 107 #[.val (.int x0), .val (.int x1), .val (.ref b693), .val (.ref b696), .val (.ref b745), .val (.ref b753), .val (.int (1 : Int32)), .unset, .unset] [(.ref b696), (.ref b1122), (.ref b1122)]))
        refine own_goW (fun _ ww => XS.goto X1122.here hx rfl (pc0 := 107) (pc' := 111) rfl (hb hby at_107) (by decide) (by decide) ww) ?_
        show own_GoesW _ _ _ _ _ _ _ (T1122.setTop (mkF m 111 #[.val (.int x0), .val (.int x1), .val (.ref b693), .val (.ref b696), .val (.ref b745), .val (.ref b753), .val (.int (1 : Int32)), .unset, .unset] [(.ref b696), (.ref b1122), (.ref b1122)]))
        refine own_goW (fun _ ww => XS.aload X1122.here hx rfl (hb hby at_111) rfl rfl ww) ?_
        show own_GoesW _ _ _ _ _ _ _ (T1122.setTop (mkF m 113 #[.val (.int x0), .val (.int x1), .val (.ref b693), .val (.ref b696), .val (.ref b745), .val (.ref b753), .val (.int (1 : Int32)), .unset, .unset] [(.ref b745), (.ref b696), (.ref b1122), (.ref b1122)]))
        refine own_goW (fun _ ww => XS.aload X1122.here hx rfl (hb hby at_113) rfl rfl ww) ?_
        show own_GoesW _ _ _ _ _ _ _ (T1122.setTop (mkF m 115 #[.val (.int x0), .val (.int x1), .val (.ref b693), .val (.ref b696), .val (.ref b745), .val (.ref b753), .val (.int (1 : Int32)), .unset, .unset] [(.ref b753), (.ref b745), (.ref b696), (.ref b1122), (.ref b1122)]))
        obtain ⟨_, _, ⟨T1139, L1139, k1139, n1139⟩, -, X1139, ⟨Lc1139, hQ1139, l1139, y1139, z1139⟩, st1139⟩ := X1122.specialBack hx (y := own_y28) rfl hown (mvT hZ (own_w hw 124 rfl)) (mvT hZ (own_w hw 125 rfl)) (mvT hZ (own_w hw 126 rfl)) (by decide) (backOf (W := 1) (rm_ti1nn l Z a0 hw [] b1122 b696 mr aL aX b745 t956 kk956 b753 t1059 kk1059 h1122 n0 O1122 f1136 f1137 f1138 A1122 g_b1122 f1123 MK SL SX EL FL f1127 f1128 f1124 f1129 f1130 ne_b745_b1122 ne_t956_b1122 f1132 f1133 f1125 f1134 f1135 ne_b753_b1122 ne_t1059_b1122) hZ (own_w hw 126 rfl) (own_w hw 123 rfl) (by decide) (by decide)) (g := (mkF m 115 #[.val (.int x0), .val (.int x1), .val (.ref b693), .val (.ref b696), .val (.ref b745), .val (.ref b753), .val (.int (1 : Int32)), .unset, .unset] [(.ref b753), (.ref b745), (.ref b696), (.ref b1122), (.ref b1122)])) rfl (by rw [hml]; rfl) (Steps.refl _) (a := b1122) (argsL := [(.ref b696), (.ref b745), (.ref b753)]) (rest := [(.ref b1122)]) (lenOf pd_15 rfl) rfl (by show 2 * 0 + _ ≤ _; exact Nat.le_of_eq rfl) (hb hby at_115) (fun _ _ => ⟨rfl, e1122, (by decide : 12 + 4 ≤ _), (by decide : 64 + 6 ≤ _)⟩)
        dsimp only [Pt.U, Pt.locs, Pt.cells, Pt.slots] at X1139 l1139 y1139 z1139 st1139 hQ1139
        subst l1139 y1139 z1139
        obtain ⟨r1_1139, r2_1139, rfl, N1139q, K1139q, P1139, Q1139, R1139, E0_1139, E1_1139⟩ := hQ1139
        have N1139 := Fr.app N1059 N1139q
        have hk := Nat.le_trans hk (own_ks K1139q)
        have f1140 := (f1123.keep K1139q)
        have f1141 := (f1124.keep K1139q)
        have f1142 := (f1125.keep K1139q)
        have f1143 := (f1126.keep K1139q (ninS ne_b745_b1122 nin0))
        have f1144 := (f1127.keep K1139q (ninS ne_b745_b1122 nin0))
        have f1145 := (f1128.keep K1139q (ninS ne_b745_b1122 nin0))
        have f1146 : Arv Z T1139.heap t956 kk956 (.object "java/lang/Object") (10 : Int32) [(.ref b696), .null, .null, .null, .null, .null, .null, .null, .null, .null] .null := (f1129.keep K1139q (ninS ne_t956_b1122 nin0))
        have f1147 := (f1130.keep K1139q)
        have f1148 := (f1131.keep K1139q (ninS ne_b753_b1122 nin0))
        have f1149 := (f1132.keep K1139q (ninS ne_b753_b1122 nin0))
        have f1150 := (f1133.keep K1139q (ninS ne_b753_b1122 nin0))
        have f1151 : Arv Z T1139.heap t1059 kk1059 (.object "java/lang/Object") (10 : Int32) [(.ref b696), .null, .null, .null, .null, .null, .null, .null, .null, .null] .null := (f1134.keep K1139q (ninS ne_t1059_b1122 nin0))
        have f1152 := (f1135.keep K1139q)
        have f1153 := (A1122.keep K1139q)
        have O1139 := O1122.keep K1139q (allS g_b1122 all0)
        refine own_goW (fun _ ww => Steps.trans st1139 ww) ?_
        show own_GoesW _ _ _ _ _ _ _ (T1139.setTop (mkF m 118 #[.val (.int x0), .val (.int x1), .val (.ref b693), .val (.ref b696), .val (.ref b745), .val (.ref b753), .val (.int (1 : Int32)), .unset, .unset] [(.ref b1122)]))
        refine own_goW (fun _ ww => XS.astore X1139.here hx rfl (hb hby at_118) rfl rfl (l' := #[.val (.int x0), .val (.int x1), .val (.ref b693), .val (.ref b696), .val (.ref b745), .val (.ref b753), .val (.int (1 : Int32)), .val (.ref b1122), .unset]) rfl ww) ?_
        show own_GoesW _ _ _ _ _ _ _ (T1139.setTop (mkF m 120 #[.val (.int x0), .val (.int x1), .val (.ref b693), .val (.ref b696), .val (.ref b745), .val (.ref b753), .val (.int (1 : Int32)), .val (.ref b1122), .unset] []))
        refine own_goW (fun _ ww => XS.aload X1139.here hx rfl (hb hby at_120) rfl rfl ww) ?_
        show own_GoesW _ _ _ _ _ _ _ (T1139.setTop (mkF m 122 #[.val (.int x0), .val (.int x1), .val (.ref b693), .val (.ref b696), .val (.ref b745), .val (.ref b753), .val (.int (1 : Int32)), .val (.ref b1122), .unset] [(.ref b1122)]))
        obtain ⟨cq1154, kq1154, q1154a, q1154b, q1154c⟩ := isOf hZ rfl f1153
        obtain ⟨_, _, ⟨T1154, L1154, k1154, n1154⟩, -, X1154, ⟨Lc1154, hQ1154, l1154, y1154, z1154⟩, st1154⟩ := X1139.virtualBack hx (y := own_y31) (z := own_y31) hown (mvT hZ (own_w hw 135 rfl)) (mvT hZ (own_w hw 136 rfl)) (notFace_of_selects (args := #[]) (mvT hZ (own_w hw 138 rfl))) (mvT hZ (own_w hw 138 rfl)) (mvT hZ (own_w hw 137 rfl)) (by decide) (backOf (W := 0) (rm_waits1 l Z a0 hw [] b1122 b696 T1139.heap n0 O1139 P1139) hZ (own_w hw 139 rfl) (own_w hw 123 rfl) (by decide) (by decide)) q1154a q1154c (g := (mkF m 122 #[.val (.int x0), .val (.int x1), .val (.ref b693), .val (.ref b696), .val (.ref b745), .val (.ref b753), .val (.int (1 : Int32)), .val (.ref b1122), .unset] [(.ref b1122)])) rfl (by rw [hml]; rfl) (Steps.refl _) (argsL := []) (rest := []) (lenOf pd_9 rfl) rfl (by show 2 * 0 + _ ≤ _; exact Nat.le_of_eq rfl) (hb hby at_122) (fun _ _ => ⟨rfl, rfl, (by decide : 16 + 0 ≤ _), (by decide : 70 + 0 ≤ _)⟩)
        dsimp only [Pt.U, Pt.locs, Pt.cells, Pt.slots] at X1154 l1154 y1154 z1154 st1154 hQ1154
        subst l1154 y1154 z1154
        obtain ⟨rfl, N1154q, e1154⟩ := hQ1154
        have N1154 := Fr.app N1139 N1154q
        refine own_goW (fun _ ww => Steps.trans st1154 ww) ?_
        show own_GoesW _ _ _ _ _ _ _ (T1154.setTop (mkF m 125 #[.val (.int x0), .val (.int x1), .val (.ref b693), .val (.ref b696), .val (.ref b745), .val (.ref b753), .val (.int (1 : Int32)), .val (.ref b1122), .unset] [(.int (0 : Int32))]))
        refine own_goW (fun _ ww => XS.iload X1154.here hx rfl (hb hby at_125) rfl  ww) ?_
        show own_GoesW _ _ _ _ _ _ _ (T1154.setTop (mkF m 127 #[.val (.int x0), .val (.int x1), .val (.ref b693), .val (.ref b696), .val (.ref b745), .val (.ref b753), .val (.int (1 : Int32)), .val (.ref b1122), .unset] [(.int (1 : Int32)), (.int (0 : Int32))]))
        refine own_goW (fun _ ww => XS.ifYes X1154.here hx rfl (pc0 := 127) (pc' := 134) rfl (hb hby at_127) rfl (own_if .ne (feq (by decide : ¬ ((1 : Int32) = (0 : Int32)))).2) (by decide) (by decide) ww) ?_
        show own_GoesW _ _ _ _ _ _ _ (T1154.setTop (mkF m 134 #[.val (.int x0), .val (.int x1), .val (.ref b693), .val (.ref b696), .val (.ref b745), .val (.ref b753), .val (.int (1 : Int32)), .val (.ref b1122), .unset] [(.int (0 : Int32))]))
        refine own_goW (fun _ ww => XS.iconst X1154.here hx rfl (hb hby at_134) ww) ?_
        show own_GoesW _ _ _ _ _ _ _ (T1154.setTop (mkF m 135 #[.val (.int x0), .val (.int x1), .val (.ref b693), .val (.ref b696), .val (.ref b745), .val (.ref b753), .val (.int (1 : Int32)), .val (.ref b1122), .unset] [(.int (0 : Int32)), (.int (0 : Int32))]))
        refine own_goW (fun _ ww => XS.icmpNo X1154.here hx rfl (hb hby at_135) rfl (teq (by decide : (0 : Int32) = (0 : Int32))).2 ww) ?_
        show own_GoesW _ _ _ _ _ _ _ (T1154.setTop (mkF m 138 #[.val (.int x0), .val (.int x1), .val (.ref b693), .val (.ref b696), .val (.ref b745), .val (.ref b753), .val (.int (1 : Int32)), .val (.ref b1122), .unset] []))
        refine own_goW (fun _ ww => XS.iconst X1154.here hx rfl (hb hby at_138) ww) ?_
        show own_GoesW _ _ _ _ _ _ _ (T1154.setTop (mkF m 139 #[.val (.int x0), .val (.int x1), .val (.ref b693), .val (.ref b696), .val (.ref b745), .val (.ref b753), .val (.int (1 : Int32)), .val (.ref b1122), .unset] [(.int (1 : Int32))]))
        refine own_goW (fun _ ww => XS.goto X1154.here hx rfl (pc0 := 139) (pc' := 143) rfl (hb hby at_139) (by decide) (by decide) ww) ?_
        show own_GoesW _ _ _ _ _ _ _ (T1154.setTop (mkF m 143 #[.val (.int x0), .val (.int x1), .val (.ref b693), .val (.ref b696), .val (.ref b745), .val (.ref b753), .val (.int (1 : Int32)), .val (.ref b1122), .unset] [(.int (1 : Int32))]))
        refine own_goW (fun _ ww => XS.istore X1154.here hx rfl (hb hby at_143) rfl (l' := #[.val (.int x0), .val (.int x1), .val (.ref b693), .val (.ref b696), .val (.ref b745), .val (.ref b753), .val (.int (1 : Int32)), .val (.ref b1122), .val (.int (1 : Int32))]) rfl ww) ?_
        show own_GoesW _ _ _ _ _ _ _ (T1154.setTop (mkF m 145 #[.val (.int x0), .val (.int x1), .val (.ref b693), .val (.ref b696), .val (.ref b745), .val (.ref b753), .val (.int (1 : Int32)), .val (.ref b1122), .val (.int (1 : Int32))] []))
        refine own_goW (fun _ ww => XS.iload X1154.here hx rfl (hb hby at_145) rfl  ww) ?_
        show own_GoesW _ _ _ _ _ _ _ (T1154.setTop (mkF m 147 #[.val (.int x0), .val (.int x1), .val (.ref b693), .val (.ref b696), .val (.ref b745), .val (.ref b753), .val (.int (1 : Int32)), .val (.ref b1122), .val (.int (1 : Int32))] [(.int (1 : Int32))]))
        refine own_goW (fun _ ww => XS.ifNo X1154.here hx rfl (hb hby at_147) rfl (own_if .eq (feq (by decide : ¬ ((1 : Int32) = (0 : Int32)))).1) ww) ?_
        show own_GoesW _ _ _ _ _ _ _ (T1154.setTop (mkF m 150 #[.val (.int x0), .val (.int x1), .val (.ref b693), .val (.ref b696), .val (.ref b745), .val (.ref b753), .val (.int (1 : Int32)), .val (.ref b1122), .val (.int (1 : Int32))] []))
        refine own_goW (fun _ ww => XS.aload X1154.here hx rfl (hb hby at_150) rfl rfl ww) ?_
        show own_GoesW _ _ _ _ _ _ _ (T1154.setTop (mkF m 152 #[.val (.int x0), .val (.int x1), .val (.ref b693), .val (.ref b696), .val (.ref b745), .val (.ref b753), .val (.int (1 : Int32)), .val (.ref b1122), .val (.int (1 : Int32))] [(.ref b1122)]))
        obtain ⟨cq1155, kq1155, q1155a, q1155b, q1155c⟩ := isOf hZ e1154 f1153
        obtain ⟨_, _, ⟨T1155, L1155, k1155, n1155⟩, -, X1155, ⟨Lc1155, hQ1155, l1155, y1155, z1155⟩, st1155⟩ := X1154.virtualBack hx (y := own_y31) (z := own_y31) hown (mvT hZ (own_w hw 135 rfl)) (mvT hZ (own_w hw 136 rfl)) (notFace_of_selects (args := #[]) (mvT hZ (own_w hw 138 rfl))) (mvT hZ (own_w hw 138 rfl)) (mvT hZ (own_w hw 137 rfl)) (by decide) (backOf (W := 0) (rm_waits1 l Z a0 hw [] b1122 b696 T1139.heap n0 O1139 P1139) hZ (own_w hw 139 rfl) (own_w hw 123 rfl) (by decide) (by decide)) q1155a q1155c (g := (mkF m 152 #[.val (.int x0), .val (.int x1), .val (.ref b693), .val (.ref b696), .val (.ref b745), .val (.ref b753), .val (.int (1 : Int32)), .val (.ref b1122), .val (.int (1 : Int32))] [(.ref b1122)])) rfl (by rw [hml]; rfl) (Steps.refl _) (argsL := []) (rest := []) (lenOf pd_9 rfl) rfl (by show 2 * 0 + _ ≤ _; exact Nat.le_of_eq rfl) (hb hby at_152) (fun _ _ => ⟨rfl, e1154, (by decide : 16 + 0 ≤ _), (by decide : 70 + 0 ≤ _)⟩)
        dsimp only [Pt.U, Pt.locs, Pt.cells, Pt.slots] at X1155 l1155 y1155 z1155 st1155 hQ1155
        subst l1155 y1155 z1155
        obtain ⟨rfl, N1155q, e1155⟩ := hQ1155
        have N1155 := Fr.app N1154 N1155q
        refine own_goW (fun _ ww => Steps.trans st1155 ww) ?_
        show own_GoesW _ _ _ _ _ _ _ (T1155.setTop (mkF m 155 #[.val (.int x0), .val (.int x1), .val (.ref b693), .val (.ref b696), .val (.ref b745), .val (.ref b753), .val (.int (1 : Int32)), .val (.ref b1122), .val (.int (1 : Int32))] [(.int (0 : Int32))]))
        refine own_goW (fun _ ww => XS.aload X1155.here hx rfl (hb hby at_155) rfl rfl ww) ?_
        show own_GoesW _ _ _ _ _ _ _ (T1155.setTop (mkF m 157 #[.val (.int x0), .val (.int x1), .val (.ref b693), .val (.ref b696), .val (.ref b745), .val (.ref b753), .val (.int (1 : Int32)), .val (.ref b1122), .val (.int (1 : Int32))] [(.ref b1122), (.int (0 : Int32))]))
        obtain ⟨cq1156, kq1156, q1156a, q1156b, q1156c⟩ := isOf hZ e1155 f1153
        obtain ⟨_, _, ⟨T1156, L1156, k1156, n1156⟩, -, X1156, ⟨Lc1156, hQ1156, l1156, y1156, z1156⟩, st1156⟩ := X1155.virtualBack hx (y := own_y32) (z := own_y32) hown (mvT hZ (own_w hw 140 rfl)) (mvT hZ (own_w hw 141 rfl)) (notFace_of_selects (args := #[]) (mvT hZ (own_w hw 143 rfl))) (mvT hZ (own_w hw 143 rfl)) (mvT hZ (own_w hw 142 rfl)) (by decide) (backOf (W := 1) (rm_entry1 l Z a0 hw [] b1122 b696 T1139.heap n0 O1139 P1139) hZ (own_w hw 144 rfl) (own_w hw 123 rfl) (by decide) (by decide)) q1156a q1156c (g := (mkF m 157 #[.val (.int x0), .val (.int x1), .val (.ref b693), .val (.ref b696), .val (.ref b745), .val (.ref b753), .val (.int (1 : Int32)), .val (.ref b1122), .val (.int (1 : Int32))] [(.ref b1122), (.int (0 : Int32))])) rfl (by rw [hml]; rfl) (Steps.refl _) (argsL := []) (rest := [(.int (0 : Int32))]) (lenOf pd_19 rfl) rfl (by show 2 * 0 + _ ≤ _; exact Nat.le_of_eq rfl) (hb hby at_157) (fun _ _ => ⟨rfl, e1155, (by decide : 16 + 0 ≤ _), (by decide : 70 + 0 ≤ _)⟩)
        dsimp only [Pt.U, Pt.locs, Pt.cells, Pt.slots] at X1156 l1156 y1156 z1156 st1156 hQ1156
        subst l1156 y1156 z1156
        obtain ⟨rfl, N1156q, e1156⟩ := hQ1156
        have N1156 := Fr.app N1155 N1156q
        refine own_goW (fun _ ww => Steps.trans st1156 ww) ?_
        show own_GoesW _ _ _ _ _ _ _ (T1156.setTop (mkF m 160 #[.val (.int x0), .val (.int x1), .val (.ref b693), .val (.ref b696), .val (.ref b745), .val (.ref b753), .val (.int (1 : Int32)), .val (.ref b1122), .val (.int (1 : Int32))] [(.ref b696), (.int (0 : Int32))]))
        refine own_goW (fun _ ww => XT.ifnonnullYes X1156.here hx rfl (pc0 := 160) (pc' := 167) rfl (hb hby at_160) rfl (by decide) (by decide) ww) ?_
        show own_GoesW _ _ _ _ _ _ _ (T1156.setTop (mkF m 167 #[.val (.int x0), .val (.int x1), .val (.ref b693), .val (.ref b696), .val (.ref b745), .val (.ref b753), .val (.int (1 : Int32)), .val (.ref b1122), .val (.int (1 : Int32))] [(.int (0 : Int32))]))
        refine own_goW (fun _ ww => XS.iconst X1156.here hx rfl (hb hby at_167) ww) ?_
        show own_GoesW _ _ _ _ _ _ _ (T1156.setTop (mkF m 168 #[.val (.int x0), .val (.int x1), .val (.ref b693), .val (.ref b696), .val (.ref b745), .val (.ref b753), .val (.int (1 : Int32)), .val (.ref b1122), .val (.int (1 : Int32))] [(.int (0 : Int32)), (.int (0 : Int32))]))
        refine own_goW (fun _ ww => XS.icmpNo X1156.here hx rfl (hb hby at_168) rfl (teq (by decide : (0 : Int32) = (0 : Int32))).2 ww) ?_
        show own_GoesW _ _ _ _ _ _ _ (T1156.setTop (mkF m 171 #[.val (.int x0), .val (.int x1), .val (.ref b693), .val (.ref b696), .val (.ref b745), .val (.ref b753), .val (.int (1 : Int32)), .val (.ref b1122), .val (.int (1 : Int32))] []))
        refine own_goW (fun _ ww => XS.iconst X1156.here hx rfl (hb hby at_171) ww) ?_
        show own_GoesW _ _ _ _ _ _ _ (T1156.setTop (mkF m 172 #[.val (.int x0), .val (.int x1), .val (.ref b693), .val (.ref b696), .val (.ref b745), .val (.ref b753), .val (.int (1 : Int32)), .val (.ref b1122), .val (.int (1 : Int32))] [(.int (1 : Int32))]))
        refine own_goW (fun _ ww => XS.goto X1156.here hx rfl (pc0 := 172) (pc' := 176) rfl (hb hby at_172) (by decide) (by decide) ww) ?_
        show own_GoesW _ _ _ _ _ _ _ (T1156.setTop (mkF m 176 #[.val (.int x0), .val (.int x1), .val (.ref b693), .val (.ref b696), .val (.ref b745), .val (.ref b753), .val (.int (1 : Int32)), .val (.ref b1122), .val (.int (1 : Int32))] [(.int (1 : Int32))]))
        refine own_goW (fun _ ww => XS.istore X1156.here hx rfl (hb hby at_176) rfl (l' := #[.val (.int x0), .val (.int x1), .val (.ref b693), .val (.ref b696), .val (.ref b745), .val (.ref b753), .val (.int (1 : Int32)), .val (.ref b1122), .val (.int (1 : Int32))]) rfl ww) ?_
        show own_GoesW _ _ _ _ _ _ _ (T1156.setTop (mkF m 178 #[.val (.int x0), .val (.int x1), .val (.ref b693), .val (.ref b696), .val (.ref b745), .val (.ref b753), .val (.int (1 : Int32)), .val (.ref b1122), .val (.int (1 : Int32))] []))
        refine own_goW (fun _ ww => XS.iload X1156.here hx rfl (hb hby at_178) rfl  ww) ?_
        show own_GoesW _ _ _ _ _ _ _ (T1156.setTop (mkF m 180 #[.val (.int x0), .val (.int x1), .val (.ref b693), .val (.ref b696), .val (.ref b745), .val (.ref b753), .val (.int (1 : Int32)), .val (.ref b1122), .val (.int (1 : Int32))] [(.int (1 : Int32))]))
        refine own_goW (fun _ ww => XS.ifNo X1156.here hx rfl (hb hby at_180) rfl (own_if .eq (feq (by decide : ¬ ((1 : Int32) = (0 : Int32)))).1) ww) ?_
        show own_GoesW _ _ _ _ _ _ _ (T1156.setTop (mkF m 183 #[.val (.int x0), .val (.int x1), .val (.ref b693), .val (.ref b696), .val (.ref b745), .val (.ref b753), .val (.int (1 : Int32)), .val (.ref b1122), .val (.int (1 : Int32))] []))
        refine own_goW (fun _ ww => XS.aload X1156.here hx rfl (hb hby at_183) rfl rfl ww) ?_
        show own_GoesW _ _ _ _ _ _ _ (T1156.setTop (mkF m 185 #[.val (.int x0), .val (.int x1), .val (.ref b693), .val (.ref b696), .val (.ref b745), .val (.ref b753), .val (.int (1 : Int32)), .val (.ref b1122), .val (.int (1 : Int32))] [(.ref b1122)]))
        obtain ⟨cq1157, kq1157, q1157a, q1157b, q1157c⟩ := isOf hZ e1156 f1153
        obtain ⟨_, _, ⟨T1157, L1157, k1157, n1157⟩, -, X1157, ⟨Lc1157, hQ1157, l1157, y1157, z1157⟩, st1157⟩ := X1156.virtualBack hx (y := own_y29) (z := own_y29) hown (mvT hZ (own_w hw 145 rfl)) (mvT hZ (own_w hw 146 rfl)) (notFace_of_selects (args := #[]) (mvT hZ (own_w hw 148 rfl))) (mvT hZ (own_w hw 148 rfl)) (mvT hZ (own_w hw 147 rfl)) (by decide) (backOf (W := 0) (rm_waitingII l Z a0 hw [] b1122 b696 mr aL aX r1_1139 "java/util/ImmutableCollections$List12" r2_1139 "java/util/ImmutableCollections$List12" T1139.heap n0 O1139 f1140 MK SL SX EL FL Q1139 R1139 E0_1139 (Or.inl rfl) E1_1139 (Or.inl rfl)) hZ (own_w hw 149 rfl) (own_w hw 123 rfl) (by decide) (by decide)) q1157a q1157c (g := (mkF m 185 #[.val (.int x0), .val (.int x1), .val (.ref b693), .val (.ref b696), .val (.ref b745), .val (.ref b753), .val (.int (1 : Int32)), .val (.ref b1122), .val (.int (1 : Int32))] [(.ref b1122)])) rfl (by rw [hml]; rfl) (Steps.refl _) (argsL := []) (rest := []) (lenOf pd_20 rfl) rfl (by show 2 * 0 + _ ≤ _; exact Nat.le_of_eq rfl) (hb hby at_185) (fun _ _ => ⟨rfl, e1156, (by decide : 16 + 1 ≤ _), (by decide : 70 + 4 ≤ _)⟩)
        dsimp only [Pt.U, Pt.locs, Pt.cells, Pt.slots] at X1157 l1157 y1157 z1157 st1157 hQ1157
        subst l1157 y1157 z1157
        obtain ⟨r1157, rfl, N1157q, B1157, K1157q, E1157q, P1157⟩ := hQ1157
        have N1157 := Fr.app N1156 N1157q
        have hk := Nat.le_trans hk (own_ks K1157q)
        have ne_b696_r1157 : b696 ≠ r1157 := Nat.ne_of_lt (Nat.lt_of_lt_of_le f1140.lt B1157)
        have ne_b1122_r1157 : b1122 ≠ r1157 := Nat.ne_of_lt (Nat.lt_of_lt_of_le f1153.lt B1157)
        have ne_r1_1139_r1157 : r1_1139 ≠ r1157 := Nat.ne_of_lt (Nat.lt_of_lt_of_le E0_1139.lt B1157)
        have ne_r2_1139_r1157 : r2_1139 ≠ r1157 := Nat.ne_of_lt (Nat.lt_of_lt_of_le E1_1139.lt B1157)
        have g_r1157 : n0 ≤ r1157 := Nat.le_trans (O1139.1 ▸ O1139.2.1) B1157
        have f1158 := (f1140.keep K1157q)
        have f1159 := (f1153.keep K1157q)
        have f1160 := (P1139.keep K1157q nin0)
        have f1161 := (Q1139.keep K1157q nin0)
        have f1162 := (R1139.keep K1157q nin0)
        have f1163 := (E0_1139.keep K1157q)
        have f1164 := (E1_1139.keep K1157q)
        have O1157 := O1139.keep K1157q all0
        refine own_goW (fun _ ww => Steps.trans st1157 ww) ?_
        show own_GoesW _ _ _ _ _ _ _ (T1157.setTop (mkF m 188 #[.val (.int x0), .val (.int x1), .val (.ref b693), .val (.ref b696), .val (.ref b745), .val (.ref b753), .val (.int (1 : Int32)), .val (.ref b1122), .val (.int (1 : Int32))] [(.ref r1157)]))
        obtain ⟨cq1165, kq1165, q1165a, q1165b, q1165c⟩ := isOf hZ rfl E1157q
        obtain ⟨_, _, ⟨T1165, L1165, k1165, n1165⟩, -, X1165, ⟨Lc1165, hQ1165, l1165, y1165, z1165⟩, st1165⟩ := X1157.virtualBack hx (y := own_y31) (z := own_y31) hown (mvT hZ (own_w hw 135 rfl)) (mvT hZ (own_w hw 136 rfl)) (notFace_of_selects (args := #[]) (mvT hZ (own_w hw 138 rfl))) (mvT hZ (own_w hw 138 rfl)) (mvT hZ (own_w hw 137 rfl)) (by decide) (backOf (W := 0) (rm_waits0 l Z a0 hw [] r1157 aL T1157.heap n0 O1157 P1157) hZ (own_w hw 139 rfl) (own_w hw 123 rfl) (by decide) (by decide)) q1165a q1165c (g := (mkF m 188 #[.val (.int x0), .val (.int x1), .val (.ref b693), .val (.ref b696), .val (.ref b745), .val (.ref b753), .val (.int (1 : Int32)), .val (.ref b1122), .val (.int (1 : Int32))] [(.ref r1157)])) rfl (by rw [hml]; rfl) (Steps.refl _) (argsL := []) (rest := []) (lenOf pd_9 rfl) rfl (by show 2 * 0 + _ ≤ _; exact Nat.le_of_eq rfl) (hb hby at_188) (fun _ _ => ⟨rfl, rfl, (by decide : 17 + 0 ≤ _), (by decide : 74 + 0 ≤ _)⟩)
        dsimp only [Pt.U, Pt.locs, Pt.cells, Pt.slots] at X1165 l1165 y1165 z1165 st1165 hQ1165
        subst l1165 y1165 z1165
        obtain ⟨rfl, N1165q, e1165⟩ := hQ1165
        have N1165 := Fr.app N1157 N1165q
        refine own_goW (fun _ ww => Steps.trans st1165 ww) ?_
        show own_GoesW _ _ _ _ _ _ _ (T1165.setTop (mkF m 191 #[.val (.int x0), .val (.int x1), .val (.ref b693), .val (.ref b696), .val (.ref b745), .val (.ref b753), .val (.int (1 : Int32)), .val (.ref b1122), .val (.int (1 : Int32))] [(.int (1 : Int32))]))
        refine own_goW (fun _ ww => XS.ifNo X1165.here hx rfl (hb hby at_191) rfl (own_if .eq (feq (by decide : ¬ ((1 : Int32) = (0 : Int32)))).1) ww) ?_
        show own_GoesW _ _ _ _ _ _ _ (T1165.setTop (mkF m 194 #[.val (.int x0), .val (.int x1), .val (.ref b693), .val (.ref b696), .val (.ref b745), .val (.ref b753), .val (.int (1 : Int32)), .val (.ref b1122), .val (.int (1 : Int32))] []))
        refine own_goW (fun _ ww => XS.iconst X1165.here hx rfl (hb hby at_194) ww) ?_
        show own_GoesW _ _ _ _ _ _ _ (T1165.setTop (mkF m 195 #[.val (.int x0), .val (.int x1), .val (.ref b693), .val (.ref b696), .val (.ref b745), .val (.ref b753), .val (.int (1 : Int32)), .val (.ref b1122), .val (.int (1 : Int32))] [(.int (1 : Int32))]))
        refine own_goW (fun _ ww => XS.goto X1165.here hx rfl (pc0 := 195) (pc' := 199) rfl (hb hby at_195) (by decide) (by decide) ww) ?_
        show own_GoesW _ _ _ _ _ _ _ (T1165.setTop (mkF m 199 #[.val (.int x0), .val (.int x1), .val (.ref b693), .val (.ref b696), .val (.ref b745), .val (.ref b753), .val (.int (1 : Int32)), .val (.ref b1122), .val (.int (1 : Int32))] [(.int (1 : Int32))]))
        refine own_goW (fun _ ww => XS.istore X1165.here hx rfl (hb hby at_199) rfl (l' := #[.val (.int x0), .val (.int x1), .val (.ref b693), .val (.ref b696), .val (.ref b745), .val (.ref b753), .val (.int (1 : Int32)), .val (.ref b1122), .val (.int (1 : Int32))]) rfl ww) ?_
        show own_GoesW _ _ _ _ _ _ _ (T1165.setTop (mkF m 201 #[.val (.int x0), .val (.int x1), .val (.ref b693), .val (.ref b696), .val (.ref b745), .val (.ref b753), .val (.int (1 : Int32)), .val (.ref b1122), .val (.int (1 : Int32))] []))
        refine own_goW (fun _ ww => XS.iload X1165.here hx rfl (hb hby at_201) rfl  ww) ?_
        show own_GoesW _ _ _ _ _ _ _ (T1165.setTop (mkF m 203 #[.val (.int x0), .val (.int x1), .val (.ref b693), .val (.ref b696), .val (.ref b745), .val (.ref b753), .val (.int (1 : Int32)), .val (.ref b1122), .val (.int (1 : Int32))] [(.int (1 : Int32))]))
        refine own_goW (fun _ ww => XS.ifNo X1165.here hx rfl (hb hby at_203) rfl (own_if .eq (feq (by decide : ¬ ((1 : Int32) = (0 : Int32)))).1) ww) ?_
        show own_GoesW _ _ _ _ _ _ _ (T1165.setTop (mkF m 206 #[.val (.int x0), .val (.int x1), .val (.ref b693), .val (.ref b696), .val (.ref b745), .val (.ref b753), .val (.int (1 : Int32)), .val (.ref b1122), .val (.int (1 : Int32))] []))
        refine own_goW (fun _ ww => XS.aload X1165.here hx rfl (hb hby at_206) rfl rfl ww) ?_
        show own_GoesW _ _ _ _ _ _ _ (T1165.setTop (mkF m 208 #[.val (.int x0), .val (.int x1), .val (.ref b693), .val (.ref b696), .val (.ref b745), .val (.ref b753), .val (.int (1 : Int32)), .val (.ref b1122), .val (.int (1 : Int32))] [(.ref b1122)]))
        refine own_goW (fun _ ww => XS.aloadN X1165.here hx rfl (hb hby at_208) rfl rfl ww) ?_
        show own_GoesW _ _ _ _ _ _ _ (T1165.setTop (mkF m 209 #[.val (.int x0), .val (.int x1), .val (.ref b693), .val (.ref b696), .val (.ref b745), .val (.ref b753), .val (.int (1 : Int32)), .val (.ref b1122), .val (.int (1 : Int32))] [(.ref b696), (.ref b1122)]))
        obtain ⟨cq1166, kq1166, q1166a, q1166b, q1166c⟩ := isOf hZ e1165 f1159
        obtain ⟨_, _, ⟨T1166, L1166, k1166, n1166⟩, -, X1166, ⟨Lc1166, hQ1166, l1166, y1166, z1166⟩, st1166⟩ := X1165.virtualBack hx (y := own_y30) (z := own_y30) hown (mvT hZ (own_w hw 160 rfl)) (mvT hZ (own_w hw 161 rfl)) (notFace_of_selects (args := #[]) (mvT hZ (own_w hw 163 rfl))) (mvT hZ (own_w hw 163 rfl)) (mvT hZ (own_w hw 162 rfl)) (by decide) (backOf (W := 0) (rm_showingII l Z a0 hw [] b1122 b696 mr aL aX r1_1139 "java/util/ImmutableCollections$List12" r2_1139 "java/util/ImmutableCollections$List12" T1157.heap n0 O1157 f1158 MK SL SX EL FL f1161 f1162 f1163 (Or.inl rfl) f1164 (Or.inl rfl)) hZ (own_w hw 164 rfl) (own_w hw 123 rfl) (by decide) (by decide)) q1166a q1166c (g := (mkF m 209 #[.val (.int x0), .val (.int x1), .val (.ref b693), .val (.ref b696), .val (.ref b745), .val (.ref b753), .val (.int (1 : Int32)), .val (.ref b1122), .val (.int (1 : Int32))] [(.ref b696), (.ref b1122)])) rfl (by rw [hml]; rfl) (Steps.refl _) (argsL := [(.ref b696)]) (rest := []) (lenOf pd_21 rfl) rfl (by show 2 * 0 + _ ≤ _; exact Nat.le_of_eq rfl) (hb hby at_209) (fun _ _ => ⟨rfl, e1165, (by decide : 17 + 1 ≤ _), (by decide : 74 + 4 ≤ _)⟩)
        dsimp only [Pt.U, Pt.locs, Pt.cells, Pt.slots] at X1166 l1166 y1166 z1166 st1166 hQ1166
        subst l1166 y1166 z1166
        obtain ⟨r1166, rfl, N1166q, B1166, K1166q, E1166q, P1166⟩ := hQ1166
        have N1166 := Fr.app N1165 N1166q
        have hk := Nat.le_trans hk (own_ks K1166q)
        have ne_b696_r1166 : b696 ≠ r1166 := Nat.ne_of_lt (Nat.lt_of_lt_of_le f1158.lt B1166)
        have ne_b1122_r1166 : b1122 ≠ r1166 := Nat.ne_of_lt (Nat.lt_of_lt_of_le f1159.lt B1166)
        have ne_r1_1139_r1166 : r1_1139 ≠ r1166 := Nat.ne_of_lt (Nat.lt_of_lt_of_le f1163.lt B1166)
        have ne_r2_1139_r1166 : r2_1139 ≠ r1166 := Nat.ne_of_lt (Nat.lt_of_lt_of_le f1164.lt B1166)
        have g_r1166 : n0 ≤ r1166 := Nat.le_trans (O1157.1 ▸ O1157.2.1) B1166
        have f1167 := (f1158.keep K1166q)
        have f1168 := (f1159.keep K1166q)
        have f1169 := (f1160.keep K1166q nin0)
        have f1170 := (f1161.keep K1166q nin0)
        have f1171 := (f1162.keep K1166q nin0)
        have f1172 := (f1163.keep K1166q)
        have f1173 := (f1164.keep K1166q)
        have O1166 := O1157.keep K1166q all0
        refine own_goW (fun _ ww => Steps.trans st1166 ww) ?_
        show own_GoesW _ _ _ _ _ _ _ (T1166.setTop (mkF m 212 #[.val (.int x0), .val (.int x1), .val (.ref b693), .val (.ref b696), .val (.ref b745), .val (.ref b753), .val (.int (1 : Int32)), .val (.ref b1122), .val (.int (1 : Int32))] [(.ref r1166)]))
        obtain ⟨cq1174, kq1174, q1174a, q1174b, q1174c⟩ := isOf hZ rfl E1166q
        obtain ⟨_, _, ⟨T1174, L1174, k1174, n1174⟩, -, X1174, ⟨Lc1174, hQ1174, l1174, y1174, z1174⟩, st1174⟩ := X1166.virtualBack hx (y := own_y31) (z := own_y31) hown (mvT hZ (own_w hw 135 rfl)) (mvT hZ (own_w hw 136 rfl)) (notFace_of_selects (args := #[]) (mvT hZ (own_w hw 138 rfl))) (mvT hZ (own_w hw 138 rfl)) (mvT hZ (own_w hw 137 rfl)) (by decide) (backOf (W := 0) (rm_waits1 l Z a0 hw [] r1166 b696 T1166.heap n0 O1166 P1166) hZ (own_w hw 139 rfl) (own_w hw 123 rfl) (by decide) (by decide)) q1174a q1174c (g := (mkF m 212 #[.val (.int x0), .val (.int x1), .val (.ref b693), .val (.ref b696), .val (.ref b745), .val (.ref b753), .val (.int (1 : Int32)), .val (.ref b1122), .val (.int (1 : Int32))] [(.ref r1166)])) rfl (by rw [hml]; rfl) (Steps.refl _) (argsL := []) (rest := []) (lenOf pd_9 rfl) rfl (by show 2 * 0 + _ ≤ _; exact Nat.le_of_eq rfl) (hb hby at_212) (fun _ _ => ⟨rfl, rfl, (by decide : 18 + 0 ≤ _), (by decide : 78 + 0 ≤ _)⟩)
        dsimp only [Pt.U, Pt.locs, Pt.cells, Pt.slots] at X1174 l1174 y1174 z1174 st1174 hQ1174
        subst l1174 y1174 z1174
        obtain ⟨rfl, N1174q, e1174⟩ := hQ1174
        have N1174 := Fr.app N1166 N1174q
        refine own_goW (fun _ ww => Steps.trans st1174 ww) ?_
        show own_GoesW _ _ _ _ _ _ _ (T1174.setTop (mkF m 215 #[.val (.int x0), .val (.int x1), .val (.ref b693), .val (.ref b696), .val (.ref b745), .val (.ref b753), .val (.int (1 : Int32)), .val (.ref b1122), .val (.int (1 : Int32))] [(.int (0 : Int32))]))
        refine own_goW (fun _ ww => XS.ifNo X1174.here hx rfl (hb hby at_215) rfl (own_if .ne (teq (by decide : (0 : Int32) = (0 : Int32))).2) ww) ?_
        show own_GoesW _ _ _ _ _ _ _ (T1174.setTop (mkF m 218 #[.val (.int x0), .val (.int x1), .val (.ref b693), .val (.ref b696), .val (.ref b745), .val (.ref b753), .val (.int (1 : Int32)), .val (.ref b1122), .val (.int (1 : Int32))] []))
        refine own_goW (fun _ ww => XS.iconst X1174.here hx rfl (hb hby at_218) ww) ?_
        show own_GoesW _ _ _ _ _ _ _ (T1174.setTop (mkF m 219 #[.val (.int x0), .val (.int x1), .val (.ref b693), .val (.ref b696), .val (.ref b745), .val (.ref b753), .val (.int (1 : Int32)), .val (.ref b1122), .val (.int (1 : Int32))] [(.int (1 : Int32))]))
        refine own_goW (fun _ ww => XS.goto X1174.here hx rfl (pc0 := 219) (pc' := 223) rfl (hb hby at_219) (by decide) (by decide) ww) ?_
        show own_GoesW _ _ _ _ _ _ _ (T1174.setTop (mkF m 223 #[.val (.int x0), .val (.int x1), .val (.ref b693), .val (.ref b696), .val (.ref b745), .val (.ref b753), .val (.int (1 : Int32)), .val (.ref b1122), .val (.int (1 : Int32))] [(.int (1 : Int32))]))
        refine own_goW (fun _ ww => XS.istore X1174.here hx rfl (hb hby at_223) rfl (l' := #[.val (.int x0), .val (.int x1), .val (.ref b693), .val (.ref b696), .val (.ref b745), .val (.ref b753), .val (.int (1 : Int32)), .val (.ref b1122), .val (.int (1 : Int32))]) rfl ww) ?_
        show own_GoesW _ _ _ _ _ _ _ (T1174.setTop (mkF m 225 #[.val (.int x0), .val (.int x1), .val (.ref b693), .val (.ref b696), .val (.ref b745), .val (.ref b753), .val (.int (1 : Int32)), .val (.ref b1122), .val (.int (1 : Int32))] []))
        refine own_goW (fun _ ww => XS.iload X1174.here hx rfl (hb hby at_225) rfl  ww) ?_
        show own_GoesW _ _ _ _ _ _ _ (T1174.setTop (mkF m 227 #[.val (.int x0), .val (.int x1), .val (.ref b693), .val (.ref b696), .val (.ref b745), .val (.ref b753), .val (.int (1 : Int32)), .val (.ref b1122), .val (.int (1 : Int32))] [(.int (1 : Int32))]))
        exact own_outW X1174 hS hk hlk (v := some (.int (1 : Int32))) (fun h => by rw [hret] at h; cases h) (fun fs hr => retOut X1174 hx (t := .boolean) hret (by decide) (Or.inl ⟨rfl, by simp, _, rfl⟩) (hb hby at_227) hr) e1174 ⟨rfl, N1174⟩ (by decide) (by decide)
theorem own_len {args : Array Value} {s : State} {t : Term} {a : Addr} {cl : Cell} {k : Int32} (ev : t.eval args s none [] s = some (.ref a)) (hc : s.heap[a]? = some cl) (h : (Term.length t).eval args s none [] s = some (.int k)) : cl.slots.size < 2 ^ 31 ∧ cl.slots.size.toInt32 = k := by
  simp only [Term.eval, Option.bind_eq_bind, ev, Option.bind_some] at h
  obtain ⟨c', ha, h⟩ := Option.bind_eq_some_iff.mp h
  cases hc.symm.trans (State.arrayAt?_spec ha).1
  by_cases hn : cl.slots.size < 2 ^ 31
  · rw [if_pos hn] at h
    exact ⟨hn, Value.int.inj (Option.some.inj h)⟩
  · rw [if_neg hn] at h; cases h
set_option maxRecDepth 65536 in
set_option maxHeartbeats 40000000 in
theorem comes_1 {Post : Tables → Env → Array Value → State → Outcome → State → Prop} (hpost : ∀ tb e args s v u, (limb_1_1.after args s (.returned v) u = true ∧ limb_1_2.after args s (.returned v) u = true ∧ True) → ReturnedEndW s (.returned v) u (Jvm.fieldLocs frame_1_writes args s ++ Jvm.arrayLocs frame_1_arrays args s ++ Jvm.staticLocs frame_1_statics s) 48 1216 → Post tb e args s (.returned v) u) :
    ArmFor flags0 classFile x code maxLocals ret World_1 tables_1 room_1 Calls_1 rest_1 Pre_1 Post := by
  intro l hfl _ _ p e ha hc hk s m args below hf hA hF happ hP
  obtain ⟨hcalls, hrest, hpre⟩ := hP
  obtain ⟨-, -, -, hnamed, -, -, -, hat⟩ := (Spec.applies_iff hf).mp happ
  obtain ⟨hg, hn⟩ := and_e (Cond.before_iff.mp (show (Jvm.Cond.and given_1 narrow_1).before args s = true from hpre))
  obtain ⟨q1, q2⟩ := and_e hg
  obtain ⟨q3, q4⟩ := and_e q2
  obtain ⟨w0, w1, rfl⟩ : ∃ w0 w1 : Value, args = #[w0, w1] := by
    have hs : args.size = 2 := by simpa [Cond.value, given_1] using q1
    obtain ⟨L⟩ := args
    match L, hs with
    | [w0, w1], _ => exact ⟨w0, w1, rfl⟩
  have hw := fun d (hd : d ∈ tables_1) => atoms_spec (ws := Jvm.Cond.code x code maxLocals ret :: tables_1) hat d (List.mem_cons_of_mem _ hd)
  have hfit : Fit s := fun {y c} hc i hi => by
    obtain ⟨ha, rfl⟩ := Array.getElem?_eq_some_iff.mp hc
    have q := List.all_eq_true.mp ((Array.all_eq_true_iff_forall_mem.mp hF) _ (Array.getElem_mem ha)) i (List.mem_range.mpr hi)
    simpa [Array.getElem?_eq_getElem hi] using q
  obtain ⟨hsets, hown0⟩ := atoms_of _ (rest_1_c_eq ▸ (show rest_1_c.before _ s = true from hrest))
  obtain ⟨i0, ei0⟩ := is_v q3
  obtain rfl : w0 = (.int i0) := Option.some.inj ei0
  obtain ⟨i1, ei1⟩ := is_v q4
  obtain rfl : w1 = (.int i1) := Option.some.inj ei1
  have qs1 := Cond.before_iff.mp (hsets _ (List.mem_of_getElem? (i := 1) rfl))
  have qs2 := Cond.before_iff.mp (hsets _ (List.mem_of_getElem? (i := 2) rfl))
  have qs8 := Cond.before_iff.mp (hsets _ (List.mem_of_getElem? (i := 8) rfl))
  have qs12 := Cond.before_iff.mp (hsets _ (List.mem_of_getElem? (i := 12) rfl))
  have qs13 := Cond.before_iff.mp (hsets _ (List.mem_of_getElem? (i := 13) rfl))
  have qs14 := Cond.before_iff.mp (hsets _ (List.mem_of_getElem? (i := 14) rfl))
  have qs15 := Cond.before_iff.mp (hsets _ (List.mem_of_getElem? (i := 15) rfl))
  have qs16 := Cond.before_iff.mp (hsets _ (List.mem_of_getElem? (i := 16) rfl))
  have qs17 := Cond.before_iff.mp (hsets _ (List.mem_of_getElem? (i := 17) rfl))
  have qs20 := Cond.before_iff.mp (hsets _ (List.mem_of_getElem? (i := 20) rfl))
  have qs21 := Cond.before_iff.mp (hsets _ (List.mem_of_getElem? (i := 21) rfl))
  have qs22 := Cond.before_iff.mp (hsets _ (List.mem_of_getElem? (i := 22) rfl))
  have qs23 := Cond.before_iff.mp (hsets _ (List.mem_of_getElem? (i := 23) rfl))
  have qs24 := Cond.before_iff.mp (hsets _ (List.mem_of_getElem? (i := 24) rfl))
  have qs27 := Cond.before_iff.mp (hsets _ (List.mem_of_getElem? (i := 27) rfl))
  have qs28 := Cond.before_iff.mp (hsets _ (List.mem_of_getElem? (i := 28) rfl))
  have qs29 := Cond.before_iff.mp (hsets _ (List.mem_of_getElem? (i := 29) rfl))
  have qs30 := Cond.before_iff.mp (hsets _ (List.mem_of_getElem? (i := 30) rfl))
  have qs31 := Cond.before_iff.mp (hsets _ (List.mem_of_getElem? (i := 31) rfl))
  have qs34 := Cond.before_iff.mp (hsets _ (List.mem_of_getElem? (i := 34) rfl))
  have qs37 := Cond.before_iff.mp (hsets _ (List.mem_of_getElem? (i := 37) rfl))
  have qs40 := Cond.before_iff.mp (hsets _ (List.mem_of_getElem? (i := 40) rfl))
  obtain ⟨a_ArrayList_EMPTY_ELEMENTDATA, ev_ArrayList_EMPTY_ELEMENTDATA⟩ := exa_v qs13
  have E_ArrayList_EMPTY_ELEMENTDATA : Exa s s.heap a_ArrayList_EMPTY_ELEMENTDATA "[Ljava/lang/Object;" := Exa.start ev_ArrayList_EMPTY_ELEMENTDATA qs13
  have S_ArrayList_EMPTY_ELEMENTDATA : Sta s s.heap "java/util/ArrayList" "EMPTY_ELEMENTDATA" "[Ljava/lang/Object;" (.ref a_ArrayList_EMPTY_ELEMENTDATA) := Sta.start ev_ArrayList_EMPTY_ELEMENTDATA (Or.inl (hsets _ (List.mem_of_getElem? (i := 10) rfl)))
  obtain ⟨a_ArrayList_DEFAULTCAPACITY_EMPTY_ELEMENTDATA, ev_ArrayList_DEFAULTCAPACITY_EMPTY_ELEMENTDATA⟩ := exa_v qs16
  have E_ArrayList_DEFAULTCAPACITY_EMPTY_ELEMENTDATA : Exa s s.heap a_ArrayList_DEFAULTCAPACITY_EMPTY_ELEMENTDATA "[Ljava/lang/Object;" := Exa.start ev_ArrayList_DEFAULTCAPACITY_EMPTY_ELEMENTDATA qs16
  have S_ArrayList_DEFAULTCAPACITY_EMPTY_ELEMENTDATA : Sta s s.heap "java/util/ArrayList" "DEFAULTCAPACITY_EMPTY_ELEMENTDATA" "[Ljava/lang/Object;" (.ref a_ArrayList_DEFAULTCAPACITY_EMPTY_ELEMENTDATA) := Sta.start ev_ArrayList_DEFAULTCAPACITY_EMPTY_ELEMENTDATA (Or.inr ⟨(own_w hw 35 rfl), (hsets _ (List.mem_of_getElem? (i := 11) rfl))⟩)
  obtain ⟨a_ImmutableCollections_EMPTY_MAP, ev_ImmutableCollections_EMPTY_MAP⟩ := exa_v qs20
  have E_ImmutableCollections_EMPTY_MAP : Exa s s.heap a_ImmutableCollections_EMPTY_MAP "java/util/ImmutableCollections$MapN" := Exa.start ev_ImmutableCollections_EMPTY_MAP qs20
  have S_ImmutableCollections_EMPTY_MAP : Sta s s.heap "java/util/ImmutableCollections" "EMPTY_MAP" "Ljava/util/ImmutableCollections$MapN;" (.ref a_ImmutableCollections_EMPTY_MAP) := Sta.start ev_ImmutableCollections_EMPTY_MAP (Or.inl (hsets _ (List.mem_of_getElem? (i := 19) rfl)))
  obtain ⟨a_ImmutableCollections_EMPTY_LIST, ev_ImmutableCollections_EMPTY_LIST⟩ := exa_v qs27
  have E_ImmutableCollections_EMPTY_LIST : Exa s s.heap a_ImmutableCollections_EMPTY_LIST "java/util/ImmutableCollections$ListN" := Exa.start ev_ImmutableCollections_EMPTY_LIST qs27
  have S_ImmutableCollections_EMPTY_LIST : Sta s s.heap "java/util/ImmutableCollections" "EMPTY_LIST" "Ljava/util/ImmutableCollections$ListN;" (.ref a_ImmutableCollections_EMPTY_LIST) := Sta.start ev_ImmutableCollections_EMPTY_LIST (Or.inl (hsets _ (List.mem_of_getElem? (i := 26) rfl)))
  obtain ⟨a_ImmutableCollections_EMPTY, ev_ImmutableCollections_EMPTY⟩ := exa_v qs34
  have E_ImmutableCollections_EMPTY : Exa s s.heap a_ImmutableCollections_EMPTY "java/lang/Object" := Exa.start ev_ImmutableCollections_EMPTY qs34
  have S_ImmutableCollections_EMPTY : Sta s s.heap "java/util/ImmutableCollections" "EMPTY" "Ljava/lang/Object;" (.ref a_ImmutableCollections_EMPTY) := Sta.start ev_ImmutableCollections_EMPTY (Or.inl (hsets _ (List.mem_of_getElem? (i := 33) rfl)))
  obtain ⟨a_ImmutableCollections_EMPTY_LIST, ev_ImmutableCollections_EMPTY_LIST⟩ := exa_v qs40
  have E_ImmutableCollections_EMPTY_LIST : Exa s s.heap a_ImmutableCollections_EMPTY_LIST "java/util/ImmutableCollections$ListN" := Exa.start ev_ImmutableCollections_EMPTY_LIST qs40
  have S_ImmutableCollections_EMPTY_LIST : Sta s s.heap "java/util/ImmutableCollections" "EMPTY_LIST" "Ljava/util/ImmutableCollections$ListN;" (.ref a_ImmutableCollections_EMPTY_LIST) := Sta.start ev_ImmutableCollections_EMPTY_LIST (Or.inl (hsets _ (List.mem_of_getElem? (i := 26) rfl)))
  have F_ImmutableCollections_EMPTY_MAP_size := own_fI ev_ImmutableCollections_EMPTY_MAP qs24
  have F_ImmutableCollections_EMPTY_LIST_allowNulls := own_fI ev_ImmutableCollections_EMPTY_LIST qs31
  obtain ⟨zc, SC, hzc⟩ := own_compact qs1 qs2 (hsets _ (List.mem_of_getElem? (i := 0) rfl))
  obtain ⟨mcc, mkk, mr, mm1, mm2, mm3, mm4⟩ := hcalls.1
  have MK : Mir s "[Ljava/lang/Object;" mr := ⟨mcc, mkk, mm1, mm2, mm3, mm4⟩
  obtain ⟨cl, Ar⟩ := Arr.start ev_ArrayList_DEFAULTCAPACITY_EMPTY_ELEMENTDATA qs15
  have hlen := own_len ev_ArrayList_DEFAULTCAPACITY_EMPTY_ELEMENTDATA Ar.1 (own_eqI qs17)
  have VD : Arv s s.heap a_ArrayList_DEFAULTCAPACITY_EMPTY_ELEMENTDATA cl.cls (.object "java/lang/Object") (0 : Int32) [] .null := Arv.start hfit Ar hlen.1 hlen.2 (by decide) rfl trivial
  obtain ⟨n, o, h1, h2, h3, _, L, rfl, ⟨rfl, N⟩, hq⟩ := rm_law l s _ hw tables_1 i0 i1 a_ArrayList_DEFAULTCAPACITY_EMPTY_ELEMENTDATA cl.cls a_ImmutableCollections_EMPTY_LIST a_ImmutableCollections_EMPTY_MAP a_ImmutableCollections_EMPTY mr zc s.heap s.heap.size (Old.start s) S_ArrayList_DEFAULTCAPACITY_EMPTY_ELEMENTDATA VD S_ImmutableCollections_EMPTY_LIST E_ImmutableCollections_EMPTY_LIST F_ImmutableCollections_EMPTY_LIST_allowNulls S_ImmutableCollections_EMPTY_MAP E_ImmutableCollections_EMPTY_MAP S_ImmutableCollections_EMPTY MK SC hzc p e ha hc hk s m _ below hf ((Spec.applies_iff_loose hf).mp happ).1 ⟨rfl, State.Warmed39.refl s, rfl, trivial⟩ trivial
  refine ⟨n, _, h1, h2, h3, hpost _ _ _ _ _ _ ⟨Cond.after_iff.mpr rfl, Cond.after_iff.mpr (eq_i res_at (Term.int_eval (1)) rfl), trivial⟩ ⟨hq.1, hq.2.1, hq.2.2.1, (hq.2.2.2.sift fun y hy => Or.inr (N y hy)).mono (by decide) (by decide)⟩⟩
theorem main_1_1 : Claimed_1_1 := comes_1 fun _ _ _ _ _ _ h hF => ⟨h.1, hF⟩
theorem main_1_2 : Claimed_1_2 := comes_1 fun _ _ _ _ _ _ h hF => ⟨h.2.1, hF⟩
end Jvm.Pilot.@@N@@
namespace Jvm.Pilot.@@N@@
open Jvm Jvm.ClassFile Sem Op Lib Jvm.Free Jvm.Stand Jvm.Pilot.@@N@@.Jvm.D
/-! MADE BY PROGRAM (witnessworld.py) out of the Statement's table words and the real class files: 45 classes; the members and pool entries that the words name. The judged class is class 1, her method 1. -/
namespace start1
open Jvm.ClassFile
def u (s : String) : CpInfo := .utf8 (stringToUtf16 s)
/-- a pool by its gaps: so many unusable entries, then the entry; so many at the end -/
def gap : Nat → List CpInfo → List CpInfo
  | 0, r => r
  | n + 1, r => .unusable :: gap n r
def poolList (es : List (Nat × CpInfo)) (last : Nat) : List CpInfo := es.foldr (fun e r => gap e.1 (e.2 :: r)) (gap last [])
def pool (es : List (Nat × CpInfo)) (last : Nat) : Array CpInfo := ⟨poolList es last⟩
def fileOf (pool : Array CpInfo) (this : Nat) (attrs : Array Attribute := #[]) (ms : Array MethodInfo := #[]) (fl : Nat := 33) (sup : Nat := 0) (ifs : Array Nat := #[]) (fds : Array FieldInfo := #[]) : ClassFile where
  minorVersion := 0
  majorVersion := 65
  constantPool := pool
  accessFlags := fl
  thisClass := this
  superClass := sup
  interfaces := ifs
  fields := fds
  methods := ms
  attributes := attrs
def plain (name : String) (sup : Option ClassId) : Class where
  name := name
  kind := .ordinary
  loader := none
  accessFlags := 33
  super := sup
  interfaces := #[]
  cf := none
  fields := #[]
  methods := #[]
  instanceTypes := #[]
  staticTypes := #[]
  resolved := #[]
  callSites := []
  init := .initialized
  statics := none
  mirror := none

def pool0 : Array CpInfo := pool [(5, u "<init>"), (0, u "()V"), (1, .class_ 10), (1, u "java/lang/Object"), (0, u "getClass"), (0, u "()Ljava/lang/Class;")] 111

def k0c0 : Code := { maxStack := 0, maxLocals := 1, code := object_method_1_code, exceptionTable := #[], attributes := #[] }
def k0m0 : Method := { name := "<init>", desc := "()V", sig := { parameters := [], returnType := none }, accessFlags := 1, code := some k0c0 }
def k0m1 : Method := { name := "getClass", desc := "()Ljava/lang/Class;", sig := { parameters := [], returnType := some (.object "java/lang/Class") }, accessFlags := 273, code := none }
/-- java/lang/Object -/
def k0 : Class := { plain "java/lang/Object" none with
  accessFlags := 33
  interfaces := #[]
  cf := some (fileOf pool0 8 #[] #[{ accessFlags := 1, nameIndex := 5, descriptorIndex := 6, attributes := #[] }, { accessFlags := 273, nameIndex := 11, descriptorIndex := 12, attributes := #[] }] 33 0 #[] #[])
  fields := #[]
  methods := #[k0m0, k0m1]
  instanceTypes := #[]
  staticTypes := #[]
  resolved := Array.replicate 124 none
  statics := none }

def pool1 : Array CpInfo := pool [(2, .class_ 4), (0, .nameAndType 5 6), (0, u "java/lang/Object"), (0, u "<init>"), (0, u "()V"), (0, .class_ 8), (0, u "com/example/navlint/navlint/model/Entry"), (0, .class_ 10), (0, u "java/lang/String"), (0, .methodref 9 12), (0, .nameAndType 5 13), (0, u "([C)V"), (0, .class_ 15), (0, u "java/util/ArrayList"), (0, .methodref 14 3), (0, .interfaceMethodref 18 19), (0, .class_ 20), (0, .nameAndType 21 22), (0, u "java/util/Map"), (0, u "of"), (0, u "()Ljava/util/Map;"), (0, .methodref 7 24), (0, .nameAndType 5 25), (0, u "(Ljava/lang/String;Ljava/util/List;Ljava/util/Map;Lcom/example/navlint/navlint/model/Request;)V"), (0, .methodref 14 27), (0, .nameAndType 28 29), (0, u "add"), (0, u "(Ljava/lang/Object;)Z"), (0, .class_ 31), (0, u "com/example/navlint/navlint/model/State$Tab"), (0, .methodref 30 33), (0, .nameAndType 5 34), (0, u "(Lcom/example/navlint/navlint/model/Entry;Ljava/util/List;Ljava/util/List;)V"), (0, .methodref 30 36), (0, .nameAndType 37 38), (0, u "waits"), (0, u "()Z"), (0, .methodref 30 40), (0, .nameAndType 41 42), (0, u "entry"), (0, u "()Lcom/example/navlint/navlint/model/Entry;"), (0, .methodref 30 44), (0, .nameAndType 45 46), (0, u "waiting"), (0, u "()Lcom/example/navlint/navlint/model/State$Tab;"), (0, .methodref 30 48), (0, .nameAndType 49 50), (0, u "showing"), (0, u "(Lcom/example/navlint/navlint/model/Entry;)Lcom/example/navlint/navlint/model/State$Tab;"), (0, .class_ 52), (0, u "com/example/navlint/navlint/model/TabWaitsPinLaw"), (2, u "law"), (0, u "(II)Z")] 9

def k1m0 : Method := { name := "<init>", desc := "()V", sig := { parameters := [], returnType := none }, accessFlags := 1, code := none }
def k1c1 : Code := { maxStack := 6, maxLocals := 9, code := code, exceptionTable := #[], attributes := #[] }
def k1m1 : Method := { name := "law", desc := "(II)Z", sig := { parameters := [.int, .int], returnType := some .boolean }, accessFlags := 9, code := some k1c1 }
/-- com/example/navlint/navlint/model/TabWaitsPinLaw -/
def k1 : Class := { plain "com/example/navlint/navlint/model/TabWaitsPinLaw" (some 0) with
  accessFlags := 49
  interfaces := #[]
  cf := some (fileOf pool1 51 #[] #[{ accessFlags := 1, nameIndex := 5, descriptorIndex := 6, attributes := #[] }, { accessFlags := 9, nameIndex := 55, descriptorIndex := 56, attributes := #[] }] 49 2 #[] #[])
  fields := #[]
  methods := #[k1m0, k1m1]
  instanceTypes := #[]
  staticTypes := #[]
  resolved := Array.replicate 66 none
  statics := none }

def pool2 : Array CpInfo := pool [(1, .methodref 2 3), (0, .class_ 4), (0, .nameAndType 5 6), (0, u "java/lang/Object"), (0, u "<init>"), (0, u "()V"), (1, .class_ 10), (1, u "com/example/navlint/navlint/model/HashedValue"), (0, u "hash"), (0, u "I")] 22

def k2c0 : Code := { maxStack := 1, maxLocals := 1, code := prog_74_method_1_code, exceptionTable := #[], attributes := #[] }
def k2m0 : Method := { name := "<init>", desc := "()V", sig := { parameters := [], returnType := none }, accessFlags := 0, code := some k2c0 }
/-- com/example/navlint/navlint/model/HashedValue -/
def k2 : Class := { plain "com/example/navlint/navlint/model/HashedValue" (some 0) with
  accessFlags := 1056
  interfaces := #[]
  cf := some (fileOf pool2 8 #[] #[{ accessFlags := 0, nameIndex := 5, descriptorIndex := 6, attributes := #[] }] 1056 2 #[] #[{ accessFlags := 2, nameIndex := 11, descriptorIndex := 12, attributes := #[] }])
  fields := #[{ name := "hash", type := .int, accessFlags := 2, slot := 0, constantValue := 0 }]
  methods := #[k2m0]
  instanceTypes := #[.int]
  staticTypes := #[]
  resolved := Array.replicate 35 none
  statics := none }

def pool3 : Array CpInfo := pool [(1, .methodref 2 3), (0, .class_ 4), (0, .nameAndType 5 6), (0, u "com/example/navlint/navlint/model/HashedValue"), (0, u "<init>"), (0, u "()V"), (0, .string 8), (0, u "page"), (0, .methodref 10 11), (0, .class_ 12), (0, .nameAndType 13 14), (0, u "java/util/Objects"), (0, u "requireNonNull"), (0, u "(Ljava/lang/Object;Ljava/lang/String;)Ljava/lang/Object;"), (0, .class_ 16), (0, u "java/lang/String"), (0, .fieldref 18 19), (0, .class_ 20), (0, .nameAndType 8 21), (0, u "com/example/navlint/navlint/model/Entry"), (0, u "Ljava/lang/String;"), (0, .interfaceMethodref 23 24), (0, .class_ 25), (0, .nameAndType 26 27), (0, u "java/util/List"), (0, u "copyOf"), (0, u "(Ljava/util/Collection;)Ljava/util/List;"), (0, .fieldref 18 29), (0, .nameAndType 30 31), (0, u "links"), (0, u "Ljava/util/List;"), (0, .interfaceMethodref 33 34), (0, .class_ 35), (0, .nameAndType 26 36), (0, u "java/util/Map"), (0, u "(Ljava/util/Map;)Ljava/util/Map;"), (0, .fieldref 18 38), (0, .nameAndType 39 40), (0, u "snapshot"), (0, u "Ljava/util/Map;"), (0, .fieldref 18 42), (0, .nameAndType 43 44), (0, u "request"), (0, u "Lcom/example/navlint/navlint/model/Request;"), (26, u "(Ljava/lang/String;Ljava/util/List;Ljava/util/Map;Lcom/example/navlint/navlint/model/Request;)V")] 31

def k3c0 : Code := { maxStack := 3, maxLocals := 5, code := prog_46_method_1_code, exceptionTable := #[], attributes := #[] }
def k3m0 : Method := { name := "<init>", desc := "(Ljava/lang/String;Ljava/util/List;Ljava/util/Map;Lcom/example/navlint/navlint/model/Request;)V", sig := { parameters := [(.object "java/lang/String"), (.object "java/util/List"), (.object "java/util/Map"), (.object "com/example/navlint/navlint/model/Request")], returnType := none }, accessFlags := 1, code := some k3c0 }
/-- com/example/navlint/navlint/model/Entry -/
def k3 : Class := { plain "com/example/navlint/navlint/model/Entry" (some 2) with
  accessFlags := 49
  interfaces := #[]
  cf := some (fileOf pool3 18 #[] #[{ accessFlags := 1, nameIndex := 5, descriptorIndex := 71, attributes := #[] }] 49 2 #[] #[{ accessFlags := 18, nameIndex := 8, descriptorIndex := 21, attributes := #[] }, { accessFlags := 18, nameIndex := 30, descriptorIndex := 31, attributes := #[] }, { accessFlags := 18, nameIndex := 39, descriptorIndex := 40, attributes := #[] }, { accessFlags := 18, nameIndex := 43, descriptorIndex := 44, attributes := #[] }])
  fields := #[{ name := "page", type := (.object "java/lang/String"), accessFlags := 18, slot := 1, constantValue := 0 }, { name := "links", type := (.object "java/util/List"), accessFlags := 18, slot := 2, constantValue := 0 }, { name := "snapshot", type := (.object "java/util/Map"), accessFlags := 18, slot := 3, constantValue := 0 }, { name := "request", type := (.object "com/example/navlint/navlint/model/Request"), accessFlags := 18, slot := 4, constantValue := 0 }]
  methods := #[k3m0]
  instanceTypes := #[.int, (.object "java/lang/String"), (.object "java/util/List"), (.object "java/util/Map"), (.object "com/example/navlint/navlint/model/Request")]
  staticTypes := #[]
  resolved := Array.replicate 103 none
  statics := none }

def pool4 : Array CpInfo := pool [(1, .class_ 2), (0, u "java/io/Serializable"), (0, .class_ 4), (0, u "java/lang/Object")] 2

/-- java/io/Serializable -/
def k4 : Class := { plain "java/io/Serializable" (some 0) with
  accessFlags := 1537
  interfaces := #[]
  cf := some (fileOf pool4 1 #[] #[] 1537 3 #[] #[])
  fields := #[]
  methods := #[]
  instanceTypes := #[]
  staticTypes := #[]
  resolved := Array.replicate 7 none
  statics := none }

def pool5 : Array CpInfo := pool [(1, .class_ 2), (0, u "java/lang/Comparable"), (0, .class_ 4), (0, u "java/lang/Object")] 7

/-- java/lang/Comparable -/
def k5 : Class := { plain "java/lang/Comparable" (some 0) with
  accessFlags := 1537
  interfaces := #[]
  cf := some (fileOf pool5 1 #[] #[] 1537 3 #[] #[])
  fields := #[]
  methods := #[]
  instanceTypes := #[]
  staticTypes := #[]
  resolved := Array.replicate 12 none
  statics := none }

def pool6 : Array CpInfo := pool [(2, .class_ 4), (1, u "java/lang/CharSequence"), (42, .class_ 48), (0, u "java/lang/CharSequence$1CodePointIterator"), (10, .class_ 60), (0, u "java/lang/CharSequence$1CharIterator"), (5, .class_ 67), (0, u "java/lang/Object")] 63

/-- java/lang/CharSequence -/
def k6 : Class := { plain "java/lang/CharSequence" (some 0) with
  accessFlags := 1537
  interfaces := #[]
  cf := some (fileOf pool6 2 #[.nestMembers #[47, 59]] #[] 1537 66 #[] #[])
  fields := #[]
  methods := #[]
  instanceTypes := #[]
  staticTypes := #[]
  resolved := Array.replicate 131 none
  statics := none }

def pool7 : Array CpInfo := pool [(1, .class_ 2), (0, u "java/lang/constant/Constable"), (0, .class_ 4), (0, u "java/lang/Object")] 6

/-- java/lang/constant/Constable -/
def k7 : Class := { plain "java/lang/constant/Constable" (some 0) with
  accessFlags := 1537
  interfaces := #[]
  cf := some (fileOf pool7 1 #[] #[] 1537 3 #[] #[])
  fields := #[]
  methods := #[]
  instanceTypes := #[]
  staticTypes := #[]
  resolved := Array.replicate 11 none
  statics := none }

def pool8 : Array CpInfo := pool [(1, .class_ 2), (0, u "java/lang/constant/ConstantDesc"), (0, .class_ 4), (0, u "java/lang/Object")] 32

/-- java/lang/constant/ConstantDesc -/
def k8 : Class := { plain "java/lang/constant/ConstantDesc" (some 0) with
  accessFlags := 1537
  interfaces := #[]
  cf := some (fileOf pool8 1 #[] #[] 1537 3 #[] #[])
  fields := #[]
  methods := #[]
  instanceTypes := #[]
  staticTypes := #[]
  resolved := Array.replicate 37 none
  statics := none }

def pool9 : Array CpInfo := pool [(1, .methodref 2 3), (0, .class_ 4), (0, .nameAndType 5 6), (0, u "java/lang/Object"), (0, u "<init>"), (0, u "()V"), (2, .fieldref 10 11), (0, .class_ 12), (0, .nameAndType 13 14), (0, u "java/lang/String"), (0, u "value"), (0, u "[B"), (0, .fieldref 10 16), (0, .nameAndType 17 18), (0, u "coder"), (0, u "B"), (2, u "hash"), (0, u "I"), (2, u "hashIsZero"), (0, u "Z"), (0, .methodref 10 28), (0, .nameAndType 5 29), (0, u "([CIILjava/lang/Void;)V"), (8, .fieldref 10 39), (0, .nameAndType 40 26), (0, u "COMPACT_STRINGS"), (1, .class_ 44), (1, u "java/lang/StringUTF16"), (0, u "compress"), (1, .methodref 42 48), (0, .nameAndType 49 50), (0, u "coderFromArrayLen"), (0, u "([BI)B"), (126, .methodref 42 178), (0, .nameAndType 45 179), (0, u "([CII)[B"), (395, .class_ 576), (0, u "java/lang/CharSequence"), (22, u "CASE_INSENSITIVE_ORDER"), (0, u "Ljava/util/Comparator;"), (409, u "([C)V"), (90, u "serialPersistentFields"), (0, u "[Ljava/io/ObjectStreamField;"), (0, .class_ 1104), (0, u "java/lang/String$CaseInsensitiveComparator"), (1, .class_ 1107), (0, u "java/io/Serializable"), (0, .class_ 1109), (0, u "java/lang/Comparable"), (0, .class_ 1111), (0, u "java/lang/constant/Constable"), (0, .class_ 1113), (0, u "java/lang/constant/ConstantDesc"), (2, u "serialVersionUID"), (0, u "J"), (3, u "REPL"), (0, u "C"), (2, u "LATIN1"), (1, u "UTF16")] 323

def k9m0 : Method := { name := "<init>", desc := "()V", sig := { parameters := [], returnType := none }, accessFlags := 1, code := none }
def k9c1 : Code := { maxStack := 5, maxLocals := 2, code := jdk_42_method_3_code, exceptionTable := #[], attributes := #[] }
def k9m1 : Method := { name := "<init>", desc := "([C)V", sig := { parameters := [(.array .char)], returnType := none }, accessFlags := 1, code := some k9c1 }
def k9c2 : Code := { maxStack := 4, maxLocals := 6, code := jdk_42_method_149_code, exceptionTable := #[], attributes := #[] }
def k9m2 : Method := { name := "<init>", desc := "([CIILjava/lang/Void;)V", sig := { parameters := [(.array .char), .int, .int, (.object "java/lang/Void")], returnType := none }, accessFlags := 2, code := some k9c2 }
/-- java/lang/String -/
def k9 : Class := { plain "java/lang/String" (some 0) with
  accessFlags := 49
  interfaces := #[4, 5, 6, 7, 8]
  cf := some (fileOf pool9 10 #[.nestMembers #[1103]] #[{ accessFlags := 1, nameIndex := 5, descriptorIndex := 6, attributes := #[] }, { accessFlags := 1, nameIndex := 5, descriptorIndex := 1010, attributes := #[] }, { accessFlags := 2, nameIndex := 5, descriptorIndex := 29, attributes := #[] }] 49 2 #[1106, 1108, 575, 1110, 1112] #[{ accessFlags := 18, nameIndex := 13, descriptorIndex := 14, attributes := #[] }, { accessFlags := 18, nameIndex := 17, descriptorIndex := 18, attributes := #[] }, { accessFlags := 2, nameIndex := 21, descriptorIndex := 22, attributes := #[] }, { accessFlags := 2, nameIndex := 25, descriptorIndex := 26, attributes := #[] }, { accessFlags := 26, nameIndex := 1116, descriptorIndex := 1117, attributes := #[] }, { accessFlags := 24, nameIndex := 40, descriptorIndex := 26, attributes := #[] }, { accessFlags := 26, nameIndex := 1101, descriptorIndex := 1102, attributes := #[] }, { accessFlags := 26, nameIndex := 1121, descriptorIndex := 1122, attributes := #[] }, { accessFlags := 25, nameIndex := 599, descriptorIndex := 600, attributes := #[] }, { accessFlags := 24, nameIndex := 1125, descriptorIndex := 18, attributes := #[] }, { accessFlags := 24, nameIndex := 1127, descriptorIndex := 18, attributes := #[] }])
  fields := #[{ name := "value", type := (.array .byte), accessFlags := 18, slot := 0, constantValue := 0 }, { name := "coder", type := .byte, accessFlags := 18, slot := 1, constantValue := 0 }, { name := "hash", type := .int, accessFlags := 2, slot := 2, constantValue := 0 }, { name := "hashIsZero", type := .boolean, accessFlags := 2, slot := 3, constantValue := 0 }, { name := "serialVersionUID", type := .long, accessFlags := 26, slot := 0, constantValue := 0 }, { name := "COMPACT_STRINGS", type := .boolean, accessFlags := 24, slot := 1, constantValue := 0 }, { name := "serialPersistentFields", type := (.array (.object "java/io/ObjectStreamField")), accessFlags := 26, slot := 2, constantValue := 0 }, { name := "REPL", type := .char, accessFlags := 26, slot := 3, constantValue := 0 }, { name := "CASE_INSENSITIVE_ORDER", type := (.object "java/util/Comparator"), accessFlags := 25, slot := 4, constantValue := 0 }, { name := "LATIN1", type := .byte, accessFlags := 24, slot := 5, constantValue := 0 }, { name := "UTF16", type := .byte, accessFlags := 24, slot := 6, constantValue := 0 }]
  methods := #[k9m0, k9m1, k9m2]
  instanceTypes := #[(.array .byte), .byte, .int, .boolean]
  staticTypes := #[.long, .boolean, (.array (.object "java/io/ObjectStreamField")), .char, (.object "java/util/Comparator"), .byte, .byte]
  resolved := Array.replicate 1451 none
  statics := some 0 }

def pool10 : Array CpInfo := pool [(6, .class_ 8), (1, u "java/lang/Object"), (0, u "<init>"), (0, u "()V"), (1, .class_ 14), (1, u "java/lang/StringUTF16"), (31, u "$assertionsDisabled"), (0, u "Z"), (13, u "HI_BYTE_SHIFT"), (0, u "I"), (2, u "LO_BYTE_SHIFT"), (49, .methodref 12 116), (0, .nameAndType 117 118), (0, u "compress"), (0, u "([CI[BII)I"), (3, u "([CII)[B"), (138, u "coderFromArrayLen"), (0, u "([BI)B"), (106, .class_ 371), (1, u "java/lang/StringUTF16$LinesSpliterator"), (58, u "MAX_LENGTH"), (196, .class_ 628), (0, u "java/lang/StringUTF16$CodePointsSpliterator"), (0, .class_ 630), (0, u "java/lang/StringUTF16$CharsSpliterator")] 4

def k10m0 : Method := { name := "<init>", desc := "()V", sig := { parameters := [], returnType := none }, accessFlags := 0, code := none }
def k10c1 : Code := { maxStack := 2, maxLocals := 2, code := jdk_52_method_15_code, exceptionTable := #[], attributes := #[] }
def k10m1 : Method := { name := "coderFromArrayLen", desc := "([BI)B", sig := { parameters := [(.array .byte), .int], returnType := some .byte }, accessFlags := 8, code := some k10c1 }
def k10c2 : Code := { maxStack := 5, maxLocals := 6, code := jdk_52_method_16_code, exceptionTable := #[], attributes := #[] }
def k10m2 : Method := { name := "compress", desc := "([CII)[B", sig := { parameters := [(.array .char), .int, .int], returnType := some (.array .byte) }, accessFlags := 9, code := some k10c2 }
def k10c3 : Code := { maxStack := 3, maxLocals := 7, code := jdk_52_method_21_code, exceptionTable := #[], attributes := #[] }
def k10m3 : Method := { name := "compress", desc := "([CI[BII)I", sig := { parameters := [(.array .char), .int, (.array .byte), .int, .int], returnType := some .int }, accessFlags := 9, code := some k10c3 }
/-- java/lang/StringUTF16 -/
def k10 : Class := { plain "java/lang/StringUTF16" (some 0) with
  accessFlags := 48
  interfaces := #[]
  cf := some (fileOf pool10 12 #[.nestMembers #[627, 629, 369]] #[{ accessFlags := 0, nameIndex := 9, descriptorIndex := 10, attributes := #[] }, { accessFlags := 8, nameIndex := 261, descriptorIndex := 262, attributes := #[] }, { accessFlags := 9, nameIndex := 117, descriptorIndex := 122, attributes := #[] }, { accessFlags := 9, nameIndex := 117, descriptorIndex := 118, attributes := #[] }] 48 6 #[] #[{ accessFlags := 26, nameIndex := 61, descriptorIndex := 62, attributes := #[] }, { accessFlags := 26, nameIndex := 65, descriptorIndex := 62, attributes := #[] }, { accessFlags := 24, nameIndex := 430, descriptorIndex := 62, attributes := #[] }, { accessFlags := 4120, nameIndex := 46, descriptorIndex := 47, attributes := #[] }])
  fields := #[{ name := "HI_BYTE_SHIFT", type := .int, accessFlags := 26, slot := 0, constantValue := 0 }, { name := "LO_BYTE_SHIFT", type := .int, accessFlags := 26, slot := 1, constantValue := 0 }, { name := "MAX_LENGTH", type := .int, accessFlags := 24, slot := 2, constantValue := 0 }, { name := "$assertionsDisabled", type := .boolean, accessFlags := 4120, slot := 3, constantValue := 0 }]
  methods := #[k10m0, k10m1, k10m2, k10m3]
  instanceTypes := #[]
  staticTypes := #[.int, .int, .int, .boolean]
  resolved := Array.replicate 635 none
  statics := none }

def pool11 : Array CpInfo := pool [(8, .class_ 10), (1, u "java/lang/Iterable"), (24, .class_ 36), (0, u "java/lang/Object")] 25

/-- java/lang/Iterable -/
def k11 : Class := { plain "java/lang/Iterable" (some 0) with
  accessFlags := 1537
  interfaces := #[]
  cf := some (fileOf pool11 8 #[] #[] 1537 35 #[] #[])
  fields := #[]
  methods := #[]
  instanceTypes := #[]
  staticTypes := #[]
  resolved := Array.replicate 62 none
  statics := none }

def pool12 : Array CpInfo := pool [(10, .class_ 12), (1, u "java/util/Collection"), (0, u "toArray"), (16, u "()Z"), (29, .class_ 61), (0, u "java/lang/Object"), (0, .class_ 63), (0, u "java/lang/Iterable"), (2, u "isEmpty"), (3, u "()[Ljava/lang/Object;")] 44

def k12m0 : Method := { name := "isEmpty", desc := "()Z", sig := { parameters := [], returnType := some .boolean }, accessFlags := 1025, code := none }
def k12m1 : Method := { name := "toArray", desc := "()[Ljava/lang/Object;", sig := { parameters := [], returnType := some (.array (.object "java/lang/Object")) }, accessFlags := 1025, code := none }
/-- java/util/Collection -/
def k12 : Class := { plain "java/util/Collection" (some 0) with
  accessFlags := 1537
  interfaces := #[11]
  cf := some (fileOf pool12 10 #[] #[{ accessFlags := 1025, nameIndex := 66, descriptorIndex := 30, attributes := #[] }, { accessFlags := 1025, nameIndex := 13, descriptorIndex := 70, attributes := #[] }] 1537 60 #[62] #[])
  fields := #[]
  methods := #[k12m0, k12m1]
  instanceTypes := #[]
  staticTypes := #[]
  resolved := Array.replicate 115 none
  statics := none }

def pool13 : Array CpInfo := pool [(1, .methodref 2 3), (0, .class_ 4), (0, .nameAndType 5 6), (0, u "java/lang/Object"), (0, u "<init>"), (0, u "()V"), (1, .class_ 10), (1, u "java/util/AbstractCollection"), (66, .class_ 78), (0, u "java/util/Collection")] 81

def k13c0 : Code := { maxStack := 1, maxLocals := 1, code := jdk_22_method_1_code, exceptionTable := #[], attributes := #[] }
def k13m0 : Method := { name := "<init>", desc := "()V", sig := { parameters := [], returnType := none }, accessFlags := 4, code := some k13c0 }
/-- java/util/AbstractCollection -/
def k13 : Class := { plain "java/util/AbstractCollection" (some 0) with
  accessFlags := 1057
  interfaces := #[12]
  cf := some (fileOf pool13 8 #[] #[{ accessFlags := 4, nameIndex := 5, descriptorIndex := 6, attributes := #[] }] 1057 2 #[77] #[])
  fields := #[]
  methods := #[k13m0]
  instanceTypes := #[]
  staticTypes := #[]
  resolved := Array.replicate 160 none
  statics := none }

def pool14 : Array CpInfo := pool [(8, .class_ 10), (1, u "java/util/SequencedCollection"), (15, .class_ 27), (0, u "java/lang/Object"), (0, .class_ 29), (0, u "java/util/Collection")] 27

/-- java/util/SequencedCollection -/
def k14 : Class := { plain "java/util/SequencedCollection" (some 0) with
  accessFlags := 1537
  interfaces := #[12]
  cf := some (fileOf pool14 8 #[] #[] 1537 26 #[28] #[])
  fields := #[]
  methods := #[]
  instanceTypes := #[]
  staticTypes := #[]
  resolved := Array.replicate 57 none
  statics := none }

def pool15 : Array CpInfo := pool [(8, .class_ 10), (1, u "java/util/List"), (20, u "(Ljava/lang/Object;)V"), (16, u "<init>"), (39, u "of"), (1, .fieldref 91 92), (0, .class_ 93), (0, .nameAndType 94 95), (0, u "java/util/ImmutableCollections"), (0, u "EMPTY_LIST"), (0, u "Ljava/util/ImmutableCollections$ListN;"), (0, .class_ 97), (0, u "java/util/ImmutableCollections$List12"), (0, .methodref 96 99), (0, .nameAndType 48 31), (3, .class_ 104), (0, u "java/lang/Object"), (3, u "([Ljava/lang/Object;)Ljava/util/List;"), (3, .methodref 91 113), (0, .nameAndType 114 115), (0, u "listCopy"), (0, u "(Ljava/util/Collection;)Ljava/util/List;"), (3, u "()Ljava/util/List;"), (0, .class_ 121), (0, u "java/util/SequencedCollection"), (112, u "copyOf")] 16

def k15c0 : Code := { maxStack := 1, maxLocals := 0, code := jdk_40_method_36_code, exceptionTable := #[], attributes := #[] }
def k15m0 : Method := { name := "of", desc := "()Ljava/util/List;", sig := { parameters := [], returnType := some (.object "java/util/List") }, accessFlags := 9, code := some k15c0 }
def k15c1 : Code := { maxStack := 5, maxLocals := 2, code := jdk_40_method_47_code, exceptionTable := #[], attributes := #[] }
def k15m1 : Method := { name := "of", desc := "([Ljava/lang/Object;)Ljava/util/List;", sig := { parameters := [(.array (.object "java/lang/Object"))], returnType := some (.object "java/util/List") }, accessFlags := 137, code := some k15c1 }
def k15c2 : Code := { maxStack := 1, maxLocals := 1, code := jdk_40_method_48_code, exceptionTable := #[], attributes := #[] }
def k15m2 : Method := { name := "copyOf", desc := "(Ljava/util/Collection;)Ljava/util/List;", sig := { parameters := [(.object "java/util/Collection")], returnType := some (.object "java/util/List") }, accessFlags := 9, code := some k15c2 }
/-- java/util/List -/
def k15 : Class := { plain "java/util/List" (some 0) with
  accessFlags := 1537
  interfaces := #[14]
  cf := some (fileOf pool15 8 #[] #[{ accessFlags := 9, nameIndex := 88, descriptorIndex := 119, attributes := #[] }, { accessFlags := 137, nameIndex := 88, descriptorIndex := 108, attributes := #[] }, { accessFlags := 9, nameIndex := 234, descriptorIndex := 115, attributes := #[] }] 1537 103 #[120] #[])
  fields := #[]
  methods := #[k15m0, k15m1, k15m2]
  instanceTypes := #[]
  staticTypes := #[]
  resolved := Array.replicate 251 none
  statics := none }

def pool16 : Array CpInfo := pool [(1, .methodref 2 3), (0, .class_ 4), (0, .nameAndType 5 6), (0, u "java/util/AbstractCollection"), (0, u "<init>"), (0, u "()V"), (0, .fieldref 8 9), (0, .class_ 10), (0, .nameAndType 11 12), (0, u "java/util/AbstractList"), (0, u "modCount"), (0, u "I"), (64, .class_ 78), (0, u "java/util/AbstractList$Itr"), (3, .class_ 83), (0, u "java/util/AbstractList$ListItr"), (9, .class_ 94), (0, u "java/util/AbstractList$RandomAccessSubList"), (3, .class_ 99), (0, u "java/util/AbstractList$SubList"), (33, .class_ 134), (0, u "java/util/List"), (73, .class_ 209), (0, u "java/util/AbstractList$SubList$1"), (0, .class_ 211), (0, u "java/util/AbstractList$RandomAccessSpliterator")] 6

def k16c0 : Code := { maxStack := 2, maxLocals := 1, code := jdk_39_method_1_code, exceptionTable := #[], attributes := #[] }
def k16m0 : Method := { name := "<init>", desc := "()V", sig := { parameters := [], returnType := none }, accessFlags := 4, code := some k16c0 }
/-- java/util/AbstractList -/
def k16 : Class := { plain "java/util/AbstractList" (some 13) with
  accessFlags := 1057
  interfaces := #[15]
  cf := some (fileOf pool16 8 #[.nestMembers #[93, 98, 208, 210, 82, 77]] #[{ accessFlags := 4, nameIndex := 5, descriptorIndex := 6, attributes := #[] }] 1057 2 #[133] #[{ accessFlags := 132, nameIndex := 11, descriptorIndex := 12, attributes := #[] }])
  fields := #[{ name := "modCount", type := .int, accessFlags := 132, slot := 0, constantValue := 0 }]
  methods := #[k16m0]
  instanceTypes := #[.int]
  staticTypes := #[]
  resolved := Array.replicate 218 none
  statics := none }

def pool17 : Array CpInfo := pool [(1, .class_ 2), (0, u "java/util/RandomAccess"), (0, .class_ 4), (0, u "java/lang/Object")] 2

/-- java/util/RandomAccess -/
def k17 : Class := { plain "java/util/RandomAccess" (some 0) with
  accessFlags := 1537
  interfaces := #[]
  cf := some (fileOf pool17 1 #[] #[] 1537 3 #[] #[])
  fields := #[]
  methods := #[]
  instanceTypes := #[]
  staticTypes := #[]
  resolved := Array.replicate 7 none
  statics := none }

def pool18 : Array CpInfo := pool [(1, .class_ 2), (0, u "java/lang/Cloneable"), (0, .class_ 4), (0, u "java/lang/Object")] 2

/-- java/lang/Cloneable -/
def k18 : Class := { plain "java/lang/Cloneable" (some 0) with
  accessFlags := 1537
  interfaces := #[]
  cf := some (fileOf pool18 1 #[] #[] 1537 3 #[] #[])
  fields := #[]
  methods := #[]
  instanceTypes := #[]
  staticTypes := #[]
  resolved := Array.replicate 7 none
  statics := none }

def pool19 : Array CpInfo := pool [(1, .methodref 2 3), (0, .class_ 4), (0, .nameAndType 5 6), (0, u "java/util/AbstractList"), (0, u "<init>"), (0, u "()V"), (0, .class_ 8), (0, u "java/lang/Object"), (0, .fieldref 10 11), (0, .class_ 12), (0, .nameAndType 13 14), (0, u "java/util/ArrayList"), (0, u "elementData"), (0, u "[Ljava/lang/Object;"), (2, u "EMPTY_ELEMENTDATA"), (21, .fieldref 10 40), (0, .nameAndType 41 14), (0, u "DEFAULTCAPACITY_EMPTY_ELEMENTDATA"), (4, u "toArray"), (0, u "()[Ljava/lang/Object;"), (0, .fieldref 10 49), (0, .nameAndType 50 51), (0, u "size"), (0, u "I"), (6, .class_ 60), (1, u "java/util/Arrays"), (0, u "copyOf"), (1, .fieldref 10 64), (0, .nameAndType 65 51), (0, u "modCount"), (0, .methodref 58 67), (0, .nameAndType 61 68), (0, u "([Ljava/lang/Object;I)[Ljava/lang/Object;"), (0, .methodref 10 70), (0, .nameAndType 71 72), (0, u "grow"), (0, u "(I)[Ljava/lang/Object;"), (6, .methodref 80 81), (0, .class_ 82), (0, .nameAndType 83 84), (0, u "java/lang/Math"), (0, u "max"), (0, u "(II)I"), (11, u "(Ljava/lang/Object;)Z"), (32, .methodref 10 130), (0, .nameAndType 71 47), (0, .methodref 10 132), (0, .nameAndType 133 134), (0, u "add"), (0, u "(Ljava/lang/Object;[Ljava/lang/Object;I)V"), (13, .class_ 149), (0, u "java/util/List"), (23, u "()Z"), (88, .class_ 263), (0, u "java/util/ArrayList$ListItr"), (3, .class_ 268), (0, u "java/util/ArrayList$Itr"), (7, .class_ 277), (0, u "java/util/ArrayList$SubList"), (12, .class_ 291), (0, u "java/util/ArrayList$ArrayListSpliterator"), (37, .class_ 330), (0, u "java/util/RandomAccess"), (0, .class_ 332), (0, u "java/lang/Cloneable"), (0, .class_ 334), (0, u "java/io/Serializable"), (0, u "serialVersionUID"), (0, u "J"), (3, u "DEFAULT_CAPACITY"), (22, u "isEmpty"), (136, .class_ 501), (0, u "java/util/ArrayList$SubList$2"), (0, .class_ 503), (0, u "java/util/ArrayList$SubList$1")] 5

def k19c0 : Code := { maxStack := 2, maxLocals := 1, code := jdk_38_method_2_code, exceptionTable := #[], attributes := #[] }
def k19m0 : Method := { name := "<init>", desc := "()V", sig := { parameters := [], returnType := none }, accessFlags := 1, code := some k19c0 }
def k19c1 : Code := { maxStack := 4, maxLocals := 4, code := jdk_38_method_6_code, exceptionTable := #[], attributes := #[] }
def k19m1 : Method := { name := "grow", desc := "(I)[Ljava/lang/Object;", sig := { parameters := [.int], returnType := some (.array (.object "java/lang/Object")) }, accessFlags := 2, code := some k19c1 }
def k19c2 : Code := { maxStack := 3, maxLocals := 1, code := jdk_38_method_7_code, exceptionTable := #[], attributes := #[] }
def k19m2 : Method := { name := "grow", desc := "()[Ljava/lang/Object;", sig := { parameters := [], returnType := some (.array (.object "java/lang/Object")) }, accessFlags := 2, code := some k19c2 }
def k19c3 : Code := { maxStack := 1, maxLocals := 1, code := jdk_38_method_9_code, exceptionTable := #[], attributes := #[] }
def k19m3 : Method := { name := "isEmpty", desc := "()Z", sig := { parameters := [], returnType := some .boolean }, accessFlags := 1, code := some k19c3 }
def k19c4 : Code := { maxStack := 2, maxLocals := 1, code := jdk_38_method_16_code, exceptionTable := #[], attributes := #[] }
def k19m4 : Method := { name := "toArray", desc := "()[Ljava/lang/Object;", sig := { parameters := [], returnType := some (.array (.object "java/lang/Object")) }, accessFlags := 1, code := some k19c4 }
def k19c5 : Code := { maxStack := 3, maxLocals := 4, code := jdk_38_method_24_code, exceptionTable := #[], attributes := #[] }
def k19m5 : Method := { name := "add", desc := "(Ljava/lang/Object;[Ljava/lang/Object;I)V", sig := { parameters := [(.object "java/lang/Object"), (.array (.object "java/lang/Object")), .int], returnType := none }, accessFlags := 2, code := some k19c5 }
def k19c6 : Code := { maxStack := 4, maxLocals := 2, code := jdk_38_method_25_code, exceptionTable := #[], attributes := #[] }
def k19m6 : Method := { name := "add", desc := "(Ljava/lang/Object;)Z", sig := { parameters := [(.object "java/lang/Object")], returnType := some .boolean }, accessFlags := 1, code := some k19c6 }
/-- java/util/ArrayList -/
def k19 : Class := { plain "java/util/ArrayList" (some 16) with
  accessFlags := 33
  interfaces := #[15, 17, 18, 4]
  cf := some (fileOf pool19 10 #[.nestMembers #[290, 276, 500, 502, 262, 267]] #[{ accessFlags := 1, nameIndex := 5, descriptorIndex := 6, attributes := #[] }, { accessFlags := 2, nameIndex := 71, descriptorIndex := 72, attributes := #[] }, { accessFlags := 2, nameIndex := 71, descriptorIndex := 47, attributes := #[] }, { accessFlags := 1, nameIndex := 363, descriptorIndex := 173, attributes := #[] }, { accessFlags := 1, nameIndex := 46, descriptorIndex := 47, attributes := #[] }, { accessFlags := 2, nameIndex := 133, descriptorIndex := 134, attributes := #[] }, { accessFlags := 1, nameIndex := 133, descriptorIndex := 96, attributes := #[] }] 33 2 #[148, 329, 331, 333] #[{ accessFlags := 26, nameIndex := 335, descriptorIndex := 336, attributes := #[] }, { accessFlags := 26, nameIndex := 340, descriptorIndex := 51, attributes := #[] }, { accessFlags := 26, nameIndex := 17, descriptorIndex := 14, attributes := #[] }, { accessFlags := 26, nameIndex := 41, descriptorIndex := 14, attributes := #[] }, { accessFlags := 128, nameIndex := 13, descriptorIndex := 14, attributes := #[] }, { accessFlags := 2, nameIndex := 50, descriptorIndex := 51, attributes := #[] }])
  fields := #[{ name := "serialVersionUID", type := .long, accessFlags := 26, slot := 0, constantValue := 0 }, { name := "DEFAULT_CAPACITY", type := .int, accessFlags := 26, slot := 1, constantValue := 0 }, { name := "EMPTY_ELEMENTDATA", type := (.array (.object "java/lang/Object")), accessFlags := 26, slot := 2, constantValue := 0 }, { name := "DEFAULTCAPACITY_EMPTY_ELEMENTDATA", type := (.array (.object "java/lang/Object")), accessFlags := 26, slot := 3, constantValue := 0 }, { name := "elementData", type := (.array (.object "java/lang/Object")), accessFlags := 128, slot := 1, constantValue := 0 }, { name := "size", type := .int, accessFlags := 2, slot := 2, constantValue := 0 }]
  methods := #[k19m0, k19m1, k19m2, k19m3, k19m4, k19m5, k19m6]
  instanceTypes := #[.int, (.array (.object "java/lang/Object")), .int]
  staticTypes := #[.long, .int, (.array (.object "java/lang/Object")), (.array (.object "java/lang/Object"))]
  resolved := Array.replicate 509 none
  statics := some 1 }

def pool20 : Array CpInfo := pool [(2, .class_ 4), (1, u "java/util/Map"), (31, .class_ 37), (0, u "java/util/Map$Entry"), (43, .fieldref 82 83), (0, .class_ 84), (0, .nameAndType 85 86), (0, u "java/util/ImmutableCollections"), (0, u "EMPTY_MAP"), (0, u "Ljava/util/ImmutableCollections$MapN;"), (6, .class_ 94), (0, u "java/lang/Object"), (6, .class_ 102), (0, u "java/util/ImmutableCollections$AbstractImmutableMap"), (5, u "of"), (0, u "()Ljava/util/Map;"), (140, u "copyOf"), (0, u "(Ljava/util/Map;)Ljava/util/Map;")] 11

def k20c0 : Code := { maxStack := 1, maxLocals := 0, code := jdk_72_method_26_code, exceptionTable := #[], attributes := #[] }
def k20m0 : Method := { name := "of", desc := "()Ljava/util/Map;", sig := { parameters := [], returnType := some (.object "java/util/Map") }, accessFlags := 9, code := some k20c0 }
def k20c1 : Code := { maxStack := 2, maxLocals := 1, code := jdk_72_method_39_code, exceptionTable := #[], attributes := #[] }
def k20m1 : Method := { name := "copyOf", desc := "(Ljava/util/Map;)Ljava/util/Map;", sig := { parameters := [(.object "java/util/Map")], returnType := some (.object "java/util/Map") }, accessFlags := 9, code := some k20c1 }
/-- java/util/Map -/
def k20 : Class := { plain "java/util/Map" (some 0) with
  accessFlags := 1537
  interfaces := #[]
  cf := some (fileOf pool20 2 #[.nestMembers #[36]] #[{ accessFlags := 9, nameIndex := 108, descriptorIndex := 109, attributes := #[] }, { accessFlags := 9, nameIndex := 250, descriptorIndex := 251, attributes := #[] }] 1537 93 #[] #[])
  fields := #[]
  methods := #[k20m0, k20m1]
  instanceTypes := #[]
  staticTypes := #[]
  resolved := Array.replicate 263 none
  statics := none }

def pool21 : Array CpInfo := pool [(2, .class_ 4), (1, u "java/lang/Object"), (0, u "<init>"), (0, u "()V"), (3, .class_ 11), (0, u "java/util/ImmutableCollections$List12"), (0, .class_ 13), (0, u "java/util/ImmutableCollections$ListN"), (0, .fieldref 12 15), (0, .nameAndType 16 17), (0, u "allowNulls"), (0, u "Z"), (0, .class_ 19), (0, u "java/util/List"), (0, .interfaceMethodref 21 22), (0, .class_ 23), (0, .nameAndType 24 25), (0, u "java/util/Collection"), (0, u "isEmpty"), (0, u "()Z"), (0, .interfaceMethodref 18 27), (0, .nameAndType 28 29), (0, u "of"), (0, u "()Ljava/util/List;"), (0, .interfaceMethodref 21 31), (0, .nameAndType 32 33), (0, u "toArray"), (0, u "()[Ljava/lang/Object;"), (0, .interfaceMethodref 18 35), (0, .nameAndType 28 36), (0, u "([Ljava/lang/Object;)Ljava/util/List;"), (10, .class_ 49), (1, u "java/util/ImmutableCollections"), (0, u "$assertionsDisabled"), (5, u "[Ljava/lang/Object;"), (5, u "EMPTY_LIST"), (0, u "Ljava/util/ImmutableCollections$ListN;"), (8, u "EMPTY_LIST_NULLS"), (22, u "SALT32L"), (0, u "J"), (2, u "REVERSE"), (6, u "archivedObjects"), (2, u "EMPTY"), (0, u "Ljava/lang/Object;"), (0, .class_ 112), (0, u "java/util/ImmutableCollections$SetN"), (5, u "EMPTY_SET"), (0, u "Ljava/util/ImmutableCollections$SetN;"), (0, .class_ 121), (0, u "java/util/ImmutableCollections$MapN"), (3, u "EMPTY_MAP"), (0, u "Ljava/util/ImmutableCollections$MapN;"), (4, u "EXPAND_FACTOR"), (0, u "I"), (9, u "listCopy"), (0, u "(Ljava/util/Collection;)Ljava/util/List;"), (25, .class_ 170), (0, u "java/util/ImmutableCollections$MapN$MapNIterator"), (0, .class_ 172), (0, u "java/util/ImmutableCollections$MapN$1"), (0, .class_ 174), (0, u "java/util/ImmutableCollections$Map1"), (0, .class_ 176), (0, u "java/util/ImmutableCollections$AbstractImmutableMap"), (0, .class_ 178), (0, u "java/util/ImmutableCollections$SetN$SetNIterator"), (0, .class_ 180), (0, u "java/util/ImmutableCollections$Set12"), (0, .class_ 182), (0, u "java/util/ImmutableCollections$Set12$1"), (0, .class_ 184), (0, u "java/util/ImmutableCollections$AbstractImmutableSet"), (0, .class_ 186), (0, u "java/util/ImmutableCollections$SubList"), (0, .class_ 188), (0, u "java/util/ImmutableCollections$ListItr"), (0, .class_ 190), (0, u "java/util/ImmutableCollections$AbstractImmutableList"), (0, .class_ 192), (0, u "java/util/ImmutableCollections$AbstractImmutableCollection"), (0, .class_ 194), (0, u "java/util/ImmutableCollections$Access"), (0, .class_ 196), (0, u "java/util/ImmutableCollections$Access$1")] 16

def k21m0 : Method := { name := "<init>", desc := "()V", sig := { parameters := [], returnType := none }, accessFlags := 2, code := none }
def k21c1 : Code := { maxStack := 1, maxLocals := 2, code := jdk_56_method_3_code, exceptionTable := #[], attributes := #[] }
def k21m1 : Method := { name := "listCopy", desc := "(Ljava/util/Collection;)Ljava/util/List;", sig := { parameters := [(.object "java/util/Collection")], returnType := some (.object "java/util/List") }, accessFlags := 8, code := some k21c1 }
/-- java/util/ImmutableCollections -/
def k21 : Class := { plain "java/util/ImmutableCollections" (some 0) with
  accessFlags := 32
  interfaces := #[]
  cf := some (fileOf pool21 47 #[.nestMembers #[120, 169, 171, 173, 175, 111, 177, 179, 181, 183, 12, 10, 185, 187, 189, 191, 193, 195]] #[{ accessFlags := 2, nameIndex := 5, descriptorIndex := 6, attributes := #[] }, { accessFlags := 8, nameIndex := 142, descriptorIndex := 143, attributes := #[] }] 32 2 #[] #[{ accessFlags := 26, nameIndex := 95, descriptorIndex := 96, attributes := #[] }, { accessFlags := 26, nameIndex := 99, descriptorIndex := 17, attributes := #[] }, { accessFlags := 10, nameIndex := 106, descriptorIndex := 56, attributes := #[] }, { accessFlags := 26, nameIndex := 109, descriptorIndex := 110, attributes := #[] }, { accessFlags := 24, nameIndex := 62, descriptorIndex := 63, attributes := #[] }, { accessFlags := 24, nameIndex := 72, descriptorIndex := 63, attributes := #[] }, { accessFlags := 24, nameIndex := 118, descriptorIndex := 119, attributes := #[] }, { accessFlags := 24, nameIndex := 125, descriptorIndex := 126, attributes := #[] }, { accessFlags := 24, nameIndex := 131, descriptorIndex := 132, attributes := #[] }, { accessFlags := 4120, nameIndex := 50, descriptorIndex := 17, attributes := #[] }])
  fields := #[{ name := "SALT32L", type := .long, accessFlags := 26, slot := 0, constantValue := 0 }, { name := "REVERSE", type := .boolean, accessFlags := 26, slot := 1, constantValue := 0 }, { name := "archivedObjects", type := (.array (.object "java/lang/Object")), accessFlags := 10, slot := 2, constantValue := 0 }, { name := "EMPTY", type := (.object "java/lang/Object"), accessFlags := 26, slot := 3, constantValue := 0 }, { name := "EMPTY_LIST", type := (.object "java/util/ImmutableCollections$ListN"), accessFlags := 24, slot := 4, constantValue := 0 }, { name := "EMPTY_LIST_NULLS", type := (.object "java/util/ImmutableCollections$ListN"), accessFlags := 24, slot := 5, constantValue := 0 }, { name := "EMPTY_SET", type := (.object "java/util/ImmutableCollections$SetN"), accessFlags := 24, slot := 6, constantValue := 0 }, { name := "EMPTY_MAP", type := (.object "java/util/ImmutableCollections$MapN"), accessFlags := 24, slot := 7, constantValue := 0 }, { name := "EXPAND_FACTOR", type := .int, accessFlags := 24, slot := 8, constantValue := 0 }, { name := "$assertionsDisabled", type := .boolean, accessFlags := 4120, slot := 9, constantValue := 0 }]
  methods := #[k21m0, k21m1]
  instanceTypes := #[]
  staticTypes := #[.long, .boolean, (.array (.object "java/lang/Object")), (.object "java/lang/Object"), (.object "java/util/ImmutableCollections$ListN"), (.object "java/util/ImmutableCollections$ListN"), (.object "java/util/ImmutableCollections$SetN"), (.object "java/util/ImmutableCollections$MapN"), .int, .boolean]
  resolved := Array.replicate 213 none
  statics := some 2 }

def pool22 : Array CpInfo := pool [(2, .class_ 4), (1, u "java/lang/Object"), (0, u "<init>"), (0, u "()V"), (35, .class_ 44), (1, u "java/util/Objects"), (0, u "requireNonNull"), (0, u "(Ljava/lang/Object;)Ljava/lang/Object;"), (47, u "(Ljava/lang/Object;Ljava/lang/String;)Ljava/lang/Object;")] 89

def k22m0 : Method := { name := "<init>", desc := "()V", sig := { parameters := [], returnType := none }, accessFlags := 2, code := none }
def k22c1 : Code := { maxStack := 2, maxLocals := 1, code := jdk_31_method_10_code, exceptionTable := #[], attributes := #[] }
def k22m1 : Method := { name := "requireNonNull", desc := "(Ljava/lang/Object;)Ljava/lang/Object;", sig := { parameters := [(.object "java/lang/Object")], returnType := some (.object "java/lang/Object") }, accessFlags := 9, code := some k22c1 }
def k22c2 : Code := { maxStack := 3, maxLocals := 2, code := jdk_31_method_11_code, exceptionTable := #[], attributes := #[] }
def k22m2 : Method := { name := "requireNonNull", desc := "(Ljava/lang/Object;Ljava/lang/String;)Ljava/lang/Object;", sig := { parameters := [(.object "java/lang/Object"), (.object "java/lang/String")], returnType := some (.object "java/lang/Object") }, accessFlags := 9, code := some k22c2 }
/-- java/util/Objects -/
def k22 : Class := { plain "java/util/Objects" (some 0) with
  accessFlags := 49
  interfaces := #[]
  cf := some (fileOf pool22 42 #[] #[{ accessFlags := 2, nameIndex := 5, descriptorIndex := 6, attributes := #[] }, { accessFlags := 9, nameIndex := 45, descriptorIndex := 46, attributes := #[] }, { accessFlags := 9, nameIndex := 45, descriptorIndex := 94, attributes := #[] }] 49 2 #[] #[])
  fields := #[]
  methods := #[k22m0, k22m1, k22m2]
  instanceTypes := #[]
  staticTypes := #[]
  resolved := Array.replicate 184 none
  statics := none }

def pool23 : Array CpInfo := pool [(1, .methodref 2 3), (0, .class_ 4), (0, .nameAndType 5 6), (0, u "java/util/AbstractCollection"), (0, u "<init>"), (0, u "()V"), (1, .class_ 10), (1, u "java/util/ImmutableCollections"), (2, .class_ 14), (0, u "java/util/ImmutableCollections$AbstractImmutableCollection")] 41

def k23c0 : Code := { maxStack := 1, maxLocals := 1, code := jdk_47_method_1_code, exceptionTable := #[], attributes := #[] }
def k23m0 : Method := { name := "<init>", desc := "()V", sig := { parameters := [], returnType := none }, accessFlags := 0, code := some k23c0 }
/-- java/util/ImmutableCollections$AbstractImmutableCollection -/
def k23 : Class := { plain "java/util/ImmutableCollections$AbstractImmutableCollection" (some 13) with
  accessFlags := 1056
  interfaces := #[]
  cf := some (fileOf pool23 13 #[.nestHost 8] #[{ accessFlags := 0, nameIndex := 5, descriptorIndex := 6, attributes := #[] }] 1056 2 #[] #[])
  fields := #[]
  methods := #[k23m0]
  instanceTypes := #[]
  staticTypes := #[]
  resolved := Array.replicate 56 none
  statics := none }

def pool24 : Array CpInfo := pool [(1, .methodref 2 3), (0, .class_ 4), (0, .nameAndType 5 6), (0, u "java/util/ImmutableCollections$AbstractImmutableCollection"), (0, u "<init>"), (0, u "()V"), (1, .class_ 10), (1, u "java/util/ImmutableCollections"), (3, .class_ 16), (1, u "java/util/ImmutableCollections$AbstractImmutableList"), (60, .class_ 78), (0, u "java/util/List"), (45, .class_ 125), (0, u "java/util/RandomAccess")] 70

def k24c0 : Code := { maxStack := 1, maxLocals := 1, code := jdk_46_method_1_code, exceptionTable := #[], attributes := #[] }
def k24m0 : Method := { name := "<init>", desc := "()V", sig := { parameters := [], returnType := none }, accessFlags := 0, code := some k24c0 }
/-- java/util/ImmutableCollections$AbstractImmutableList -/
def k24 : Class := { plain "java/util/ImmutableCollections$AbstractImmutableList" (some 23) with
  accessFlags := 1056
  interfaces := #[15, 17]
  cf := some (fileOf pool24 14 #[.nestHost 8] #[{ accessFlags := 0, nameIndex := 5, descriptorIndex := 6, attributes := #[] }] 1056 2 #[77, 124] #[])
  fields := #[]
  methods := #[k24m0]
  instanceTypes := #[]
  staticTypes := #[]
  resolved := Array.replicate 196 none
  statics := none }

def pool25 : Array CpInfo := pool [(1, .methodref 2 3), (0, .class_ 4), (0, .nameAndType 5 6), (0, u "java/util/ImmutableCollections$AbstractImmutableList"), (0, u "<init>"), (0, u "()V"), (0, .methodref 8 9), (0, .class_ 10), (0, .nameAndType 11 12), (0, u "java/util/Objects"), (0, u "requireNonNull"), (0, u "(Ljava/lang/Object;)Ljava/lang/Object;"), (0, .fieldref 14 15), (0, .class_ 16), (0, .nameAndType 17 18), (0, u "java/util/ImmutableCollections$List12"), (0, u "e0"), (0, u "Ljava/lang/Object;"), (0, .fieldref 20 21), (0, .class_ 22), (0, .nameAndType 23 18), (0, u "java/util/ImmutableCollections"), (0, u "EMPTY"), (0, .fieldref 14 25), (0, .nameAndType 26 18), (0, u "e1"), (43, .class_ 71), (0, u "java/io/Serializable"), (4, u "(Ljava/lang/Object;)V")] 48

def k25c0 : Code := { maxStack := 2, maxLocals := 2, code := jdk_44_method_1_code, exceptionTable := #[], attributes := #[] }
def k25m0 : Method := { name := "<init>", desc := "(Ljava/lang/Object;)V", sig := { parameters := [(.object "java/lang/Object")], returnType := none }, accessFlags := 0, code := some k25c0 }
/-- java/util/ImmutableCollections$List12 -/
def k25 : Class := { plain "java/util/ImmutableCollections$List12" (some 24) with
  accessFlags := 48
  interfaces := #[4]
  cf := some (fileOf pool25 14 #[.nestHost 20] #[{ accessFlags := 0, nameIndex := 5, descriptorIndex := 76, attributes := #[] }] 48 2 #[70] #[{ accessFlags := 18, nameIndex := 17, descriptorIndex := 18, attributes := #[] }, { accessFlags := 18, nameIndex := 26, descriptorIndex := 18, attributes := #[] }])
  fields := #[{ name := "e0", type := (.object "java/lang/Object"), accessFlags := 18, slot := 0, constantValue := 0 }, { name := "e1", type := (.object "java/lang/Object"), accessFlags := 18, slot := 1, constantValue := 0 }]
  methods := #[k25m0]
  instanceTypes := #[(.object "java/lang/Object"), (.object "java/lang/Object")]
  staticTypes := #[]
  resolved := Array.replicate 125 none
  statics := none }

def pool26 : Array CpInfo := pool [(2, .class_ 4), (1, u "java/util/ImmutableCollections$AbstractImmutableList"), (3, .class_ 10), (1, u "java/util/ImmutableCollections$ListN"), (0, u "elements"), (0, u "[Ljava/lang/Object;"), (2, u "allowNulls"), (0, u "Z"), (42, .class_ 60), (0, u "java/io/Serializable"), (53, .class_ 115), (0, u "java/util/ImmutableCollections")] 3

/-- java/util/ImmutableCollections$ListN -/
def k26 : Class := { plain "java/util/ImmutableCollections$ListN" (some 24) with
  accessFlags := 48
  interfaces := #[4]
  cf := some (fileOf pool26 8 #[.nestHost 114] #[] 48 2 #[59] #[{ accessFlags := 18, nameIndex := 11, descriptorIndex := 12, attributes := #[] }, { accessFlags := 18, nameIndex := 15, descriptorIndex := 16, attributes := #[] }])
  fields := #[{ name := "elements", type := (.array (.object "java/lang/Object")), accessFlags := 18, slot := 0, constantValue := 0 }, { name := "allowNulls", type := .boolean, accessFlags := 18, slot := 1, constantValue := 0 }]
  methods := #[]
  instanceTypes := #[(.array (.object "java/lang/Object")), .boolean]
  staticTypes := #[]
  resolved := Array.replicate 119 none
  statics := none }

def pool27 : Array CpInfo := pool [(2, .class_ 4), (1, u "java/lang/Object"), (0, u "<init>"), (0, u "()V"), (1, .class_ 10), (1, u "java/util/AbstractMap"), (42, .class_ 54), (0, u "java/util/Map"), (9, u "keySet"), (0, u "Ljava/util/Set;"), (0, .class_ 67), (0, u "java/util/AbstractMap$1"), (5, u "values"), (0, u "Ljava/util/Collection;"), (0, .class_ 76), (0, u "java/util/AbstractMap$2"), (104, .class_ 182), (0, u "java/util/AbstractMap$ViewCollection"), (0, .class_ 184), (0, u "java/util/AbstractMap$SimpleImmutableEntry"), (0, .class_ 186), (0, u "java/util/AbstractMap$SimpleEntry"), (0, .class_ 188), (0, u "java/util/AbstractMap$2$1"), (0, .class_ 190), (0, u "java/util/AbstractMap$1$1")] 5

def k27m0 : Method := { name := "<init>", desc := "()V", sig := { parameters := [], returnType := none }, accessFlags := 4, code := none }
/-- java/util/AbstractMap -/
def k27 : Class := { plain "java/util/AbstractMap" (some 0) with
  accessFlags := 1057
  interfaces := #[20]
  cf := some (fileOf pool27 8 #[.nestMembers #[181, 183, 185, 75, 187, 66, 189]] #[{ accessFlags := 4, nameIndex := 5, descriptorIndex := 6, attributes := #[] }] 1057 2 #[53] #[{ accessFlags := 128, nameIndex := 64, descriptorIndex := 65, attributes := #[] }, { accessFlags := 128, nameIndex := 73, descriptorIndex := 74, attributes := #[] }])
  fields := #[{ name := "keySet", type := (.object "java/util/Set"), accessFlags := 128, slot := 0, constantValue := 0 }, { name := "values", type := (.object "java/util/Collection"), accessFlags := 128, slot := 1, constantValue := 0 }]
  methods := #[k27m0]
  instanceTypes := #[(.object "java/util/Set"), (.object "java/util/Collection")]
  staticTypes := #[]
  resolved := Array.replicate 196 none
  statics := none }

def pool28 : Array CpInfo := pool [(2, .class_ 4), (1, u "java/util/AbstractMap"), (0, u "<init>"), (0, u "()V"), (1, .class_ 10), (1, u "java/util/ImmutableCollections"), (3, .class_ 16), (1, u "java/util/ImmutableCollections$AbstractImmutableMap"), (2, .class_ 20), (0, u "java/io/Serializable")] 66

def k28m0 : Method := { name := "<init>", desc := "()V", sig := { parameters := [], returnType := none }, accessFlags := 0, code := none }
/-- java/util/ImmutableCollections$AbstractImmutableMap -/
def k28 : Class := { plain "java/util/ImmutableCollections$AbstractImmutableMap" (some 27) with
  accessFlags := 1056
  interfaces := #[4]
  cf := some (fileOf pool28 14 #[.nestHost 8] #[{ accessFlags := 0, nameIndex := 5, descriptorIndex := 6, attributes := #[] }] 1056 2 #[19] #[])
  fields := #[]
  methods := #[k28m0]
  instanceTypes := #[(.object "java/util/Set"), (.object "java/util/Collection")]
  staticTypes := #[]
  resolved := Array.replicate 87 none
  statics := none }

def pool29 : Array CpInfo := pool [(1, .class_ 2), (0, u "java/util/ImmutableCollections"), (1, .class_ 6), (1, u "java/util/ImmutableCollections$AbstractImmutableMap"), (10, .class_ 19), (1, u "java/util/ImmutableCollections$MapN"), (0, u "size"), (0, u "I"), (4, u "table"), (0, u "[Ljava/lang/Object;")] 121

/-- java/util/ImmutableCollections$MapN -/
def k29 : Class := { plain "java/util/ImmutableCollections$MapN" (some 28) with
  accessFlags := 48
  interfaces := #[]
  cf := some (fileOf pool29 17 #[.nestHost 1] #[] 48 4 #[] #[{ accessFlags := 16, nameIndex := 26, descriptorIndex := 27, attributes := #[] }, { accessFlags := 16, nameIndex := 20, descriptorIndex := 21, attributes := #[] }])
  fields := #[{ name := "table", type := (.array (.object "java/lang/Object")), accessFlags := 16, slot := 2, constantValue := 0 }, { name := "size", type := .int, accessFlags := 16, slot := 3, constantValue := 0 }]
  methods := #[]
  instanceTypes := #[(.object "java/util/Set"), (.object "java/util/Collection"), (.array (.object "java/lang/Object")), .int]
  staticTypes := #[]
  resolved := Array.replicate 149 none
  statics := none }

def pool30 : Array CpInfo := pool [(1, .methodref 2 3), (0, .class_ 4), (0, .nameAndType 5 6), (0, u "com/example/navlint/navlint/model/HashedValue"), (0, u "<init>"), (0, u "()V"), (0, .fieldref 8 9), (0, .class_ 10), (0, .nameAndType 11 12), (0, u "com/example/navlint/navlint/model/State$Tab"), (0, u "entry"), (0, u "Lcom/example/navlint/navlint/model/Entry;"), (0, .interfaceMethodref 14 15), (0, .class_ 16), (0, .nameAndType 17 18), (0, u "java/util/List"), (0, u "copyOf"), (0, u "(Ljava/util/Collection;)Ljava/util/List;"), (0, .fieldref 8 20), (0, .nameAndType 21 22), (0, u "back"), (0, u "Ljava/util/List;"), (0, .fieldref 8 24), (0, .nameAndType 25 22), (0, u "forward"), (4, .methodref 8 31), (0, .nameAndType 5 32), (0, u "(Lcom/example/navlint/navlint/model/Entry;Ljava/util/List;Ljava/util/List;)V"), (31, u "()Lcom/example/navlint/navlint/model/Entry;"), (1, u "waits"), (0, u "()Z"), (1, u "showing"), (0, u "(Lcom/example/navlint/navlint/model/Entry;)Lcom/example/navlint/navlint/model/State$Tab;"), (0, u "waiting"), (0, u "()Lcom/example/navlint/navlint/model/State$Tab;"), (9, .class_ 83), (0, u "com/example/navlint/navlint/model/State")] 16

def k30c0 : Code := { maxStack := 2, maxLocals := 4, code := prog_104_method_1_code, exceptionTable := #[], attributes := #[] }
def k30m0 : Method := { name := "<init>", desc := "(Lcom/example/navlint/navlint/model/Entry;Ljava/util/List;Ljava/util/List;)V", sig := { parameters := [(.object "com/example/navlint/navlint/model/Entry"), (.object "java/util/List"), (.object "java/util/List")], returnType := none }, accessFlags := 1, code := some k30c0 }
def k30c1 : Code := { maxStack := 1, maxLocals := 1, code := prog_104_method_3_code, exceptionTable := #[], attributes := #[] }
def k30m1 : Method := { name := "entry", desc := "()Lcom/example/navlint/navlint/model/Entry;", sig := { parameters := [], returnType := some (.object "com/example/navlint/navlint/model/Entry") }, accessFlags := 1, code := some k30c1 }
def k30c2 : Code := { maxStack := 1, maxLocals := 1, code := prog_104_method_6_code, exceptionTable := #[], attributes := #[] }
def k30m2 : Method := { name := "waits", desc := "()Z", sig := { parameters := [], returnType := some .boolean }, accessFlags := 1, code := some k30c2 }
def k30c3 : Code := { maxStack := 5, maxLocals := 2, code := prog_104_method_7_code, exceptionTable := #[], attributes := #[] }
def k30m3 : Method := { name := "showing", desc := "(Lcom/example/navlint/navlint/model/Entry;)Lcom/example/navlint/navlint/model/State$Tab;", sig := { parameters := [(.object "com/example/navlint/navlint/model/Entry")], returnType := some (.object "com/example/navlint/navlint/model/State$Tab") }, accessFlags := 0, code := some k30c3 }
def k30c4 : Code := { maxStack := 5, maxLocals := 1, code := prog_104_method_8_code, exceptionTable := #[], attributes := #[] }
def k30m4 : Method := { name := "waiting", desc := "()Lcom/example/navlint/navlint/model/State$Tab;", sig := { parameters := [], returnType := some (.object "com/example/navlint/navlint/model/State$Tab") }, accessFlags := 0, code := some k30c4 }
/-- com/example/navlint/navlint/model/State$Tab -/
def k30 : Class := { plain "com/example/navlint/navlint/model/State$Tab" (some 2) with
  accessFlags := 49
  interfaces := #[]
  cf := some (fileOf pool30 8 #[.nestHost 82] #[{ accessFlags := 1, nameIndex := 5, descriptorIndex := 32, attributes := #[] }, { accessFlags := 1, nameIndex := 11, descriptorIndex := 64, attributes := #[] }, { accessFlags := 1, nameIndex := 66, descriptorIndex := 67, attributes := #[] }, { accessFlags := 0, nameIndex := 69, descriptorIndex := 70, attributes := #[] }, { accessFlags := 0, nameIndex := 71, descriptorIndex := 72, attributes := #[] }] 49 2 #[] #[{ accessFlags := 18, nameIndex := 11, descriptorIndex := 12, attributes := #[] }, { accessFlags := 18, nameIndex := 21, descriptorIndex := 22, attributes := #[] }, { accessFlags := 18, nameIndex := 25, descriptorIndex := 22, attributes := #[] }])
  fields := #[{ name := "entry", type := (.object "com/example/navlint/navlint/model/Entry"), accessFlags := 18, slot := 1, constantValue := 0 }, { name := "back", type := (.object "java/util/List"), accessFlags := 18, slot := 2, constantValue := 0 }, { name := "forward", type := (.object "java/util/List"), accessFlags := 18, slot := 3, constantValue := 0 }]
  methods := #[k30m0, k30m1, k30m2, k30m3, k30m4]
  instanceTypes := #[.int, (.object "com/example/navlint/navlint/model/Entry"), (.object "java/util/List"), (.object "java/util/List")]
  staticTypes := #[]
  resolved := Array.replicate 100 none
  statics := none }

def pool31 : Array CpInfo := pool [(1, .class_ 2), (0, u "java/lang/Math"), (1, .class_ 6), (1, u "java/lang/Object"), (0, u "<init>"), (0, u "()V"), (89, .class_ 100), (1, u "java/lang/Math$RandomNumberGeneratorHolder"), (71, u "negativeZeroFloatBits"), (0, u "J"), (2, u "negativeZeroDoubleBits"), (21, u "max"), (2, u "min"), (43, u "$assertionsDisabled"), (0, u "Z"), (88, u "(II)I"), (2, u "twoToTheDoubleScaleDown"), (0, u "D"), (4, u "twoToTheDoubleScaleUp"), (9, u "E"), (3, u "PI"), (2, u "TAU"), (2, u "DEGREES_TO_RADIANS"), (0, u "RADIANS_TO_DEGREES")] 94

def k31m0 : Method := { name := "<init>", desc := "()V", sig := { parameters := [], returnType := none }, accessFlags := 2, code := none }
def k31c1 : Code := { maxStack := 2, maxLocals := 2, code := jdk_29_method_65_code, exceptionTable := #[], attributes := #[] }
def k31m1 : Method := { name := "max", desc := "(II)I", sig := { parameters := [.int, .int], returnType := some .int }, accessFlags := 9, code := some k31c1 }
def k31c2 : Code := { maxStack := 2, maxLocals := 2, code := jdk_29_method_69_code, exceptionTable := #[], attributes := #[] }
def k31m2 : Method := { name := "min", desc := "(II)I", sig := { parameters := [.int, .int], returnType := some .int }, accessFlags := 9, code := some k31c2 }
/-- java/lang/Math -/
def k31 : Class := { plain "java/lang/Math" (some 0) with
  accessFlags := 49
  interfaces := #[]
  cf := some (fileOf pool31 1 #[.nestMembers #[98]] #[{ accessFlags := 2, nameIndex := 7, descriptorIndex := 8, attributes := #[] }, { accessFlags := 9, nameIndex := 198, descriptorIndex := 335, attributes := #[] }, { accessFlags := 9, nameIndex := 201, descriptorIndex := 335, attributes := #[] }] 49 4 #[] #[{ accessFlags := 25, nameIndex := 354, descriptorIndex := 339, attributes := #[] }, { accessFlags := 25, nameIndex := 358, descriptorIndex := 339, attributes := #[] }, { accessFlags := 25, nameIndex := 361, descriptorIndex := 339, attributes := #[] }, { accessFlags := 26, nameIndex := 364, descriptorIndex := 339, attributes := #[] }, { accessFlags := 26, nameIndex := 365, descriptorIndex := 339, attributes := #[] }, { accessFlags := 26, nameIndex := 172, descriptorIndex := 173, attributes := #[] }, { accessFlags := 26, nameIndex := 176, descriptorIndex := 173, attributes := #[] }, { accessFlags := 8, nameIndex := 344, descriptorIndex := 339, attributes := #[] }, { accessFlags := 8, nameIndex := 338, descriptorIndex := 339, attributes := #[] }, { accessFlags := 4120, nameIndex := 245, descriptorIndex := 246, attributes := #[] }])
  fields := #[{ name := "E", type := .double, accessFlags := 25, slot := 0, constantValue := 0 }, { name := "PI", type := .double, accessFlags := 25, slot := 1, constantValue := 0 }, { name := "TAU", type := .double, accessFlags := 25, slot := 2, constantValue := 0 }, { name := "DEGREES_TO_RADIANS", type := .double, accessFlags := 26, slot := 3, constantValue := 0 }, { name := "RADIANS_TO_DEGREES", type := .double, accessFlags := 26, slot := 4, constantValue := 0 }, { name := "negativeZeroFloatBits", type := .long, accessFlags := 26, slot := 5, constantValue := 0 }, { name := "negativeZeroDoubleBits", type := .long, accessFlags := 26, slot := 6, constantValue := 0 }, { name := "twoToTheDoubleScaleUp", type := .double, accessFlags := 8, slot := 7, constantValue := 0 }, { name := "twoToTheDoubleScaleDown", type := .double, accessFlags := 8, slot := 8, constantValue := 0 }, { name := "$assertionsDisabled", type := .boolean, accessFlags := 4120, slot := 9, constantValue := 0 }]
  methods := #[k31m0, k31m1, k31m2]
  instanceTypes := #[]
  staticTypes := #[.double, .double, .double, .double, .double, .long, .long, .double, .double, .boolean]
  resolved := Array.replicate 460 none
  statics := none }

def pool32 : Array CpInfo := pool [(2, .class_ 4), (1, u "java/lang/Object"), (0, u "<init>"), (0, u "()V"), (7, .class_ 16), (1, u "java/util/Arrays"), (57, .class_ 76), (1, u "java/util/Arrays$NaturalOrder"), (9, .methodref 2 87), (0, .nameAndType 88 89), (0, u "getClass"), (0, u "()Ljava/lang/Class;"), (20, .class_ 111), (0, u "[Ljava/lang/Object;"), (1, .class_ 115), (1, u "java/util/Arrays$LegacyMergeSort"), (1, u "Z"), (32, .methodref 151 152), (0, .class_ 153), (0, .nameAndType 154 155), (0, u "java/lang/System"), (0, u "arraycopy"), (0, u "(Ljava/lang/Object;ILjava/lang/Object;II)V"), (144, .methodref 14 301), (0, .nameAndType 302 303), (0, u "copyOf"), (0, u "([Ljava/lang/Object;ILjava/lang/Class;)[Ljava/lang/Object;"), (0, .methodref 305 306), (0, .class_ 307), (0, .nameAndType 308 309), (0, u "java/lang/Math"), (0, u "min"), (0, u "(II)I"), (65, .class_ 376), (0, u "java/util/Arrays$ArrayList"), (68, u "$assertionsDisabled"), (269, u "MIN_ARRAY_SORT_GRAN"), (0, u "I"), (2, u "INSERTIONSORT_THRESHOLD"), (140, u "([Ljava/lang/Object;I)[Ljava/lang/Object;"), (114, .class_ 976), (0, u "java/util/Arrays$ArrayItr")] 52

def k32m0 : Method := { name := "<init>", desc := "()V", sig := { parameters := [], returnType := none }, accessFlags := 2, code := none }
def k32c1 : Code := { maxStack := 3, maxLocals := 2, code := jdk_65_method_119_code, exceptionTable := #[], attributes := #[] }
def k32m1 : Method := { name := "copyOf", desc := "([Ljava/lang/Object;I)[Ljava/lang/Object;", sig := { parameters := [(.array (.object "java/lang/Object")), .int], returnType := some (.array (.object "java/lang/Object")) }, accessFlags := 9, code := some k32c1 }
def k32c2 : Code := { maxStack := 6, maxLocals := 4, code := jdk_65_method_120_code, exceptionTable := #[], attributes := #[] }
def k32m2 : Method := { name := "copyOf", desc := "([Ljava/lang/Object;ILjava/lang/Class;)[Ljava/lang/Object;", sig := { parameters := [(.array (.object "java/lang/Object")), .int, (.object "java/lang/Class")], returnType := some (.array (.object "java/lang/Object")) }, accessFlags := 9, code := some k32c2 }
/-- java/util/Arrays -/
def k32 : Class := { plain "java/util/Arrays" (some 0) with
  accessFlags := 49
  interfaces := #[]
  cf := some (fileOf pool32 14 #[.nestMembers #[975, 375, 113, 74]] #[{ accessFlags := 2, nameIndex := 5, descriptorIndex := 6, attributes := #[] }, { accessFlags := 9, nameIndex := 302, descriptorIndex := 860, attributes := #[] }, { accessFlags := 9, nameIndex := 302, descriptorIndex := 303, attributes := #[] }] 49 2 #[] #[{ accessFlags := 26, nameIndex := 715, descriptorIndex := 716, attributes := #[] }, { accessFlags := 26, nameIndex := 719, descriptorIndex := 716, attributes := #[] }, { accessFlags := 4120, nameIndex := 445, descriptorIndex := 117, attributes := #[] }])
  fields := #[{ name := "MIN_ARRAY_SORT_GRAN", type := .int, accessFlags := 26, slot := 0, constantValue := 0 }, { name := "INSERTIONSORT_THRESHOLD", type := .int, accessFlags := 26, slot := 1, constantValue := 0 }, { name := "$assertionsDisabled", type := .boolean, accessFlags := 4120, slot := 2, constantValue := 0 }]
  methods := #[k32m0, k32m1, k32m2]
  instanceTypes := #[]
  staticTypes := #[.int, .int, .boolean]
  resolved := Array.replicate 1029 none
  statics := none }

def pool33 : Array CpInfo := pool [(2, .class_ 4), (1, u "java/lang/Object"), (0, u "<init>"), (0, u "()V"), (1, .class_ 10), (1, u "java/lang/System"), (0, u "allowSecurityManager"), (0, u "I"), (16, u "cons"), (0, u "Ljava/io/Console;"), (77, .class_ 110), (1, u "java/lang/System$CallersHolder"), (43, u "initialErrStream"), (0, u "Ljava/io/PrintStream;"), (19, u "security"), (0, u "Ljava/lang/SecurityManager;"), (31, .class_ 209), (0, u "java/lang/System$1"), (7, u "props"), (0, u "Ljava/util/Properties;"), (2, u "lineSeparator"), (0, u "Ljava/lang/String;"), (96, .class_ 321), (1, u "java/lang/System$LoggerFinder"), (5, .class_ 328), (0, u "java/lang/System$Logger"), (67, u "err"), (2, u "out"), (91, u "notSupportedJnuEncoding"), (15, u "in"), (17, u "initialIn"), (0, u "Ljava/io/InputStream;"), (35, u "bootLayer"), (0, u "Ljava/lang/ModuleLayer;"), (99, .class_ 664), (0, u "java/lang/System$2"), (9, u "NEVER"), (2, u "MAYBE"), (49, u "arraycopy"), (0, u "(Ljava/lang/Object;ILjava/lang/Object;II)V"), (72, .class_ 802), (0, u "java/lang/System$Logger$Level")] 31

def k33m0 : Method := { name := "<init>", desc := "()V", sig := { parameters := [], returnType := none }, accessFlags := 2, code := none }
def k33m1 : Method := { name := "arraycopy", desc := "(Ljava/lang/Object;ILjava/lang/Object;II)V", sig := { parameters := [(.object "java/lang/Object"), .int, (.object "java/lang/Object"), .int, .int], returnType := none }, accessFlags := 265, code := none }
/-- java/lang/System -/
def k33 : Class := { plain "java/lang/System" (some 0) with
  accessFlags := 49
  interfaces := #[]
  cf := some (fileOf pool33 8 #[.nestMembers #[319, 327, 801, 108, 663, 208]] #[{ accessFlags := 2, nameIndex := 5, descriptorIndex := 6, attributes := #[] }, { accessFlags := 265, nameIndex := 727, descriptorIndex := 728, attributes := #[] }] 49 2 #[] #[{ accessFlags := 25, nameIndex := 507, descriptorIndex := 526, attributes := #[] }, { accessFlags := 25, nameIndex := 399, descriptorIndex := 155, attributes := #[] }, { accessFlags := 25, nameIndex := 396, descriptorIndex := 155, attributes := #[] }, { accessFlags := 10, nameIndex := 525, descriptorIndex := 526, attributes := #[] }, { accessFlags := 26, nameIndex := 674, descriptorIndex := 12, attributes := #[] }, { accessFlags := 26, nameIndex := 677, descriptorIndex := 12, attributes := #[] }, { accessFlags := 10, nameIndex := 11, descriptorIndex := 12, attributes := #[] }, { accessFlags := 74, nameIndex := 175, descriptorIndex := 176, attributes := #[] }, { accessFlags := 10, nameIndex := 491, descriptorIndex := 222, attributes := #[] }, { accessFlags := 74, nameIndex := 29, descriptorIndex := 30, attributes := #[] }, { accessFlags := 74, nameIndex := 154, descriptorIndex := 155, attributes := #[] }, { accessFlags := 10, nameIndex := 217, descriptorIndex := 218, attributes := #[] }, { accessFlags := 10, nameIndex := 221, descriptorIndex := 222, attributes := #[] }, { accessFlags := 8, nameIndex := 562, descriptorIndex := 563, attributes := #[] }])
  fields := #[{ name := "in", type := (.object "java/io/InputStream"), accessFlags := 25, slot := 0, constantValue := 0 }, { name := "out", type := (.object "java/io/PrintStream"), accessFlags := 25, slot := 1, constantValue := 0 }, { name := "err", type := (.object "java/io/PrintStream"), accessFlags := 25, slot := 2, constantValue := 0 }, { name := "initialIn", type := (.object "java/io/InputStream"), accessFlags := 10, slot := 3, constantValue := 0 }, { name := "NEVER", type := .int, accessFlags := 26, slot := 4, constantValue := 0 }, { name := "MAYBE", type := .int, accessFlags := 26, slot := 5, constantValue := 0 }, { name := "allowSecurityManager", type := .int, accessFlags := 10, slot := 6, constantValue := 0 }, { name := "security", type := (.object "java/lang/SecurityManager"), accessFlags := 74, slot := 7, constantValue := 0 }, { name := "notSupportedJnuEncoding", type := (.object "java/lang/String"), accessFlags := 10, slot := 8, constantValue := 0 }, { name := "cons", type := (.object "java/io/Console"), accessFlags := 74, slot := 9, constantValue := 0 }, { name := "initialErrStream", type := (.object "java/io/PrintStream"), accessFlags := 74, slot := 10, constantValue := 0 }, { name := "props", type := (.object "java/util/Properties"), accessFlags := 10, slot := 11, constantValue := 0 }, { name := "lineSeparator", type := (.object "java/lang/String"), accessFlags := 10, slot := 12, constantValue := 0 }, { name := "bootLayer", type := (.object "java/lang/ModuleLayer"), accessFlags := 8, slot := 13, constantValue := 0 }]
  methods := #[k33m0, k33m1]
  instanceTypes := #[]
  staticTypes := #[(.object "java/io/InputStream"), (.object "java/io/PrintStream"), (.object "java/io/PrintStream"), (.object "java/io/InputStream"), .int, .int, .int, (.object "java/lang/SecurityManager"), (.object "java/lang/String"), (.object "java/io/Console"), (.object "java/io/PrintStream"), (.object "java/util/Properties"), (.object "java/lang/String"), (.object "java/lang/ModuleLayer")]
  resolved := Array.replicate 834 none
  statics := none }

def pool34 : Array CpInfo := pool [(4, .class_ 6), (1, u "java/lang/Object"), (0, u "<init>"), (0, u "()V"), (5, .class_ 16), (1, u "java/lang/StringLatin1"), (104, u "$assertionsDisabled"), (0, u "Z"), (98, .class_ 223), (1, u "java/lang/StringLatin1$LinesSpliterator"), (166, .class_ 391), (0, u "java/lang/StringLatin1$CharsSpliterator")] 3

def k34m0 : Method := { name := "<init>", desc := "()V", sig := { parameters := [], returnType := none }, accessFlags := 0, code := none }
/-- java/lang/StringLatin1 -/
def k34 : Class := { plain "java/lang/StringLatin1" (some 0) with
  accessFlags := 48
  interfaces := #[]
  cf := some (fileOf pool34 14 #[.nestMembers #[390, 221]] #[{ accessFlags := 0, nameIndex := 7, descriptorIndex := 8, attributes := #[] }] 48 4 #[] #[{ accessFlags := 4120, nameIndex := 121, descriptorIndex := 122, attributes := #[] }])
  fields := #[{ name := "$assertionsDisabled", type := .boolean, accessFlags := 4120, slot := 0, constantValue := 0 }]
  methods := #[k34m0]
  instanceTypes := #[]
  staticTypes := #[.boolean]
  resolved := Array.replicate 395 none
  statics := none }

def pool35 : Array CpInfo := pool [(2, .class_ 4), (1, u "java/lang/Object"), (0, u "<init>"), (0, u "()V"), (17, .class_ 26), (1, u "jdk/internal/util/Preconditions"), (28, .class_ 56), (0, u "jdk/internal/util/Preconditions$4"), (57, .class_ 115), (0, u "jdk/internal/util/Preconditions$1"), (7, u "SIOOBE_FORMATTER"), (0, u "Ljava/util/function/BiFunction;"), (0, .class_ 126), (0, u "jdk/internal/util/Preconditions$2"), (3, u "AIOOBE_FORMATTER"), (0, .class_ 132), (0, u "jdk/internal/util/Preconditions$3"), (3, u "IOOBE_FORMATTER")] 57

def k35m0 : Method := { name := "<init>", desc := "()V", sig := { parameters := [], returnType := none }, accessFlags := 1, code := none }
/-- jdk/internal/util/Preconditions -/
def k35 : Class := { plain "jdk/internal/util/Preconditions" (some 0) with
  accessFlags := 33
  interfaces := #[]
  cf := some (fileOf pool35 24 #[.nestMembers #[55, 131, 125, 114]] #[{ accessFlags := 1, nameIndex := 5, descriptorIndex := 6, attributes := #[] }] 33 2 #[] #[{ accessFlags := 25, nameIndex := 123, descriptorIndex := 124, attributes := #[] }, { accessFlags := 25, nameIndex := 130, descriptorIndex := 124, attributes := #[] }, { accessFlags := 25, nameIndex := 136, descriptorIndex := 124, attributes := #[] }])
  fields := #[{ name := "SIOOBE_FORMATTER", type := (.object "java/util/function/BiFunction"), accessFlags := 25, slot := 0, constantValue := 0 }, { name := "AIOOBE_FORMATTER", type := (.object "java/util/function/BiFunction"), accessFlags := 25, slot := 1, constantValue := 0 }, { name := "IOOBE_FORMATTER", type := (.object "java/util/function/BiFunction"), accessFlags := 25, slot := 2, constantValue := 0 }]
  methods := #[k35m0]
  instanceTypes := #[]
  staticTypes := #[(.object "java/util/function/BiFunction"), (.object "java/util/function/BiFunction"), (.object "java/util/function/BiFunction")]
  resolved := Array.replicate 194 none
  statics := some 3 }

def pool36 : Array CpInfo := pool [(9, u "<init>"), (6, .class_ 18), (1, u "java/lang/Object"), (0, u "()V"), (1, .class_ 23), (1, u "jdk/internal/util/ArraysSupport"), (0, u "LOG2_ARRAY_LONG_INDEX_SCALE"), (0, u "I"), (2, u "U"), (0, u "Ljdk/internal/misc/Unsafe;"), (8, u "BIG_ENDIAN"), (0, u "Z"), (8, u "LOG2_BYTE_BIT_SIZE"), (4, u "LOG2_ARRAY_INT_INDEX_SCALE"), (54, u "JLA"), (0, u "Ljdk/internal/access/JavaLangAccess;"), (11, u "LOG2_ARRAY_BOOLEAN_INDEX_SCALE"), (9, u "LOG2_ARRAY_BYTE_INDEX_SCALE"), (5, u "LOG2_ARRAY_CHAR_INDEX_SCALE"), (5, u "LOG2_ARRAY_SHORT_INDEX_SCALE"), (18, u "LOG2_ARRAY_FLOAT_INDEX_SCALE"), (24, u "LOG2_ARRAY_DOUBLE_INDEX_SCALE"), (89, u "T_BOOLEAN"), (2, u "T_CHAR"), (1, u "T_FLOAT"), (1, u "T_DOUBLE"), (1, u "T_BYTE"), (1, u "T_SHORT"), (1, u "T_INT"), (1, u "T_LONG"), (1, u "SOFT_MAX_ARRAY_LENGTH")] 83

def k36m0 : Method := { name := "<init>", desc := "()V", sig := { parameters := [], returnType := none }, accessFlags := 2, code := none }
/-- jdk/internal/util/ArraysSupport -/
def k36 : Class := { plain "jdk/internal/util/ArraysSupport" (some 0) with
  accessFlags := 33
  interfaces := #[]
  cf := some (fileOf pool36 21 #[] #[{ accessFlags := 2, nameIndex := 9, descriptorIndex := 19, attributes := #[] }] 33 16 #[] #[{ accessFlags := 24, nameIndex := 28, descriptorIndex := 29, attributes := #[] }, { accessFlags := 26, nameIndex := 38, descriptorIndex := 39, attributes := #[] }, { accessFlags := 25, nameIndex := 121, descriptorIndex := 25, attributes := #[] }, { accessFlags := 25, nameIndex := 131, descriptorIndex := 25, attributes := #[] }, { accessFlags := 25, nameIndex := 137, descriptorIndex := 25, attributes := #[] }, { accessFlags := 25, nameIndex := 143, descriptorIndex := 25, attributes := #[] }, { accessFlags := 25, nameIndex := 53, descriptorIndex := 25, attributes := #[] }, { accessFlags := 25, nameIndex := 24, descriptorIndex := 25, attributes := #[] }, { accessFlags := 25, nameIndex := 162, descriptorIndex := 25, attributes := #[] }, { accessFlags := 25, nameIndex := 187, descriptorIndex := 25, attributes := #[] }, { accessFlags := 26, nameIndex := 48, descriptorIndex := 25, attributes := #[] }, { accessFlags := 25, nameIndex := 277, descriptorIndex := 25, attributes := #[] }, { accessFlags := 25, nameIndex := 280, descriptorIndex := 25, attributes := #[] }, { accessFlags := 25, nameIndex := 282, descriptorIndex := 25, attributes := #[] }, { accessFlags := 25, nameIndex := 284, descriptorIndex := 25, attributes := #[] }, { accessFlags := 25, nameIndex := 286, descriptorIndex := 25, attributes := #[] }, { accessFlags := 25, nameIndex := 288, descriptorIndex := 25, attributes := #[] }, { accessFlags := 25, nameIndex := 290, descriptorIndex := 25, attributes := #[] }, { accessFlags := 25, nameIndex := 292, descriptorIndex := 25, attributes := #[] }, { accessFlags := 26, nameIndex := 108, descriptorIndex := 109, attributes := #[] }, { accessFlags := 25, nameIndex := 294, descriptorIndex := 25, attributes := #[] }])
  fields := #[{ name := "U", type := (.object "jdk/internal/misc/Unsafe"), accessFlags := 24, slot := 0, constantValue := 0 }, { name := "BIG_ENDIAN", type := .boolean, accessFlags := 26, slot := 1, constantValue := 0 }, { name := "LOG2_ARRAY_BOOLEAN_INDEX_SCALE", type := .int, accessFlags := 25, slot := 2, constantValue := 0 }, { name := "LOG2_ARRAY_BYTE_INDEX_SCALE", type := .int, accessFlags := 25, slot := 3, constantValue := 0 }, { name := "LOG2_ARRAY_CHAR_INDEX_SCALE", type := .int, accessFlags := 25, slot := 4, constantValue := 0 }, { name := "LOG2_ARRAY_SHORT_INDEX_SCALE", type := .int, accessFlags := 25, slot := 5, constantValue := 0 }, { name := "LOG2_ARRAY_INT_INDEX_SCALE", type := .int, accessFlags := 25, slot := 6, constantValue := 0 }, { name := "LOG2_ARRAY_LONG_INDEX_SCALE", type := .int, accessFlags := 25, slot := 7, constantValue := 0 }, { name := "LOG2_ARRAY_FLOAT_INDEX_SCALE", type := .int, accessFlags := 25, slot := 8, constantValue := 0 }, { name := "LOG2_ARRAY_DOUBLE_INDEX_SCALE", type := .int, accessFlags := 25, slot := 9, constantValue := 0 }, { name := "LOG2_BYTE_BIT_SIZE", type := .int, accessFlags := 26, slot := 10, constantValue := 0 }, { name := "T_BOOLEAN", type := .int, accessFlags := 25, slot := 11, constantValue := 0 }, { name := "T_CHAR", type := .int, accessFlags := 25, slot := 12, constantValue := 0 }, { name := "T_FLOAT", type := .int, accessFlags := 25, slot := 13, constantValue := 0 }, { name := "T_DOUBLE", type := .int, accessFlags := 25, slot := 14, constantValue := 0 }, { name := "T_BYTE", type := .int, accessFlags := 25, slot := 15, constantValue := 0 }, { name := "T_SHORT", type := .int, accessFlags := 25, slot := 16, constantValue := 0 }, { name := "T_INT", type := .int, accessFlags := 25, slot := 17, constantValue := 0 }, { name := "T_LONG", type := .int, accessFlags := 25, slot := 18, constantValue := 0 }, { name := "JLA", type := (.object "jdk/internal/access/JavaLangAccess"), accessFlags := 26, slot := 19, constantValue := 0 }, { name := "SOFT_MAX_ARRAY_LENGTH", type := .int, accessFlags := 25, slot := 20, constantValue := 0 }]
  methods := #[k36m0]
  instanceTypes := #[]
  staticTypes := #[(.object "jdk/internal/misc/Unsafe"), .boolean, .int, .int, .int, .int, .int, .int, .int, .int, .int, .int, .int, .int, .int, .int, .int, .int, .int, (.object "jdk/internal/access/JavaLangAccess"), .int]
  resolved := Array.replicate 378 none
  statics := none }

def pool37 : Array CpInfo := pool [(1, u "java/lang/Class"), (0, .class_ 1), (0, u "java/lang/Object"), (0, .class_ 3)] 0

/-- java/lang/Class -/
def k37 : Class := { plain "java/lang/Class" (some 0) with
  accessFlags := 49
  interfaces := #[]
  cf := some (fileOf pool37 2 #[] #[] 49 4 #[] #[])
  fields := #[]
  methods := #[]
  instanceTypes := #[]
  staticTypes := #[]
  resolved := Array.replicate 5 none
  statics := none }

/-- the primitive byte -/
def k38 : Class := { plain "byte" none with kind := .primitive 'B', accessFlags := 0x411 }
/-- [B -/
def k39 : Class := { plain "[B" (some 0) with kind := .array 38 .byte, interfaces := #[18, 4], accessFlags := 1041 }

/-- the primitive char -/
def k40 : Class := { plain "char" none with kind := .primitive 'C', accessFlags := 0x411 }
/-- [C -/
def k41 : Class := { plain "[C" (some 0) with kind := .array 40 .char, interfaces := #[18, 4], accessFlags := 1041 }

/-- the primitive int -/
def k42 : Class := { plain "int" none with kind := .primitive 'I', accessFlags := 0x411 }
/-- [I -/
def k43 : Class := { plain "[I" (some 0) with kind := .array 42 .int, interfaces := #[18, 4], accessFlags := 1041 }

/-- [Ljava/lang/Object; -/
def k44 : Class := { plain "[Ljava/lang/Object;" (some 0) with kind := .array 0 (.object "java/lang/Object"), interfaces := #[18, 4], accessFlags := 1041, mirror := some 4 }

def heap : Heap := #[{ cls := 9, slots := #[.long 0, .int 1, .null, .int 0, .null, .int 0, .int 0], vm := .statics 9 },
  { cls := 19, slots := #[.long 0, .int 0, .ref 5, .ref 6], vm := .statics 19 },
  { cls := 21, slots := #[.long 0, .int 0, .null, .ref 9, .ref 8, .null, .null, .ref 7, .int 0, .int 1], vm := .statics 21 },
  { cls := 35, slots := #[.null, .null, .null], vm := .statics 35 },
  { cls := 37, slots := #[], vm := .mirror 44 },
  { cls := 44, slots := #[], vm := .none },
  { cls := 44, slots := #[], vm := .none },
  { cls := 29, slots := #[.null, .null, .ref 5, .int 0], vm := .none },
  { cls := 26, slots := #[.ref 5, .int 0], vm := .none },
  { cls := 0, slots := #[], vm := .none }]
def classes : Array Class := #[k0, k1, k2, k3, k4, k5, k6, k7, k8, k9, k10, k11, k12, k13, k14, k15, k16, k17, k18, k19, k20, k21, k22, k23, k24, k25, k26, k27, k28, k29, k30, k31, k32, k33, k34, k35, k36, k37, k38, k39, k40, k41, k42, k43, k44]
def interned : List (Array UInt16 × Addr) := []
def slotsUsed : Nat := 30
def theMethod : MethodId := ⟨1, 1⟩
def args0 : Array Value := #[.int 7, .int 8]
def aboutOver (below : List Frame) : State where
  vm := { classes := classes, interned := interned.toArray }
  heap := heap
  slotsUsed := slotsUsed
  threads := #[{ frames := .invoking theMethod args0 :: below }]
def below0 : List Frame := [.native { method := ⟨0, 0⟩, args := #[] }]
def about1 : State := aboutOver below0
def p0 : Program := .bare "" "" ""
def e0 : Env := launch0.env 0 0 0
theorem w_frames : about1.frames = Frame.invoking theMethod args0 :: below0 := rfl
set_option maxRecDepth 65536 in
theorem w_args : argsFit about1.vm theMethod args0 = true := by decide +kernel
set_option maxRecDepth 65536 in
theorem w_heap : heapFits about1 = true := by decide +kernel
set_option maxRecDepth 65536 in
theorem w_runnable : about1.curStatus? = some .runnable := by decide +kernel
set_option maxRecDepth 65536 in
theorem w_alone : about1.alone = true := by decide +kernel
set_option maxRecDepth 65536 in
theorem w_named : about1.methodNamed? x = some theMethod := by decide +kernel
set_option maxRecDepth 65536 in
theorem w_hears : about1.hears theMethod below0 = true := by decide +kernel
set_option maxRecDepth 65536 in
theorem w_ripe : about1.ripe theMethod args0 below0 = true := by decide +kernel
theorem w_running : about1.status = .running := rfl
set_option maxRecDepth 65536 in
theorem w_room : about1.hasRoom e0.platform room_1 = true :=
  launch0.hasRoom_least _ room_1 (by decide +kernel) (by decide +kernel) (by decide +kernel) (by decide +kernel) (by decide +kernel) (by decide +kernel)
theorem allAtoms_all (ts : List Jvm.Cond) (a : Array Jvm.Value) (st : Jvm.State) : (allAtoms ts).before a st = ts.all (fun c => c.before a st) := by
  induction ts with
  | nil => rfl
  | cons c t ih =>
    show (Jvm.Cond.and c (allAtoms t)).before a st = _
    rw [Jvm.Cond.before_and, ih, List.all_cons]
def words1 : List Jvm.Cond := Jvm.Cond.code x code maxLocals ret :: tables_1
/-- a 'code' word, met by the world's own term for the bytes: nothing is compared byte by byte -/
theorem code_word {y : MethodName} {bytes : ByteArray} {mx : Nat} {rt : Option FieldType} {a : Array Value} {s : State} {m : MethodId} {meth : Method} {c : Code} (h1 : s.methodNamed? y = some m) (h2 : s.vm.method? m = some meth) (h3 : meth.code = some c) (h4 : c.code = bytes)
    (h5 : (c.maxLocals == mx && c.exceptionTable.isEmpty && decide (c.maxStack ≤ mostOperands) && decide (meth.sig.returnType = rt) && !meth.locks && decide (parseMethodDescriptor y.desc = some meth.sig)) = true) : (Jvm.Cond.code y bytes mx rt).before a s = true := by
  simp only [Bool.and_eq_true, beq_iff_eq, Bool.not_eq_true', decide_eq_true_eq] at h5
  obtain ⟨⟨⟨⟨⟨g1, g2⟩, g3⟩, g4⟩, g5⟩, g6⟩ := h5
  simp [Cond.before, Cond.holds, Cond.value, h1, h2, h3, h4, g1, g2, g3, g4, g5, g6]
def isCode : Jvm.Cond → Bool
  | .code _ _ _ _ => true
  | _ => false
theorem all_split {L : List Jvm.Cond} {P : Jvm.Cond → Bool} (h1 : L.all (fun c => isCode c || P c) = true) (h2 : ∀ c ∈ L.filter isCode, P c = true) : L.all P = true := by
  refine List.all_eq_true.mpr fun c hc => ?_
  have h := List.all_eq_true.mp h1 c hc
  rcases Bool.eq_false_or_eq_true (isCode c) with hi | hi
  · exact h2 c (List.mem_filter.mpr ⟨hc, hi⟩)
  · simpa [hi] using h
set_option maxRecDepth 65536 in
theorem w_c0 : (Jvm.Cond.code x code maxLocals ret).before args0 about1 = true := code_word (m := ⟨1, 1⟩) (meth := k1m1) (c := k1c1) (by decide +kernel) rfl rfl rfl (by decide +kernel)
set_option maxRecDepth 65536 in
theorem w_c1 : (Jvm.Cond.code ({ cls := "java/lang/String", name := "<init>", desc := "([C)V" } : Jvm.MethodName) jdk_42_method_3_code (2 : Nat) (Option.none : Option Jvm.ClassFile.FieldType)).before args0 about1 = true := code_word (m := ⟨9, 1⟩) (meth := k9m1) (c := k9c1) (by decide +kernel) rfl rfl rfl (by decide +kernel)
set_option maxRecDepth 65536 in
theorem w_c2 : (Jvm.Cond.code ({ cls := "java/lang/String", name := "<init>", desc := "([CIILjava/lang/Void;)V" } : Jvm.MethodName) jdk_42_method_149_code (6 : Nat) (Option.none : Option Jvm.ClassFile.FieldType)).before args0 about1 = true := code_word (m := ⟨9, 2⟩) (meth := k9m2) (c := k9c2) (by decide +kernel) rfl rfl rfl (by decide +kernel)
set_option maxRecDepth 65536 in
theorem w_c3 : (Jvm.Cond.code ({ cls := "java/lang/Object", name := "<init>", desc := "()V" } : Jvm.MethodName) object_method_1_code (1 : Nat) (Option.none : Option Jvm.ClassFile.FieldType)).before args0 about1 = true := code_word (m := ⟨0, 0⟩) (meth := k0m0) (c := k0c0) (by decide +kernel) rfl rfl rfl (by decide +kernel)
set_option maxRecDepth 65536 in
theorem w_c4 : (Jvm.Cond.code ({ cls := "java/lang/StringUTF16", name := "compress", desc := "([CII)[B" } : Jvm.MethodName) jdk_52_method_16_code (6 : Nat) (Option.some (Jvm.ClassFile.FieldType.array Jvm.ClassFile.FieldType.byte))).before args0 about1 = true := code_word (m := ⟨10, 2⟩) (meth := k10m2) (c := k10c2) (by decide +kernel) rfl rfl rfl (by decide +kernel)
set_option maxRecDepth 65536 in
theorem w_c5 : (Jvm.Cond.code ({ cls := "java/lang/StringUTF16", name := "compress", desc := "([CI[BII)I" } : Jvm.MethodName) jdk_52_method_21_code (7 : Nat) (Option.some Jvm.ClassFile.FieldType.int)).before args0 about1 = true := code_word (m := ⟨10, 3⟩) (meth := k10m3) (c := k10c3) (by decide +kernel) rfl rfl rfl (by decide +kernel)
set_option maxRecDepth 65536 in
theorem w_c6 : (Jvm.Cond.code ({ cls := "java/lang/StringUTF16", name := "coderFromArrayLen", desc := "([BI)B" } : Jvm.MethodName) jdk_52_method_15_code (2 : Nat) (Option.some Jvm.ClassFile.FieldType.byte)).before args0 about1 = true := code_word (m := ⟨10, 1⟩) (meth := k10m1) (c := k10c1) (by decide +kernel) rfl rfl rfl (by decide +kernel)
set_option maxRecDepth 65536 in
theorem w_c7 : (Jvm.Cond.code ({ cls := "java/util/ArrayList", name := "<init>", desc := "()V" } : Jvm.MethodName) jdk_38_method_2_code (1 : Nat) (Option.none : Option Jvm.ClassFile.FieldType)).before args0 about1 = true := code_word (m := ⟨19, 0⟩) (meth := k19m0) (c := k19c0) (by decide +kernel) rfl rfl rfl (by decide +kernel)
set_option maxRecDepth 65536 in
theorem w_c8 : (Jvm.Cond.code ({ cls := "java/util/AbstractList", name := "<init>", desc := "()V" } : Jvm.MethodName) jdk_39_method_1_code (1 : Nat) (Option.none : Option Jvm.ClassFile.FieldType)).before args0 about1 = true := code_word (m := ⟨16, 0⟩) (meth := k16m0) (c := k16c0) (by decide +kernel) rfl rfl rfl (by decide +kernel)
set_option maxRecDepth 65536 in
theorem w_c9 : (Jvm.Cond.code ({ cls := "java/util/AbstractCollection", name := "<init>", desc := "()V" } : Jvm.MethodName) jdk_22_method_1_code (1 : Nat) (Option.none : Option Jvm.ClassFile.FieldType)).before args0 about1 = true := code_word (m := ⟨13, 0⟩) (meth := k13m0) (c := k13c0) (by decide +kernel) rfl rfl rfl (by decide +kernel)
set_option maxRecDepth 65536 in
theorem w_c10 : (Jvm.Cond.code ({ cls := "java/util/Map", name := "of", desc := "()Ljava/util/Map;" } : Jvm.MethodName) jdk_72_method_26_code (0 : Nat) (Option.some (Jvm.ClassFile.FieldType.object "java/util/Map"))).before args0 about1 = true := code_word (m := ⟨20, 0⟩) (meth := k20m0) (c := k20c0) (by decide +kernel) rfl rfl rfl (by decide +kernel)
set_option maxRecDepth 65536 in
theorem w_c11 : (Jvm.Cond.code ({ cls := "com/example/navlint/navlint/model/Entry", name := "<init>", desc := "(Ljava/lang/String;Ljava/util/List;Ljava/util/Map;Lcom/example/navlint/navlint/model/Request;)V" } : Jvm.MethodName) prog_46_method_1_code (5 : Nat) (Option.none : Option Jvm.ClassFile.FieldType)).before args0 about1 = true := code_word (m := ⟨3, 0⟩) (meth := k3m0) (c := k3c0) (by decide +kernel) rfl rfl rfl (by decide +kernel)
set_option maxRecDepth 65536 in
theorem w_c12 : (Jvm.Cond.code ({ cls := "com/example/navlint/navlint/model/HashedValue", name := "<init>", desc := "()V" } : Jvm.MethodName) prog_74_method_1_code (1 : Nat) (Option.none : Option Jvm.ClassFile.FieldType)).before args0 about1 = true := code_word (m := ⟨2, 0⟩) (meth := k2m0) (c := k2c0) (by decide +kernel) rfl rfl rfl (by decide +kernel)
set_option maxRecDepth 65536 in
theorem w_c13 : (Jvm.Cond.code ({ cls := "java/util/Objects", name := "requireNonNull", desc := "(Ljava/lang/Object;Ljava/lang/String;)Ljava/lang/Object;" } : Jvm.MethodName) jdk_31_method_11_code (2 : Nat) (Option.some (Jvm.ClassFile.FieldType.object "java/lang/Object"))).before args0 about1 = true := code_word (m := ⟨22, 2⟩) (meth := k22m2) (c := k22c2) (by decide +kernel) rfl rfl rfl (by decide +kernel)
set_option maxRecDepth 65536 in
theorem w_c14 : (Jvm.Cond.code ({ cls := "java/util/List", name := "copyOf", desc := "(Ljava/util/Collection;)Ljava/util/List;" } : Jvm.MethodName) jdk_40_method_48_code (1 : Nat) (Option.some (Jvm.ClassFile.FieldType.object "java/util/List"))).before args0 about1 = true := code_word (m := ⟨15, 2⟩) (meth := k15m2) (c := k15c2) (by decide +kernel) rfl rfl rfl (by decide +kernel)
set_option maxRecDepth 65536 in
theorem w_c15 : (Jvm.Cond.code ({ cls := "java/util/ImmutableCollections", name := "listCopy", desc := "(Ljava/util/Collection;)Ljava/util/List;" } : Jvm.MethodName) jdk_56_method_3_code (2 : Nat) (Option.some (Jvm.ClassFile.FieldType.object "java/util/List"))).before args0 about1 = true := code_word (m := ⟨21, 1⟩) (meth := k21m1) (c := k21c1) (by decide +kernel) rfl rfl rfl (by decide +kernel)
set_option maxRecDepth 65536 in
theorem w_c16 : (Jvm.Cond.code ({ cls := "java/util/ArrayList", name := "isEmpty", desc := "()Z" } : Jvm.MethodName) jdk_38_method_9_code (1 : Nat) (Option.some Jvm.ClassFile.FieldType.boolean)).before args0 about1 = true := code_word (m := ⟨19, 3⟩) (meth := k19m3) (c := k19c3) (by decide +kernel) rfl rfl rfl (by decide +kernel)
set_option maxRecDepth 65536 in
theorem w_c17 : (Jvm.Cond.code ({ cls := "java/util/List", name := "of", desc := "()Ljava/util/List;" } : Jvm.MethodName) jdk_40_method_36_code (0 : Nat) (Option.some (Jvm.ClassFile.FieldType.object "java/util/List"))).before args0 about1 = true := code_word (m := ⟨15, 0⟩) (meth := k15m0) (c := k15c0) (by decide +kernel) rfl rfl rfl (by decide +kernel)
set_option maxRecDepth 65536 in
theorem w_c18 : (Jvm.Cond.code ({ cls := "java/util/Map", name := "copyOf", desc := "(Ljava/util/Map;)Ljava/util/Map;" } : Jvm.MethodName) jdk_72_method_39_code (1 : Nat) (Option.some (Jvm.ClassFile.FieldType.object "java/util/Map"))).before args0 about1 = true := code_word (m := ⟨20, 1⟩) (meth := k20m1) (c := k20c1) (by decide +kernel) rfl rfl rfl (by decide +kernel)
set_option maxRecDepth 65536 in
theorem w_c19 : (Jvm.Cond.code ({ cls := "com/example/navlint/navlint/model/State$Tab", name := "<init>", desc := "(Lcom/example/navlint/navlint/model/Entry;Ljava/util/List;Ljava/util/List;)V" } : Jvm.MethodName) prog_104_method_1_code (4 : Nat) (Option.none : Option Jvm.ClassFile.FieldType)).before args0 about1 = true := code_word (m := ⟨30, 0⟩) (meth := k30m0) (c := k30c0) (by decide +kernel) rfl rfl rfl (by decide +kernel)
set_option maxRecDepth 65536 in
theorem w_c20 : (Jvm.Cond.code ({ cls := "com/example/navlint/navlint/model/State$Tab", name := "waits", desc := "()Z" } : Jvm.MethodName) prog_104_method_6_code (1 : Nat) (Option.some Jvm.ClassFile.FieldType.boolean)).before args0 about1 = true := code_word (m := ⟨30, 2⟩) (meth := k30m2) (c := k30c2) (by decide +kernel) rfl rfl rfl (by decide +kernel)
set_option maxRecDepth 65536 in
theorem w_c21 : (Jvm.Cond.code ({ cls := "com/example/navlint/navlint/model/State$Tab", name := "entry", desc := "()Lcom/example/navlint/navlint/model/Entry;" } : Jvm.MethodName) prog_104_method_3_code (1 : Nat) (Option.some (Jvm.ClassFile.FieldType.object "com/example/navlint/navlint/model/Entry"))).before args0 about1 = true := code_word (m := ⟨30, 1⟩) (meth := k30m1) (c := k30c1) (by decide +kernel) rfl rfl rfl (by decide +kernel)
set_option maxRecDepth 65536 in
theorem w_c22 : (Jvm.Cond.code ({ cls := "com/example/navlint/navlint/model/State$Tab", name := "waiting", desc := "()Lcom/example/navlint/navlint/model/State$Tab;" } : Jvm.MethodName) prog_104_method_8_code (1 : Nat) (Option.some (Jvm.ClassFile.FieldType.object "com/example/navlint/navlint/model/State$Tab"))).before args0 about1 = true := code_word (m := ⟨30, 4⟩) (meth := k30m4) (c := k30c4) (by decide +kernel) rfl rfl rfl (by decide +kernel)
set_option maxRecDepth 65536 in
theorem w_c23 : (Jvm.Cond.code ({ cls := "com/example/navlint/navlint/model/State$Tab", name := "showing", desc := "(Lcom/example/navlint/navlint/model/Entry;)Lcom/example/navlint/navlint/model/State$Tab;" } : Jvm.MethodName) prog_104_method_7_code (2 : Nat) (Option.some (Jvm.ClassFile.FieldType.object "com/example/navlint/navlint/model/State$Tab"))).before args0 about1 = true := code_word (m := ⟨30, 3⟩) (meth := k30m3) (c := k30c3) (by decide +kernel) rfl rfl rfl (by decide +kernel)
set_option maxRecDepth 65536 in
theorem w_c24 : (Jvm.Cond.code ({ cls := "java/util/ArrayList", name := "add", desc := "(Ljava/lang/Object;)Z" } : Jvm.MethodName) jdk_38_method_25_code (2 : Nat) (Option.some Jvm.ClassFile.FieldType.boolean)).before args0 about1 = true := code_word (m := ⟨19, 6⟩) (meth := k19m6) (c := k19c6) (by decide +kernel) rfl rfl rfl (by decide +kernel)
set_option maxRecDepth 65536 in
theorem w_c25 : (Jvm.Cond.code ({ cls := "java/util/ArrayList", name := "add", desc := "(Ljava/lang/Object;[Ljava/lang/Object;I)V" } : Jvm.MethodName) jdk_38_method_24_code (4 : Nat) (Option.none : Option Jvm.ClassFile.FieldType)).before args0 about1 = true := code_word (m := ⟨19, 5⟩) (meth := k19m5) (c := k19c5) (by decide +kernel) rfl rfl rfl (by decide +kernel)
set_option maxRecDepth 65536 in
theorem w_c26 : (Jvm.Cond.code ({ cls := "java/util/ArrayList", name := "grow", desc := "()[Ljava/lang/Object;" } : Jvm.MethodName) jdk_38_method_7_code (1 : Nat) (Option.some (Jvm.ClassFile.FieldType.array (Jvm.ClassFile.FieldType.object "java/lang/Object")))).before args0 about1 = true := code_word (m := ⟨19, 2⟩) (meth := k19m2) (c := k19c2) (by decide +kernel) rfl rfl rfl (by decide +kernel)
set_option maxRecDepth 65536 in
theorem w_c27 : (Jvm.Cond.code ({ cls := "java/util/ArrayList", name := "grow", desc := "(I)[Ljava/lang/Object;" } : Jvm.MethodName) jdk_38_method_6_code (4 : Nat) (Option.some (Jvm.ClassFile.FieldType.array (Jvm.ClassFile.FieldType.object "java/lang/Object")))).before args0 about1 = true := code_word (m := ⟨19, 1⟩) (meth := k19m1) (c := k19c1) (by decide +kernel) rfl rfl rfl (by decide +kernel)
set_option maxRecDepth 65536 in
theorem w_c28 : (Jvm.Cond.code ({ cls := "java/lang/Math", name := "max", desc := "(II)I" } : Jvm.MethodName) jdk_29_method_65_code (2 : Nat) (Option.some Jvm.ClassFile.FieldType.int)).before args0 about1 = true := code_word (m := ⟨31, 1⟩) (meth := k31m1) (c := k31c1) (by decide +kernel) rfl rfl rfl (by decide +kernel)
set_option maxRecDepth 65536 in
theorem w_c29 : (Jvm.Cond.code ({ cls := "java/util/ArrayList", name := "toArray", desc := "()[Ljava/lang/Object;" } : Jvm.MethodName) jdk_38_method_16_code (1 : Nat) (Option.some (Jvm.ClassFile.FieldType.array (Jvm.ClassFile.FieldType.object "java/lang/Object")))).before args0 about1 = true := code_word (m := ⟨19, 4⟩) (meth := k19m4) (c := k19c4) (by decide +kernel) rfl rfl rfl (by decide +kernel)
set_option maxRecDepth 65536 in
theorem w_c30 : (Jvm.Cond.code ({ cls := "java/util/Arrays", name := "copyOf", desc := "([Ljava/lang/Object;I)[Ljava/lang/Object;" } : Jvm.MethodName) jdk_65_method_119_code (2 : Nat) (Option.some (Jvm.ClassFile.FieldType.array (Jvm.ClassFile.FieldType.object "java/lang/Object")))).before args0 about1 = true := code_word (m := ⟨32, 1⟩) (meth := k32m1) (c := k32c1) (by decide +kernel) rfl rfl rfl (by decide +kernel)
set_option maxRecDepth 65536 in
theorem w_c31 : (Jvm.Cond.code ({ cls := "java/util/Arrays", name := "copyOf", desc := "([Ljava/lang/Object;ILjava/lang/Class;)[Ljava/lang/Object;" } : Jvm.MethodName) jdk_65_method_120_code (4 : Nat) (Option.some (Jvm.ClassFile.FieldType.array (Jvm.ClassFile.FieldType.object "java/lang/Object")))).before args0 about1 = true := code_word (m := ⟨32, 2⟩) (meth := k32m2) (c := k32c2) (by decide +kernel) rfl rfl rfl (by decide +kernel)
set_option maxRecDepth 65536 in
theorem w_c32 : (Jvm.Cond.code ({ cls := "java/lang/Math", name := "min", desc := "(II)I" } : Jvm.MethodName) jdk_29_method_69_code (2 : Nat) (Option.some Jvm.ClassFile.FieldType.int)).before args0 about1 = true := code_word (m := ⟨31, 2⟩) (meth := k31m2) (c := k31c2) (by decide +kernel) rfl rfl rfl (by decide +kernel)
set_option maxRecDepth 65536 in
theorem w_c33 : (Jvm.Cond.code ({ cls := "java/util/List", name := "of", desc := "([Ljava/lang/Object;)Ljava/util/List;" } : Jvm.MethodName) jdk_40_method_47_code (2 : Nat) (Option.some (Jvm.ClassFile.FieldType.object "java/util/List"))).before args0 about1 = true := code_word (m := ⟨15, 1⟩) (meth := k15m1) (c := k15c1) (by decide +kernel) rfl rfl rfl (by decide +kernel)
set_option maxRecDepth 65536 in
theorem w_c34 : (Jvm.Cond.code ({ cls := "java/util/ImmutableCollections$List12", name := "<init>", desc := "(Ljava/lang/Object;)V" } : Jvm.MethodName) jdk_44_method_1_code (2 : Nat) (Option.none : Option Jvm.ClassFile.FieldType)).before args0 about1 = true := code_word (m := ⟨25, 0⟩) (meth := k25m0) (c := k25c0) (by decide +kernel) rfl rfl rfl (by decide +kernel)
set_option maxRecDepth 65536 in
theorem w_c35 : (Jvm.Cond.code ({ cls := "java/util/ImmutableCollections$AbstractImmutableList", name := "<init>", desc := "()V" } : Jvm.MethodName) jdk_46_method_1_code (1 : Nat) (Option.none : Option Jvm.ClassFile.FieldType)).before args0 about1 = true := code_word (m := ⟨24, 0⟩) (meth := k24m0) (c := k24c0) (by decide +kernel) rfl rfl rfl (by decide +kernel)
set_option maxRecDepth 65536 in
theorem w_c36 : (Jvm.Cond.code ({ cls := "java/util/ImmutableCollections$AbstractImmutableCollection", name := "<init>", desc := "()V" } : Jvm.MethodName) jdk_47_method_1_code (1 : Nat) (Option.none : Option Jvm.ClassFile.FieldType)).before args0 about1 = true := code_word (m := ⟨23, 0⟩) (meth := k23m0) (c := k23c0) (by decide +kernel) rfl rfl rfl (by decide +kernel)
set_option maxRecDepth 65536 in
theorem w_c37 : (Jvm.Cond.code ({ cls := "java/util/Objects", name := "requireNonNull", desc := "(Ljava/lang/Object;)Ljava/lang/Object;" } : Jvm.MethodName) jdk_31_method_10_code (1 : Nat) (Option.some (Jvm.ClassFile.FieldType.object "java/lang/Object"))).before args0 about1 = true := code_word (m := ⟨22, 1⟩) (meth := k22m1) (c := k22c1) (by decide +kernel) rfl rfl rfl (by decide +kernel)
def codes1 : List Jvm.Cond := [Jvm.Cond.code x code maxLocals ret, Jvm.Cond.code ({ cls := "java/lang/String", name := "<init>", desc := "([C)V" } : Jvm.MethodName) jdk_42_method_3_code (2 : Nat) (Option.none : Option Jvm.ClassFile.FieldType), Jvm.Cond.code ({ cls := "java/lang/String", name := "<init>", desc := "([CIILjava/lang/Void;)V" } : Jvm.MethodName) jdk_42_method_149_code (6 : Nat) (Option.none : Option Jvm.ClassFile.FieldType), Jvm.Cond.code ({ cls := "java/lang/Object", name := "<init>", desc := "()V" } : Jvm.MethodName) object_method_1_code (1 : Nat) (Option.none : Option Jvm.ClassFile.FieldType), Jvm.Cond.code ({ cls := "java/lang/StringUTF16", name := "compress", desc := "([CII)[B" } : Jvm.MethodName) jdk_52_method_16_code (6 : Nat) (Option.some (Jvm.ClassFile.FieldType.array Jvm.ClassFile.FieldType.byte)), Jvm.Cond.code ({ cls := "java/lang/StringUTF16", name := "compress", desc := "([CI[BII)I" } : Jvm.MethodName) jdk_52_method_21_code (7 : Nat) (Option.some Jvm.ClassFile.FieldType.int), Jvm.Cond.code ({ cls := "java/lang/StringUTF16", name := "coderFromArrayLen", desc := "([BI)B" } : Jvm.MethodName) jdk_52_method_15_code (2 : Nat) (Option.some Jvm.ClassFile.FieldType.byte), Jvm.Cond.code ({ cls := "java/util/ArrayList", name := "<init>", desc := "()V" } : Jvm.MethodName) jdk_38_method_2_code (1 : Nat) (Option.none : Option Jvm.ClassFile.FieldType), Jvm.Cond.code ({ cls := "java/util/AbstractList", name := "<init>", desc := "()V" } : Jvm.MethodName) jdk_39_method_1_code (1 : Nat) (Option.none : Option Jvm.ClassFile.FieldType), Jvm.Cond.code ({ cls := "java/util/AbstractCollection", name := "<init>", desc := "()V" } : Jvm.MethodName) jdk_22_method_1_code (1 : Nat) (Option.none : Option Jvm.ClassFile.FieldType), Jvm.Cond.code ({ cls := "java/util/Map", name := "of", desc := "()Ljava/util/Map;" } : Jvm.MethodName) jdk_72_method_26_code (0 : Nat) (Option.some (Jvm.ClassFile.FieldType.object "java/util/Map")), Jvm.Cond.code ({ cls := "com/example/navlint/navlint/model/Entry", name := "<init>", desc := "(Ljava/lang/String;Ljava/util/List;Ljava/util/Map;Lcom/example/navlint/navlint/model/Request;)V" } : Jvm.MethodName) prog_46_method_1_code (5 : Nat) (Option.none : Option Jvm.ClassFile.FieldType), Jvm.Cond.code ({ cls := "com/example/navlint/navlint/model/HashedValue", name := "<init>", desc := "()V" } : Jvm.MethodName) prog_74_method_1_code (1 : Nat) (Option.none : Option Jvm.ClassFile.FieldType), Jvm.Cond.code ({ cls := "java/util/Objects", name := "requireNonNull", desc := "(Ljava/lang/Object;Ljava/lang/String;)Ljava/lang/Object;" } : Jvm.MethodName) jdk_31_method_11_code (2 : Nat) (Option.some (Jvm.ClassFile.FieldType.object "java/lang/Object")), Jvm.Cond.code ({ cls := "java/util/List", name := "copyOf", desc := "(Ljava/util/Collection;)Ljava/util/List;" } : Jvm.MethodName) jdk_40_method_48_code (1 : Nat) (Option.some (Jvm.ClassFile.FieldType.object "java/util/List")), Jvm.Cond.code ({ cls := "java/util/ImmutableCollections", name := "listCopy", desc := "(Ljava/util/Collection;)Ljava/util/List;" } : Jvm.MethodName) jdk_56_method_3_code (2 : Nat) (Option.some (Jvm.ClassFile.FieldType.object "java/util/List")), Jvm.Cond.code ({ cls := "java/util/ArrayList", name := "isEmpty", desc := "()Z" } : Jvm.MethodName) jdk_38_method_9_code (1 : Nat) (Option.some Jvm.ClassFile.FieldType.boolean), Jvm.Cond.code ({ cls := "java/util/List", name := "of", desc := "()Ljava/util/List;" } : Jvm.MethodName) jdk_40_method_36_code (0 : Nat) (Option.some (Jvm.ClassFile.FieldType.object "java/util/List")), Jvm.Cond.code ({ cls := "java/util/Map", name := "copyOf", desc := "(Ljava/util/Map;)Ljava/util/Map;" } : Jvm.MethodName) jdk_72_method_39_code (1 : Nat) (Option.some (Jvm.ClassFile.FieldType.object "java/util/Map")), Jvm.Cond.code ({ cls := "com/example/navlint/navlint/model/State$Tab", name := "<init>", desc := "(Lcom/example/navlint/navlint/model/Entry;Ljava/util/List;Ljava/util/List;)V" } : Jvm.MethodName) prog_104_method_1_code (4 : Nat) (Option.none : Option Jvm.ClassFile.FieldType), Jvm.Cond.code ({ cls := "com/example/navlint/navlint/model/State$Tab", name := "waits", desc := "()Z" } : Jvm.MethodName) prog_104_method_6_code (1 : Nat) (Option.some Jvm.ClassFile.FieldType.boolean), Jvm.Cond.code ({ cls := "com/example/navlint/navlint/model/State$Tab", name := "entry", desc := "()Lcom/example/navlint/navlint/model/Entry;" } : Jvm.MethodName) prog_104_method_3_code (1 : Nat) (Option.some (Jvm.ClassFile.FieldType.object "com/example/navlint/navlint/model/Entry")), Jvm.Cond.code ({ cls := "com/example/navlint/navlint/model/State$Tab", name := "waiting", desc := "()Lcom/example/navlint/navlint/model/State$Tab;" } : Jvm.MethodName) prog_104_method_8_code (1 : Nat) (Option.some (Jvm.ClassFile.FieldType.object "com/example/navlint/navlint/model/State$Tab")), Jvm.Cond.code ({ cls := "com/example/navlint/navlint/model/State$Tab", name := "showing", desc := "(Lcom/example/navlint/navlint/model/Entry;)Lcom/example/navlint/navlint/model/State$Tab;" } : Jvm.MethodName) prog_104_method_7_code (2 : Nat) (Option.some (Jvm.ClassFile.FieldType.object "com/example/navlint/navlint/model/State$Tab")), Jvm.Cond.code ({ cls := "java/util/ArrayList", name := "add", desc := "(Ljava/lang/Object;)Z" } : Jvm.MethodName) jdk_38_method_25_code (2 : Nat) (Option.some Jvm.ClassFile.FieldType.boolean), Jvm.Cond.code ({ cls := "java/util/ArrayList", name := "add", desc := "(Ljava/lang/Object;[Ljava/lang/Object;I)V" } : Jvm.MethodName) jdk_38_method_24_code (4 : Nat) (Option.none : Option Jvm.ClassFile.FieldType), Jvm.Cond.code ({ cls := "java/util/ArrayList", name := "grow", desc := "()[Ljava/lang/Object;" } : Jvm.MethodName) jdk_38_method_7_code (1 : Nat) (Option.some (Jvm.ClassFile.FieldType.array (Jvm.ClassFile.FieldType.object "java/lang/Object"))), Jvm.Cond.code ({ cls := "java/util/ArrayList", name := "grow", desc := "(I)[Ljava/lang/Object;" } : Jvm.MethodName) jdk_38_method_6_code (4 : Nat) (Option.some (Jvm.ClassFile.FieldType.array (Jvm.ClassFile.FieldType.object "java/lang/Object"))), Jvm.Cond.code ({ cls := "java/lang/Math", name := "max", desc := "(II)I" } : Jvm.MethodName) jdk_29_method_65_code (2 : Nat) (Option.some Jvm.ClassFile.FieldType.int), Jvm.Cond.code ({ cls := "java/util/ArrayList", name := "toArray", desc := "()[Ljava/lang/Object;" } : Jvm.MethodName) jdk_38_method_16_code (1 : Nat) (Option.some (Jvm.ClassFile.FieldType.array (Jvm.ClassFile.FieldType.object "java/lang/Object"))), Jvm.Cond.code ({ cls := "java/util/Arrays", name := "copyOf", desc := "([Ljava/lang/Object;I)[Ljava/lang/Object;" } : Jvm.MethodName) jdk_65_method_119_code (2 : Nat) (Option.some (Jvm.ClassFile.FieldType.array (Jvm.ClassFile.FieldType.object "java/lang/Object"))), Jvm.Cond.code ({ cls := "java/util/Arrays", name := "copyOf", desc := "([Ljava/lang/Object;ILjava/lang/Class;)[Ljava/lang/Object;" } : Jvm.MethodName) jdk_65_method_120_code (4 : Nat) (Option.some (Jvm.ClassFile.FieldType.array (Jvm.ClassFile.FieldType.object "java/lang/Object"))), Jvm.Cond.code ({ cls := "java/lang/Math", name := "min", desc := "(II)I" } : Jvm.MethodName) jdk_29_method_69_code (2 : Nat) (Option.some Jvm.ClassFile.FieldType.int), Jvm.Cond.code ({ cls := "java/util/List", name := "of", desc := "([Ljava/lang/Object;)Ljava/util/List;" } : Jvm.MethodName) jdk_40_method_47_code (2 : Nat) (Option.some (Jvm.ClassFile.FieldType.object "java/util/List")), Jvm.Cond.code ({ cls := "java/util/ImmutableCollections$List12", name := "<init>", desc := "(Ljava/lang/Object;)V" } : Jvm.MethodName) jdk_44_method_1_code (2 : Nat) (Option.none : Option Jvm.ClassFile.FieldType), Jvm.Cond.code ({ cls := "java/util/ImmutableCollections$AbstractImmutableList", name := "<init>", desc := "()V" } : Jvm.MethodName) jdk_46_method_1_code (1 : Nat) (Option.none : Option Jvm.ClassFile.FieldType), Jvm.Cond.code ({ cls := "java/util/ImmutableCollections$AbstractImmutableCollection", name := "<init>", desc := "()V" } : Jvm.MethodName) jdk_47_method_1_code (1 : Nat) (Option.none : Option Jvm.ClassFile.FieldType), Jvm.Cond.code ({ cls := "java/util/Objects", name := "requireNonNull", desc := "(Ljava/lang/Object;)Ljava/lang/Object;" } : Jvm.MethodName) jdk_31_method_10_code (1 : Nat) (Option.some (Jvm.ClassFile.FieldType.object "java/lang/Object"))]
set_option maxRecDepth 65536 in
theorem codes_eq : words1.filter isCode = codes1 := rfl
theorem w_codes : ∀ c ∈ words1.filter isCode, c.before args0 about1 = true := by
  rw [codes_eq]
  intro c hc
  simp only [codes1, List.mem_cons, List.not_mem_nil, or_false] at hc
  rcases hc with rfl | rfl | rfl | rfl | rfl | rfl | rfl | rfl | rfl | rfl | rfl | rfl | rfl | rfl | rfl | rfl | rfl | rfl | rfl | rfl | rfl | rfl | rfl | rfl | rfl | rfl | rfl | rfl | rfl | rfl | rfl | rfl | rfl | rfl | rfl | rfl | rfl | rfl
  · exact w_c0
  · exact w_c1
  · exact w_c2
  · exact w_c3
  · exact w_c4
  · exact w_c5
  · exact w_c6
  · exact w_c7
  · exact w_c8
  · exact w_c9
  · exact w_c10
  · exact w_c11
  · exact w_c12
  · exact w_c13
  · exact w_c14
  · exact w_c15
  · exact w_c16
  · exact w_c17
  · exact w_c18
  · exact w_c19
  · exact w_c20
  · exact w_c21
  · exact w_c22
  · exact w_c23
  · exact w_c24
  · exact w_c25
  · exact w_c26
  · exact w_c27
  · exact w_c28
  · exact w_c29
  · exact w_c30
  · exact w_c31
  · exact w_c32
  · exact w_c33
  · exact w_c34
  · exact w_c35
  · exact w_c36
  · exact w_c37
set_option maxRecDepth 65536 in
theorem w_t1 : (words1.take 24).all (fun c => isCode c || c.before args0 about1) = true := by decide +kernel
set_option maxRecDepth 65536 in
theorem w_t2 : ((words1.drop 24).take 24).all (fun c => isCode c || c.before args0 about1) = true := by decide +kernel
set_option maxRecDepth 65536 in
theorem w_t3 : (((words1.drop 24).drop 24).take 24).all (fun c => isCode c || c.before args0 about1) = true := by decide +kernel
set_option maxRecDepth 65536 in
theorem w_t4 : ((((words1.drop 24).drop 24).drop 24).take 24).all (fun c => isCode c || c.before args0 about1) = true := by decide +kernel
set_option maxRecDepth 65536 in
theorem w_t5 : (((((words1.drop 24).drop 24).drop 24).drop 24).take 24).all (fun c => isCode c || c.before args0 about1) = true := by decide +kernel
set_option maxRecDepth 65536 in
theorem w_t6 : ((((((words1.drop 24).drop 24).drop 24).drop 24).drop 24).take 24).all (fun c => isCode c || c.before args0 about1) = true := by decide +kernel
set_option maxRecDepth 65536 in
theorem w_t7 : (((((((words1.drop 24).drop 24).drop 24).drop 24).drop 24).drop 24).take 24).all (fun c => isCode c || c.before args0 about1) = true := by decide +kernel
set_option maxRecDepth 65536 in
theorem w_t8 : ((((((((words1.drop 24).drop 24).drop 24).drop 24).drop 24).drop 24).drop 24).take 24).all (fun c => isCode c || c.before args0 about1) = true := by decide +kernel
set_option maxRecDepth 65536 in
theorem w_t9 : (((((((((words1.drop 24).drop 24).drop 24).drop 24).drop 24).drop 24).drop 24).drop 24).take 24).all (fun c => isCode c || c.before args0 about1) = true := by decide +kernel
set_option maxRecDepth 65536 in
theorem w_t10 : ((((((((((words1.drop 24).drop 24).drop 24).drop 24).drop 24).drop 24).drop 24).drop 24).drop 24).take 24).all (fun c => isCode c || c.before args0 about1) = true := by decide +kernel
set_option maxRecDepth 65536 in
theorem w_t11 : ((((((((((words1.drop 24).drop 24).drop 24).drop 24).drop 24).drop 24).drop 24).drop 24).drop 24).drop 24).all (fun c => isCode c || c.before args0 about1) = true := by decide +kernel
theorem w_tables : (allAtoms (Jvm.Cond.code x code maxLocals ret :: tables_1)).before args0 about1 = true := by
  rw [allAtoms_all]
  show words1.all (fun c => c.before args0 about1) = true
  refine all_split ?_ w_codes
  rw [← List.take_append_drop 24 words1, List.all_append, w_t1, ← List.take_append_drop 24 (words1.drop 24), List.all_append, w_t2, ← List.take_append_drop 24 ((words1.drop 24).drop 24), List.all_append, w_t3, ← List.take_append_drop 24 (((words1.drop 24).drop 24).drop 24), List.all_append, w_t4, ← List.take_append_drop 24 ((((words1.drop 24).drop 24).drop 24).drop 24), List.all_append, w_t5, ← List.take_append_drop 24 (((((words1.drop 24).drop 24).drop 24).drop 24).drop 24), List.all_append, w_t6, ← List.take_append_drop 24 ((((((words1.drop 24).drop 24).drop 24).drop 24).drop 24).drop 24), List.all_append, w_t7, ← List.take_append_drop 24 (((((((words1.drop 24).drop 24).drop 24).drop 24).drop 24).drop 24).drop 24), List.all_append, w_t8, ← List.take_append_drop 24 ((((((((words1.drop 24).drop 24).drop 24).drop 24).drop 24).drop 24).drop 24).drop 24), List.all_append, w_t9, ← List.take_append_drop 24 (((((((((words1.drop 24).drop 24).drop 24).drop 24).drop 24).drop 24).drop 24).drop 24).drop 24), List.all_append, w_t10, w_t11]
  rfl
set_option maxRecDepth 65536 in
theorem w_rest : rest_1_c.before args0 about1 = true := by decide +kernel
set_option maxRecDepth 65536 in
theorem w_case : (Jvm.Cond.and given_1 narrow_1).before args0 about1 = true := by decide +kernel
theorem w_applies : (headSpec (Jvm.Cond.code x code maxLocals ret :: tables_1) room_1).applies x e0.platform about1 = true :=
  (Spec.applies_iff w_frames).mpr ⟨w_running, w_runnable, w_alone, w_named, w_hears, w_ripe, w_room, w_tables⟩
theorem atStart : AtStart classFile x code maxLocals ret World_1 tables_1 room_1 Calls_1 rest_1 Pre_1 launch0 p0 e0 about1 theMethod args0 below0 :=
  ⟨lists_1, trivial, launch0.admits_env _ _ _, launch0.least_env, fairChoices_fair.cas, fairChoices_fair.clock, w_frames, w_args, w_heap, w_applies, ⟨⟨44, k44, 4, by decide +kernel, rfl, rfl, _, rfl, rfl⟩, trivial⟩, w_rest, w_case⟩
end start1
theorem witness_1 : WitnessClaimed_1 := ⟨start1.p0, start1.e0, start1.about1, start1.theMethod, start1.args0, start1.below0, start1.atStart⟩
end Jvm.Pilot.@@N@@
