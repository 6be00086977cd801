import JvmDerived
import JvmDerived.Pilot.@@N@@Statement
import JvmDerived.Pilot.@@N@@Code
set_option linter.unusedVariables false
set_option linter.unusedSimpArgs false
/- laws to paste: Road.backV, Road.lenW, Road.codOf (cut by pick.py; bodies as the Statement names them) -/
namespace Jvm.Pilot.@@N@@
namespace StrChars
open Jvm Sem ClassFile Op Lib Jvm.Stand Jvm.Free.XT Jvm.Free.ALB Jvm.Free.JM Jvm.Free
open Jvm.Lib.Cold (StaticIs)
/-- a char array whose places are chars -/
def Ch (a : Addr) (A : Cell) (U : State) : Prop := Arr .char a A U ∧ Typed .char A
theorem Ch.mv {a : Addr} {A : Cell} {U U' : State} (h : Ch a A U) (hal : U.vm.Alike U'.vm) (hh : U'.heap = U.heap) : Ch a A U' := ⟨h.1.mv hal hh, h.2⟩
theorem Ch.keep {a : Addr} {A : Cell} {U U' : State} (h : Ch a A U) (hal : U.vm.Alike U'.vm) (hk : U'.heap[a]? = some A) : Ch a A U' := ⟨h.1.keep hal hk, h.2⟩
/-- what place i of a char[]'s cell holds -/
def cv (A : Cell) (i : Nat) : Int32 := match A.slots[i]? with | some (.int x) => x | _ => 0
theorem Ch.get {a : Addr} {A : Cell} {U : State} (h : Ch a A U) {i : Nat} (hi : i < A.slots.size) : A.slots[i]? = some (.int (cv A i)) := by
  have e := Array.getElem?_eq_getElem hi
  have f := h.2 i _ e
  unfold cv; rw [e]
  generalize A.slots[i] = v at f
  cases v <;> simp [fits] at f ⊢
/-- the byte that i2b leaves of a char -/
def lo8 (x : Int32) : Int32 := x.toInt8.toInt32
theorem fits_lo8 (y : Int32) : fits .byte (.int (lo8 y)) = true := by
  have h1 := y.toInt8.le_toInt
  have h2 := y.toInt8.toInt_lt
  simp only [lo8, fits, Bool.and_eq_true, decide_eq_true_eq, Int32.le_iff_toInt_le, Int8.toInt_toInt32, show (-128 : Int32).toInt = -128 from by decide, show (127 : Int32).toInt = 127 from by decide]
  omega
/-- A' is A but that each place j of lo .. hi - 1 holds f j -/
def Laid (A A' : Cell) (lo hi : Nat) (f : Nat → Value) : Prop := A'.cls = A.cls ∧ A'.vm = A.vm ∧ A'.slots.size = A.slots.size ∧ ∀ i, A'.slots[i]? = if lo ≤ i ∧ i < hi then some (f i) else A.slots[i]?
theorem Laid.zero (A : Cell) (lo : Nat) (f : Nat → Value) : Laid A A lo (lo + 0) f := ⟨rfl, rfl, rfl, fun i => by rw [if_neg (by omega)]⟩
theorem Laid.step {A Ak : Cell} {lo k : Nat} {f : Nat → Value} {v : Value} (h : Laid A Ak lo k f) (hlo : lo ≤ k) (hk : k < Ak.slots.size) (hv : v = f k) : Laid A (Ak.setSlot k v) lo (k + 1) f := by
  refine ⟨h.1, h.2.1, by simpa [Cell.setSlot] using h.2.2.1, fun i => ?_⟩
  by_cases e : k = i
  · subst e; rw [Cell.slots_setSlot_self v hk, if_pos (by omega), hv]
  · rw [Cell.slots_setSlot_ne v e, h.2.2.2 i]
    by_cases q : lo ≤ i ∧ i < k
    · rw [if_pos q, if_pos (by omega)]
    · rw [if_neg q, if_neg (by omega)]
def U16 : String := "java/lang/StringUTF16"
namespace Cmp5
def yN : MethodName := ⟨"java/lang/StringUTF16", "compress", "([CI[BII)I"⟩
abbrev yB : ByteArray := jdk_52_method_21_code
theorem d0 : decode yB 0 = .ok (.iconst 0, 1) := by decide +kernel
theorem d1 : decode yB 1 = .ok (.istore 5, 2) := by decide +kernel
theorem d3 : decode yB 3 = .ok (.iload 5, 2) := by decide +kernel
theorem d5 : decode yB 5 = .ok (.iload 4, 2) := by decide +kernel
theorem d7 : decode yB 7 = .ok (.if_icmp (.ge) 37, 3) := by decide +kernel
theorem d10 : decode yB 10 = .ok (.aload_n 0, 1) := by decide +kernel
theorem d11 : decode yB 11 = .ok (.iload_n 1, 1) := by decide +kernel
theorem d12 : decode yB 12 = .ok (.caload, 1) := by decide +kernel
theorem d13 : decode yB 13 = .ok (.istore 6, 2) := by decide +kernel
theorem d15 : decode yB 15 = .ok (.iload 6, 2) := by decide +kernel
theorem d17 : decode yB 17 = .ok (.sipush 255, 3) := by decide +kernel
theorem d20 : decode yB 20 = .ok (.if_icmp (.le) 6, 3) := by decide +kernel
theorem d26 : decode yB 26 = .ok (.aload_n 2, 1) := by decide +kernel
theorem d27 : decode yB 27 = .ok (.iload_n 3, 1) := by decide +kernel
theorem d28 : decode yB 28 = .ok (.iload 6, 2) := by decide +kernel
theorem d30 : decode yB 30 = .ok (.i2b, 1) := by decide +kernel
theorem d31 : decode yB 31 = .ok (.bastore, 1) := by decide +kernel
theorem d32 : decode yB 32 = .ok (.iinc 1 1, 3) := by decide +kernel
theorem d35 : decode yB 35 = .ok (.iinc 3 1, 3) := by decide +kernel
theorem d38 : decode yB 38 = .ok (.iinc 5 1, 3) := by decide +kernel
theorem d41 : decode yB 41 = .ok (.goto (-38), 3) := by decide +kernel
theorem d44 : decode yB 44 = .ok (.iload 4, 2) := by decide +kernel
theorem d46 : decode yB 46 = .ok (.ireturn, 1) := by decide +kernel
def site : List Cond := []
def tab : Cond := tabOf yN yB 7 (some .int) site
def P (b : Addr) (A : Cell) (d : Addr) (B : Cell) (o q len : Nat) (args : Array Value) (s : State) : Prop := args = #[.ref b, .int (Int32.ofNat o), .ref d, .int (Int32.ofNat q), .int (Int32.ofNat len)] ∧ Ch b A s ∧ Arr .byte d B s ∧ b ≠ d ∧ o + len ≤ A.slots.size ∧ q + len ≤ B.slots.size ∧ ∀ i, i < len → ¬ 255 < cv A (o + i)
def E (b : Addr) (A : Cell) (d : Addr) (B : Cell) (o q len : Nat) (r : Option Value) (s u : State) : Prop := r = some (.int (Int32.ofNat len)) ∧ ∃ B', Put d B' s u ∧ Laid B B' q (q + len) (fun j => Value.int (lo8 (cv A (o + (j - q)))))
/-- no char of the range above 255: len; the places written hold each char's low byte -/
theorem law (l : Launch) (b : Addr) (A : Cell) (d : Addr) (B : Cell) (o q len : Nat) : Law l yN 5 5 0 0 yB 7 (some .int) site (P b A d B o q len) (E b A d B o q len) (copyLocs d q len) 0 0 := by
  refine Law.of_walk (plainFor_of_name (by decide +kernel)) (by decide +kernel) (by decide +kernel) (by decide) (fun _ _ h => by rw [h.1]; rfl) (fun _ U U' hal hh h => ⟨h.1, h.2.1.mv hal hh, h.2.2.1.mv hal hh, h.2.2.2⟩) (fun r U U' V V' h1 hal h2 h => ⟨h.1, h.2.elim fun B' q => ⟨B', q.1.mv h1 h2, q.2⟩⟩) ?_
  intro p e s m args below meth c s₁ X0 hexec hbytes hml hret hlk hnm hown hh0 W hP
  obtain ⟨rfl, hA, hB, hne, l1, l2, hp⟩ := hP
  have c1 : Steps p.tables e below (s₁.setTop (entryFrame m #[.ref b, .int (Int32.ofNat o), .ref d, .int (Int32.ofNat q), .int (Int32.ofNat len)] 7)) (s₁.setTop (mkF m 0 #[.val (.ref b), .val (.int (Int32.ofNat o)), .val (.ref d), .val (.int (Int32.ofNat q)), .val (.int (Int32.ofNat len)), .unset, .unset] [])) := entry rfl
  have hA0 := hA.1.mv X0.warmed.alike hh0
  have hB0 := hB.mv X0.warmed.alike hh0
  have a31 := hA.1.2.2.2
  have c2 : Steps p.tables e below (s₁.setTop (entryFrame m #[.ref b, .int (Int32.ofNat o), .ref d, .int (Int32.ofNat q), .int (Int32.ofNat len)] 7)) (s₁.setTop (mkF m 3 #[.val (.ref b), .val (.int (Int32.ofNat o)), .val (.ref d), .val (.int (Int32.ofNat q)), .val (.int (Int32.ofNat len)), .val (.int 0), .unset] [])) := c1.trans (by
    refine iconstV X0.here hexec rfl 0 (hb hbytes d0) (by decide) ?_
    refine XS.istore X0.here hexec rfl (hb hbytes d1) rfl rfl ?_
    exact Steps.refl _)
  have loop : ∀ (r i : Nat), i + r = len → ∀ (z : Slot), (z = .unset ∨ ∃ w, z = .val w ∧ w.category = 1) → ∀ (Tl : State) (Bk : Cell), Stand p l e { frames := 0, locals := 0, cells := 0, slots := 0 } s m #[.ref b, .int (Int32.ofNat o), .ref d, .int (Int32.ofNat q), .int (Int32.ofNat len)] below meth c Tl ([] ++ copyLocs d q i) 0 0 → Put d Bk s₁ Tl → Laid B Bk q (q + i) (fun j => Value.int (lo8 (cv A (o + (j - q))))) →
      Steps p.tables e below (s₁.setTop (entryFrame m #[.ref b, .int (Int32.ofNat o), .ref d, .int (Int32.ofNat q), .int (Int32.ofNat len)] 7)) (Tl.setTop (mkF m 3 #[.val (.ref b), .val (.int (Int32.ofNat (o + i))), .val (.ref d), .val (.int (Int32.ofNat (q + i))), .val (.int (Int32.ofNat len)), .val (.int (Int32.ofNat i)), z] [])) → ∃ (T' : State) (B' : Cell) (z' : Slot), Stand p l e { frames := 0, locals := 0, cells := 0, slots := 0 } s m #[.ref b, .int (Int32.ofNat o), .ref d, .int (Int32.ofNat q), .int (Int32.ofNat len)] below meth c T' ([] ++ copyLocs d q len) 0 0 ∧ Put d B' s₁ T' ∧ Laid B B' q (q + len) (fun j => Value.int (lo8 (cv A (o + (j - q))))) ∧
      Steps p.tables e below (s₁.setTop (entryFrame m #[.ref b, .int (Int32.ofNat o), .ref d, .int (Int32.ofNat q), .int (Int32.ofNat len)] 7)) (T'.setTop (mkF m 3 #[.val (.ref b), .val (.int (Int32.ofNat (o + len))), .val (.ref d), .val (.int (Int32.ofNat (q + len))), .val (.int (Int32.ofNat len)), .val (.int (Int32.ofNat len)), z'] [])) := by
    intro r
    induction r with
    | zero =>
      intro i hi z hz Tl Bk Xl pl fl cl
      have hil : i = len := by omega
      rw [hil] at Xl fl cl
      exact ⟨Tl, Bk, z, Xl, pl, fl, cl⟩
    | succ r ih =>
      intro i hi z hz Tl Bk Xl pl fl cl
      have all := X0.warmed.alike.symm.trans Xl.warmed.alike
      have hAl := hA0.keep all (pl.other hne hA0.1)
      have hBk := hB0.like all pl.1 fl.1 fl.2.1 fl.2.2.1
      have hlt : q + i < Bk.slots.size := by rw [fl.2.2.1]; omega
      have c3 : Steps p.tables e below (s₁.setTop (entryFrame m #[.ref b, .int (Int32.ofNat o), .ref d, .int (Int32.ofNat q), .int (Int32.ofNat len)] 7)) (Tl.setTop (mkF m 12 #[.val (.ref b), .val (.int (Int32.ofNat (o + i))), .val (.ref d), .val (.int (Int32.ofNat (q + i))), .val (.int (Int32.ofNat len)), .val (.int (Int32.ofNat i)), z] [.int (Int32.ofNat (o + i)), .ref b])) := cl.trans (by
        refine XS.iload Xl.here hexec rfl (hb hbytes d3) rfl ?_
        refine XS.iload Xl.here hexec rfl (hb hbytes d5) rfl ?_
        refine XS.icmpNo Xl.here hexec rfl (hb hbytes d7) rfl (ii_ge_f (lt32 (by omega) (by omega))) ?_
        refine XS.aloadN Xl.here hexec rfl (hb hbytes d10) rfl rfl ?_
        refine XS.iloadN Xl.here hexec rfl (hb hbytes d11) rfl ?_
        exact Steps.refl _)
      have c4 : Steps p.tables e below (s₁.setTop (entryFrame m #[.ref b, .int (Int32.ofNat o), .ref d, .int (Int32.ofNat q), .int (Int32.ofNat len)] 7)) (Tl.setTop (mkF m 13 #[.val (.ref b), .val (.int (Int32.ofNat (o + i))), .val (.ref d), .val (.int (Int32.ofNat (q + i))), .val (.int (Int32.ofNat len)), .val (.int (Int32.ofNat i)), z] [.int (cv A (o + i))])) := c3.trans (by
        refine Xl.aget hexec hAl rfl (hA.get (i := o + i) (by omega)) rfl rfl (hb hbytes d12) ?_
        exact Steps.refl _)
      have c5 : Steps p.tables e below (s₁.setTop (entryFrame m #[.ref b, .int (Int32.ofNat o), .ref d, .int (Int32.ofNat q), .int (Int32.ofNat len)] 7)) (Tl.setTop (mkF m 15 #[.val (.ref b), .val (.int (Int32.ofNat (o + i))), .val (.ref d), .val (.int (Int32.ofNat (q + i))), .val (.int (Int32.ofNat len)), .val (.int (Int32.ofNat i)), .val (.int (cv A (o + i)))] [])) := c4.trans (by
        refine XS.istoreS Xl.here hexec rfl (hb hbytes d13) rfl rfl hz ?_
        exact Steps.refl _)
      have c6 : Steps p.tables e below (s₁.setTop (entryFrame m #[.ref b, .int (Int32.ofNat o), .ref d, .int (Int32.ofNat q), .int (Int32.ofNat len)] 7)) (Tl.setTop (mkF m 31 #[.val (.ref b), .val (.int (Int32.ofNat (o + i))), .val (.ref d), .val (.int (Int32.ofNat (q + i))), .val (.int (Int32.ofNat len)), .val (.int (Int32.ofNat i)), .val (.int (cv A (o + i)))] [.int (lo8 (cv A (o + i))), .int (Int32.ofNat (q + i)), .ref d])) := c5.trans (by
        refine XS.iload Xl.here hexec rfl (hb hbytes d15) rfl ?_
        refine sipushV Xl.here hexec rfl 255 (hb hbytes d17) (by decide) ?_
        refine XS.icmpYes Xl.here hexec rfl (pc0 := 20) rfl (hb hbytes d20) rfl (ii_le_t (hp i (by omega))) (by decide) rfl ?_
        refine XS.aloadN Xl.here hexec rfl (hb hbytes d26) rfl rfl ?_
        refine XS.iloadN Xl.here hexec rfl (hb hbytes d27) rfl ?_
        refine XS.iload Xl.here hexec rfl (hb hbytes d28) rfl ?_
        refine i2b Xl.here hexec rfl (hb hbytes d30) rfl ?_
        exact Steps.refl _)
      obtain ⟨T7, X7, p7, st7⟩ := Xl.aput hexec hBk rfl hlt rfl (fits_lo8 (cv A (o + i))) (g := (mkF m 31 #[.val (.ref b), .val (.int (Int32.ofNat (o + i))), .val (.ref d), .val (.int (Int32.ofNat (q + i))), .val (.int (Int32.ofNat len)), .val (.int (Int32.ofNat i)), .val (.int (cv A (o + i)))] [.int (lo8 (cv A (o + i))), .int (Int32.ofNat (q + i)), .ref d])) rfl (rest := []) rfl (hb hbytes d31)
      have c8 : Steps p.tables e below (s₁.setTop (entryFrame m #[.ref b, .int (Int32.ofNat o), .ref d, .int (Int32.ofNat q), .int (Int32.ofNat len)] 7)) (T7.setTop (mkF m 32 #[.val (.ref b), .val (.int (Int32.ofNat (o + i))), .val (.ref d), .val (.int (Int32.ofNat (q + i))), .val (.int (Int32.ofNat len)), .val (.int (Int32.ofNat i)), .val (.int (cv A (o + i)))] [])) := c6.trans (st7 _ (Steps.refl _))
      have c9 : Steps p.tables e below (s₁.setTop (entryFrame m #[.ref b, .int (Int32.ofNat o), .ref d, .int (Int32.ofNat q), .int (Int32.ofNat len)] 7)) (T7.setTop (mkF m 3 #[.val (.ref b), .val (.int (Int32.ofNat (o + i) + 1)), .val (.ref d), .val (.int (Int32.ofNat (q + i) + 1)), .val (.int (Int32.ofNat len)), .val (.int (Int32.ofNat i + 1)), .val (.int (cv A (o + i)))] [])) := c8.trans (by
        refine iincV X7.here hexec rfl 1 (hb hbytes d32) (by decide) rfl rfl ?_
        refine iincV X7.here hexec rfl 1 (hb hbytes d35) (by decide) rfl rfl ?_
        refine iincV X7.here hexec rfl 1 (hb hbytes d38) (by decide) rfl rfl ?_
        refine XS.goto X7.here hexec rfl (pc0 := 41) rfl (hb hbytes d41) (by decide) rfl ?_
        exact Steps.refl _)
      have c10 : Steps p.tables e below (s₁.setTop (entryFrame m #[.ref b, .int (Int32.ofNat o), .ref d, .int (Int32.ofNat q), .int (Int32.ofNat len)] 7)) (T7.setTop (mkF m 3 #[.val (.ref b), .val (.int (Int32.ofNat (o + (i + 1)))), .val (.ref d), .val (.int (Int32.ofNat (q + (i + 1)))), .val (.int (Int32.ofNat len)), .val (.int (Int32.ofNat (i + 1))), .val (.int (cv A (o + i)))] [])) := by
        have := c9
        rw [succ32, succ32, succ32] at this
        exact this
      exact ih (i + 1) (by omega) _ (Or.inr ⟨_, rfl, rfl⟩) T7 _ (by rw [copyLocs_step, ← List.append_assoc]; exact X7) (pl.trans p7) (fl.step (by omega) hlt (by simp)) c10
  obtain ⟨T9, B9, z9, X9, p9, f9, g9⟩ := loop len 0 (by omega) .unset (Or.inl rfl) s₁ B (by simpa [copyLocs] using X0) ⟨hB0.1, fun _ _ => rfl, rfl⟩ (Laid.zero _ _ _) c2
  have c11 : Steps p.tables e below (s₁.setTop (entryFrame m #[.ref b, .int (Int32.ofNat o), .ref d, .int (Int32.ofNat q), .int (Int32.ofNat len)] 7)) (T9.setTop (mkF m 46 #[.val (.ref b), .val (.int (Int32.ofNat (o + len))), .val (.ref d), .val (.int (Int32.ofNat (q + len))), .val (.int (Int32.ofNat len)), .val (.int (Int32.ofNat len)), z9] [.int (Int32.ofNat len)])) := g9.trans (by
    refine XS.iload X9.here hexec rfl (hb hbytes d3) rfl ?_
    refine XS.iload X9.here hexec rfl (hb hbytes d5) rfl ?_
    refine XS.icmpYes X9.here hexec rfl (pc0 := 7) rfl (hb hbytes d7) rfl (ii_ge_t (nlt32 (by omega) (Nat.le_refl _))) (by decide) rfl ?_
    refine XS.iload X9.here hexec rfl (hb hbytes d44) rfl ?_
    exact Steps.refl _)
  exact ⟨T9, some (.int (Int32.ofNat len)), _, _, _, X9, by simp, rfl, rfl, (fun h => by cases h), ⟨rfl, B9, p9.from hh0, f9⟩, fun fs hl => c11.trans (X9.ireturnOut hexec hret rfl (Or.inl rfl) (hb hbytes d46) hl)⟩
end Cmp5
namespace Cmp3
def yN : MethodName := ⟨"java/lang/StringUTF16", "compress", "([CII)[B"⟩
abbrev yB : ByteArray := jdk_52_method_16_code
theorem d0 : decode yB 0 = .ok (.iload_n 2, 1) := by decide +kernel
theorem d1 : decode yB 1 = .ok (.newarray .byte, 2) := by decide +kernel
theorem d3 : decode yB 3 = .ok (.astore_n 3, 1) := by decide +kernel
theorem d4 : decode yB 4 = .ok (.aload_n 0, 1) := by decide +kernel
theorem d5 : decode yB 5 = .ok (.iload_n 1, 1) := by decide +kernel
theorem d6 : decode yB 6 = .ok (.aload_n 3, 1) := by decide +kernel
theorem d7 : decode yB 7 = .ok (.iconst 0, 1) := by decide +kernel
theorem d8 : decode yB 8 = .ok (.iload_n 2, 1) := by decide +kernel
theorem d9 : decode yB 9 = .ok (.invokestatic 115, 3) := by decide +kernel
theorem d12 : decode yB 12 = .ok (.istore 4, 2) := by decide +kernel
theorem d14 : decode yB 14 = .ok (.iload 4, 2) := by decide +kernel
theorem d16 : decode yB 16 = .ok (.iload_n 2, 1) := by decide +kernel
theorem d17 : decode yB 17 = .ok (.if_icmp (.eq) 40, 3) := by decide +kernel
theorem d57 : decode yB 57 = .ok (.aload_n 3, 1) := by decide +kernel
theorem d58 : decode yB 58 = .ok (.areturn, 1) := by decide +kernel
def site : List Cond := [.arrayClass .byte, Cmp5.tab] ++ staticW U16 115 Cmp5.yN
def tab : Cond := tabOf yN yB 6 (some (.array .byte)) site
def P (b : Addr) (A : Cell) (o len : Nat) (args : Array Value) (s : State) : Prop := args = #[.ref b, .int (Int32.ofNat o), .int (Int32.ofNat len)] ∧ Ch b A s ∧ o + len ≤ A.slots.size ∧ len ≤ 536870912 ∧ ∀ i, i < len → ¬ 255 < cv A (o + i)
def E (b : Addr) (A : Cell) (o len : Nat) (r : Option Value) (s u : State) : Prop := NewArr .byte "[B" len (fun j => .int (lo8 (cv A (o + j)))) r s u ∧ u.heap.size = s.heap.size + 1
/-- no char of the range above 255: a new byte[] of their low bytes -/
theorem law (l : Launch) (b : Addr) (A : Cell) (o len : Nat) : Law l yN 3 3 1 18 yB 6 (some (.array .byte)) site (P b A o len) (E b A o len) [] 1 len := by
  refine Law.of_walk (plainFor_of_name (by decide +kernel)) (by decide +kernel) (by decide +kernel) (by decide) (fun _ _ h => by rw [h.1]; rfl) (fun _ U U' hal hh h => ⟨h.1, h.2.1.mv hal hh, h.2.2⟩) (fun r U U' V V' h1 hal h2 h => ⟨NewArr.mv r U U' V V' h1 hal h2 h.1, by rw [h1, h2]; exact h.2⟩) ?_
  intro p e s m args below meth c s₁ X0 hexec hbytes hml hret hlk hnm hown hh0 W hP
  obtain ⟨rfl, hA, l1, l2, hp⟩ := hP
  have a31 := hA.1.2.2.2
  have c1 : Steps p.tables e below (s₁.setTop (entryFrame m #[.ref b, .int (Int32.ofNat o), .int (Int32.ofNat len)] 6)) (s₁.setTop (mkF m 0 #[.val (.ref b), .val (.int (Int32.ofNat o)), .val (.int (Int32.ofNat len)), .unset, .unset, .unset] [])) := entry rfl
  have c2 : Steps p.tables e below (s₁.setTop (entryFrame m #[.ref b, .int (Int32.ofNat o), .int (Int32.ofNat len)] 6)) (s₁.setTop (mkF m 1 #[.val (.ref b), .val (.int (Int32.ofNat o)), .val (.int (Int32.ofNat len)), .unset, .unset, .unset] [.int (Int32.ofNat len)])) := c1.trans (by
    refine XS.iloadN X0.here hexec rfl (hb hbytes d0) rfl ?_
    exact Steps.refl _)
  obtain ⟨T3, B3, X3, ba3, bs3, bv3, bh3, bf3, st3⟩ := X0.anew hexec (atype := .byte) (wk W (.arrayClass .byte)) rfl (by show len * 1 ≤ _; omega) (by omega) (g := (mkF m 1 #[.val (.ref b), .val (.int (Int32.ofNat o)), .val (.int (Int32.ofNat len)), .unset, .unset, .unset] [.int (Int32.ofNat len)])) rfl (hb hbytes d1) (rest := []) rfl (Nat.le_refl _) (by show 0 + len ≤ len; omega)
  rw [hh0] at ba3 st3
  have kp3 : XT.Kept s T3 := (XT.Kept.of_eq hh0).push bh3
  have hA3 := hA.keep X3.warmed.alike (kp3 _ _ hA.1.1)
  have hne : b ≠ s.heap.size := hA.1.ne
  have c4 : Steps p.tables e below (s₁.setTop (entryFrame m #[.ref b, .int (Int32.ofNat o), .int (Int32.ofNat len)] 6)) (T3.setTop (mkF m 3 #[.val (.ref b), .val (.int (Int32.ofNat o)), .val (.int (Int32.ofNat len)), .unset, .unset, .unset] [.ref s.heap.size])) := c2.trans (st3 _ (Steps.refl _))
  have c5 : Steps p.tables e below (s₁.setTop (entryFrame m #[.ref b, .int (Int32.ofNat o), .int (Int32.ofNat len)] 6)) (T3.setTop (mkF m 9 #[.val (.ref b), .val (.int (Int32.ofNat o)), .val (.int (Int32.ofNat len)), .val (.ref s.heap.size), .unset, .unset] [.int (Int32.ofNat len), .int 0, .ref s.heap.size, .int (Int32.ofNat o), .ref b])) := c4.trans (by
    refine XS.astoreN X3.here hexec rfl (hb hbytes d3) rfl rfl rfl ?_
    refine XS.aloadN X3.here hexec rfl (hb hbytes d4) rfl rfl ?_
    refine XS.iloadN X3.here hexec rfl (hb hbytes d5) rfl ?_
    refine XS.aloadN X3.here hexec rfl (hb hbytes d6) rfl rfl ?_
    refine iconstV X3.here hexec rfl 0 (hb hbytes d7) (by decide) ?_
    refine XS.iloadN X3.here hexec rfl (hb hbytes d8) rfl ?_
    exact Steps.refl _)
  obtain ⟨v6, T6, X6, E6, g6⟩ := X3.callS hexec (Cmp5.law l b A s.heap.size B3 o 0 len) hown (wks W (staticW U16 115 Cmp5.yN)) (wk W Cmp5.tab) (W := 0) (Nat.le_of_ble_eq_true rfl) (Nat.le_of_ble_eq_true rfl) (Nat.le_refl _) (by show 0 + len + 0 ≤ len; omega) (g := (mkF m 9 #[.val (.ref b), .val (.int (Int32.ofNat o)), .val (.int (Int32.ofNat len)), .val (.ref s.heap.size), .unset, .unset] [.int (Int32.ofNat len), .int (Int32.ofNat 0), .ref s.heap.size, .int (Int32.ofNat o), .ref b])) rfl (by rw [hml]; rfl) c5 (argsL := [.ref b, .int (Int32.ofNat o), .ref s.heap.size, .int (Int32.ofNat 0), .int (Int32.ofNat len)]) (rest := []) rfl rfl (by show 2 * 0 + 0 ≤ _; decide) (hb hbytes d9) (⟨rfl, hA3, ba3, hne, l1, by rw [bs3]; simp, hp⟩)
  obtain ⟨rfl, B6, p6, f6⟩ := E6
  have c7 : Steps p.tables e below (s₁.setTop (entryFrame m #[.ref b, .int (Int32.ofNat o), .int (Int32.ofNat len)] 6)) (T6.setTop (mkF m 12 #[.val (.ref b), .val (.int (Int32.ofNat o)), .val (.int (Int32.ofNat len)), .val (.ref s.heap.size), .unset, .unset] [.int (Int32.ofNat len)])) := g6
  have c8 : Steps p.tables e below (s₁.setTop (entryFrame m #[.ref b, .int (Int32.ofNat o), .int (Int32.ofNat len)] 6)) (T6.setTop (mkF m 58 #[.val (.ref b), .val (.int (Int32.ofNat o)), .val (.int (Int32.ofNat len)), .val (.ref s.heap.size), .val (.int (Int32.ofNat len)), .unset] [.ref s.heap.size])) := c7.trans (by
    refine XS.istore X6.here hexec rfl (hb hbytes d12) rfl rfl ?_
    refine XS.iload X6.here hexec rfl (hb hbytes d14) rfl ?_
    refine XS.iloadN X6.here hexec rfl (hb hbytes d16) rfl ?_
    refine XS.icmpYes X6.here hexec rfl (pc0 := 17) rfl (hb hbytes d17) rfl (ii_eq_t rfl) (by decide) rfl ?_
    refine XS.aloadN X6.here hexec rfl (hb hbytes d57) rfl rfl ?_
    exact Steps.refl _)
  have X8 := X6.wide (L' := []) (cells' := 1) (slots' := len) (fun x hx hlt => by
    simp only [List.nil_append, copyLocs, List.mem_map, List.mem_range] at hx
    obtain ⟨i, -, rfl⟩ := hx
    exact absurd hlt (Nat.lt_irrefl _)) (Nat.le_refl _) (by omega)
  exact ⟨T6, some (.ref s.heap.size), _, _, _, X8, rfl, rfl, rfl, (fun h => by cases h), ⟨⟨rfl, B6, ba3.like (X3.warmed.alike.symm.trans X6.warmed.alike) p6.1 f6.1 f6.2.1 f6.2.2.1, f6.2.1.trans bv3, by rw [X6.warmed.alike.findClass, f6.1]; exact bf3, by rw [f6.2.2.1, bs3]; simp, fun j hj => by rw [f6.2.2.2 j, if_pos (by omega)]; rfl, kp3.put p6 (Nat.le_refl _)⟩, by rw [p6.2.2, bh3, hh0]; simp⟩, fun fs hl => c8.trans (X8.areturnOut hexec rfl hret rfl (hb hbytes d58) hl)⟩
end Cmp3
namespace CodL
def yN : MethodName := ⟨"java/lang/StringUTF16", "coderFromArrayLen", "([BI)B"⟩
abbrev yB : ByteArray := jdk_52_method_15_code
theorem d0 : decode yB 0 = .ok (.iload_n 1, 1) := by decide +kernel
theorem d1 : decode yB 1 = .ok (.aload_n 0, 1) := by decide +kernel
theorem d2 : decode yB 2 = .ok (.arraylength, 1) := by decide +kernel
theorem d3 : decode yB 3 = .ok (.isub, 1) := by decide +kernel
theorem d4 : decode yB 4 = .ok (.bipush 31, 2) := by decide +kernel
theorem d6 : decode yB 6 = .ok (.iushr, 1) := by decide +kernel
theorem d7 : decode yB 7 = .ok (.i2b, 1) := by decide +kernel
theorem d8 : decode yB 8 = .ok (.ireturn, 1) := by decide +kernel
def site : List Cond := []
def tab : Cond := tabOf yN yB 2 (some .byte) site
def P (d : Addr) (B : Cell) (args : Array Value) (s : State) : Prop := args = #[.ref d, .int (Int32.ofNat B.slots.size)] ∧ Arr .byte d B s
def E (r : Option Value) (s u : State) : Prop := XT.PureE (some (.int 0)) r s u
/-- an array as long as the number of chars: LATIN1 -/
theorem law (l : Launch) (d : Addr) (B : Cell) : Law l yN 2 2 0 0 yB 2 (some .byte) site (P d B) E [] 0 0 := by
  refine Law.of_walk (plainFor_of_name (by decide +kernel)) (by decide +kernel) (by decide +kernel) (by decide) (fun _ _ h => by rw [h.1]; rfl) (fun _ U U' hal hh h => ⟨h.1, h.2.mv hal hh⟩) (fun r U U' V V' h1 hal h2 h => XT.PureE.mv r U U' V V' h1 hal h2 h) ?_
  intro p e s m args below meth c s₁ X0 hexec hbytes hml hret hlk hnm hown hh0 W hP
  obtain ⟨rfl, hB⟩ := hP
  have hB0 := hB.mv X0.warmed.alike hh0
  have c1 : Steps p.tables e below (s₁.setTop (entryFrame m #[.ref d, .int (Int32.ofNat B.slots.size)] 2)) (s₁.setTop (mkF m 0 #[.val (.ref d), .val (.int (Int32.ofNat B.slots.size))] [])) := entry rfl
  have c2 : Steps p.tables e below (s₁.setTop (entryFrame m #[.ref d, .int (Int32.ofNat B.slots.size)] 2)) (s₁.setTop (mkF m 2 #[.val (.ref d), .val (.int (Int32.ofNat B.slots.size))] [.ref d, .int (Int32.ofNat B.slots.size)])) := c1.trans (by
    refine XS.iloadN X0.here hexec rfl (hb hbytes d0) rfl ?_
    refine XS.aloadN X0.here hexec rfl (hb hbytes d1) rfl rfl ?_
    exact Steps.refl _)
  have c3 : Steps p.tables e below (s₁.setTop (entryFrame m #[.ref d, .int (Int32.ofNat B.slots.size)] 2)) (s₁.setTop (mkF m 8 #[.val (.ref d), .val (.int (Int32.ofNat B.slots.size))] [.int (lo8 (ushr (Int32.ofNat B.slots.size - Int32.ofNat B.slots.size) 31))])) := c2.trans (by
    refine X0.alen hexec hB0 rfl rfl (hb hbytes d2) ?_
    refine XS.isub X0.here hexec rfl (hb hbytes d3) rfl ?_
    refine bipushV X0.here hexec rfl 31 (hb hbytes d4) (by decide) ?_
    refine iushr X0.here hexec rfl (hb hbytes d6) rfl ?_
    refine i2b X0.here hexec rfl (hb hbytes d7) rfl ?_
    exact Steps.refl _)
  have e0 : lo8 (ushr (Int32.ofNat B.slots.size - Int32.ofNat B.slots.size) 31) = 0 := by rw [Int32.sub_self]; decide
  rw [e0] at c3
  exact ⟨s₁, some (.int 0), _, _, _, X0, rfl, rfl, rfl, (fun h => by cases h), ⟨rfl, hh0⟩, fun fs hl => c3.trans (X0.ireturnOut hexec hret rfl (Or.inr (Or.inr (Or.inl rfl))) (hb hbytes d8) hl)⟩
end CodL
/-- the String at a is Latin-1 over a new byte[] (the heap's one new cell): the low bytes of the len chars of A from o on; every cell but a is kept -/
def Got (a : Addr) (D : Cell) (fV fC : Field) (A : Cell) (o len : Nat) (r : Option Value) (s u : State) : Prop := r = none ∧ ∃ D' V : Cell, Blank "java/lang/String" a D' u ∧ Same D D' [fV.slot, fC.slot] ∧ D'.slots[fV.slot]? = some (.ref s.heap.size) ∧ D'.slots[fC.slot]? = some (.int 0) ∧ Arr .byte s.heap.size V u ∧ V.vm = .none ∧ u.vm.findClass "[B" = some V.cls ∧ V.slots.size = len ∧ (∀ j, j < len → V.slots[j]? = some (.int (lo8 (cv A (o + j))))) ∧ (∀ (y : Addr) (c : Cell), y ≠ a → s.heap[y]? = some c → u.heap[y]? = some c) ∧ u.heap.size = s.heap.size + 1
theorem Got.mv {a : Addr} {D A : Cell} {fV fC : Field} {o len : Nat} : ∀ r (U U' V V' : State), U'.heap = U.heap → V.vm.Alike V'.vm → V'.heap = V.heap → Got a D fV fC A o len r U V → Got a D fV fC A o len r U' V' :=
  fun r U U' V V' h1 hal h2 ⟨e0, D', X, a1, a2, a3, a4, a5, a6, a7, a8, a9, a10, a11⟩ => ⟨e0, D', X, a1.mv hal h2, a2, by rw [h1]; exact a3, a4, by rw [h1]; exact a5.mv hal h2, a6, by rw [hal.findClass]; exact a7, a8, a9, by rw [h1, h2]; exact a10, by rw [h1, h2]; exact a11⟩
namespace New4
def yN : MethodName := ⟨"java/lang/String", "<init>", "([CIILjava/lang/Void;)V"⟩
abbrev yB : ByteArray := jdk_42_method_149_code
theorem d0 : decode yB 0 = .ok (.aload_n 0, 1) := by decide +kernel
theorem d1 : decode yB 1 = .ok (.invokespecial 1, 3) := by decide +kernel
theorem d4 : decode yB 4 = .ok (.iload_n 3, 1) := by decide +kernel
theorem d5 : decode yB 5 = .ok (.ifCond (.ne) 22, 3) := by decide +kernel
theorem d27 : decode yB 27 = .ok (.getstatic 38, 3) := by decide +kernel
theorem d30 : decode yB 30 = .ok (.ifCond (.eq) 28, 3) := by decide +kernel
theorem d33 : decode yB 33 = .ok (.aload_n 1, 1) := by decide +kernel
theorem d34 : decode yB 34 = .ok (.iload_n 2, 1) := by decide +kernel
theorem d35 : decode yB 35 = .ok (.iload_n 3, 1) := by decide +kernel
theorem d36 : decode yB 36 = .ok (.invokestatic 177, 3) := by decide +kernel
theorem d39 : decode yB 39 = .ok (.astore 5, 2) := by decide +kernel
theorem d41 : decode yB 41 = .ok (.aload_n 0, 1) := by decide +kernel
theorem d42 : decode yB 42 = .ok (.aload 5, 2) := by decide +kernel
theorem d44 : decode yB 44 = .ok (.iload_n 3, 1) := by decide +kernel
theorem d45 : decode yB 45 = .ok (.invokestatic 47, 3) := by decide +kernel
theorem d48 : decode yB 48 = .ok (.putfield 15, 3) := by decide +kernel
theorem d51 : decode yB 51 = .ok (.aload_n 0, 1) := by decide +kernel
theorem d52 : decode yB 52 = .ok (.aload 5, 2) := by decide +kernel
theorem d54 : decode yB 54 = .ok (.putfield 9, 3) := by decide +kernel
theorem d57 : decode yB 57 = .ok (.return_, 1) := by decide +kernel
def site : List Cond := [.fieldLink "java/lang/String" 38 "java/lang/String" "COMPACT_STRINGS" "Z", Cmp3.tab, CodL.tab, .laysFinal "java/lang/String" "java/lang/String" "value" "[B", .fieldLink "java/lang/String" 9 "java/lang/String" "value" "[B", .laysFinal "java/lang/String" "java/lang/String" "coder" "B", .fieldLink "java/lang/String" 15 "java/lang/String" "coder" "B"] ++ objW "java/lang/String" 1 ++ staticW "java/lang/String" 177 Cmp3.yN ++ staticW "java/lang/String" 47 CodL.yN
def tab : Cond := tabOf yN yB 6 none site
def P (a : Addr) (D : Cell) (fV fC : Field) (b : Addr) (A : Cell) (z : Int32) (o len : Nat) (args : Array Value) (s : State) : Prop := args = #[.ref a, .ref b, .int (Int32.ofNat o), .int (Int32.ofNat len), .null] ∧ Blank "java/lang/String" a D s ∧ Found "java/lang/String" "value" "[B" fV s ∧ Found "java/lang/String" "coder" "B" fC s ∧ Ch b A s ∧ StaticIs s "java/lang/String" "COMPACT_STRINGS" "Z" (.int z) ∧ ¬ z = 0 ∧ 0 < len ∧ o + len ≤ A.slots.size ∧ len ≤ 536870912 ∧ ∀ i, i < len → ¬ 255 < cv A (o + i)
def E (a : Addr) (D : Cell) (fV fC : Field) (A : Cell) (o len : Nat) (r : Option Value) (s u : State) : Prop := Got a D fV fC A o len r s u
/-- len > 0, no char of the range above 255: a Latin-1 String of their low bytes -/
theorem law (l : Launch) (a : Addr) (D : Cell) (fV fC : Field) (b : Addr) (A : Cell) (z : Int32) (o len : Nat) : Law l yN 5 4 2 35 yB 6 none site (P a D fV fC b A z o len) (E a D fV fC A o len) [⟨a, fC.slot⟩, ⟨a, fV.slot⟩] 1 len := by
  refine Law.of_walk (plainFor_of_name (by decide +kernel)) (by decide +kernel) (by decide +kernel) (by decide) (fun _ _ h => by rw [h.1]; rfl) (fun _ U U' hal hh h => ⟨h.1, h.2.1.mv hal hh, h.2.2.1.al hal, h.2.2.2.1.al hal, h.2.2.2.2.1.mv hal hh, h.2.2.2.2.2.1.there hal hh, h.2.2.2.2.2.2⟩) (fun r U U' V V' h1 hal h2 h => Got.mv r U U' V V' h1 hal h2 h) ?_
  intro p e s m args below meth c s₁ X0 hexec hbytes hml hret hlk hnm hown hh0 W hP
  obtain ⟨rfl, hB, f1, f2, hA, s1, hz, l0, l1, l2, hp⟩ := hP
  have a31 := hA.1.2.2.2
  have c1 : Steps p.tables e below (s₁.setTop (entryFrame m #[.ref a, .ref b, .int (Int32.ofNat o), .int (Int32.ofNat len), .null] 6)) (s₁.setTop (mkF m 0 #[.val (.ref a), .val (.ref b), .val (.int (Int32.ofNat o)), .val (.int (Int32.ofNat len)), .val .null, .unset] [])) := entry rfl
  have c2 : Steps p.tables e below (s₁.setTop (entryFrame m #[.ref a, .ref b, .int (Int32.ofNat o), .int (Int32.ofNat len), .null] 6)) (s₁.setTop (mkF m 1 #[.val (.ref a), .val (.ref b), .val (.int (Int32.ofNat o)), .val (.int (Int32.ofNat len)), .val .null, .unset] [.ref a])) := c1.trans (by
    refine XS.aloadN X0.here hexec rfl (hb hbytes d0) rfl rfl ?_
    exact Steps.refl _)
  obtain ⟨T3, X3, q3, st3⟩ := X0.oinit hexec hown (wks W (objW "java/lang/String" 1)) (g := (mkF m 1 #[.val (.ref a), .val (.ref b), .val (.int (Int32.ofNat o)), .val (.int (Int32.ofNat len)), .val .null, .unset] [.ref a])) rfl (by rw [hml]; rfl) (rest := []) rfl (hb hbytes d1) (W := 0) (by show 2 * 0 + 0 ≤ _; decide) (Nat.le_of_ble_eq_true rfl) (Nat.le_of_ble_eq_true rfl)
  have hh3 := q3.trans hh0
  have c4 : Steps p.tables e below (s₁.setTop (entryFrame m #[.ref a, .ref b, .int (Int32.ofNat o), .int (Int32.ofNat len), .null] 6)) (T3.setTop (mkF m 27 #[.val (.ref a), .val (.ref b), .val (.int (Int32.ofNat o)), .val (.int (Int32.ofNat len)), .val .null, .unset] [])) := (c2.trans (st3 _ (Steps.refl _))).trans (by
    refine XS.iloadN X3.here hexec rfl (hb hbytes d4) rfl ?_
    refine XS.ifYes X3.here hexec rfl (pc0 := 5) rfl (hb hbytes d5) rfl (i0_ne_t (nz32 (by omega) l0)) (by decide) rfl ?_
    exact Steps.refl _)
  obtain ⟨T5, X5, q5, st5⟩ := X3.sget hexec hown (wk W (.fieldLink "java/lang/String" 38 "java/lang/String" "COMPACT_STRINGS" "Z")) s1 (fun _ _ h => by rw [hh3]; exact h) (g := (mkF m 27 #[.val (.ref a), .val (.ref b), .val (.int (Int32.ofNat o)), .val (.int (Int32.ofNat len)), .val .null, .unset] [])) rfl (hb hbytes d27)
  have hh5 := q5.trans hh3
  have c6 : Steps p.tables e below (s₁.setTop (entryFrame m #[.ref a, .ref b, .int (Int32.ofNat o), .int (Int32.ofNat len), .null] 6)) (T5.setTop (mkF m 30 #[.val (.ref a), .val (.ref b), .val (.int (Int32.ofNat o)), .val (.int (Int32.ofNat len)), .val .null, .unset] [.int z])) := c4.trans (st5 _ (Steps.refl _))
  have c7 : Steps p.tables e below (s₁.setTop (entryFrame m #[.ref a, .ref b, .int (Int32.ofNat o), .int (Int32.ofNat len), .null] 6)) (T5.setTop (mkF m 36 #[.val (.ref a), .val (.ref b), .val (.int (Int32.ofNat o)), .val (.int (Int32.ofNat len)), .val .null, .unset] [.int (Int32.ofNat len), .int (Int32.ofNat o), .ref b])) := c6.trans (by
    refine XS.ifNo X5.here hexec rfl (hb hbytes d30) rfl (i0_eq_f hz) ?_
    refine XS.aloadN X5.here hexec rfl (hb hbytes d33) rfl rfl ?_
    refine XS.iloadN X5.here hexec rfl (hb hbytes d34) rfl ?_
    refine XS.iloadN X5.here hexec rfl (hb hbytes d35) rfl ?_
    exact Steps.refl _)
  obtain ⟨v8, T8, X8, E8, g8⟩ := X5.callS hexec (Cmp3.law l b A o len) hown (wks W (staticW "java/lang/String" 177 Cmp3.yN)) (wk W Cmp3.tab) (W := 0) (Nat.le_of_ble_eq_true rfl) (Nat.le_of_ble_eq_true rfl) (Nat.le_refl _) (by show 0 + len ≤ len; omega) (g := (mkF m 36 #[.val (.ref a), .val (.ref b), .val (.int (Int32.ofNat o)), .val (.int (Int32.ofNat len)), .val .null, .unset] [.int (Int32.ofNat len), .int (Int32.ofNat o), .ref b])) rfl (by rw [hml]; rfl) c7 (argsL := [.ref b, .int (Int32.ofNat o), .int (Int32.ofNat len)]) (rest := []) rfl rfl (by show 2 * 0 + 0 ≤ _; decide) (hb hbytes d36) (⟨rfl, hA.mv X5.warmed.alike hh5, l1, l2, hp⟩)
  obtain ⟨e8, z8⟩ := E8
  obtain ⟨rfl, N, n1, n2, n3, n4, n5, n6⟩ := NewArr.mv _ T5 s _ _ hh5.symm (Vm.Alike.refl _) rfl e8
  rw [hh5] at z8
  have hB1 := hB.keep X8.warmed.alike (n6 _ _ hB.1)
  have hne : s.heap.size ≠ a := (Nat.ne_of_lt (Array.getElem?_eq_some_iff.mp hB.1).1).symm
  have c9 : Steps p.tables e below (s₁.setTop (entryFrame m #[.ref a, .ref b, .int (Int32.ofNat o), .int (Int32.ofNat len), .null] 6)) (T8.setTop (mkF m 39 #[.val (.ref a), .val (.ref b), .val (.int (Int32.ofNat o)), .val (.int (Int32.ofNat len)), .val .null, .unset] [.ref s.heap.size])) := g8
  have c10 : Steps p.tables e below (s₁.setTop (entryFrame m #[.ref a, .ref b, .int (Int32.ofNat o), .int (Int32.ofNat len), .null] 6)) (T8.setTop (mkF m 45 #[.val (.ref a), .val (.ref b), .val (.int (Int32.ofNat o)), .val (.int (Int32.ofNat len)), .val .null, .val (.ref s.heap.size)] [.int (Int32.ofNat N.slots.size), .ref s.heap.size, .ref a])) := by
    have hc : Steps p.tables e below (s₁.setTop (entryFrame m #[.ref a, .ref b, .int (Int32.ofNat o), .int (Int32.ofNat len), .null] 6)) (T8.setTop (mkF m 45 #[.val (.ref a), .val (.ref b), .val (.int (Int32.ofNat o)), .val (.int (Int32.ofNat len)), .val .null, .val (.ref s.heap.size)] [.int (Int32.ofNat len), .ref s.heap.size, .ref a])) := c9.trans (by
      refine XS.astore X8.here hexec rfl (hb hbytes d39) rfl rfl rfl ?_
      refine XS.aloadN X8.here hexec rfl (hb hbytes d41) rfl rfl ?_
      refine XS.aload X8.here hexec rfl (hb hbytes d42) rfl rfl ?_
      refine XS.iloadN X8.here hexec rfl (hb hbytes d44) rfl ?_
      exact Steps.refl _)
    rw [n4]; exact hc
  obtain ⟨v11, T11, X11, E11, g11⟩ := X8.callS hexec (CodL.law l s.heap.size N) hown (wks W (staticW "java/lang/String" 47 CodL.yN)) (wk W CodL.tab) (W := 1) (Nat.le_of_ble_eq_true rfl) (Nat.le_of_ble_eq_true rfl) (Nat.le_refl _) (by show 0 + len + 0 ≤ len; omega) (g := (mkF m 45 #[.val (.ref a), .val (.ref b), .val (.int (Int32.ofNat o)), .val (.int (Int32.ofNat len)), .val .null, .val (.ref s.heap.size)] [.int (Int32.ofNat N.slots.size), .ref s.heap.size, .ref a])) rfl (by rw [hml]; rfl) c10 (argsL := [.ref s.heap.size, .int (Int32.ofNat N.slots.size)]) (rest := [.ref a]) rfl rfl (by show 2 * 0 + (1 + 0) ≤ _; decide) (hb hbytes d45) (⟨rfl, n1⟩)
  obtain ⟨rfl, q11⟩ := E11
  have hB11 := hB1.mv (X8.warmed.alike.symm.trans X11.warmed.alike) q11
  have c12 : Steps p.tables e below (s₁.setTop (entryFrame m #[.ref a, .ref b, .int (Int32.ofNat o), .int (Int32.ofNat len), .null] 6)) (T11.setTop (mkF m 48 #[.val (.ref a), .val (.ref b), .val (.int (Int32.ofNat o)), .val (.int (Int32.ofNat len)), .val .null, .val (.ref s.heap.size)] [.int 0, .ref a])) := g11
  obtain ⟨T13, X13, p13, bl13, sl13, st13⟩ := X11.finit hexec hown (wk W (.fieldLink "java/lang/String" 15 "java/lang/String" "coder" "B")) (Or.inr ⟨_, (wk W (.laysFinal "java/lang/String" "java/lang/String" "coder" "B"))⟩) (Or.inl ⟨rfl, hnm⟩) f2 (Or.inl rfl) hB11 (t := .byte) (by decide +kernel) rfl (g := (mkF m 48 #[.val (.ref a), .val (.ref b), .val (.int (Int32.ofNat o)), .val (.int (Int32.ofNat len)), .val .null, .val (.ref s.heap.size)] [.int 0, .ref a])) rfl (rest := []) rfl (hb hbytes d48)
  have c14 : Steps p.tables e below (s₁.setTop (entryFrame m #[.ref a, .ref b, .int (Int32.ofNat o), .int (Int32.ofNat len), .null] 6)) (T13.setTop (mkF m 54 #[.val (.ref a), .val (.ref b), .val (.int (Int32.ofNat o)), .val (.int (Int32.ofNat len)), .val .null, .val (.ref s.heap.size)] [.ref s.heap.size, .ref a])) := (c12.trans (st13 _ (Steps.refl _))).trans (by
    refine XS.aloadN X13.here hexec rfl (hb hbytes d51) rfl rfl ?_
    refine XS.aload X13.here hexec rfl (hb hbytes d52) rfl rfl ?_
    exact Steps.refl _)
  obtain ⟨T15, X15, p15, bl15, sl15, st15⟩ := X13.finit hexec hown (wk W (.fieldLink "java/lang/String" 9 "java/lang/String" "value" "[B")) (Or.inr ⟨_, (wk W (.laysFinal "java/lang/String" "java/lang/String" "value" "[B"))⟩) (Or.inl ⟨rfl, hnm⟩) f1 (Or.inl rfl) bl13 (t := (.array .byte)) (by decide +kernel) rfl (g := (mkF m 54 #[.val (.ref a), .val (.ref b), .val (.int (Int32.ofNat o)), .val (.int (Int32.ofNat len)), .val .null, .val (.ref s.heap.size)] [.ref s.heap.size, .ref a])) rfl (rest := []) rfl (hb hbytes d54)
  have c16 : Steps p.tables e below (s₁.setTop (entryFrame m #[.ref a, .ref b, .int (Int32.ofNat o), .int (Int32.ofNat len), .null] 6)) (T15.setTop (mkF m 57 #[.val (.ref a), .val (.ref b), .val (.int (Int32.ofNat o)), .val (.int (Int32.ofNat len)), .val .null, .val (.ref s.heap.size)] [])) := c14.trans (st15 _ (Steps.refl _))
  have ap := apart (Or.inr ⟨_, (wk W (.laysFinal "java/lang/String" "java/lang/String" "value" "[B"))⟩) (Or.inr ⟨_, (wk W (.laysFinal "java/lang/String" "java/lang/String" "coder" "B"))⟩) f1 f2 (t₁ := .array .byte) (t₂ := .byte) (by decide +kernel) (by decide +kernel) (by decide)
  have al := X8.warmed.alike.symm.trans X15.warmed.alike
  have n7 : T11.heap[s.heap.size]? = some N := by rw [q11]; exact n1.1
  exact ⟨T15, none, _, _, _, X15, by simp, rfl, by omega, (fun _ => rfl), ⟨rfl, _, N, bl15, ((Same.refl D _).set _ (by simp)).set _ (by simp), sl15, (Cell.slots_setSlot_ne _ ap).trans sl13, n1.keep al (p15.other hne (p13.other hne n7)), n2, by rw [al.findClass]; exact n3, n4, n5, fun y c h1 h2 => p15.other h1 (p13.other h1 (by rw [q11]; exact n6 y c h2)), by rw [p15.2.2, p13.2.2, q11]; exact z8⟩, fun fs hl => c16.trans (X15.returnOut hexec hret (hb hbytes d57) hl)⟩
end New4
namespace New1
def yN : MethodName := ⟨"java/lang/String", "<init>", "([C)V"⟩
abbrev yB : ByteArray := jdk_42_method_3_code
theorem d0 : decode yB 0 = .ok (.aload_n 0, 1) := by decide +kernel
theorem d1 : decode yB 1 = .ok (.aload_n 1, 1) := by decide +kernel
theorem d2 : decode yB 2 = .ok (.iconst 0, 1) := by decide +kernel
theorem d3 : decode yB 3 = .ok (.aload_n 1, 1) := by decide +kernel
theorem d4 : decode yB 4 = .ok (.arraylength, 1) := by decide +kernel
theorem d5 : decode yB 5 = .ok (.aconst_null, 1) := by decide +kernel
theorem d6 : decode yB 6 = .ok (.invokespecial 27, 3) := by decide +kernel
theorem d9 : decode yB 9 = .ok (.return_, 1) := by decide +kernel
def site : List Cond := [New4.tab] ++ initW "java/lang/String" 27 New4.yN
def tab : Cond := tabOf yN yB 2 none site
def P (a : Addr) (D : Cell) (fV fC : Field) (b : Addr) (A : Cell) (z : Int32) (args : Array Value) (s : State) : Prop := args = #[.ref a, .ref b] ∧ Blank "java/lang/String" a D s ∧ Found "java/lang/String" "value" "[B" fV s ∧ Found "java/lang/String" "coder" "B" fC s ∧ Ch b A s ∧ StaticIs s "java/lang/String" "COMPACT_STRINGS" "Z" (.int z) ∧ ¬ z = 0 ∧ 0 < A.slots.size ∧ A.slots.size ≤ 536870912 ∧ ∀ i, i < A.slots.size → ¬ 255 < cv A i
def E (a : Addr) (D : Cell) (fV fC : Field) (A : Cell) (r : Option Value) (s u : State) : Prop := Got a D fV fC A 0 A.slots.size r s u
/-- new String(chars), not empty, no char above 255: a Latin-1 String of their low bytes -/
theorem law (l : Launch) (a : Addr) (D : Cell) (fV fC : Field) (b : Addr) (A : Cell) (z : Int32) : Law l yN 2 1 3 52 yB 2 none site (P a D fV fC b A z) (E a D fV fC A) [⟨a, fC.slot⟩, ⟨a, fV.slot⟩] 1 A.slots.size := by
  refine Law.of_walk (plainFor_of_name (by decide +kernel)) (by decide +kernel) (by decide +kernel) (by decide) (fun _ _ h => by rw [h.1]; rfl) (fun _ U U' hal hh h => ⟨h.1, h.2.1.mv hal hh, h.2.2.1.al hal, h.2.2.2.1.al hal, h.2.2.2.2.1.mv hal hh, h.2.2.2.2.2.1.there hal hh, h.2.2.2.2.2.2⟩) (fun r U U' V V' h1 hal h2 h => Got.mv r U U' V V' h1 hal h2 h) ?_
  intro p e s m args below meth c s₁ X0 hexec hbytes hml hret hlk hnm hown hh0 W hP
  obtain ⟨rfl, hB, f1, f2, hA, s1, hz, l0, l2, hp⟩ := hP
  have c1 : Steps p.tables e below (s₁.setTop (entryFrame m #[.ref a, .ref b] 2)) (s₁.setTop (mkF m 0 #[.val (.ref a), .val (.ref b)] [])) := entry rfl
  have c2 : Steps p.tables e below (s₁.setTop (entryFrame m #[.ref a, .ref b] 2)) (s₁.setTop (mkF m 6 #[.val (.ref a), .val (.ref b)] [.null, .int (Int32.ofNat A.slots.size), .int 0, .ref b, .ref a])) := c1.trans (by
    refine XS.aloadN X0.here hexec rfl (hb hbytes d0) rfl rfl ?_
    refine XS.aloadN X0.here hexec rfl (hb hbytes d1) rfl rfl ?_
    refine iconstV X0.here hexec rfl 0 (hb hbytes d2) (by decide) ?_
    refine XS.aloadN X0.here hexec rfl (hb hbytes d3) rfl rfl ?_
    refine X0.alen hexec (hA.1.mv X0.warmed.alike hh0) rfl rfl (hb hbytes d4) ?_
    refine XS.aconstNull X0.here hexec rfl (hb hbytes d5) ?_
    exact Steps.refl _)
  obtain ⟨v3, T3, X3, E3, g3⟩ := X0.callN hexec (New4.law l a D fV fC b A z 0 A.slots.size) rfl hown (wks W (initW "java/lang/String" 27 New4.yN)) (W New4.tab (by simp only [site, List.mem_cons, List.mem_append, true_or, or_true])) (W := 0) (Nat.le_of_ble_eq_true rfl) (Nat.le_of_ble_eq_true rfl) (Nat.le_refl _) (by show 0 + A.slots.size ≤ A.slots.size; omega) (g := (mkF m 6 #[.val (.ref a), .val (.ref b)] [.null, .int (Int32.ofNat A.slots.size), .int (Int32.ofNat 0), .ref b, .ref a])) rfl (by rw [hml]; rfl) c2 (argsL := [.ref b, .int (Int32.ofNat 0), .int (Int32.ofNat A.slots.size), .null]) (rest := []) rfl rfl (by show 2 * 0 + 0 ≤ _; decide) (hb hbytes d6) (⟨rfl, hB.mv X0.warmed.alike hh0, f1.al X0.warmed.alike, f2.al X0.warmed.alike, hA.mv X0.warmed.alike hh0, s1.there X0.warmed.alike hh0, hz, l0, by omega, l2, fun i hi => by rw [Nat.zero_add]; exact hp i hi⟩)
  have e0 := Got.mv _ s₁ s _ _ hh0.symm (Vm.Alike.refl _) rfl E3
  obtain rfl := e0.1
  have c4 : Steps p.tables e below (s₁.setTop (entryFrame m #[.ref a, .ref b] 2)) (T3.setTop (mkF m 9 #[.val (.ref a), .val (.ref b)] [])) := g3
  exact ⟨T3, none, _, _, _, X3, by simp, rfl, by omega, (fun _ => rfl), e0, fun fs hl => c4.trans (X3.returnOut hexec hret (hb hbytes d9) hl)⟩
theorem pays {l : Launch} {R : Room} {p : Program} {e : Env} {below : List Frame} {s : State} {sargs : Array Value} {len W : Nat} (a : Addr) (D : Cell) (fV fC : Field) (b : Addr) (A : Cell) (z : Int32) (htab : tab.before sargs s = true) (hfr : 4 ≤ R.frames) (hlo : W + 65 ≤ R.locals) :
    Back l R p e below s sargs yN len W (fun A₁ a₁ => A₁.cells + 1 ≤ R.cells ∧ A₁.slots + A.slots.size ≤ R.slots ∧ P a D fV fC b A z a₁ A₁.U) (fun A₁ _ v₁ B₁ => E a D fV fC A v₁ A₁.U B₁.U ∧ B₁.locs = A₁.locs ++ [⟨a, fC.slot⟩, ⟨a, fV.slot⟩] ∧ B₁.cells = A₁.cells + 1 ∧ B₁.slots = A₁.slots + A.slots.size) :=
  (law l a D fV fC b A z).pays htab hfr (by omega)
end New1
end StrChars
namespace StrChars.Road
open Jvm Sem ClassFile Op Lib Jvm.Stand Jvm.Free Jvm.Free.XT
open Jvm.Lib.Cold (StaticIs)
abbrev ST : String := "java/lang/String"
/-- every table word that New1's law asks, flat -/
abbrev words : List Jvm.Cond := [.code New1.yN New1.yB 2 none, .initialized ST, .methodLink ST 27 New4.yN, .instanceMethod New4.yN,
  .code New4.yN New4.yB 6 none, .fieldLink ST 38 ST "COMPACT_STRINGS" "Z", .laysFinal ST ST "value" "[B", .fieldLink ST 9 ST "value" "[B", .laysFinal ST ST "coder" "B", .fieldLink ST 15 ST "coder" "B",
  .methodLink ST 1 Lib.objectInit, .instanceMethod Lib.objectInit, .code Lib.objectInit ⟨#[0xb1]⟩ 1 none, .methodLink ST 177 Cmp3.yN, .static Cmp3.yN, .methodLink ST 47 CodL.yN, .static CodL.yN,
  .code Cmp3.yN Cmp3.yB 6 (some (.array .byte)), .initialized U16, .arrayClass .byte, .methodLink U16 115 Cmp5.yN, .static Cmp5.yN, .code Cmp5.yN Cmp5.yB 7 (some .int), .code CodL.yN CodL.yB 2 (some .byte)]
theorem tab_of {a : Array Value} {s : State} (h : ∀ w ∈ words, w.before a s = true) : New1.tab.before a s = true := by
  have h5 : Cmp5.tab.before a s = true := unparts (wk h (.code Cmp5.yN Cmp5.yB 7 (some .int))) (wks h (.initialized Cmp5.yN.cls :: Cmp5.site))
  have hc : CodL.tab.before a s = true := unparts (wk h (.code CodL.yN CodL.yB 2 (some .byte))) (wks h (.initialized CodL.yN.cls :: CodL.site))
  have q5 : ∀ w ∈ Cmp5.tab :: words, w.before a s = true := fun w hw => (List.mem_cons.mp hw).elim (fun e => e ▸ h5) (h w)
  have h3 : Cmp3.tab.before a s = true := unparts (wk q5 (.code Cmp3.yN Cmp3.yB 6 (some (.array .byte)))) (wks q5 (.initialized Cmp3.yN.cls :: Cmp3.site))
  have q3 : ∀ w ∈ Cmp3.tab :: CodL.tab :: words, w.before a s = true := fun w hw => (List.mem_cons.mp hw).elim (fun e => e ▸ h3) fun hw => (List.mem_cons.mp hw).elim (fun e => e ▸ hc) (h w)
  have h4 : New4.tab.before a s = true := unparts (wk q3 (.code New4.yN New4.yB 6 none)) (wks q3 (.initialized New4.yN.cls :: New4.site))
  have q4 : ∀ w ∈ New4.tab :: words, w.before a s = true := fun w hw => (List.mem_cons.mp hw).elim (fun e => e ▸ h4) (h w)
  exact unparts (wk q4 (.code New1.yN New1.yB 2 none)) (wks q4 (.initialized New1.yN.cls :: New1.site))
/-- the words ride from the start Z to the walk's own state -/
theorem moved {Z s : State} {a0 args : Array Value} (hZ : Z.Warmed39 s.vm) (hw : ∀ d ∈ words, d.before a0 Z = true) : ∀ d ∈ words, d.before args s = true := fun d hd => by
  have q := hw d hd
  have t : ∀ d ∈ words, d = .arrayClass .byte ∨ (d.onTables && d.keepsFace) = true := by decide +kernel
  rcases t d hd with rfl | t
  · exact RoadKit.mvA hZ q
  · exact RoadKit.mv hZ q t
/-- WHAT COMES BACK, over the tables of the start Z: h the heap at the call, h' behind it -/
def Q (Z : State) (x : Addr) (A : Cell) (h : Heap) (v : Option Value) (h' : Heap) (L : List Loc) : Prop := v = none ∧ (∀ y ∈ L, y.base = x) ∧ RoadKit.Keep h h' [x] ∧ h'.size = h.size + 1 ∧ RoadKit.Exa Z h' x ST ∧ RoadKit.Fld Z h' x ST "value" "[B" (.ref h.size) ∧ RoadKit.Fld Z h' x ST "coder" "B" (.int 0) ∧
  (∃ V : Cell, RoadKit.Arr Z h' h.size V .byte ∧ V.vm = .none ∧ Z.vm.findClass "[B" = some V.cls ∧ V.slots.size = A.slots.size ∧ ∀ j, j < A.slots.size → V.slots[j]? = some (.int (lo8 (cv A j)))) ∧
  ∀ (O n d : String) (w : Value), RoadKit.Fld Z h x O n d w → RoadKit.slotOf Z O n d ≠ RoadKit.slotOf Z ST "value" "[B" → RoadKit.slotOf Z O n d ≠ RoadKit.slotOf Z ST "coder" "B" → RoadKit.Fld Z h' x O n d w
/-- **new String(chars) AT A CALL, IN THE ROAD'S FORM**: for specialBack behind newO: x the fresh String, b the char[] with the cell A -/
theorem back {p : Program} {l : Launch} {e : Env} {R : Room} {s : State} {args : Array Value} {below : List Frame} {len W : Nat} {Z : State} {a0 : Array Value} {h : Heap} (hZ : Z.Warmed39 s.vm) (hw : ∀ d ∈ words, d.before a0 Z = true) {kI : Nat} (wi : (Jvm.Cond.instantiable ST kI).before a0 Z = true)
    {x b : Addr} {A : Cell} {z : Int32} {v0 c0 : Value} (E : RoadKit.Exa Z h x ST) (V : RoadKit.Fld Z h x ST "value" "[B" v0) (C : RoadKit.Fld Z h x ST "coder" "B" c0) (K : RoadKit.Arr Z h b A .char) (hty : Typed .char A) (S : RoadKit.Sta Z h ST "COMPACT_STRINGS" "Z" (.int z)) (hz : ¬ z = 0)
    (l0 : 0 < A.slots.size) (l2 : A.slots.size ≤ 536870912) (hp : ∀ i, i < A.slots.size → ¬ 255 < cv A i) (hfr : 4 ≤ R.frames) (hlo : W + 65 ≤ R.locals) :
    Back l R p e below s args New1.yN len W (fun P a => a = #[.ref x, .ref b] ∧ P.U.heap = h ∧ P.cells + 1 ≤ R.cells ∧ P.slots + A.slots.size ≤ R.slots)
      (fun P _ v B => ∃ L, Q Z x A h v B.U.heap L ∧ B.locs = P.locs ++ L ∧ B.cells = P.cells + 1 ∧ B.slots = P.slots + A.slots.size) := by
  intro m meth c P g ig mk a X hg hsize hdg hW hn hp'
  obtain ⟨rfl, rfl, r1, r2⟩ := hp'
  have al : Z.vm.Alike P.U.vm := hZ.alike.trans X.warmed.alike
  obtain ⟨D, cfV, kV, iV, fV, hD, gV, stV, knV, obV, asV, slV⟩ := id V
  obtain ⟨D', cfC, kC, iC, fC, hD', gC, stC, -, -, asC, slC⟩ := id C
  cases hD.symm.trans hD'
  obtain ⟨D2, kD, e1, e2, e3, e4, e5⟩ := id E
  cases hD.symm.trans e1
  obtain ⟨c2, k2, i1, i2, i3, -⟩ := Cond.instantiable_spec wi
  cases e2.symm.trans i1
  cases e3.symm.trans i2
  obtain ⟨kU, u1, u2⟩ := al.2.2 _ _ e3
  have hB : Blank ST x D P.U := ⟨hD, ⟨knV, fun q hq => by rw [hq] at obV; cases obV⟩, by rw [al.findClass]; exact e2, kU, u1, by rw [u2]; exact i3, by rw [u2]; exact e5 i3⟩
  have F1 : Found ST "value" "[B" fV P.U := ⟨SBG.found_only al ⟨cfV, kV, iV, gV⟩, stV⟩
  have F2 : Found ST "coder" "B" fC P.U := ⟨SBG.found_only al ⟨cfC, kC, iC, gC⟩, stC⟩
  have hA : Ch b A P.U := ⟨⟨K.1, State.isArrayOf_alike al K.2.1, K.2.2, by omega⟩, hty⟩
  have hS : StaticIs P.U ST "COMPACT_STRINGS" "Z" (.int z) := by
    obtain ⟨cfS, iS, kS, fS, st, cS, t1, t2, t3, t4, t5, t6, t7⟩ := S
    exact StaticIs.there (s := { Z with heap := P.U.heap }) ⟨cfS, iS, kS, fS, st, cS, t1, t2, t3, t4, t5, (fun q => by rw [q] at t6; cases t6), t7⟩ al rfl
  obtain ⟨v, B, X', ⟨⟨hv, E', V', q1, q2, q3, q4, q5, q6, q7, q8, q9, q10, q11⟩, hl, hc, hs⟩, st⟩ := New1.pays x D fV fC b A z (tab_of (moved hZ hw)) hfr hlo m meth c P g ig mk _ X hg hsize hdg hW hn ⟨r1, r2, rfl, hB, F1, F2, hA, hS, hz, l0, l2, hp⟩
  have al' : Z.vm.Alike B.U.vm := hZ.alike.trans X'.warmed.alike
  have hsz : E'.slots.size = D.slots.size := by
    obtain ⟨-, -, -, kB, w1, w2, w3⟩ := q1
    obtain ⟨kB', y1, y2⟩ := al'.2.2 _ _ e3
    rw [q2.2.1] at w1
    cases w1.symm.trans y1
    rw [w3, e5 i3, y2]
  refine ⟨v, B, X', ⟨_, ⟨hv, ?_, ⟨by omega, fun y cy hy hn' => q10 y cy (by simpa using hn') hy, fun y cy hy => ?_⟩, q11, ⟨E', _, q1.1, by rw [q2.2.1]; exact e2, by rw [q2.2.1]; exact e3, by rw [q2.1]; exact obV, fun _ => by rw [hsz]; exact e5 i3⟩,
    ⟨E', cfV, kV, iV, fV, q1.1, gV, stV, by rw [q2.1]; exact knV, by rw [q2.1]; exact obV, by rw [q2.2.1]; exact asV, q3⟩, ⟨E', cfC, kC, iC, fC, q1.1, gC, stC, by rw [q2.1]; exact knV, by rw [q2.1]; exact obV, by rw [q2.2.1]; exact asC, q4⟩,
    ⟨V', ⟨q5.1, State.isArrayOf_alike al'.symm q5.2.1, q5.2.2.1⟩, q6, by rw [← al'.findClass]; exact q7, q8, fun j hj => by have := q9 j hj; rwa [Nat.zero_add] at this⟩, fun O n d w F n1 n2 => ?_⟩, hl, hc, hs⟩, st⟩
  · intro y hy
    simp only [List.mem_cons, List.not_mem_nil, or_false] at hy
    rcases hy with rfl | rfl <;> rfl
  · by_cases q : y = x
    · subst q
      cases hD.symm.trans hy
      exact ⟨E', q1.1, q2.2.1, q2.1, hsz⟩
    · exact ⟨cy, q10 y cy q hy, rfl, rfl, rfl⟩
  · obtain ⟨D3, cf, k, i, f, g1, g2, g3, g4, g5, g6, g7⟩ := F
    cases hD.symm.trans g1
    simp only [RoadKit.slotOf, g2, gV, gC, Option.map_some, Option.getD_some] at n1 n2
    exact ⟨E', cf, k, i, f, q1.1, g2, g3, by rw [q2.1]; exact g4, by rw [q2.1]; exact g5, by rw [q2.2.1]; exact g6, by rw [q2.2.2 f.slot (by simp [n1, n2])]; exact g7⟩
end StrChars.Road
namespace StrChars.Road
open Jvm Sem ClassFile Op Lib Jvm.Stand Jvm.Free Jvm.Free.XT
/-- WHAT COMES BACK, the byte[] as a list of values -/
def QA (Z : State) (x : Addr) (zn : Int32) (cs : List Int32) (h : Heap) (v : Option Value) (h' : Heap) (L : List Loc) : Prop := v = none ∧ (∀ y ∈ L, y.base = x) ∧ RoadKit.Keep h h' [x] ∧ h'.size = h.size + 1 ∧ RoadKit.Exa Z h' x ST ∧ RoadKit.Fld Z h' x ST "value" "[B" (.ref h.size) ∧ RoadKit.Fld Z h' x ST "coder" "B" (.int 0) ∧
  (∃ kb, Z.vm.findClass "[B" = some kb ∧ RoadKit.Arv Z h' h.size kb .byte zn (cs.map fun c => .int (lo8 c)) (.int 0)) ∧
  ∀ (O n d : String) (w : Value), RoadKit.Fld Z h x O n d w → RoadKit.slotOf Z O n d ≠ RoadKit.slotOf Z ST "value" "[B" → RoadKit.slotOf Z O n d ≠ RoadKit.slotOf Z ST "coder" "B" → RoadKit.Fld Z h' x O n d w
/-- **new String(chars) AT A CALL, THE ARRAYS AS LISTS**: the char[] at b holds cs, not empty, no char above 255 -/
theorem backArv {p : Program} {l : Launch} {e : Env} {R : Room} {s : State} {args : Array Value} {below : List Frame} {len W : Nat} {Z : State} {a0 : Array Value} {h : Heap} (hZ : Z.Warmed39 s.vm) (hw : ∀ d ∈ words, d.before a0 Z = true) {kI : Nat} (wi : (Jvm.Cond.instantiable ST kI).before a0 Z = true)
    {x b : Addr} {k : ClassId} {zn z : Int32} {cs : List Int32} {dv v0 c0 : Value} (E : RoadKit.Exa Z h x ST) (V : RoadKit.Fld Z h x ST "value" "[B" v0) (C : RoadKit.Fld Z h x ST "coder" "B" c0) (K : RoadKit.Arv Z h b k .char zn (cs.map Value.int) dv) (S : RoadKit.Sta Z h ST "COMPACT_STRINGS" "Z" (.int z)) (hz : ¬ z = 0)
    (hlen : zn.toNatClampNeg = cs.length) (h0 : 0 < cs.length) (hbig : cs.length ≤ 536870912) (hall : ∀ c ∈ cs, ¬ 255 < c) (hfr : 4 ≤ R.frames) (hlo : W + 65 ≤ R.locals) :
    Back l R p e below s args New1.yN len W (fun P a => a = #[.ref x, .ref b] ∧ P.U.heap = h ∧ P.cells + 1 ≤ R.cells ∧ P.slots + cs.length ≤ R.slots)
      (fun P _ v B => ∃ L, QA Z x zn cs h v B.U.heap L ∧ B.locs = P.locs ++ L ∧ B.cells = P.cells + 1 ∧ B.slots = P.slots + cs.length) := by
  obtain ⟨A, K1, K2, K3, K4, K5, K6⟩ := K
  have e : A.slots.size = cs.length := K3.trans hlen
  have hat : ∀ (i : Nat) (hi : i < cs.length), A.slots[i]? = some (.int cs[i]) := fun i hi => by rw [K5 i (by omega)]; simp [List.getD_eq_getElem?_getD, hi]
  have hcv : ∀ (i : Nat) (hi : i < cs.length), cv A i = cs[i] := fun i hi => by unfold cv; rw [hat i hi]
  have hty : Typed .char A := fun i v hv => by
    have hi : i < A.slots.size := (Array.getElem?_eq_some_iff.mp hv).1
    have q := K5 i hi
    rw [hv] at q
    rw [Option.some.inj q]
    exact K6 i hi
  refine Back.mono (back hZ hw wi E V C K1 hty S hz (by omega) (by omega) (fun i hi => by rw [hcv i (by omega)]; exact hall _ (List.getElem_mem _)) hfr hlo) (fun P a hp => ⟨hp.1, hp.2.1, hp.2.2.1, by rw [e]; exact hp.2.2.2⟩) (fun P a v B hp hq => ?_)
  obtain ⟨L, ⟨q1, q2, q3, q4, q5, q6, q7, ⟨V', v1, v2, v3, v4, v5⟩, q9⟩, hl, hc, hs⟩ := hq
  refine ⟨L, ⟨q1, q2, q3, q4, q5, q6, q7, ⟨V'.cls, v3, V', v1, rfl, by rw [v4, e, hlen], K4, fun i hi => ?_, fun i hi => ?_⟩, q9⟩, hl, hc, by rw [hs, e]⟩
  · have hi' : i < cs.length := by omega
    rw [v5 i (by omega), hcv i hi']; simp [List.getD_eq_getElem?_getD, hi']
  · have hi' : i < cs.length := by omega
    simp only [List.getD_eq_getElem?_getD, List.getElem?_map, List.getElem?_eq_getElem hi', Option.map_some, Option.getD_some]
    exact fits_lo8 _
end StrChars.Road
namespace StrChars.Road
open Jvm Sem ClassFile Op Lib Jvm.Stand Jvm.Free Jvm.Free.XT
/-- WHAT COMES BACK, in the writer's own shape -/
def QV (Z : State) (x : Addr) (N : Int32) (bs : List Int32) (h : Heap) (n0 : Nat) (v : Option Value) (h' : Heap) (L : List Loc) : Prop := v = none ∧ RoadKit.Fr n0 L ∧ RoadKit.Keep h h' [x] ∧ RoadKit.Exa Z h' x ST ∧ RoadKit.Fld Z h' x ST "coder" "B" (.int 0) ∧
  ∃ (t : Addr) (kb : ClassId), n0 ≤ t ∧ h.size ≤ t ∧ ¬ t = x ∧ RoadKit.Fld Z h' x ST "value" "[B" (.ref t) ∧ RoadKit.Arv Z h' t kb .byte N (bs.map Value.int) (.int 0)
/-- **new String(chars) AT A CALL, FOR THE WRITER**: a char[] of n known ints, each 0 to 255 -/
theorem backV {p : Program} {l : Launch} {e : Env} {R : Room} {s : State} {args : Array Value} {below : List Frame} {len W : Nat} {Z : State} {a0 : Array Value} {h : Heap} (hZ : Z.Warmed39 s.vm) (hw : ∀ d ∈ words, d.before a0 Z = true) {kI : Nat} (wi : (Jvm.Cond.instantiable ST kI).before a0 Z = true)
    {x b : Addr} {kC : ClassId} {cs bs : List Int32} {d v0 c0 : Value} {z N : Int32} {n n0 : Nat} (hx0 : n0 ≤ x) (hh0 : n0 ≤ h.size) (E : RoadKit.Exa Z h x ST) (V : RoadKit.Fld Z h x ST "value" "[B" v0) (C : RoadKit.Fld Z h x ST "coder" "B" c0) (K : RoadKit.Arv Z h b kC .char N (cs.map Value.int) d) (S : RoadKit.Sta Z h ST "COMPACT_STRINGS" "Z" (.int z)) (hz : ¬ z = 0)
    (hn : cs.length = n) (hN : N = Int32.ofNat n) (l0 : 0 < n) (l2 : n ≤ 4000) (hp : ∀ c ∈ cs, ¬ c < 0 ∧ ¬ (255 : Int32) < c) (hb : bs = cs.map (fun c => c.toInt8.toInt32)) (hfr : 4 ≤ R.frames) (hlo : W + 65 ≤ R.locals) :
    Back l R p e below s args (⟨"java/lang/String", "<init>", "([C)V"⟩ : MethodName) len W (fun P a => a = #[.ref x, .ref b] ∧ P.U.heap = h ∧ P.cells + 1 ≤ R.cells ∧ P.slots + n ≤ R.slots)
      (fun P _ v B => ∃ L, QV Z x N bs h n0 v B.U.heap L ∧ B.locs = P.locs ++ L ∧ B.cells = P.cells + 1 ∧ B.slots = P.slots + n) := by
  subst hn hN hb
  refine Back.mono (backArv hZ hw wi E V C K S hz (n32 (by omega)) l0 (by omega) (fun c hc => (hp c hc).2) hfr hlo) (fun P a hp => hp) (fun P a v B hp hq => ?_)
  obtain ⟨L, ⟨q1, q2, q3, q4, q5, q6, q7, ⟨kb, v1, v2⟩, q9⟩, hl, hc, hs⟩ := hq
  exact ⟨L, ⟨q1, fun y hy => by rw [q2 y hy]; exact hx0, q3, q5, q7, h.size, kb, hh0, Nat.le_refl _, Nat.ne_of_gt E.lt, q6, by rw [List.map_map]; exact v2⟩, hl, hc, hs⟩
end StrChars.Road
namespace StrChars
open Jvm Sem ClassFile Op Lib Jvm.Stand Jvm.Free.XT Jvm.Free.ALB Jvm.Free.JM Jvm.Free
open Jvm.Lib.Cold (StaticIs)
def hi8 (x : Int32) : Int32 := lo8 (x >>> ((8 : Int32) &&& 31))
theorem shr0 (c : Int32) : c >>> ((0 : Int32) &&& 31) = c := by
  have e : ((0 : Int32) &&& 31) = 0 := by decide
  rw [e]
  apply Int32.toBitVec_inj.mp
  rw [Int32.toBitVec_shiftRight]
  have e1 : ((0 : Int32).toBitVec.smod 32) = 0#32 := by decide
  rw [e1, BitVec.sshiftRight_eq']
  exact BitVec.sshiftRight_zero
end StrChars
namespace StrChars
open Jvm Sem ClassFile Op Lib Jvm.Stand Jvm.Free.XT Jvm.Free.ALB Jvm.Free.JM Jvm.Free
open Jvm.Lib.Cold (StaticIs)
theorem shr1 {n : Nat} (h : 2 * n < 2 ^ 31) : Int32.ofNat (2 * n) >>> ((1 : Int32) &&& 31) = Int32.ofNat n := by
  have e : ((1 : Int32) &&& 31) = 1 := by decide
  rw [e]
  apply Int32.toBitVec_inj.mp
  rw [Int32.toBitVec_shiftRight]
  have e1 : ((1 : Int32).toBitVec.smod 32) = 1#32 := by decide
  have hm : (BitVec.ofNat 32 (2 * n)).toNat = 2 * n := by rw [BitVec.toNat_ofNat, Nat.mod_eq_of_lt (by omega)]
  rw [e1, BitVec.sshiftRight_eq']
  apply BitVec.eq_of_toNat_eq
  show ((BitVec.ofNat 32 (2 * n)).sshiftRight 1).toNat = (BitVec.ofNat 32 n).toNat
  rw [BitVec.toNat_sshiftRight_of_msb_false (by rw [BitVec.msb_eq_false_iff_two_mul_lt, hm]; omega), hm, BitVec.toNat_ofNat, Nat.shiftRight_eq_div_pow]
  omega
/-- the array's cell V codes the n chars f 0 .. f (n - 1) by the coder cd, as the JDK does: coder 1 just where some char is above 255 -/
def Cod (cd : Int32) (n : Nat) (f : Nat → Int32) (V : Cell) : Prop := (cd = 0 ∧ V.slots.size = n ∧ ∀ j, j < n → V.slots[j]? = some (.int (lo8 (f j))) ∧ ¬ 255 < f j) ∨ (cd = 1 ∧ V.slots.size = 2 * n ∧ (∀ j, j < n → V.slots[2 * j]? = some (.int (lo8 (f j))) ∧ V.slots[2 * j + 1]? = some (.int (hi8 (f j)))) ∧ ∃ j, j < n ∧ 255 < f j)
theorem Cod.cd {cd : Int32} {n : Nat} {f : Nat → Int32} {V : Cell} (h : Cod cd n f V) : cd = 0 ∨ cd = 1 := h.imp (fun q => q.1) fun q => q.1
theorem Cod.len {cd : Int32} {n : Nat} {f : Nat → Int32} {V : Cell} (h : Cod cd n f V) (hs : V.slots.size < 2 ^ 31) : Int32.ofNat V.slots.size >>> (cd &&& 31) = Int32.ofNat n := by
  rcases h with ⟨rfl, h, -⟩ | ⟨rfl, h, -⟩
  · rw [shr0, h]
  · rw [h, shr1 (by omega)]
/-- **x is a String of the n chars f 0 .. f (n - 1)**, Latin-1 or UTF-16; its array at t has the cell V -/
def Txt (x t : Addr) (V : Cell) (cd : Int32) (n : Nat) (f : Nat → Int32) (U : State) : Prop := Exact "java/lang/String" x U ∧ Has x "java/lang/String" "value" "[B" (.ref t) U ∧ Has x "java/lang/String" "coder" "B" (.int cd) U ∧ XT.Arr .byte t V U ∧ Cod cd n f V ∧ ∀ j, j < n → ¬ f j < 0 ∧ ¬ 65535 < f j
theorem Txt.mv {x t : Addr} {V : Cell} {cd : Int32} {n : Nat} {f : Nat → Int32} {U U' : State} (h : Txt x t V cd n f U) (hal : U.vm.Alike U'.vm) (hh : U'.heap = U.heap) : Txt x t V cd n f U' := ⟨h.1.mv hal hh, h.2.1.mv hal hh, h.2.2.1.mv hal hh, h.2.2.2.1.mv hal hh, h.2.2.2.2⟩
namespace Cdr
def yN : MethodName := ⟨"java/lang/String", "coder", "()B"⟩
abbrev yB : ByteArray := jdk_42_method_152_code
theorem d0 : decode yB 0 = .ok (.getstatic 38, 3) := by decide +kernel
theorem d3 : decode yB 3 = .ok (.ifCond (.eq) 10, 3) := by decide +kernel
theorem d6 : decode yB 6 = .ok (.aload_n 0, 1) := by decide +kernel
theorem d7 : decode yB 7 = .ok (.getfield 15, 3) := by decide +kernel
theorem d10 : decode yB 10 = .ok (.goto 4, 3) := by decide +kernel
theorem d14 : decode yB 14 = .ok (.ireturn, 1) := by decide +kernel
def site : List Cond := [.fieldLink "java/lang/String" 38 "java/lang/String" "COMPACT_STRINGS" "Z", .fieldLink "java/lang/String" 15 "java/lang/String" "coder" "B"]
def tab : Cond := tabOf yN yB 1 (some .byte) site
def P (x : Addr) (cd z : Int32) (args : Array Value) (s : State) : Prop := args = #[.ref x] ∧ Has x "java/lang/String" "coder" "B" (.int cd) s ∧ (cd = 0 ∨ cd = 1) ∧ StaticIs s "java/lang/String" "COMPACT_STRINGS" "Z" (.int z) ∧ ¬ z = 0
def E (cd : Int32) (r : Option Value) (s u : State) : Prop := XT.PureE (some (.int cd)) r s u
theorem law (l : Launch) (x : Addr) (cd z : Int32) : Law l yN 1 0 0 0 yB 1 (some .byte) site (P x cd z) (E cd) [] 0 0 := by
  refine Law.of_walk (plainFor_of_name (by decide +kernel)) (by decide +kernel) (by decide +kernel) (by decide) (fun _ _ h => by rw [h.1]; rfl) (fun _ U U' hal hh h => ⟨h.1, h.2.1.mv hal hh, h.2.2.1, h.2.2.2.1.there hal hh, h.2.2.2.2⟩) (fun r U U' V V' h1 hal h2 h => XT.PureE.mv r U U' V V' h1 hal h2 h) ?_
  intro p e s m args below meth c s₁ X0 hexec hbytes hml hret hlk hnm hown hh0 W hP
  obtain ⟨rfl, hx, hc, s1, hz⟩ := hP
  have c1 : Steps p.tables e below (s₁.setTop (entryFrame m #[.ref x] 1)) (s₁.setTop (mkF m 0 #[.val (.ref x)] [])) := entry rfl
  obtain ⟨T2, X2, q2, st2⟩ := X0.sget hexec hown (wk W (.fieldLink "java/lang/String" 38 "java/lang/String" "COMPACT_STRINGS" "Z")) s1 (fun _ _ h => by rw [hh0]; exact h) (g := (mkF m 0 #[.val (.ref x)] [])) rfl (hb hbytes d0)
  have hh2 := q2.trans hh0
  have c3 : Steps p.tables e below (s₁.setTop (entryFrame m #[.ref x] 1)) (T2.setTop (mkF m 7 #[.val (.ref x)] [.ref x])) := (c1.trans (st2 _ (Steps.refl _))).trans (by
    refine XS.ifNo X2.here hexec rfl (hb hbytes d3) rfl (i0_eq_f hz) ?_
    refine XS.aloadN X2.here hexec rfl (hb hbytes d6) rfl rfl ?_
    exact Steps.refl _)
  obtain ⟨T4, X4, q4, st4⟩ := X2.hget hexec hown (wk W (.fieldLink "java/lang/String" 15 "java/lang/String" "coder" "B")) (hx.mv X2.warmed.alike hh2) (g := (mkF m 7 #[.val (.ref x)] [.ref x])) rfl (rest := []) rfl (hb hbytes d7)
  have c5 : Steps p.tables e below (s₁.setTop (entryFrame m #[.ref x] 1)) (T4.setTop (mkF m 14 #[.val (.ref x)] [.int cd])) := (c3.trans (st4 _ (Steps.refl _))).trans (by
    refine XS.goto X4.here hexec rfl (pc0 := 10) rfl (hb hbytes d10) (by decide) rfl ?_
    exact Steps.refl _)
  exact ⟨T4, some (.int cd), _, _, _, X4, rfl, rfl, rfl, (fun h => by cases h), ⟨rfl, q4.trans hh2⟩, fun fs hl => c5.trans (X4.ireturnOut hexec hret (by rcases hc with rfl | rfl <;> rfl) (Or.inr (Or.inr (Or.inl rfl))) (hb hbytes d14) hl)⟩
end Cdr
namespace Len
def yN : MethodName := ⟨"java/lang/String", "length", "()I"⟩
abbrev yB : ByteArray := jdk_42_method_54_code
theorem d0 : decode yB 0 = .ok (.aload_n 0, 1) := by decide +kernel
theorem d1 : decode yB 1 = .ok (.getfield 9, 3) := by decide +kernel
theorem d4 : decode yB 4 = .ok (.arraylength, 1) := by decide +kernel
theorem d5 : decode yB 5 = .ok (.aload_n 0, 1) := by decide +kernel
theorem d6 : decode yB 6 = .ok (.invokevirtual 335, 3) := by decide +kernel
theorem d9 : decode yB 9 = .ok (.ishr, 1) := by decide +kernel
theorem d10 : decode yB 10 = .ok (.ireturn, 1) := by decide +kernel
def site : List Cond := [.fieldLink "java/lang/String" 9 "java/lang/String" "value" "[B", Cdr.tab] ++ virtW "java/lang/String" 335 "java/lang/String" Cdr.yN Cdr.yN
def tab : Cond := tabOf yN yB 1 (some .int) site
def P (x t : Addr) (V : Cell) (cd : Int32) (n : Nat) (f : Nat → Int32) (z : Int32) (args : Array Value) (s : State) : Prop := args = #[.ref x] ∧ Txt x t V cd n f s ∧ StaticIs s "java/lang/String" "COMPACT_STRINGS" "Z" (.int z) ∧ ¬ z = 0
def E (n : Nat) (r : Option Value) (s u : State) : Prop := XT.PureE (some (.int (Int32.ofNat n))) r s u
/-- length() of a String of n chars, in either coding -/
theorem law (l : Launch) (x t : Addr) (V : Cell) (cd : Int32) (n : Nat) (f : Nat → Int32) (z : Int32) : Law l yN 1 0 1 13 yB 1 (some .int) site (P x t V cd n f z) (E n) [] 0 0 := by
  refine Law.of_walk (plainFor_of_name (by decide +kernel)) (by decide +kernel) (by decide +kernel) (by decide) (fun _ _ h => by rw [h.1]; rfl) (fun _ U U' hal hh h => ⟨h.1, h.2.1.mv hal hh, h.2.2.1.there hal hh, h.2.2.2⟩) (fun r U U' V V' h1 hal h2 h => XT.PureE.mv r U U' V V' h1 hal h2 h) ?_
  intro p e s m args below meth c s₁ X0 hexec hbytes hml hret hlk hnm hown hh0 W hP
  obtain ⟨rfl, hx, s1, hz⟩ := hP
  have v31 := hx.2.2.2.1.2.2.2
  have c1 : Steps p.tables e below (s₁.setTop (entryFrame m #[.ref x] 1)) (s₁.setTop (mkF m 1 #[.val (.ref x)] [.ref x])) := Steps.trans (entry rfl) (by
    show Steps p.tables e below (s₁.setTop (mkF m 0 #[.val (.ref x)] [])) _
    refine XS.aloadN X0.here hexec rfl (hb hbytes d0) rfl rfl ?_
    exact Steps.refl _)
  obtain ⟨T2, X2, q2, st2⟩ := X0.hget hexec hown (wk W (.fieldLink "java/lang/String" 9 "java/lang/String" "value" "[B")) (hx.mv X0.warmed.alike hh0).2.1 (g := (mkF m 1 #[.val (.ref x)] [.ref x])) rfl (rest := []) rfl (hb hbytes d1)
  have hh2 := q2.trans hh0
  have hx2 := hx.mv X2.warmed.alike hh2
  have c3 : Steps p.tables e below (s₁.setTop (entryFrame m #[.ref x] 1)) (T2.setTop (mkF m 6 #[.val (.ref x)] [.ref x, .int (Int32.ofNat V.slots.size)])) := (c1.trans (st2 _ (Steps.refl _))).trans (by
    refine X2.alen hexec hx2.2.2.2.1 rfl rfl (hb hbytes d4) ?_
    refine XS.aloadN X2.here hexec rfl (hb hbytes d5) rfl rfl ?_
    exact Steps.refl _)
  obtain ⟨v4, T4, X4, E4, g4⟩ := X2.callV hexec (Cdr.law l x cd z) hown (wks W (virtW "java/lang/String" 335 "java/lang/String" Cdr.yN Cdr.yN)) rfl (by decide) (wk W Cdr.tab) (W := 1) (Nat.le_of_ble_eq_true rfl) (Nat.le_of_ble_eq_true rfl) (Nat.le_refl _) (Nat.le_refl _) (hx2.1.fc X2.warmed.alike) hx2.1.is (g := (mkF m 6 #[.val (.ref x)] [.ref x, .int (Int32.ofNat V.slots.size)])) rfl (by rw [hml]; rfl) c3 (argsL := []) (rest := [.int (Int32.ofNat V.slots.size)]) rfl rfl (by show 2 * 0 + (1 + 0) ≤ _; decide) (hb hbytes d6) (⟨rfl, hx2.2.2.1, hx.2.2.2.2.1.cd, s1.there X2.warmed.alike hh2, hz⟩)
  obtain ⟨rfl, q4⟩ := E4
  have c5 : Steps p.tables e below (s₁.setTop (entryFrame m #[.ref x] 1)) (T4.setTop (mkF m 10 #[.val (.ref x)] [.int (Int32.ofNat V.slots.size >>> (cd &&& 31))])) := Steps.trans g4 (by
    refine ishr X4.here hexec rfl (hb hbytes d9) rfl ?_
    exact Steps.refl _)
  rw [hx.2.2.2.2.1.len v31] at c5
  exact ⟨T4, some (.int (Int32.ofNat n)), _, _, _, X4, rfl, rfl, rfl, (fun h => by cases h), ⟨rfl, q4.trans hh2⟩, fun fs hl => c5.trans (X4.ireturnOut hexec hret rfl (Or.inl rfl) (hb hbytes d10) hl)⟩
theorem pays {l : Launch} {R : Room} {p : Program} {e : Env} {below : List Frame} {s : State} {sargs : Array Value} {len W : Nat} (x t : Addr) (V : Cell) (cd : Int32) (n : Nat) (f : Nat → Int32) (z : Int32) (htab : tab.before sargs s = true) (hfr : 2 ≤ R.frames) (hlo : W + 25 ≤ R.locals) :
    Back l R p e below s sargs yN len W (fun A₁ a₁ => A₁.cells + 0 ≤ R.cells ∧ A₁.slots + 0 ≤ R.slots ∧ P x t V cd n f z a₁ A₁.U) (fun A₁ _ v₁ B₁ => E n v₁ A₁.U B₁.U ∧ B₁.locs = A₁.locs ++ [] ∧ B₁.cells = A₁.cells + 0 ∧ B₁.slots = A₁.slots + 0) :=
  (law l x t V cd n f z).pays htab hfr (by omega)
end Len
end StrChars
namespace StrChars.Road
open Jvm Sem ClassFile Op Lib Jvm.Stand Jvm.Free Jvm.Free.XT
open Jvm.Lib.Cold (StaticIs)
theorem consq {a : Array Value} {s : State} {c : Jvm.Cond} {L : List Jvm.Cond} (h0 : c.before a s = true) (h : ∀ w ∈ L, w.before a s = true) : ∀ w ∈ c :: L, w.before a s = true := fun w hw => (List.mem_cons.mp hw).elim (fun e => e ▸ h0) (h w)
/-- the words of String.length(), either coding -/
abbrev wordsLen : List Jvm.Cond := [.code Len.yN Len.yB 1 (some .int), .initialized ST, .fieldLink ST 9 ST "value" "[B", .fieldLink ST 38 ST "COMPACT_STRINGS" "Z", .fieldLink ST 15 ST "coder" "B", .code Cdr.yN Cdr.yB 1 (some .byte), .methodLink ST 335 Cdr.yN, .declares Cdr.yN, .selects ST Cdr.yN Cdr.yN, .instanceMethod Cdr.yN]
theorem tabLen_of {a : Array Value} {s : State} (h : ∀ w ∈ wordsLen, w.before a s = true) : Len.tab.before a s = true := by
  have hc : Cdr.tab.before a s = true := unparts (wk h (.code Cdr.yN Cdr.yB 1 (some .byte))) (wks h (.initialized Cdr.yN.cls :: Cdr.site))
  have q := consq hc h
  exact unparts (wk q (.code Len.yN Len.yB 1 (some .int))) (wks q (.initialized Len.yN.cls :: Len.site))
theorem movedLen {Z s : State} {a0 args : Array Value} (hZ : Z.Warmed39 s.vm) (hw : ∀ d ∈ wordsLen, d.before a0 Z = true) : ∀ d ∈ wordsLen, d.before args s = true := fun d hd => by
  have q := hw d hd
  have t : ∀ d ∈ wordsLen, d = .arrayClass .byte ∨ (d.onTables && d.keepsFace) = true := by decide +kernel
  rcases t d hd with rfl | t
  · exact RoadKit.mvA hZ q
  · exact RoadKit.mv hZ q t
/-- the bytes of the chars cs, low before high -/
def wideBytes : List Int32 → List Value
  | [] => []
  | c :: cs => .int (lo8 c) :: .int (hi8 c) :: wideBytes cs
theorem wide_lo (d : Value) : ∀ (cs : List Int32) (j : Nat), j < cs.length → (wideBytes cs).getD (2 * j) d = .int (lo8 (cs.getD j 0))
  | [], j, h => absurd h (Nat.not_lt_zero j)
  | c :: cs, 0, _ => rfl
  | c :: cs, j + 1, h => by
    have q := wide_lo d cs j (by simpa using h)
    rw [show 2 * (j + 1) = 2 * j + 1 + 1 from by omega]
    simpa [wideBytes] using q
theorem wide_hi (d : Value) : ∀ (cs : List Int32) (j : Nat), j < cs.length → (wideBytes cs).getD (2 * j + 1) d = .int (hi8 (cs.getD j 0))
  | [], j, h => absurd h (Nat.not_lt_zero j)
  | c :: cs, 0, _ => rfl
  | c :: cs, j + 1, h => by
    have q := wide_hi d cs j (by simpa using h)
    rw [show 2 * (j + 1) + 1 = 2 * j + 1 + 1 + 1 from by omega]
    simpa [wideBytes] using q
theorem low_at (d : Value) (cs : List Int32) (j : Nat) (h : j < cs.length) : (cs.map fun c => Value.int (lo8 c)).getD j d = .int (lo8 (cs.getD j 0)) := by
  simp [List.getD_eq_getElem?_getD, h]
/-- an array of N2 bytes vs codes the chars cs by the coder cd -/
def CodA (cs : List Int32) (cd N2 : Int32) (vs : List Value) : Prop := (cd = 0 ∧ N2 = Int32.ofNat cs.length ∧ vs = (cs.map fun c => Value.int (lo8 c)) ∧ ∀ c ∈ cs, ¬ 255 < c) ∨ (cd = 1 ∧ N2 = Int32.ofNat (2 * cs.length) ∧ vs = wideBytes cs ∧ ∃ c ∈ cs, 255 < c)
theorem CodA.cod {cs : List Int32} {cd N2 : Int32} {vs : List Value} {V : Cell} (h : CodA cs cd N2 vs) (hn : 2 * cs.length < 2 ^ 31) (hs : V.slots.size = N2.toNatClampNeg) (hv : RoadKit.Has V vs (.int 0)) : Cod cd cs.length (fun j => cs.getD j 0) V := by
  rcases h with ⟨rfl, rfl, rfl, h⟩ | ⟨rfl, rfl, rfl, c, hc, hw⟩
  · rw [n32 (by omega)] at hs
    exact Or.inl ⟨rfl, hs, fun j hj => ⟨by rw [hv j (by omega), low_at _ _ _ hj], by
      have e : cs.getD j 0 = cs[j] := by simp [List.getD_eq_getElem?_getD, hj]
      show ¬ 255 < cs.getD j 0
      rw [e]; exact h _ (List.getElem_mem _)⟩⟩
  · rw [n32 (by omega)] at hs
    obtain ⟨j, hj, rfl⟩ := List.getElem_of_mem hc
    exact Or.inr ⟨rfl, hs, fun j hj => ⟨by rw [hv _ (by omega), wide_lo _ _ _ hj], by rw [hv _ (by omega), wide_hi _ _ _ hj]⟩, j, hj, by
      have e : cs.getD j 0 = cs[j] := by simp [List.getD_eq_getElem?_getD, hj]
      show 255 < cs.getD j 0
      rw [e]; exact hw⟩
/-- an object of exactly java/lang/String, its two fields found: as the laws ask it -/
theorem strObj {Z U : State} {a0 : Array Value} {kI : Nat} (wi : (Jvm.Cond.instantiable ST kI).before a0 Z = true) (al : Z.vm.Alike U.vm) {x : Addr} {v0 c0 : Value} (E : RoadKit.Exa Z U.heap x ST) (V : RoadKit.Fld Z U.heap x ST "value" "[B" v0) (C : RoadKit.Fld Z U.heap x ST "coder" "B" c0) :
    ∃ (D : Cell) (fV fC : Field), Blank ST x D U ∧ Found ST "value" "[B" fV U ∧ Found ST "coder" "B" fC U ∧ D.slots[fV.slot]? = some v0 ∧ D.slots[fC.slot]? = some c0 ∧ RoadKit.slotOf Z ST "value" "[B" = fV.slot ∧ RoadKit.slotOf Z ST "coder" "B" = fC.slot := by
  obtain ⟨D, cfV, kV, iV, fV, hD, gV, stV, knV, obV, asV, slV⟩ := V
  obtain ⟨D', cfC, kC, iC, fC, hD', gC, stC, -, -, asC, slC⟩ := C
  cases hD.symm.trans hD'
  obtain ⟨D2, kD, e1, e2, e3, e4, e5⟩ := E
  cases hD.symm.trans e1
  obtain ⟨c2, k2, i1, i2, i3, -⟩ := Cond.instantiable_spec wi
  cases e2.symm.trans i1
  cases e3.symm.trans i2
  obtain ⟨kU, u1, u2⟩ := al.2.2 _ _ e3
  exact ⟨D, fV, fC, ⟨hD, ⟨knV, fun q hq => by rw [hq] at obV; cases obV⟩, by rw [al.findClass]; exact e2, kU, u1, by rw [u2]; exact i3, by rw [u2]; exact e5 i3⟩, ⟨SBG.found_only al ⟨cfV, kV, iV, gV⟩, stV⟩, ⟨SBG.found_only al ⟨cfC, kC, iC, gC⟩, stC⟩, slV, slC, by simp [RoadKit.slotOf, gV], by simp [RoadKit.slotOf, gC]⟩
theorem sta_is {Z U : State} (al : Z.vm.Alike U.vm) {C n d : String} {v : Value} (S : RoadKit.Sta Z U.heap C n d v) : StaticIs U C n d v := by
  obtain ⟨cfS, iS, kS, fS, st, cS, t1, t2, t3, t4, t5, t6, t7⟩ := S
  exact StaticIs.there (s := { Z with heap := U.heap }) ⟨cfS, iS, kS, fS, st, cS, t1, t2, t3, t4, t5, (fun q => by rw [q] at t6; cases t6), t7⟩ al rfl
/-- **length() OF SUCH A STRING** -/
theorem lenW {p : Program} {l : Launch} {e : Env} {R : Room} {s : State} {args : Array Value} {below : List Frame} {len W : Nat} {Z : State} {a0 : Array Value} {h : Heap} (hZ : Z.Warmed39 s.vm) (hw : ∀ d ∈ wordsLen, d.before a0 Z = true) {kI : Nat} (wi : (Jvm.Cond.instantiable ST kI).before a0 Z = true)
    {x t : Addr} {kb : ClassId} {cs : List Int32} {cd N2 z : Int32} {vs : List Value} (E : RoadKit.Exa Z h x ST) (V : RoadKit.Fld Z h x ST "value" "[B" (.ref t)) (C : RoadKit.Fld Z h x ST "coder" "B" (.int cd)) (K : RoadKit.Arv Z h t kb .byte N2 vs (.int 0)) (hc : CodA cs cd N2 vs) (hb : ∀ c ∈ cs, ¬ c < 0 ∧ ¬ (65535 : Int32) < c)
    (S : RoadKit.Sta Z h ST "COMPACT_STRINGS" "Z" (.int z)) (hz : ¬ z = 0) (l2 : cs.length ≤ 4000) (hfr : 2 ≤ R.frames) (hlo : W + 25 ≤ R.locals) :
    Back l R p e below s args (⟨"java/lang/String", "length", "()I"⟩ : MethodName) len W (fun P a => a = #[.ref x] ∧ P.U.heap = h ∧ P.cells + 0 ≤ R.cells ∧ P.slots + 0 ≤ R.slots)
      (fun P _ v B => ∃ L, (v = some (.int (Int32.ofNat cs.length)) ∧ L = [] ∧ B.U.heap = h) ∧ B.locs = P.locs ++ L ∧ B.cells = P.cells + 0 ∧ B.slots = P.slots + 0) := by
  obtain ⟨A, K1, K2, K3, K4, K5, K6⟩ := K
  have hcod := hc.cod (by omega) K3 K5
  intro m meth c P g ig mk a X hg hsize hdg hW hn hp'
  obtain ⟨rfl, rfl, r1, r2⟩ := hp'
  have al : Z.vm.Alike P.U.vm := hZ.alike.trans X.warmed.alike
  obtain ⟨D, fV, fC, hB, F1, F2, g1, g2, -, -⟩ := strObj wi al E V C
  have hx : Txt x t A cd cs.length (fun j => cs.getD j 0) P.U := ⟨⟨_, hB.2.2.1, D, hB.1, rfl, by cases q : D.vm <;> first | rfl | exact absurd q (hB.2.1.2 _)⟩, Has.of hB F1 g1, Has.of hB F2 g2, ⟨K1.1, State.isArrayOf_alike al K1.2.1, K1.2.2, by rcases hcod with ⟨-, q, -⟩ | ⟨-, q, -⟩ <;> omega⟩, hcod, fun j hj => by
    have e : cs.getD j 0 = cs[j] := by simp [List.getD_eq_getElem?_getD, hj]
    show ¬ cs.getD j 0 < 0 ∧ ¬ 65535 < cs.getD j 0
    rw [e]; exact hb _ (List.getElem_mem _)⟩
  obtain ⟨v, B, X', ⟨⟨hv, hh⟩, hl, hk, hs⟩, st⟩ := Len.pays x t A cd cs.length (fun j => cs.getD j 0) z (tabLen_of (movedLen hZ hw)) hfr hlo m meth c P g ig mk _ X hg hsize hdg hW hn ⟨r1, r2, rfl, hx, sta_is al S, hz⟩
  exact ⟨v, B, X', ⟨[], ⟨hv, rfl, hh⟩, hl, hk, hs⟩, st⟩
end StrChars.Road
namespace StrChars.Road
open Jvm Sem ClassFile Op Lib Jvm.Stand Jvm.Free Jvm.Free.XT
open Jvm.Lib.Cold (StaticIs)
/-- what backV says of its String, as the contracts of this text ask it: cs's low bytes, coder 0 -/
theorem codOf {cs : List Int32} {n : Nat} (hn : cs.length = n) (hb : ∀ c ∈ cs, ¬ 255 < c) : CodA cs 0 (Int32.ofNat n) ((cs.map lo8).map Value.int) := Or.inl ⟨rfl, by rw [hn], by simp [List.map_map, Function.comp_def], hb⟩
end StrChars.Road
end Jvm.Pilot.@@N@@
namespace Jvm.Pilot.@@N@@
open Jvm Jvm.ClassFile Sem Op Lib Jvm.Free Jvm.Stand Jvm.LawKit Jvm.RoadKit Bundle Jvm.Pilot.@@N@@.Jvm.D

/-! Strings -/
abbrev own_ST : String := "java/lang/String"
theorem own_ext_refl (h : Heap) : Ext h h := ⟨Nat.le_refl _, fun _ _ q => q⟩
theorem own_ext_trans {h h1 h2 : Heap} (E : Ext h h1) (F : Ext h1 h2) : Ext h h2 := ⟨Nat.le_trans E.1 F.1, fun a c q => F.2 a c (E.2 a c q)⟩
theorem own_ext_keep {h h1 h2 : Heap} {ws : List Addr} (E : Ext h h1) (K : Keep h1 h2 ws) (q : ∀ w ∈ ws, h.size ≤ w) : Ext h h2 :=
  ⟨Nat.le_trans E.1 K.1, fun a c r => K.2.1 a c (E.2 a c r) fun z => absurd (Array.getElem?_eq_some_iff.mp r).1 (Nat.not_lt.mpr (q a z))⟩
theorem own_ext_wr {h h1 h2 : Heap} {a : Addr} {sl : Nat} {v : Value} (E : Ext h h1) (W : Wr h1 h2 a sl v) (q : h.size ≤ a) : Ext h h2 := own_ext_keep E (Keep.of_wr W) (allS q all0)
/-- x is a String of the chars cs, Latin-1 -/
def own_Str (Z : State) (h : Heap) (x : Addr) (cs : List Int32) : Prop := Exa Z h x "java/lang/String" ∧ Fld Z h x "java/lang/String" "coder" "B" (.int 0) ∧
  ∃ (t : Addr) (kb : ClassId), Fld Z h x "java/lang/String" "value" "[B" (.ref t) ∧ Arv Z h t kb .byte (Int32.ofNat cs.length) ((cs.map fun c => c.toInt8.toInt32).map Value.int) (.int 0)
theorem own_Str.ext {Z : State} {h h' : Heap} {x : Addr} {cs : List Int32} (F : own_Str Z h x cs) (E : Ext h h') : own_Str Z h' x cs := by
  obtain ⟨a, b, t, kb, c, d⟩ := F
  exact ⟨a.ext E, b.ext E, t, kb, c.ext E, d.ext E⟩
/-- each char is Latin-1 -/
def own_lat (cs : List Int32) : Prop := ∀ c ∈ cs, ¬ c < 0 ∧ ¬ (255 : Int32) < c
theorem own_up {cs : List Int32} (h : own_lat cs) : ∀ c ∈ cs, ¬ c < 0 ∧ ¬ (65535 : Int32) < c := fun c hc => ⟨(h c hc).1, fun q => (h c hc).2 (by rw [Int32.lt_iff_toInt_lt] at q ⊢; have e1 : (65535 : Int32).toInt = 65535 := rfl; have e2 : (255 : Int32).toInt = 255 := rfl; omega)⟩

/-- an array of ints, chars or bytes by its content -/
def own_AF (Z : State) (h : Heap) (a : Addr) (ty : FieldType) (n : Nat) (f : Nat → Int32) : Prop := ∃ c : Cell, Arr Z h a c ty ∧ c.slots.size = n ∧ ∀ i, i < n → c.slots[i]? = some (.int (f i))
theorem own_AF.ext {Z : State} {h h' : Heap} {a : Addr} {ty : FieldType} {n : Nat} {f : Nat → Int32} (F : own_AF Z h a ty n f) (E : Ext h h') : own_AF Z h' a ty n f := by
  obtain ⟨c, A, r⟩ := F; exact ⟨c, A.ext E, r⟩
theorem own_AF.other {Z : State} {h h' : Heap} {a b : Addr} {sl : Nat} {v : Value} {ty : FieldType} {n : Nat} {f : Nat → Int32} (F : own_AF Z h b ty n f) (W : Wr h h' a sl v) (q : b ≠ a) : own_AF Z h' b ty n f := by
  obtain ⟨c, A, r⟩ := F; exact ⟨c, A.other W q, r⟩
theorem own_AF.keep {Z : State} {h h' : Heap} {ws : List Addr} {a : Addr} {ty : FieldType} {n : Nat} {f : Nat → Int32} (F : own_AF Z h a ty n f) (K : Keep h h' ws) (q : a ∉ ws) : own_AF Z h' a ty n f := by
  obtain ⟨c, A, r⟩ := F; exact ⟨c, ⟨K.2.1 a c A.1 q, A.2⟩, r⟩
theorem own_AF.lt {Z : State} {h : Heap} {a : Addr} {ty : FieldType} {n : Nat} {f : Nat → Int32} (F : own_AF Z h a ty n f) : a < h.size := by obtain ⟨c, A, -⟩ := F; exact A.lt
theorem own_AF.as {Z : State} {h : Heap} {a : Addr} {ty : FieldType} {n : Nat} {f g : Nat → Int32} (F : own_AF Z h a ty n f) (q : ∀ i, i < n → f i = g i) : own_AF Z h a ty n g := by
  obtain ⟨c, A, s, r⟩ := F; exact ⟨c, A, s, fun i hi => by rw [← q i hi]; exact r i hi⟩
def own_up1 (f : Nat → Int32) (i : Nat) (x : Int32) (j : Nat) : Int32 := if j = i then x else f j
theorem own_setAt {Z : State} {h h' : Heap} {a : Addr} {c : Cell} {ty : FieldType} {n : Nat} {f : Nat → Int32} {j x : Int32} (A : Arr Z h a c ty) (S : c.slots.size = n) (H : ∀ i, i < n → c.slots[i]? = some (.int (f i))) (W : Wr h h' a j.toNatClampNeg (.int x)) (i : Nat) (hj : j.toNatClampNeg = i) : own_AF Z h' a ty n (own_up1 f i x) := by
  refine ⟨_, A.same W, by rw [sz_set]; exact S, fun k hk => ?_⟩
  rw [hj]
  by_cases u : i = k
  · subst u; simp [Cell.setSlot, own_up1, S, hk]
  · have := H k hk
    simp only [Cell.setSlot, own_up1, if_neg (Ne.symm u)] at this ⊢
    rw [Array.getElem?_setIfInBounds_ne u]; exact this
theorem own_n32 {n : Nat} (hn : n < 2147483648) : (Int32.ofNat n).toInt = n := Int32.toInt_ofNat_of_lt (by omega)
theorem own_cl {n : Nat} (hn : n < 2147483648) : (Int32.ofNat n).toNatClampNeg = n := by rw [Int32.toNatClampNeg, own_n32 hn]; rfl
theorem own_lt {i n : Nat} (h : i < n) (hn : n ≤ 4000) : Int32.ofNat i < Int32.ofNat n := by rw [Int32.lt_iff_toInt_lt, own_n32 (by omega), own_n32 (by omega)]; omega
theorem own_ge {i n : Nat} (h : n ≤ i) (hn : i ≤ 4000) : ¬ Int32.ofNat i < Int32.ofNat n := by rw [Int32.lt_iff_toInt_lt, own_n32 (by omega), own_n32 (by omega)]; omega
theorem own_nn {n : Nat} (hn : n ≤ 4000) : ¬ Int32.ofNat n < 0 := by rw [Int32.lt_iff_toInt_lt, own_n32 (by omega), show (0 : Int32).toInt = 0 from rfl]; omega
theorem own_one (i : Nat) : Int32.ofNat i + (1 : Int32) = Int32.ofNat (i + 1) := (Int32.ofNat_add i 1).symm
theorem own_inb {c : Cell} {i n : Nat} (S : c.slots.size = n) (h : i < n) (hn : n ≤ 4000) : ¬ (Int32.ofNat i < 0 ∨ c.slots.size ≤ (Int32.ofNat i).toNatClampNeg) := by
  rw [S, own_cl (by omega)]; exact fun q => q.elim (own_nn (by omega)) (fun q => by omega)
theorem own_gt {c : Cell} {i n : Nat} {f : Nat → Int32} (H : ∀ i, i < n → c.slots[i]? = some (.int (f i))) (h : i < n) (hn : n ≤ 4000) : c.slots[(Int32.ofNat i).toNatClampNeg]? = some (.int (f i)) := by rw [own_cl (by omega)]; exact H i h
theorem own_dbl {n : Nat} (hn : n ≤ 1000) : Int32.ofNat n <<< ((1 : Int32) &&& 31) = Int32.ofNat (2 * n) := by
  have h := c_ishl (Int32.ofNat n) 1 1 rfl
  have r := rng32 (Int32.ofNat n <<< ((1 : Int32) &&& 31))
  rw [← Int32.toInt_inj, own_n32 (by omega)]
  rw [own_n32 (by omega)] at h
  omega
theorem own_nb (x : Int32) : nar .byte (x.toInt8.toInt32) = x.toInt8.toInt32 := by
  show x.toInt8.toInt32.toInt8.toInt32 = x.toInt8.toInt32
  have h1 := c_i2b x
  have h2 := c_i2b x.toInt8.toInt32
  rw [← Int32.toInt_inj]; omega
/-- a char -/
def own_c16 (x : Int32) : Prop := 0 ≤ x.toInt ∧ x.toInt ≤ 65535
theorem own_narc {x : Int32} (h : own_c16 x) : nar .char x = x := by
  have h1 := c_i2c x
  obtain ⟨h2, h3⟩ := h
  show x.toUInt32.toUInt16.toUInt32.toInt32 = x
  rw [← Int32.toInt_inj]
  omega
def own_lo (x : Int32) : Int32 := (x >>> ((0 : Int32) &&& 31)).toInt8.toInt32
def own_hi (x : Int32) : Int32 := (x >>> ((8 : Int32) &&& 31)).toInt8.toInt32
/-- the UTF-16 bytes of the chars f -/
def own_b2 (f : Nat → Int32) (j : Nat) : Int32 := if j % 2 = 0 then own_lo (f (j / 2)) else own_hi (f (j / 2))
theorem own_b2e (f : Nat → Int32) (i : Nat) : own_b2 f (2 * i) = own_lo (f i) := by
  unfold own_b2; rw [if_pos (by omega), show 2 * i / 2 = i by omega]
theorem own_b2o (f : Nat → Int32) (i : Nat) : own_b2 f (2 * i + 1) = own_hi (f i) := by
  unfold own_b2; rw [if_neg (by omega), show (2 * i + 1) / 2 = i by omega]
theorem own_round {x : Int32} (h : own_c16 x) : ((((own_lo x &&& (255 : Int32)) <<< ((0 : Int32) &&& 31)) ||| ((own_hi x &&& (255 : Int32)) <<< ((8 : Int32) &&& 31))).toUInt32.toUInt16.toUInt32.toInt32) = x := by
  obtain ⟨h0, h1⟩ := h
  have a1 := c_ishr x 0 0 rfl
  have a2 := c_i2b (x >>> ((0 : Int32) &&& 31))
  have a3 := c_mask (own_lo x) 255 8 (by decide) (by decide)
  have a4 := c_ishl (own_lo x &&& (255 : Int32)) 0 0 rfl
  have a5 := rng32 ((own_lo x &&& (255 : Int32)) <<< ((0 : Int32) &&& 31))
  have b1 := c_ishr x 8 8 rfl
  have b2 := c_i2b (x >>> ((8 : Int32) &&& 31))
  have b3 := c_mask (own_hi x) 255 8 (by decide) (by decide)
  have b4 := c_ishl (own_hi x &&& (255 : Int32)) 8 8 rfl
  have b5 := rng32 ((own_hi x &&& (255 : Int32)) <<< ((8 : Int32) &&& 31))
  have a6 : (own_lo x).toInt = (x >>> ((0 : Int32) &&& 31)).toInt8.toInt32.toInt := rfl
  have b6 : (own_hi x).toInt = (x >>> ((8 : Int32) &&& 31)).toInt8.toInt32.toInt := rfl
  have c1 := c_or' ((own_lo x &&& (255 : Int32)) <<< ((0 : Int32) &&& 31)) ((own_hi x &&& (255 : Int32)) <<< ((8 : Int32) &&& 31)) 8 (by decide) 256 rfl (by omega) (by omega) (by omega)
  have c2 := rng32 (((own_lo x &&& (255 : Int32)) <<< ((0 : Int32) &&& 31)) ||| ((own_hi x &&& (255 : Int32)) <<< ((8 : Int32) &&& 31)))
  have c3 := c_i2c (((own_lo x &&& (255 : Int32)) <<< ((0 : Int32) &&& 31)) ||| ((own_hi x &&& (255 : Int32)) <<< ((8 : Int32) &&& 31)))
  rw [← Int32.toInt_inj]
  omega
def own_bit (p : Prop) [Decidable p] : Int32 := if p then 1 else 0
def own_QS (n0 : Nat) (w : Value) (h0 : Heap) (v : Option Value) (h : Heap) (L : List Loc) : Prop := v = some w ∧ Fr n0 L ∧ h = h0
/-- StringUTF16's statics -/
def own_U (Z : State) (h : Heap) : Prop := Sta Z h "java/lang/StringUTF16" "$assertionsDisabled" "Z" (.int (1 : Int32)) ∧ Sta Z h "java/lang/StringUTF16" "HI_BYTE_SHIFT" "I" (.int (0 : Int32)) ∧ Sta Z h "java/lang/StringUTF16" "LO_BYTE_SHIFT" "I" (.int (8 : Int32))
theorem own_U.ext {Z : State} {h h' : Heap} (F : own_U Z h) (E : Ext h h') : own_U Z h' := ⟨F.1.ext E, F.2.1.ext E, F.2.2.ext E⟩
theorem own_U.wr {Z : State} {h h' : Heap} {a : Addr} {sl : Nat} {v : Value} (F : own_U Z h) (W : Wr h h' a sl v) : own_U Z h' := ⟨F.1.wr W, F.2.1.wr W, F.2.2.wr W⟩
theorem pn_L : plainName "com/example/seize/seize/LockLimitsCheckKeyPinLaw" = true := by first | (simp [plainName, overriddenIn]; done) | decide +kernel
theorem pn_U : plainName "java/lang/StringUTF16" = true := by first | (simp [plainName, overriddenIn]; done) | decide +kernel
theorem pn_H : plainName "java/lang/Character" = true := by first | (simp [plainName, overriddenIn]; done) | decide +kernel
theorem pn_S : plainName "java/lang/String" = true := by first | (simp [plainName, overriddenIn]; done) | decide +kernel
theorem pn_K : plainName "com/example/seize/seize/LockLimits" = true := by first | (simp [plainName, overriddenIn]; done) | decide +kernel
theorem pn_O : plainName "java/util/Objects" = true := by first | (simp [plainName, overriddenIn]; done) | decide +kernel
theorem dA_0 : decode jdk_89_method_14_code 0 = .ok (.iload_n 0, 1) := by decide +kernel
theorem dA_1 : decode jdk_89_method_14_code 1 = .ok (.ldc 75, 2) := by decide +kernel
theorem dA_3 : decode jdk_89_method_14_code 3 = .ok (.if_icmp .lt 13, 3) := by decide +kernel
theorem dA_6 : decode jdk_89_method_14_code 6 = .ok (.iload_n 0, 1) := by decide +kernel
theorem dA_7 : decode jdk_89_method_14_code 7 = .ok (.ldc 76, 2) := by decide +kernel
theorem dA_9 : decode jdk_89_method_14_code 9 = .ok (.if_icmp .ge 7, 3) := by decide +kernel
theorem dA_12 : decode jdk_89_method_14_code 12 = .ok (.iconst 1, 1) := by decide +kernel
theorem dA_13 : decode jdk_89_method_14_code 13 = .ok (.goto 4, 3) := by decide +kernel
theorem dA_16 : decode jdk_89_method_14_code 16 = .ok (.iconst 0, 1) := by decide +kernel
theorem dA_17 : decode jdk_89_method_14_code 17 = .ok (.ireturn, 1) := by decide +kernel
theorem efA (m : MethodId) (x0 : Int32) : entryFrame m #[(.int x0)] 1 = mkF m 0 #[.val (.int x0)] [] := by first | (simp [entryFrame, mkF, argsToLocals, Value.category, maxLocals]; done) | rfl
theorem pdA : parseMethodDescriptor "(C)Z" = some ⟨[.char], some .boolean⟩ := by decide +kernel
set_option maxRecDepth 65536 in
set_option maxHeartbeats 40000000 in
theorem rmA (l : Launch) (Z : State) (a0 : Array Value) (hw : ∀ d ∈ tables_1, d.before a0 Z = true) (k : Int32) (h0 : Heap) (n0 : Nat) :
    MetFree l (⟨"java/lang/Character", "isHighSurrogate", "(C)Z"⟩ : MethodName) (head1 [Jvm.Cond.code (⟨"java/lang/Character", "isHighSurrogate", "(C)Z"⟩ : MethodName) jdk_89_method_14_code 1 (some .boolean)] ({ frames := 0, cells := 0, slots := 0, locals := 0 } : Room)) (fun q_ U => q_ = #[(.int k)] ∧ Z.Warmed39 U.vm ∧ U.heap = h0) (fun _ _ _ _ _ => True) (fun _ U o U' => ∃ v L, o = .returned v ∧ own_QS n0 (.int (own_bit (¬ k < (55296 : Int32) ∧ k < (56320 : Int32)))) h0 v U'.heap L ∧ FrameEnd U o U' L ({ frames := 0, cells := 0, slots := 0, locals := 0 } : Room).cells ({ frames := 0, cells := 0, slots := 0, locals := 0 } : Room).slots) := by
  refine MetFree.of_bodySF (plainFor_of_name pn_H) hisR ?_
  intro p e s m args below meth c s₁ Bd hml0 hP hK
  obtain ⟨rfl, hZ, hh⟩ := hP
  have hx := Bd.exec
  have hby := Bd.bytes
  have hml : c.maxLocals = 1 := hml0
  have hown : s.vm.findClass "java/lang/Character" = some m.cls := findClass_of_methodNamed Bd.named
  have hnm := (name_of_methodNamed Bd.named Bd.method).1
  have X0 : Stand p l e ({ frames := 0, cells := 0, slots := 0, locals := 0 } : Room) s m #[(.int k)] below meth c s₁ [] 0 0 := Stand.of_body Bd
  have e0 : s₁.heap = h0 := by rw [← hh, Bd.state]; rfl
  by_cases h1 : k < (55296 : Int32)
  · have sg1 : ∀ target, Steps p.tables e below (s₁.setTop (mkF m 17 #[.val (.int k)] [(.int (0 : Int32))])) target → Steps p.tables e below (s₁.setTop (mkF m 0 #[.val (.int k)] [])) target := by
      intro target kt
      show Steps p.tables e below (s₁.setTop (mkF m 0 #[.val (.int k)] [])) _
      refine XS.iloadN X0.here hx rfl (hb hby dA_0) rfl ?_
      show Steps p.tables e below (s₁.setTop (mkF m 1 #[.val (.int k)] [(.int k)])) _
      refine X0.ldcInt hx hown (mvT hZ (hw _ (List.mem_of_getElem? (i := 117) rfl))) (g := (mkF m 1 #[.val (.int k)] [(.int k)])) rfl (hb hby dA_1) _ ?_
      show Steps p.tables e below (s₁.setTop (mkF m 3 #[.val (.int k)] [(.int (55296 : Int32)), (.int k)])) _
      refine XS.icmpYes X0.here hx rfl (pc0 := 3) (pc' := 16) rfl (hb hby dA_3) rfl (tlt h1).1 (by decide) (by decide) ?_
      show Steps p.tables e below (s₁.setTop (mkF m 16 #[.val (.int k)] [])) _
      refine XS.iconst X0.here hx rfl (hb hby dA_16) ?_
      show Steps p.tables e below (s₁.setTop (mkF m 17 #[.val (.int k)] [(.int (0 : Int32))])) _
      exact kt
    obtain ⟨fs, hr, hrun, hended, hW, hsame⟩ := X0.leave (v := some (.int (0 : Int32))) (fun h => by rw [Bd.returns] at h; cases h)
    refine ⟨_, _, castTop (efA m k) ?_, hrun, hended, _, _, rfl, ?_, ⟨_, rfl⟩, hW, hsame.mono (by decide) (by decide)⟩
    · show Steps p.tables e below (s₁.setTop (mkF m 0 #[.val (.int k)] [])) _
      refine sg1 _ ?_
      show Steps p.tables e below (s₁.setTop (mkF m 17 #[.val (.int k)] [(.int (0 : Int32))])) _
      exact retN X0 hx (t := .boolean) Bd.returns (by simp) (hb hby dA_17) hr
    · show _
      exact ⟨by rw [show own_bit (¬ k < (55296 : Int32) ∧ k < (56320 : Int32)) = (0 : Int32) from if_neg (fun q => q.1 h1)], Fr.nil n0, e0⟩
  by_cases h2 : k < (56320 : Int32)
  · have sg1 : ∀ target, Steps p.tables e below (s₁.setTop (mkF m 17 #[.val (.int k)] [(.int (1 : Int32))])) target → Steps p.tables e below (s₁.setTop (mkF m 0 #[.val (.int k)] [])) target := by
      intro target kt
      show Steps p.tables e below (s₁.setTop (mkF m 0 #[.val (.int k)] [])) _
      refine XS.iloadN X0.here hx rfl (hb hby dA_0) rfl ?_
      show Steps p.tables e below (s₁.setTop (mkF m 1 #[.val (.int k)] [(.int k)])) _
      refine X0.ldcInt hx hown (mvT hZ (hw _ (List.mem_of_getElem? (i := 117) rfl))) (g := (mkF m 1 #[.val (.int k)] [(.int k)])) rfl (hb hby dA_1) _ ?_
      show Steps p.tables e below (s₁.setTop (mkF m 3 #[.val (.int k)] [(.int (55296 : Int32)), (.int k)])) _
      refine XS.icmpNo X0.here hx rfl (hb hby dA_3) rfl (flt h1).1 ?_
      show Steps p.tables e below (s₁.setTop (mkF m 6 #[.val (.int k)] [])) _
      refine XS.iloadN X0.here hx rfl (hb hby dA_6) rfl ?_
      show Steps p.tables e below (s₁.setTop (mkF m 7 #[.val (.int k)] [(.int k)])) _
      refine X0.ldcInt hx hown (mvT hZ (hw _ (List.mem_of_getElem? (i := 118) rfl))) (g := (mkF m 7 #[.val (.int k)] [(.int k)])) rfl (hb hby dA_7) _ ?_
      show Steps p.tables e below (s₁.setTop (mkF m 9 #[.val (.int k)] [(.int (56320 : Int32)), (.int k)])) _
      refine XS.icmpNo X0.here hx rfl (hb hby dA_9) rfl (tlt h2).2.1 ?_
      show Steps p.tables e below (s₁.setTop (mkF m 12 #[.val (.int k)] [])) _
      refine XS.iconst X0.here hx rfl (hb hby dA_12) ?_
      show Steps p.tables e below (s₁.setTop (mkF m 13 #[.val (.int k)] [(.int (1 : Int32))])) _
      refine XS.goto X0.here hx rfl (pc0 := 13) (pc' := 17) rfl (hb hby dA_13) (by decide) (by decide) ?_
      show Steps p.tables e below (s₁.setTop (mkF m 17 #[.val (.int k)] [(.int (1 : Int32))])) _
      exact kt
    obtain ⟨fs, hr, hrun, hended, hW, hsame⟩ := X0.leave (v := some (.int (1 : Int32))) (fun h => by rw [Bd.returns] at h; cases h)
    refine ⟨_, _, castTop (efA m k) ?_, hrun, hended, _, _, rfl, ?_, ⟨_, rfl⟩, hW, hsame.mono (by decide) (by decide)⟩
    · show Steps p.tables e below (s₁.setTop (mkF m 0 #[.val (.int k)] [])) _
      refine sg1 _ ?_
      show Steps p.tables e below (s₁.setTop (mkF m 17 #[.val (.int k)] [(.int (1 : Int32))])) _
      exact retN X0 hx (t := .boolean) Bd.returns (by simp) (hb hby dA_17) hr
    · show _
      exact ⟨by rw [show own_bit (¬ k < (55296 : Int32) ∧ k < (56320 : Int32)) = (1 : Int32) from if_pos ⟨h1, h2⟩], Fr.nil n0, e0⟩
  · have sg1 : ∀ target, Steps p.tables e below (s₁.setTop (mkF m 17 #[.val (.int k)] [(.int (0 : Int32))])) target → Steps p.tables e below (s₁.setTop (mkF m 0 #[.val (.int k)] [])) target := by
      intro target kt
      show Steps p.tables e below (s₁.setTop (mkF m 0 #[.val (.int k)] [])) _
      refine XS.iloadN X0.here hx rfl (hb hby dA_0) rfl ?_
      show Steps p.tables e below (s₁.setTop (mkF m 1 #[.val (.int k)] [(.int k)])) _
      refine X0.ldcInt hx hown (mvT hZ (hw _ (List.mem_of_getElem? (i := 117) rfl))) (g := (mkF m 1 #[.val (.int k)] [(.int k)])) rfl (hb hby dA_1) _ ?_
      show Steps p.tables e below (s₁.setTop (mkF m 3 #[.val (.int k)] [(.int (55296 : Int32)), (.int k)])) _
      refine XS.icmpNo X0.here hx rfl (hb hby dA_3) rfl (flt h1).1 ?_
      show Steps p.tables e below (s₁.setTop (mkF m 6 #[.val (.int k)] [])) _
      refine XS.iloadN X0.here hx rfl (hb hby dA_6) rfl ?_
      show Steps p.tables e below (s₁.setTop (mkF m 7 #[.val (.int k)] [(.int k)])) _
      refine X0.ldcInt hx hown (mvT hZ (hw _ (List.mem_of_getElem? (i := 118) rfl))) (g := (mkF m 7 #[.val (.int k)] [(.int k)])) rfl (hb hby dA_7) _ ?_
      show Steps p.tables e below (s₁.setTop (mkF m 9 #[.val (.int k)] [(.int (56320 : Int32)), (.int k)])) _
      refine XS.icmpYes X0.here hx rfl (pc0 := 9) (pc' := 16) rfl (hb hby dA_9) rfl (flt h2).2.1 (by decide) (by decide) ?_
      show Steps p.tables e below (s₁.setTop (mkF m 16 #[.val (.int k)] [])) _
      refine XS.iconst X0.here hx rfl (hb hby dA_16) ?_
      show Steps p.tables e below (s₁.setTop (mkF m 17 #[.val (.int k)] [(.int (0 : Int32))])) _
      exact kt
    obtain ⟨fs, hr, hrun, hended, hW, hsame⟩ := X0.leave (v := some (.int (0 : Int32))) (fun h => by rw [Bd.returns] at h; cases h)
    refine ⟨_, _, castTop (efA m k) ?_, hrun, hended, _, _, rfl, ?_, ⟨_, rfl⟩, hW, hsame.mono (by decide) (by decide)⟩
    · show Steps p.tables e below (s₁.setTop (mkF m 0 #[.val (.int k)] [])) _
      refine sg1 _ ?_
      show Steps p.tables e below (s₁.setTop (mkF m 17 #[.val (.int k)] [(.int (0 : Int32))])) _
      exact retN X0 hx (t := .boolean) Bd.returns (by simp) (hb hby dA_17) hr
    · show _
      exact ⟨by rw [show own_bit (¬ k < (55296 : Int32) ∧ k < (56320 : Int32)) = (0 : Int32) from if_neg (fun q => h2 q.2)], Fr.nil n0, e0⟩
theorem dB_0 : decode jdk_89_method_15_code 0 = .ok (.iload_n 0, 1) := by decide +kernel
theorem dB_1 : decode jdk_89_method_15_code 1 = .ok (.ldc 76, 2) := by decide +kernel
theorem dB_3 : decode jdk_89_method_15_code 3 = .ok (.if_icmp .lt 13, 3) := by decide +kernel
theorem dB_6 : decode jdk_89_method_15_code 6 = .ok (.iload_n 0, 1) := by decide +kernel
theorem dB_7 : decode jdk_89_method_15_code 7 = .ok (.ldc 77, 2) := by decide +kernel
theorem dB_9 : decode jdk_89_method_15_code 9 = .ok (.if_icmp .ge 7, 3) := by decide +kernel
theorem dB_12 : decode jdk_89_method_15_code 12 = .ok (.iconst 1, 1) := by decide +kernel
theorem dB_13 : decode jdk_89_method_15_code 13 = .ok (.goto 4, 3) := by decide +kernel
theorem dB_16 : decode jdk_89_method_15_code 16 = .ok (.iconst 0, 1) := by decide +kernel
theorem dB_17 : decode jdk_89_method_15_code 17 = .ok (.ireturn, 1) := by decide +kernel
theorem efB (m : MethodId) (x0 : Int32) : entryFrame m #[(.int x0)] 1 = mkF m 0 #[.val (.int x0)] [] := by first | (simp [entryFrame, mkF, argsToLocals, Value.category, maxLocals]; done) | rfl
set_option maxRecDepth 65536 in
set_option maxHeartbeats 40000000 in
theorem rmB (l : Launch) (Z : State) (a0 : Array Value) (hw : ∀ d ∈ tables_1, d.before a0 Z = true) (k : Int32) (h0 : Heap) (n0 : Nat) :
    MetFree l (⟨"java/lang/Character", "isLowSurrogate", "(C)Z"⟩ : MethodName) (head1 [Jvm.Cond.code (⟨"java/lang/Character", "isLowSurrogate", "(C)Z"⟩ : MethodName) jdk_89_method_15_code 1 (some .boolean)] ({ frames := 0, cells := 0, slots := 0, locals := 0 } : Room)) (fun q_ U => q_ = #[(.int k)] ∧ Z.Warmed39 U.vm ∧ U.heap = h0) (fun _ _ _ _ _ => True) (fun _ U o U' => ∃ v L, o = .returned v ∧ own_QS n0 (.int (own_bit (¬ k < (56320 : Int32) ∧ k < (57344 : Int32)))) h0 v U'.heap L ∧ FrameEnd U o U' L ({ frames := 0, cells := 0, slots := 0, locals := 0 } : Room).cells ({ frames := 0, cells := 0, slots := 0, locals := 0 } : Room).slots) := by
  refine MetFree.of_bodySF (plainFor_of_name pn_H) hisR ?_
  intro p e s m args below meth c s₁ Bd hml0 hP hK
  obtain ⟨rfl, hZ, hh⟩ := hP
  have hx := Bd.exec
  have hby := Bd.bytes
  have hml : c.maxLocals = 1 := hml0
  have hown : s.vm.findClass "java/lang/Character" = some m.cls := findClass_of_methodNamed Bd.named
  have hnm := (name_of_methodNamed Bd.named Bd.method).1
  have X0 : Stand p l e ({ frames := 0, cells := 0, slots := 0, locals := 0 } : Room) s m #[(.int k)] below meth c s₁ [] 0 0 := Stand.of_body Bd
  have e0 : s₁.heap = h0 := by rw [← hh, Bd.state]; rfl
  by_cases h1 : k < (56320 : Int32)
  · have sg1 : ∀ target, Steps p.tables e below (s₁.setTop (mkF m 17 #[.val (.int k)] [(.int (0 : Int32))])) target → Steps p.tables e below (s₁.setTop (mkF m 0 #[.val (.int k)] [])) target := by
      intro target kt
      show Steps p.tables e below (s₁.setTop (mkF m 0 #[.val (.int k)] [])) _
      refine XS.iloadN X0.here hx rfl (hb hby dB_0) rfl ?_
      show Steps p.tables e below (s₁.setTop (mkF m 1 #[.val (.int k)] [(.int k)])) _
      refine X0.ldcInt hx hown (mvT hZ (hw _ (List.mem_of_getElem? (i := 118) rfl))) (g := (mkF m 1 #[.val (.int k)] [(.int k)])) rfl (hb hby dB_1) _ ?_
      show Steps p.tables e below (s₁.setTop (mkF m 3 #[.val (.int k)] [(.int (56320 : Int32)), (.int k)])) _
      refine XS.icmpYes X0.here hx rfl (pc0 := 3) (pc' := 16) rfl (hb hby dB_3) rfl (tlt h1).1 (by decide) (by decide) ?_
      show Steps p.tables e below (s₁.setTop (mkF m 16 #[.val (.int k)] [])) _
      refine XS.iconst X0.here hx rfl (hb hby dB_16) ?_
      show Steps p.tables e below (s₁.setTop (mkF m 17 #[.val (.int k)] [(.int (0 : Int32))])) _
      exact kt
    obtain ⟨fs, hr, hrun, hended, hW, hsame⟩ := X0.leave (v := some (.int (0 : Int32))) (fun h => by rw [Bd.returns] at h; cases h)
    refine ⟨_, _, castTop (efB m k) ?_, hrun, hended, _, _, rfl, ?_, ⟨_, rfl⟩, hW, hsame.mono (by decide) (by decide)⟩
    · show Steps p.tables e below (s₁.setTop (mkF m 0 #[.val (.int k)] [])) _
      refine sg1 _ ?_
      show Steps p.tables e below (s₁.setTop (mkF m 17 #[.val (.int k)] [(.int (0 : Int32))])) _
      exact retN X0 hx (t := .boolean) Bd.returns (by simp) (hb hby dB_17) hr
    · show _
      exact ⟨by rw [show own_bit (¬ k < (56320 : Int32) ∧ k < (57344 : Int32)) = (0 : Int32) from if_neg (fun q => q.1 h1)], Fr.nil n0, e0⟩
  by_cases h2 : k < (57344 : Int32)
  · have sg1 : ∀ target, Steps p.tables e below (s₁.setTop (mkF m 17 #[.val (.int k)] [(.int (1 : Int32))])) target → Steps p.tables e below (s₁.setTop (mkF m 0 #[.val (.int k)] [])) target := by
      intro target kt
      show Steps p.tables e below (s₁.setTop (mkF m 0 #[.val (.int k)] [])) _
      refine XS.iloadN X0.here hx rfl (hb hby dB_0) rfl ?_
      show Steps p.tables e below (s₁.setTop (mkF m 1 #[.val (.int k)] [(.int k)])) _
      refine X0.ldcInt hx hown (mvT hZ (hw _ (List.mem_of_getElem? (i := 118) rfl))) (g := (mkF m 1 #[.val (.int k)] [(.int k)])) rfl (hb hby dB_1) _ ?_
      show Steps p.tables e below (s₁.setTop (mkF m 3 #[.val (.int k)] [(.int (56320 : Int32)), (.int k)])) _
      refine XS.icmpNo X0.here hx rfl (hb hby dB_3) rfl (flt h1).1 ?_
      show Steps p.tables e below (s₁.setTop (mkF m 6 #[.val (.int k)] [])) _
      refine XS.iloadN X0.here hx rfl (hb hby dB_6) rfl ?_
      show Steps p.tables e below (s₁.setTop (mkF m 7 #[.val (.int k)] [(.int k)])) _
      refine X0.ldcInt hx hown (mvT hZ (hw _ (List.mem_of_getElem? (i := 122) rfl))) (g := (mkF m 7 #[.val (.int k)] [(.int k)])) rfl (hb hby dB_7) _ ?_
      show Steps p.tables e below (s₁.setTop (mkF m 9 #[.val (.int k)] [(.int (57344 : Int32)), (.int k)])) _
      refine XS.icmpNo X0.here hx rfl (hb hby dB_9) rfl (tlt h2).2.1 ?_
      show Steps p.tables e below (s₁.setTop (mkF m 12 #[.val (.int k)] [])) _
      refine XS.iconst X0.here hx rfl (hb hby dB_12) ?_
      show Steps p.tables e below (s₁.setTop (mkF m 13 #[.val (.int k)] [(.int (1 : Int32))])) _
      refine XS.goto X0.here hx rfl (pc0 := 13) (pc' := 17) rfl (hb hby dB_13) (by decide) (by decide) ?_
      show Steps p.tables e below (s₁.setTop (mkF m 17 #[.val (.int k)] [(.int (1 : Int32))])) _
      exact kt
    obtain ⟨fs, hr, hrun, hended, hW, hsame⟩ := X0.leave (v := some (.int (1 : Int32))) (fun h => by rw [Bd.returns] at h; cases h)
    refine ⟨_, _, castTop (efB m k) ?_, hrun, hended, _, _, rfl, ?_, ⟨_, rfl⟩, hW, hsame.mono (by decide) (by decide)⟩
    · show Steps p.tables e below (s₁.setTop (mkF m 0 #[.val (.int k)] [])) _
      refine sg1 _ ?_
      show Steps p.tables e below (s₁.setTop (mkF m 17 #[.val (.int k)] [(.int (1 : Int32))])) _
      exact retN X0 hx (t := .boolean) Bd.returns (by simp) (hb hby dB_17) hr
    · show _
      exact ⟨by rw [show own_bit (¬ k < (56320 : Int32) ∧ k < (57344 : Int32)) = (1 : Int32) from if_pos ⟨h1, h2⟩], Fr.nil n0, e0⟩
  · have sg1 : ∀ target, Steps p.tables e below (s₁.setTop (mkF m 17 #[.val (.int k)] [(.int (0 : Int32))])) target → Steps p.tables e below (s₁.setTop (mkF m 0 #[.val (.int k)] [])) target := by
      intro target kt
      show Steps p.tables e below (s₁.setTop (mkF m 0 #[.val (.int k)] [])) _
      refine XS.iloadN X0.here hx rfl (hb hby dB_0) rfl ?_
      show Steps p.tables e below (s₁.setTop (mkF m 1 #[.val (.int k)] [(.int k)])) _
      refine X0.ldcInt hx hown (mvT hZ (hw _ (List.mem_of_getElem? (i := 118) rfl))) (g := (mkF m 1 #[.val (.int k)] [(.int k)])) rfl (hb hby dB_1) _ ?_
      show Steps p.tables e below (s₁.setTop (mkF m 3 #[.val (.int k)] [(.int (56320 : Int32)), (.int k)])) _
      refine XS.icmpNo X0.here hx rfl (hb hby dB_3) rfl (flt h1).1 ?_
      show Steps p.tables e below (s₁.setTop (mkF m 6 #[.val (.int k)] [])) _
      refine XS.iloadN X0.here hx rfl (hb hby dB_6) rfl ?_
      show Steps p.tables e below (s₁.setTop (mkF m 7 #[.val (.int k)] [(.int k)])) _
      refine X0.ldcInt hx hown (mvT hZ (hw _ (List.mem_of_getElem? (i := 122) rfl))) (g := (mkF m 7 #[.val (.int k)] [(.int k)])) rfl (hb hby dB_7) _ ?_
      show Steps p.tables e below (s₁.setTop (mkF m 9 #[.val (.int k)] [(.int (57344 : Int32)), (.int k)])) _
      refine XS.icmpYes X0.here hx rfl (pc0 := 9) (pc' := 16) rfl (hb hby dB_9) rfl (flt h2).2.1 (by decide) (by decide) ?_
      show Steps p.tables e below (s₁.setTop (mkF m 16 #[.val (.int k)] [])) _
      refine XS.iconst X0.here hx rfl (hb hby dB_16) ?_
      show Steps p.tables e below (s₁.setTop (mkF m 17 #[.val (.int k)] [(.int (0 : Int32))])) _
      exact kt
    obtain ⟨fs, hr, hrun, hended, hW, hsame⟩ := X0.leave (v := some (.int (0 : Int32))) (fun h => by rw [Bd.returns] at h; cases h)
    refine ⟨_, _, castTop (efB m k) ?_, hrun, hended, _, _, rfl, ?_, ⟨_, rfl⟩, hW, hsame.mono (by decide) (by decide)⟩
    · show Steps p.tables e below (s₁.setTop (mkF m 0 #[.val (.int k)] [])) _
      refine sg1 _ ?_
      show Steps p.tables e below (s₁.setTop (mkF m 17 #[.val (.int k)] [(.int (0 : Int32))])) _
      exact retN X0 hx (t := .boolean) Bd.returns (by simp) (hb hby dB_17) hr
    · show _
      exact ⟨by rw [show own_bit (¬ k < (56320 : Int32) ∧ k < (57344 : Int32)) = (0 : Int32) from if_neg (fun q => h2 q.2)], Fr.nil n0, e0⟩
theorem dC_0 : decode jdk_89_method_19_code 0 = .ok (.iload_n 0, 1) := by decide +kernel
theorem dC_1 : decode jdk_89_method_19_code 1 = .ok (.bipush 10, 2) := by decide +kernel
theorem dC_3 : decode jdk_89_method_19_code 3 = .ok (.ishl, 1) := by decide +kernel
theorem dC_4 : decode jdk_89_method_19_code 4 = .ok (.iload_n 1, 1) := by decide +kernel
theorem dC_5 : decode jdk_89_method_19_code 5 = .ok (.iadd, 1) := by decide +kernel
theorem dC_6 : decode jdk_89_method_19_code 6 = .ok (.ldc 85, 2) := by decide +kernel
theorem dC_8 : decode jdk_89_method_19_code 8 = .ok (.iadd, 1) := by decide +kernel
theorem dC_9 : decode jdk_89_method_19_code 9 = .ok (.ireturn, 1) := by decide +kernel
theorem efC (m : MethodId) (x0 : Int32) (x1 : Int32) : entryFrame m #[(.int x0), (.int x1)] 2 = mkF m 0 #[.val (.int x0), .val (.int x1)] [] := by first | (simp [entryFrame, mkF, argsToLocals, Value.category, maxLocals]; done) | rfl
theorem pdC : parseMethodDescriptor "(CC)I" = some ⟨[.char, .char], some .int⟩ := by decide +kernel
def own_cp (x y : Int32) : Int32 := ((x <<< ((10 : Int32) &&& 31)) + y) + (-56613888 : Int32)
set_option maxRecDepth 65536 in
set_option maxHeartbeats 40000000 in
theorem rmC (l : Launch) (Z : State) (a0 : Array Value) (hw : ∀ d ∈ tables_1, d.before a0 Z = true) (j k : Int32) (h0 : Heap) (n0 : Nat) :
    MetFree l (⟨"java/lang/Character", "toCodePoint", "(CC)I"⟩ : MethodName) (head1 [Jvm.Cond.code (⟨"java/lang/Character", "toCodePoint", "(CC)I"⟩ : MethodName) jdk_89_method_19_code 2 (some .int)] ({ frames := 0, cells := 0, slots := 0, locals := 0 } : Room)) (fun q_ U => q_ = #[(.int j), (.int k)] ∧ Z.Warmed39 U.vm ∧ U.heap = h0) (fun _ _ _ _ _ => True) (fun _ U o U' => ∃ v L, o = .returned v ∧ own_QS n0 (.int (own_cp j k)) h0 v U'.heap L ∧ FrameEnd U o U' L ({ frames := 0, cells := 0, slots := 0, locals := 0 } : Room).cells ({ frames := 0, cells := 0, slots := 0, locals := 0 } : Room).slots) := by
  refine MetFree.of_bodySF (plainFor_of_name pn_H) hisR ?_
  intro p e s m args below meth c s₁ Bd hml0 hP hK
  obtain ⟨rfl, hZ, hh⟩ := hP
  have hx := Bd.exec
  have hby := Bd.bytes
  have hml : c.maxLocals = 2 := hml0
  have hown : s.vm.findClass "java/lang/Character" = some m.cls := findClass_of_methodNamed Bd.named
  have hnm := (name_of_methodNamed Bd.named Bd.method).1
  have X0 : Stand p l e ({ frames := 0, cells := 0, slots := 0, locals := 0 } : Room) s m #[(.int j), (.int k)] below meth c s₁ [] 0 0 := Stand.of_body Bd
  have e0 : s₁.heap = h0 := by rw [← hh, Bd.state]; rfl
  have sg1 : ∀ target, Steps p.tables e below (s₁.setTop (mkF m 9 #[.val (.int j), .val (.int k)] [(.int (((j <<< ((10 : Int32) &&& 31)) + k) + (-56613888 : Int32)))])) target → Steps p.tables e below (s₁.setTop (mkF m 0 #[.val (.int j), .val (.int k)] [])) target := by
    intro target kt
    show Steps p.tables e below (s₁.setTop (mkF m 0 #[.val (.int j), .val (.int k)] [])) _
    refine XS.iloadN X0.here hx rfl (hb hby dC_0) rfl ?_
    show Steps p.tables e below (s₁.setTop (mkF m 1 #[.val (.int j), .val (.int k)] [(.int j)])) _
    refine XS.bipush X0.here hx rfl (hb hby dC_1) ?_
    show Steps p.tables e below (s₁.setTop (mkF m 3 #[.val (.int j), .val (.int k)] [(.int (10 : Int32)), (.int j)])) _
    refine XS.ishl X0.here hx rfl (hb hby dC_3) rfl ?_
    show Steps p.tables e below (s₁.setTop (mkF m 4 #[.val (.int j), .val (.int k)] [(.int (j <<< ((10 : Int32) &&& 31)))])) _
    refine XS.iloadN X0.here hx rfl (hb hby dC_4) rfl ?_
    show Steps p.tables e below (s₁.setTop (mkF m 5 #[.val (.int j), .val (.int k)] [(.int k), (.int (j <<< ((10 : Int32) &&& 31)))])) _
    refine XS.iadd X0.here hx rfl (hb hby dC_5) rfl ?_
    show Steps p.tables e below (s₁.setTop (mkF m 6 #[.val (.int j), .val (.int k)] [(.int ((j <<< ((10 : Int32) &&& 31)) + k))])) _
    refine X0.ldcInt hx hown (mvT hZ (hw _ (List.mem_of_getElem? (i := 126) rfl))) (g := (mkF m 6 #[.val (.int j), .val (.int k)] [(.int ((j <<< ((10 : Int32) &&& 31)) + k))])) rfl (hb hby dC_6) _ ?_
    show Steps p.tables e below (s₁.setTop (mkF m 8 #[.val (.int j), .val (.int k)] [(.int (-56613888 : Int32)), (.int ((j <<< ((10 : Int32) &&& 31)) + k))])) _
    refine XS.iadd X0.here hx rfl (hb hby dC_8) rfl ?_
    show Steps p.tables e below (s₁.setTop (mkF m 9 #[.val (.int j), .val (.int k)] [(.int (((j <<< ((10 : Int32) &&& 31)) + k) + (-56613888 : Int32)))])) _
    exact kt
  obtain ⟨fs, hr, hrun, hended, hW, hsame⟩ := X0.leave (v := some (.int (((j <<< ((10 : Int32) &&& 31)) + k) + (-56613888 : Int32)))) (fun h => by rw [Bd.returns] at h; cases h)
  refine ⟨_, _, castTop (efC m j k) ?_, hrun, hended, _, _, rfl, ?_, ⟨_, rfl⟩, hW, hsame.mono (by decide) (by decide)⟩
  · show Steps p.tables e below (s₁.setTop (mkF m 0 #[.val (.int j), .val (.int k)] [])) _
    refine sg1 _ ?_
    show Steps p.tables e below (s₁.setTop (mkF m 9 #[.val (.int j), .val (.int k)] [(.int (((j <<< ((10 : Int32) &&& 31)) + k) + (-56613888 : Int32)))])) _
    exact retOut X0 hx (t := .int) Bd.returns rfl (Or.inl ⟨rfl, Or.inl rfl, _, rfl⟩) (hb hby dC_9) hr
  · show _
    exact ⟨rfl, Fr.nil n0, e0⟩
theorem dD_0 : decode jdk_89_method_18_code 0 = .ok (.iload_n 0, 1) := by decide +kernel
theorem dD_1 : decode jdk_89_method_18_code 1 = .ok (.ldc 73, 2) := by decide +kernel
theorem dD_3 : decode jdk_89_method_18_code 3 = .ok (.if_icmp .lt 7, 3) := by decide +kernel
theorem dD_6 : decode jdk_89_method_18_code 6 = .ok (.iconst 2, 1) := by decide +kernel
theorem dD_7 : decode jdk_89_method_18_code 7 = .ok (.goto 4, 3) := by decide +kernel
theorem dD_10 : decode jdk_89_method_18_code 10 = .ok (.iconst 1, 1) := by decide +kernel
theorem dD_11 : decode jdk_89_method_18_code 11 = .ok (.ireturn, 1) := by decide +kernel
theorem efD (m : MethodId) (x0 : Int32) : entryFrame m #[(.int x0)] 1 = mkF m 0 #[.val (.int x0)] [] := by first | (simp [entryFrame, mkF, argsToLocals, Value.category, maxLocals]; done) | rfl
theorem pdD : parseMethodDescriptor "(I)I" = some ⟨[.int], some .int⟩ := by decide +kernel
def own_cc (x : Int32) : Int32 := if x < (65536 : Int32) then 1 else 2
set_option maxRecDepth 65536 in
set_option maxHeartbeats 40000000 in
theorem rmD (l : Launch) (Z : State) (a0 : Array Value) (hw : ∀ d ∈ tables_1, d.before a0 Z = true) (k : Int32) (h0 : Heap) (n0 : Nat) :
    MetFree l (⟨"java/lang/Character", "charCount", "(I)I"⟩ : MethodName) (head1 [Jvm.Cond.code (⟨"java/lang/Character", "charCount", "(I)I"⟩ : MethodName) jdk_89_method_18_code 1 (some .int)] ({ frames := 0, cells := 0, slots := 0, locals := 0 } : Room)) (fun q_ U => q_ = #[(.int k)] ∧ Z.Warmed39 U.vm ∧ U.heap = h0) (fun _ _ _ _ _ => True) (fun _ U o U' => ∃ v L, o = .returned v ∧ own_QS n0 (.int (own_cc k)) h0 v U'.heap L ∧ FrameEnd U o U' L ({ frames := 0, cells := 0, slots := 0, locals := 0 } : Room).cells ({ frames := 0, cells := 0, slots := 0, locals := 0 } : Room).slots) := by
  refine MetFree.of_bodySF (plainFor_of_name pn_H) hisR ?_
  intro p e s m args below meth c s₁ Bd hml0 hP hK
  obtain ⟨rfl, hZ, hh⟩ := hP
  have hx := Bd.exec
  have hby := Bd.bytes
  have hml : c.maxLocals = 1 := hml0
  have hown : s.vm.findClass "java/lang/Character" = some m.cls := findClass_of_methodNamed Bd.named
  have hnm := (name_of_methodNamed Bd.named Bd.method).1
  have X0 : Stand p l e ({ frames := 0, cells := 0, slots := 0, locals := 0 } : Room) s m #[(.int k)] below meth c s₁ [] 0 0 := Stand.of_body Bd
  have e0 : s₁.heap = h0 := by rw [← hh, Bd.state]; rfl
  by_cases h1 : k < (65536 : Int32)
  · have sg1 : ∀ target, Steps p.tables e below (s₁.setTop (mkF m 11 #[.val (.int k)] [(.int (1 : Int32))])) target → Steps p.tables e below (s₁.setTop (mkF m 0 #[.val (.int k)] [])) target := by
      intro target kt
      show Steps p.tables e below (s₁.setTop (mkF m 0 #[.val (.int k)] [])) _
      refine XS.iloadN X0.here hx rfl (hb hby dD_0) rfl ?_
      show Steps p.tables e below (s₁.setTop (mkF m 1 #[.val (.int k)] [(.int k)])) _
      refine X0.ldcInt hx hown (mvT hZ (hw _ (List.mem_of_getElem? (i := 107) rfl))) (g := (mkF m 1 #[.val (.int k)] [(.int k)])) rfl (hb hby dD_1) _ ?_
      show Steps p.tables e below (s₁.setTop (mkF m 3 #[.val (.int k)] [(.int (65536 : Int32)), (.int k)])) _
      refine XS.icmpYes X0.here hx rfl (pc0 := 3) (pc' := 10) rfl (hb hby dD_3) rfl (tlt h1).1 (by decide) (by decide) ?_
      show Steps p.tables e below (s₁.setTop (mkF m 10 #[.val (.int k)] [])) _
      refine XS.iconst X0.here hx rfl (hb hby dD_10) ?_
      show Steps p.tables e below (s₁.setTop (mkF m 11 #[.val (.int k)] [(.int (1 : Int32))])) _
      exact kt
    obtain ⟨fs, hr, hrun, hended, hW, hsame⟩ := X0.leave (v := some (.int (1 : Int32))) (fun h => by rw [Bd.returns] at h; cases h)
    refine ⟨_, _, castTop (efD m k) ?_, hrun, hended, _, _, rfl, ?_, ⟨_, rfl⟩, hW, hsame.mono (by decide) (by decide)⟩
    · show Steps p.tables e below (s₁.setTop (mkF m 0 #[.val (.int k)] [])) _
      refine sg1 _ ?_
      show Steps p.tables e below (s₁.setTop (mkF m 11 #[.val (.int k)] [(.int (1 : Int32))])) _
      exact retOut X0 hx (t := .int) Bd.returns rfl (Or.inl ⟨rfl, Or.inl rfl, _, rfl⟩) (hb hby dD_11) hr
    · show _
      exact ⟨by rw [show own_cc k = (1 : Int32) from if_pos h1], Fr.nil n0, e0⟩
  · have sg1 : ∀ target, Steps p.tables e below (s₁.setTop (mkF m 11 #[.val (.int k)] [(.int (2 : Int32))])) target → Steps p.tables e below (s₁.setTop (mkF m 0 #[.val (.int k)] [])) target := by
      intro target kt
      show Steps p.tables e below (s₁.setTop (mkF m 0 #[.val (.int k)] [])) _
      refine XS.iloadN X0.here hx rfl (hb hby dD_0) rfl ?_
      show Steps p.tables e below (s₁.setTop (mkF m 1 #[.val (.int k)] [(.int k)])) _
      refine X0.ldcInt hx hown (mvT hZ (hw _ (List.mem_of_getElem? (i := 107) rfl))) (g := (mkF m 1 #[.val (.int k)] [(.int k)])) rfl (hb hby dD_1) _ ?_
      show Steps p.tables e below (s₁.setTop (mkF m 3 #[.val (.int k)] [(.int (65536 : Int32)), (.int k)])) _
      refine XS.icmpNo X0.here hx rfl (hb hby dD_3) rfl (flt h1).1 ?_
      show Steps p.tables e below (s₁.setTop (mkF m 6 #[.val (.int k)] [])) _
      refine XS.iconst X0.here hx rfl (hb hby dD_6) ?_
      show Steps p.tables e below (s₁.setTop (mkF m 7 #[.val (.int k)] [(.int (2 : Int32))])) _
      refine XS.goto X0.here hx rfl (pc0 := 7) (pc' := 11) rfl (hb hby dD_7) (by decide) (by decide) ?_
      show Steps p.tables e below (s₁.setTop (mkF m 11 #[.val (.int k)] [(.int (2 : Int32))])) _
      exact kt
    obtain ⟨fs, hr, hrun, hended, hW, hsame⟩ := X0.leave (v := some (.int (2 : Int32))) (fun h => by rw [Bd.returns] at h; cases h)
    refine ⟨_, _, castTop (efD m k) ?_, hrun, hended, _, _, rfl, ?_, ⟨_, rfl⟩, hW, hsame.mono (by decide) (by decide)⟩
    · show Steps p.tables e below (s₁.setTop (mkF m 0 #[.val (.int k)] [])) _
      refine sg1 _ ?_
      show Steps p.tables e below (s₁.setTop (mkF m 11 #[.val (.int k)] [(.int (2 : Int32))])) _
      exact retOut X0 hx (t := .int) Bd.returns rfl (Or.inl ⟨rfl, Or.inl rfl, _, rfl⟩) (hb hby dD_11) hr
    · show _
      exact ⟨by rw [show own_cc k = (2 : Int32) from if_neg h1], Fr.nil n0, e0⟩
theorem dL_0 : decode jdk_52_method_3_code 0 = .ok (.iload_n 0, 1) := by decide +kernel
theorem dL_1 : decode jdk_52_method_3_code 1 = .ok (.ifCond .ge 11, 3) := by decide +kernel
theorem dL_4 : decode jdk_52_method_3_code 4 = .ok (.new 17, 3) := by decide +kernel
theorem dL_7 : decode jdk_52_method_3_code 7 = .ok (.dup, 1) := by decide +kernel
theorem dL_8 : decode jdk_52_method_3_code 8 = .ok (.invokespecial 19, 3) := by decide +kernel
theorem dL_11 : decode jdk_52_method_3_code 11 = .ok (.athrow, 1) := by decide +kernel
theorem dL_12 : decode jdk_52_method_3_code 12 = .ok (.iload_n 0, 1) := by decide +kernel
theorem dL_13 : decode jdk_52_method_3_code 13 = .ok (.ldc 20, 2) := by decide +kernel
theorem dL_15 : decode jdk_52_method_3_code 15 = .ok (.if_icmp .lt 40, 3) := by decide +kernel
theorem dL_18 : decode jdk_52_method_3_code 18 = .ok (.new 21, 3) := by decide +kernel
theorem dL_21 : decode jdk_52_method_3_code 21 = .ok (.dup, 1) := by decide +kernel
theorem dL_22 : decode jdk_52_method_3_code 22 = .ok (.new 23, 3) := by decide +kernel
theorem dL_25 : decode jdk_52_method_3_code 25 = .ok (.dup, 1) := by decide +kernel
theorem dL_26 : decode jdk_52_method_3_code 26 = .ok (.invokespecial 25, 3) := by decide +kernel
theorem dL_29 : decode jdk_52_method_3_code 29 = .ok (.ldc 26, 2) := by decide +kernel
theorem dL_31 : decode jdk_52_method_3_code 31 = .ok (.invokevirtual 28, 3) := by decide +kernel
theorem dL_34 : decode jdk_52_method_3_code 34 = .ok (.iload_n 0, 1) := by decide +kernel
theorem dL_35 : decode jdk_52_method_3_code 35 = .ok (.invokevirtual 32, 3) := by decide +kernel
theorem dL_38 : decode jdk_52_method_3_code 38 = .ok (.ldc 35, 2) := by decide +kernel
theorem dL_40 : decode jdk_52_method_3_code 40 = .ok (.invokevirtual 28, 3) := by decide +kernel
theorem dL_43 : decode jdk_52_method_3_code 43 = .ok (.ldc 20, 2) := by decide +kernel
theorem dL_45 : decode jdk_52_method_3_code 45 = .ok (.invokevirtual 32, 3) := by decide +kernel
theorem dL_48 : decode jdk_52_method_3_code 48 = .ok (.invokevirtual 37, 3) := by decide +kernel
theorem dL_51 : decode jdk_52_method_3_code 51 = .ok (.invokespecial 41, 3) := by decide +kernel
theorem dL_54 : decode jdk_52_method_3_code 54 = .ok (.athrow, 1) := by decide +kernel
theorem dL_55 : decode jdk_52_method_3_code 55 = .ok (.iload_n 0, 1) := by decide +kernel
theorem dL_56 : decode jdk_52_method_3_code 56 = .ok (.iconst 1, 1) := by decide +kernel
theorem dL_57 : decode jdk_52_method_3_code 57 = .ok (.ishl, 1) := by decide +kernel
theorem dL_58 : decode jdk_52_method_3_code 58 = .ok (.ireturn, 1) := by decide +kernel
theorem efL (m : MethodId) (x0 : Int32) : entryFrame m #[(.int x0)] 1 = mkF m 0 #[.val (.int x0)] [] := by first | (simp [entryFrame, mkF, argsToLocals, Value.category, maxLocals]; done) | rfl
set_option maxRecDepth 65536 in
set_option maxHeartbeats 40000000 in
theorem rmL (l : Launch) (Z : State) (a0 : Array Value) (hw : ∀ d ∈ tables_1, d.before a0 Z = true) (n : Nat) (hn : n ≤ 1000) (h0 : Heap) (n0 : Nat) :
    MetFree l (⟨"java/lang/StringUTF16", "newBytesLength", "(I)I"⟩ : MethodName) (head1 [Jvm.Cond.code (⟨"java/lang/StringUTF16", "newBytesLength", "(I)I"⟩ : MethodName) jdk_52_method_3_code 1 (some .int)] ({ frames := 0, cells := 0, slots := 0, locals := 0 } : Room)) (fun q_ U => q_ = #[(.int (Int32.ofNat n))] ∧ Z.Warmed39 U.vm ∧ U.heap = h0) (fun _ _ _ _ _ => True) (fun _ U o U' => ∃ v L, o = .returned v ∧ own_QS n0 (.int (Int32.ofNat (2 * n))) h0 v U'.heap L ∧ FrameEnd U o U' L ({ frames := 0, cells := 0, slots := 0, locals := 0 } : Room).cells ({ frames := 0, cells := 0, slots := 0, locals := 0 } : Room).slots) := by
  refine MetFree.of_bodySF (plainFor_of_name pn_U) hisR ?_
  intro p e s m args below meth c s₁ Bd hml0 hP hK
  obtain ⟨rfl, hZ, hh⟩ := hP
  have hx := Bd.exec
  have hby := Bd.bytes
  have hml : c.maxLocals = 1 := hml0
  have hown : s.vm.findClass "java/lang/StringUTF16" = some m.cls := findClass_of_methodNamed Bd.named
  have hnm := (name_of_methodNamed Bd.named Bd.method).1
  have X0 : Stand p l e ({ frames := 0, cells := 0, slots := 0, locals := 0 } : Room) s m #[(.int (Int32.ofNat n))] below meth c s₁ [] 0 0 := Stand.of_body Bd
  have e0 : s₁.heap = h0 := by rw [← hh, Bd.state]; rfl
  have hl : Int32.ofNat n < (1073741823 : Int32) := by rw [Int32.lt_iff_toInt_lt, own_n32 (by omega), show (1073741823 : Int32).toInt = 1073741823 from rfl]; omega
  have sg1 : ∀ target, Steps p.tables e below (s₁.setTop (mkF m 58 #[.val (.int (Int32.ofNat n))] [(.int (Int32.ofNat (2 * n)))])) target → Steps p.tables e below (s₁.setTop (mkF m 0 #[.val (.int (Int32.ofNat n))] [])) target := by
    intro target kt
    show Steps p.tables e below (s₁.setTop (mkF m 0 #[.val (.int (Int32.ofNat n))] [])) _
    refine XS.iloadN X0.here hx rfl (hb hby dL_0) rfl ?_
    show Steps p.tables e below (s₁.setTop (mkF m 1 #[.val (.int (Int32.ofNat n))] [(.int (Int32.ofNat n))])) _
    refine XS.ifYes X0.here hx rfl (pc0 := 1) (pc' := 12) rfl (hb hby dL_1) rfl (by rw [if0]; exact (flt (own_nn (by omega))).2.1) (by decide) (by decide) ?_
    show Steps p.tables e below (s₁.setTop (mkF m 12 #[.val (.int (Int32.ofNat n))] [])) _
    refine XS.iloadN X0.here hx rfl (hb hby dL_12) rfl ?_
    show Steps p.tables e below (s₁.setTop (mkF m 13 #[.val (.int (Int32.ofNat n))] [(.int (Int32.ofNat n))])) _
    refine X0.ldcInt hx hown (mvT hZ (hw _ (List.mem_of_getElem? (i := 48) rfl))) (g := (mkF m 13 #[.val (.int (Int32.ofNat n))] [(.int (Int32.ofNat n))])) rfl (hb hby dL_13) _ ?_
    show Steps p.tables e below (s₁.setTop (mkF m 15 #[.val (.int (Int32.ofNat n))] [(.int (1073741823 : Int32)), (.int (Int32.ofNat n))])) _
    refine XS.icmpYes X0.here hx rfl (pc0 := 15) (pc' := 55) rfl (hb hby dL_15) rfl (tlt hl).1 (by decide) (by decide) ?_
    show Steps p.tables e below (s₁.setTop (mkF m 55 #[.val (.int (Int32.ofNat n))] [])) _
    refine XS.iloadN X0.here hx rfl (hb hby dL_55) rfl ?_
    show Steps p.tables e below (s₁.setTop (mkF m 56 #[.val (.int (Int32.ofNat n))] [(.int (Int32.ofNat n))])) _
    refine XS.iconst X0.here hx rfl (hb hby dL_56) ?_
    show Steps p.tables e below (s₁.setTop (mkF m 57 #[.val (.int (Int32.ofNat n))] [(.int (1 : Int32)), (.int (Int32.ofNat n))])) _
    refine XS.ishl X0.here hx rfl (hb hby dL_57) rfl ?_
    show Steps p.tables e below (s₁.setTop (mkF m 58 #[.val (.int (Int32.ofNat n))] [(.int ((Int32.ofNat n) <<< ((1 : Int32) &&& 31)))])) _
    rw [(own_dbl hn)]
    show Steps p.tables e below (s₁.setTop (mkF m 58 #[.val (.int (Int32.ofNat n))] [(.int (Int32.ofNat (2 * n)))])) _
    exact kt
  obtain ⟨fs, hr, hrun, hended, hW, hsame⟩ := X0.leave (v := some (.int (Int32.ofNat (2 * n)))) (fun h => by rw [Bd.returns] at h; cases h)
  refine ⟨_, _, castTop (efL m (Int32.ofNat n)) ?_, hrun, hended, _, _, rfl, ?_, ⟨_, rfl⟩, hW, hsame.mono (by decide) (by decide)⟩
  · show Steps p.tables e below (s₁.setTop (mkF m 0 #[.val (.int (Int32.ofNat n))] [])) _
    refine sg1 _ ?_
    show Steps p.tables e below (s₁.setTop (mkF m 58 #[.val (.int (Int32.ofNat n))] [(.int (Int32.ofNat (2 * n)))])) _
    exact retOut X0 hx (t := .int) Bd.returns rfl (Or.inl ⟨rfl, Or.inl rfl, _, rfl⟩) (hb hby dL_58) hr
  · show _
    exact ⟨rfl, Fr.nil n0, e0⟩
theorem dF_0 : decode jdk_52_method_2_code 0 = .ok (.iload_n 0, 1) := by decide +kernel
theorem dF_1 : decode jdk_52_method_2_code 1 = .ok (.invokestatic 11, 3) := by decide +kernel
theorem dF_4 : decode jdk_52_method_2_code 4 = .ok (.newarray .byte, 2) := by decide +kernel
theorem dF_6 : decode jdk_52_method_2_code 6 = .ok (.areturn, 1) := by decide +kernel
theorem efF (m : MethodId) (x0 : Int32) : entryFrame m #[(.int x0)] 1 = mkF m 0 #[.val (.int x0)] [] := by first | (simp [entryFrame, mkF, argsToLocals, Value.category, maxLocals]; done) | rfl
theorem pdF : parseMethodDescriptor "(I)[B" = some ⟨[.int], some (.array .byte)⟩ := by decide +kernel
def own_QN (Z : State) (n : Nat) (n0 : Nat) (h0 : Heap) (v : Option Value) (h : Heap) (L : List Loc) : Prop := ∃ t, v = some (.ref t) ∧ Fr n0 L ∧ Ext h0 h ∧ h0.size ≤ t ∧ own_AF Z h t .byte n (fun _ => 0)
set_option maxRecDepth 65536 in
set_option maxHeartbeats 40000000 in
theorem rmF (l : Launch) (Z : State) (a0 : Array Value) (hw : ∀ d ∈ tables_1, d.before a0 Z = true) (n : Nat) (hn : n ≤ 256) (h0 : Heap) (n0 : Nat) :
    MetFree l (⟨"java/lang/StringUTF16", "newBytesFor", "(I)[B"⟩ : MethodName) (head1 [Jvm.Cond.code (⟨"java/lang/StringUTF16", "newBytesFor", "(I)[B"⟩ : MethodName) jdk_52_method_2_code 1 (some (.array .byte))] ({ frames := 1, cells := 1, slots := 512, locals := 12 } : Room)) (fun q_ U => q_ = #[(.int (Int32.ofNat n))] ∧ Z.Warmed39 U.vm ∧ U.heap = h0) (fun _ _ _ _ _ => True) (fun _ U o U' => ∃ v L, o = .returned v ∧ own_QN Z (2 * n) n0 h0 v U'.heap L ∧ FrameEnd U o U' L ({ frames := 1, cells := 1, slots := 512, locals := 12 } : Room).cells ({ frames := 1, cells := 1, slots := 512, locals := 12 } : Room).slots) := by
  refine MetFree.of_bodySF (plainFor_of_name pn_U) hisR ?_
  intro p e s m args below meth c s₁ Bd hml0 hP hK
  obtain ⟨rfl, hZ, hh⟩ := hP
  have hx := Bd.exec
  have hby := Bd.bytes
  have hml : c.maxLocals = 1 := hml0
  have hown : s.vm.findClass "java/lang/StringUTF16" = some m.cls := findClass_of_methodNamed Bd.named
  have hnm := (name_of_methodNamed Bd.named Bd.method).1
  have X0 : Stand p l e ({ frames := 1, cells := 1, slots := 512, locals := 12 } : Room) s m #[(.int (Int32.ofNat n))] below meth c s₁ [] 0 0 := Stand.of_body Bd
  have e0 : s₁.heap = h0 := by rw [← hh, Bd.state]; rfl
  have sg1 : ∀ target, Steps p.tables e below (s₁.setTop (mkF m 1 #[.val (.int (Int32.ofNat n))] [(.int (Int32.ofNat n))])) target → Steps p.tables e below (s₁.setTop (mkF m 0 #[.val (.int (Int32.ofNat n))] [])) target := by
    intro target kt
    show Steps p.tables e below (s₁.setTop (mkF m 0 #[.val (.int (Int32.ofNat n))] [])) _
    refine XS.iloadN X0.here hx rfl (hb hby dF_0) rfl ?_
    show Steps p.tables e below (s₁.setTop (mkF m 1 #[.val (.int (Int32.ofNat n))] [(.int (Int32.ofNat n))])) _
    exact kt
  obtain ⟨_, _, ⟨TA, LA, kA, nA⟩, -, XA, ⟨LcA, hQA, lA, yA, zA⟩, stA⟩ := Jvm.LawKit.callS X0 hx (y := (⟨"java/lang/StringUTF16", "newBytesLength", "(I)I"⟩ : MethodName)) hown (mvT hZ (hw _ (List.mem_of_getElem? (i := 45) rfl))) (mvT hZ (hw _ (List.mem_of_getElem? (i := 46) rfl))) (mvT hZ (hw _ (List.mem_of_getElem? (i := 26) rfl))) (mvT hZ (hw _ (List.mem_of_getElem? (i := 47) rfl))) (by decide) (backOf (W := 0) (rmL l Z a0 hw n (by omega) h0 n0) hZ (hw _ (List.mem_of_getElem? (i := 47) rfl)) (hw _ (List.mem_of_getElem? (i := 26) rfl)) (by decide) (by decide)) (g := (mkF m 1 #[.val (.int (Int32.ofNat n))] [(.int (Int32.ofNat n))])) rfl (by rw [hml]; rfl) (argsL := [(.int (Int32.ofNat n))]) (rest := []) (lenOf pdD rfl) rfl (by show 2 * 0 + _ ≤ _; exact Nat.le_of_eq rfl) (hb hby dF_1) (fun _ _ => ⟨rfl, e0, Nat.le_of_ble_eq_true rfl, Nat.le_of_ble_eq_true rfl⟩)
  dsimp only [Pt.U, Pt.locs, Pt.cells, Pt.slots] at XA lA yA zA stA hQA
  subst lA yA zA
  obtain ⟨rfl, NA, eA⟩ := hQA
  have MA := Fr.app (Fr.nil n0) NA
  obtain ⟨T1, h1, k1, X1, e1, E1, A1, st1⟩ := newP XA hx hZ (hw _ (List.mem_of_getElem? (i := 28) rfl)) eA (g := (mkF m 4 #[.val (.int (Int32.ofNat n))] [(.int (Int32.ofNat (2 * n)))])) rfl (hb hby dF_4) rfl (own_nn (by omega)) (cap := 512) (by rw [own_cl (by omega)]; omega) (by decide) (by decide) (by decide)
  have F1 : own_AF Z h1 h0.size .byte (2 * n) (fun _ => 0) := by
    obtain ⟨cc, B1, -, S1, -, H1, -⟩ := Arv.new A1 (own_nn (by omega))
    rw [own_cl (by omega)] at S1
    exact ⟨cc, B1, S1, fun i hi => H1 i (by rw [S1]; exact hi)⟩
  obtain ⟨fs, hr, hrun, hended, hW, hsame⟩ := X1.leave (v := some (.ref h0.size)) (fun h => by rw [Bd.returns] at h; cases h)
  refine ⟨_, _, castTop (efF m (Int32.ofNat n)) ?_, hrun, hended, _, _, rfl, ?_, ⟨_, rfl⟩, hW, hsame.mono (by decide) (by decide)⟩
  · show Steps p.tables e below (s₁.setTop (mkF m 0 #[.val (.int (Int32.ofNat n))] [])) _
    refine sg1 _ ?_
    show Steps p.tables e below (s₁.setTop (mkF m 1 #[.val (.int (Int32.ofNat n))] [(.int (Int32.ofNat n))])) _
    refine stA _ ?_
    show Steps p.tables e below (TA.setTop (mkF m 4 #[.val (.int (Int32.ofNat n))] [(.int (Int32.ofNat (2 * n)))])) _
    refine st1 _ ?_
    show Steps p.tables e below (T1.setTop (mkF m 6 #[.val (.int (Int32.ofNat n))] [(.ref h0.size)])) _
    exact retOut X1 hx (t := .array .byte) Bd.returns rfl (Or.inr (Or.inr (Or.inr (Or.inr ⟨rfl, rfl, rfl⟩)))) (hb hby dF_6) hr
  · show _
    exact by show own_QN Z (2 * n) n0 h0 _ T1.heap _; rw [e1]; exact ⟨_, rfl, MA, E1, Nat.le_refl _, F1⟩
theorem dP_0 : decode jdk_52_method_4_code 0 = .ok (.getstatic 44, 3) := by decide +kernel
theorem dP_3 : decode jdk_52_method_4_code 3 = .ok (.ifCond .ne 25, 3) := by decide +kernel
theorem dP_6 : decode jdk_52_method_4_code 6 = .ok (.iload_n 1, 1) := by decide +kernel
theorem dP_7 : decode jdk_52_method_4_code 7 = .ok (.ifCond .lt 11, 3) := by decide +kernel
theorem dP_10 : decode jdk_52_method_4_code 10 = .ok (.iload_n 1, 1) := by decide +kernel
theorem dP_11 : decode jdk_52_method_4_code 11 = .ok (.aload_n 0, 1) := by decide +kernel
theorem dP_12 : decode jdk_52_method_4_code 12 = .ok (.invokestatic 48, 3) := by decide +kernel
theorem dP_15 : decode jdk_52_method_4_code 15 = .ok (.if_icmp .lt 13, 3) := by decide +kernel
theorem dP_18 : decode jdk_52_method_4_code 18 = .ok (.new 52, 3) := by decide +kernel
theorem dP_21 : decode jdk_52_method_4_code 21 = .ok (.dup, 1) := by decide +kernel
theorem dP_22 : decode jdk_52_method_4_code 22 = .ok (.ldc 54, 2) := by decide +kernel
theorem dP_24 : decode jdk_52_method_4_code 24 = .ok (.invokespecial 56, 3) := by decide +kernel
theorem dP_27 : decode jdk_52_method_4_code 27 = .ok (.athrow, 1) := by decide +kernel
theorem dP_28 : decode jdk_52_method_4_code 28 = .ok (.iload_n 1, 1) := by decide +kernel
theorem dP_29 : decode jdk_52_method_4_code 29 = .ok (.iconst 1, 1) := by decide +kernel
theorem dP_30 : decode jdk_52_method_4_code 30 = .ok (.ishl, 1) := by decide +kernel
theorem dP_31 : decode jdk_52_method_4_code 31 = .ok (.istore_n 1, 1) := by decide +kernel
theorem dP_32 : decode jdk_52_method_4_code 32 = .ok (.aload_n 0, 1) := by decide +kernel
theorem dP_33 : decode jdk_52_method_4_code 33 = .ok (.iload_n 1, 1) := by decide +kernel
theorem dP_34 : decode jdk_52_method_4_code 34 = .ok (.iinc 1 1, 3) := by decide +kernel
theorem dP_37 : decode jdk_52_method_4_code 37 = .ok (.iload_n 2, 1) := by decide +kernel
theorem dP_38 : decode jdk_52_method_4_code 38 = .ok (.getstatic 59, 3) := by decide +kernel
theorem dP_41 : decode jdk_52_method_4_code 41 = .ok (.ishr, 1) := by decide +kernel
theorem dP_42 : decode jdk_52_method_4_code 42 = .ok (.i2b, 1) := by decide +kernel
theorem dP_43 : decode jdk_52_method_4_code 43 = .ok (.bastore, 1) := by decide +kernel
theorem dP_44 : decode jdk_52_method_4_code 44 = .ok (.aload_n 0, 1) := by decide +kernel
theorem dP_45 : decode jdk_52_method_4_code 45 = .ok (.iload_n 1, 1) := by decide +kernel
theorem dP_46 : decode jdk_52_method_4_code 46 = .ok (.iload_n 2, 1) := by decide +kernel
theorem dP_47 : decode jdk_52_method_4_code 47 = .ok (.getstatic 63, 3) := by decide +kernel
theorem dP_50 : decode jdk_52_method_4_code 50 = .ok (.ishr, 1) := by decide +kernel
theorem dP_51 : decode jdk_52_method_4_code 51 = .ok (.i2b, 1) := by decide +kernel
theorem dP_52 : decode jdk_52_method_4_code 52 = .ok (.bastore, 1) := by decide +kernel
theorem dP_53 : decode jdk_52_method_4_code 53 = .ok (.return_, 1) := by decide +kernel
theorem efP (m : MethodId) (x0 : Addr) (x1 : Int32) (x2 : Int32) : entryFrame m #[(.ref x0), (.int x1), (.int x2)] 3 = mkF m 0 #[.val (.ref x0), .val (.int x1), .val (.int x2)] [] := by first | (simp [entryFrame, mkF, argsToLocals, Value.category, maxLocals]; done) | rfl
theorem pdP : parseMethodDescriptor "([BII)V" = some ⟨[(.array .byte), .int, .int], none⟩ := by decide +kernel
def own_put (g : Nat → Int32) (i : Nat) (x : Int32) : Nat → Int32 := own_up1 (own_up1 g (2 * i) (own_lo x)) (2 * i + 1) (own_hi x)
def own_QP (Z : State) (t : Addr) (N : Nat) (g : Nat → Int32) (n0 : Nat) (h0 : Heap) (v : Option Value) (h : Heap) (L : List Loc) : Prop := v = none ∧ Fr n0 L ∧ Keep h0 h [t] ∧ own_AF Z h t .byte N g
set_option maxRecDepth 65536 in
set_option maxHeartbeats 40000000 in
theorem rmP (l : Launch) (Z : State) (a0 : Array Value) (hw : ∀ d ∈ tables_1, d.before a0 Z = true) (t : Addr) (N i : Nat) (x : Int32) (g : Nat → Int32) (h0 : Heap) (n0 : Nat) (ge : n0 ≤ t) (hi : 2 * i + 1 < N) (hN : N ≤ 1000) (Ft : own_AF Z h0 t .byte N g) (Uu : own_U Z h0) :
    MetFree l (⟨"java/lang/StringUTF16", "putChar", "([BII)V"⟩ : MethodName) (head1 [Jvm.Cond.code (⟨"java/lang/StringUTF16", "putChar", "([BII)V"⟩ : MethodName) jdk_52_method_4_code 3 none] ({ frames := 0, cells := 0, slots := 0, locals := 0 } : Room)) (fun q_ U => q_ = #[(.ref t), (.int (Int32.ofNat i)), (.int x)] ∧ Z.Warmed39 U.vm ∧ U.heap = h0) (fun _ _ _ _ _ => True) (fun _ U o U' => ∃ v L, o = .returned v ∧ own_QP Z t N (own_put g i x) n0 h0 v U'.heap L ∧ FrameEnd U o U' L ({ frames := 0, cells := 0, slots := 0, locals := 0 } : Room).cells ({ frames := 0, cells := 0, slots := 0, locals := 0 } : Room).slots) := by
  refine MetFree.of_bodySF (plainFor_of_name pn_U) hisR ?_
  intro p e s m args below meth c s₁ Bd hml0 hP hK
  obtain ⟨rfl, hZ, hh⟩ := hP
  have hx := Bd.exec
  have hby := Bd.bytes
  have hml : c.maxLocals = 3 := hml0
  have hown : s.vm.findClass "java/lang/StringUTF16" = some m.cls := findClass_of_methodNamed Bd.named
  have hnm := (name_of_methodNamed Bd.named Bd.method).1
  have X0 : Stand p l e ({ frames := 0, cells := 0, slots := 0, locals := 0 } : Room) s m #[(.ref t), (.int (Int32.ofNat i)), (.int x)] below meth c s₁ [] 0 0 := Stand.of_body Bd
  have e0 : s₁.heap = h0 := by rw [← hh, Bd.state]; rfl
  obtain ⟨ct, At, St, Ht⟩ := id Ft
  obtain ⟨T1, X1, e1, st1⟩ := getS X0 hx hZ hown (host := "") (hw _ (List.mem_of_getElem? (i := 52) rfl)) Via.refl e0 Uu.1 (g := (mkF m 0 #[.val (.ref t), .val (.int (Int32.ofNat i)), .val (.int x)] [])) rfl (hb hby dP_0)
  have sg2 : ∀ target, Steps p.tables e below (T1.setTop (mkF m 38 #[.val (.ref t), .val (.int (Int32.ofNat (2 * i + 1))), .val (.int x)] [(.int x), (.int (Int32.ofNat (2 * i))), (.ref t)])) target → Steps p.tables e below (T1.setTop (mkF m 3 #[.val (.ref t), .val (.int (Int32.ofNat i)), .val (.int x)] [(.int (1 : Int32))])) target := by
    intro target kt
    show Steps p.tables e below (T1.setTop (mkF m 3 #[.val (.ref t), .val (.int (Int32.ofNat i)), .val (.int x)] [(.int (1 : Int32))])) _
    refine XS.ifYes X1.here hx rfl (pc0 := 3) (pc' := 28) rfl (hb hby dP_3) rfl (by decide) (by decide) (by decide) ?_
    show Steps p.tables e below (T1.setTop (mkF m 28 #[.val (.ref t), .val (.int (Int32.ofNat i)), .val (.int x)] [])) _
    refine XS.iloadN X1.here hx rfl (hb hby dP_28) rfl ?_
    show Steps p.tables e below (T1.setTop (mkF m 29 #[.val (.ref t), .val (.int (Int32.ofNat i)), .val (.int x)] [(.int (Int32.ofNat i))])) _
    refine XS.iconst X1.here hx rfl (hb hby dP_29) ?_
    show Steps p.tables e below (T1.setTop (mkF m 30 #[.val (.ref t), .val (.int (Int32.ofNat i)), .val (.int x)] [(.int (1 : Int32)), (.int (Int32.ofNat i))])) _
    refine XS.ishl X1.here hx rfl (hb hby dP_30) rfl ?_
    show Steps p.tables e below (T1.setTop (mkF m 31 #[.val (.ref t), .val (.int (Int32.ofNat i)), .val (.int x)] [(.int ((Int32.ofNat i) <<< ((1 : Int32) &&& 31)))])) _
    rw [(own_dbl (by omega : i ≤ 1000))]
    show Steps p.tables e below (T1.setTop (mkF m 31 #[.val (.ref t), .val (.int (Int32.ofNat i)), .val (.int x)] [(.int (Int32.ofNat (2 * i)))])) _
    refine XS.istoreN X1.here hx rfl (hb hby dP_31) rfl (l' := #[.val (.ref t), .val (.int (Int32.ofNat (2 * i))), .val (.int x)]) rfl ?_
    show Steps p.tables e below (T1.setTop (mkF m 32 #[.val (.ref t), .val (.int (Int32.ofNat (2 * i))), .val (.int x)] [])) _
    refine XS.aloadN X1.here hx rfl (hb hby dP_32) rfl rfl ?_
    show Steps p.tables e below (T1.setTop (mkF m 33 #[.val (.ref t), .val (.int (Int32.ofNat (2 * i))), .val (.int x)] [(.ref t)])) _
    refine XS.iloadN X1.here hx rfl (hb hby dP_33) rfl ?_
    show Steps p.tables e below (T1.setTop (mkF m 34 #[.val (.ref t), .val (.int (Int32.ofNat (2 * i))), .val (.int x)] [(.int (Int32.ofNat (2 * i))), (.ref t)])) _
    refine XS.iinc X1.here hx rfl (hb hby dP_34) rfl (l' := #[.val (.ref t), .val (.int ((Int32.ofNat (2 * i)) + (1 : Int32))), .val (.int x)]) rfl ?_
    show Steps p.tables e below (T1.setTop (mkF m 37 #[.val (.ref t), .val (.int ((Int32.ofNat (2 * i)) + (1 : Int32))), .val (.int x)] [(.int (Int32.ofNat (2 * i))), (.ref t)])) _
    refine XS.iloadN X1.here hx rfl (hb hby dP_37) rfl ?_
    show Steps p.tables e below (T1.setTop (mkF m 38 #[.val (.ref t), .val (.int ((Int32.ofNat (2 * i)) + (1 : Int32))), .val (.int x)] [(.int x), (.int (Int32.ofNat (2 * i))), (.ref t)])) _
    rw [(own_one (2 * i))]
    show Steps p.tables e below (T1.setTop (mkF m 38 #[.val (.ref t), .val (.int (Int32.ofNat (2 * i + 1))), .val (.int x)] [(.int x), (.int (Int32.ofNat (2 * i))), (.ref t)])) _
    exact kt
  obtain ⟨T3, X3, e3, st3⟩ := getS X1 hx hZ hown (host := "") (hw _ (List.mem_of_getElem? (i := 53) rfl)) Via.refl e1 Uu.2.1 (g := (mkF m 38 #[.val (.ref t), .val (.int (Int32.ofNat (2 * i + 1))), .val (.int x)] [(.int x), (.int (Int32.ofNat (2 * i))), (.ref t)])) rfl (hb hby dP_38)
  have sg4 : ∀ target, Steps p.tables e below (T3.setTop (mkF m 43 #[.val (.ref t), .val (.int (Int32.ofNat (2 * i + 1))), .val (.int x)] [(.int (((x >>> ((0 : Int32) &&& 31))).toInt8.toInt32)), (.int (Int32.ofNat (2 * i))), (.ref t)])) target → Steps p.tables e below (T3.setTop (mkF m 41 #[.val (.ref t), .val (.int (Int32.ofNat (2 * i + 1))), .val (.int x)] [(.int (0 : Int32)), (.int x), (.int (Int32.ofNat (2 * i))), (.ref t)])) target := by
    intro target kt
    show Steps p.tables e below (T3.setTop (mkF m 41 #[.val (.ref t), .val (.int (Int32.ofNat (2 * i + 1))), .val (.int x)] [(.int (0 : Int32)), (.int x), (.int (Int32.ofNat (2 * i))), (.ref t)])) _
    refine XS.ishr X3.here hx rfl (hb hby dP_41) rfl ?_
    show Steps p.tables e below (T3.setTop (mkF m 42 #[.val (.ref t), .val (.int (Int32.ofNat (2 * i + 1))), .val (.int x)] [(.int (x >>> ((0 : Int32) &&& 31))), (.int (Int32.ofNat (2 * i))), (.ref t)])) _
    refine XS.i2b X3.here hx rfl (hb hby dP_42) rfl ?_
    show Steps p.tables e below (T3.setTop (mkF m 43 #[.val (.ref t), .val (.int (Int32.ofNat (2 * i + 1))), .val (.int x)] [(.int (((x >>> ((0 : Int32) &&& 31))).toInt8.toInt32)), (.int (Int32.ofNat (2 * i))), (.ref t)])) _
    exact kt
  obtain ⟨T8, h8, X8, e8, W8, st8⟩ := stB X3 hx hZ e3 At (j := (Int32.ofNat (2 * i))) (own_inb St (by omega) (by omega)) (g := (mkF m 43 #[.val (.ref t), .val (.int (Int32.ofNat (2 * i + 1))), .val (.int x)] [(.int (((x >>> ((0 : Int32) &&& 31))).toInt8.toInt32)), (.int (Int32.ofNat (2 * i))), (.ref t)])) rfl rfl (hb hby dP_43)
  rw [own_nb] at W8
  have N8 := Fr.snoc X8 (Fr.nil n0) ge
  have F1 := own_setAt At St Ht W8 (2 * i) (own_cl (by omega))
  obtain ⟨cu, Au, Su, Hu⟩ := id F1
  have sg5 : ∀ target, Steps p.tables e below (T8.setTop (mkF m 47 #[.val (.ref t), .val (.int (Int32.ofNat (2 * i + 1))), .val (.int x)] [(.int x), (.int (Int32.ofNat (2 * i + 1))), (.ref t)])) target → Steps p.tables e below (T8.setTop (mkF m 44 #[.val (.ref t), .val (.int (Int32.ofNat (2 * i + 1))), .val (.int x)] [])) target := by
    intro target kt
    show Steps p.tables e below (T8.setTop (mkF m 44 #[.val (.ref t), .val (.int (Int32.ofNat (2 * i + 1))), .val (.int x)] [])) _
    refine XS.aloadN X8.here hx rfl (hb hby dP_44) rfl rfl ?_
    show Steps p.tables e below (T8.setTop (mkF m 45 #[.val (.ref t), .val (.int (Int32.ofNat (2 * i + 1))), .val (.int x)] [(.ref t)])) _
    refine XS.iloadN X8.here hx rfl (hb hby dP_45) rfl ?_
    show Steps p.tables e below (T8.setTop (mkF m 46 #[.val (.ref t), .val (.int (Int32.ofNat (2 * i + 1))), .val (.int x)] [(.int (Int32.ofNat (2 * i + 1))), (.ref t)])) _
    refine XS.iloadN X8.here hx rfl (hb hby dP_46) rfl ?_
    show Steps p.tables e below (T8.setTop (mkF m 47 #[.val (.ref t), .val (.int (Int32.ofNat (2 * i + 1))), .val (.int x)] [(.int x), (.int (Int32.ofNat (2 * i + 1))), (.ref t)])) _
    exact kt
  obtain ⟨T6, X6, e6, st6⟩ := getS X8 hx hZ hown (host := "") (hw _ (List.mem_of_getElem? (i := 54) rfl)) Via.refl e8 (Uu.2.2.wr W8) (g := (mkF m 47 #[.val (.ref t), .val (.int (Int32.ofNat (2 * i + 1))), .val (.int x)] [(.int x), (.int (Int32.ofNat (2 * i + 1))), (.ref t)])) rfl (hb hby dP_47)
  have sg7 : ∀ target, Steps p.tables e below (T6.setTop (mkF m 52 #[.val (.ref t), .val (.int (Int32.ofNat (2 * i + 1))), .val (.int x)] [(.int (((x >>> ((8 : Int32) &&& 31))).toInt8.toInt32)), (.int (Int32.ofNat (2 * i + 1))), (.ref t)])) target → Steps p.tables e below (T6.setTop (mkF m 50 #[.val (.ref t), .val (.int (Int32.ofNat (2 * i + 1))), .val (.int x)] [(.int (8 : Int32)), (.int x), (.int (Int32.ofNat (2 * i + 1))), (.ref t)])) target := by
    intro target kt
    show Steps p.tables e below (T6.setTop (mkF m 50 #[.val (.ref t), .val (.int (Int32.ofNat (2 * i + 1))), .val (.int x)] [(.int (8 : Int32)), (.int x), (.int (Int32.ofNat (2 * i + 1))), (.ref t)])) _
    refine XS.ishr X6.here hx rfl (hb hby dP_50) rfl ?_
    show Steps p.tables e below (T6.setTop (mkF m 51 #[.val (.ref t), .val (.int (Int32.ofNat (2 * i + 1))), .val (.int x)] [(.int (x >>> ((8 : Int32) &&& 31))), (.int (Int32.ofNat (2 * i + 1))), (.ref t)])) _
    refine XS.i2b X6.here hx rfl (hb hby dP_51) rfl ?_
    show Steps p.tables e below (T6.setTop (mkF m 52 #[.val (.ref t), .val (.int (Int32.ofNat (2 * i + 1))), .val (.int x)] [(.int (((x >>> ((8 : Int32) &&& 31))).toInt8.toInt32)), (.int (Int32.ofNat (2 * i + 1))), (.ref t)])) _
    exact kt
  obtain ⟨T9, h9, X9, e9, W9, st9⟩ := stB X6 hx hZ e6 Au (j := (Int32.ofNat (2 * i + 1))) (own_inb Su (by omega) (by omega)) (g := (mkF m 52 #[.val (.ref t), .val (.int (Int32.ofNat (2 * i + 1))), .val (.int x)] [(.int (((x >>> ((8 : Int32) &&& 31))).toInt8.toInt32)), (.int (Int32.ofNat (2 * i + 1))), (.ref t)])) rfl rfl (hb hby dP_52)
  rw [own_nb] at W9
  have N9 := Fr.snoc X9 (N8) ge
  have F2 := own_setAt Au Su Hu W9 (2 * i + 1) (own_cl (by omega))
  obtain ⟨fs, hr, hrun, hended, hW, hsame⟩ := X9.leave (v := none) (fun _ => rfl)
  refine ⟨_, _, castTop (efP m t (Int32.ofNat i) x) ?_, hrun, hended, _, _, rfl, ?_, ⟨_, rfl⟩, hW, hsame.mono (by decide) (by decide)⟩
  · show Steps p.tables e below (s₁.setTop (mkF m 0 #[.val (.ref t), .val (.int (Int32.ofNat i)), .val (.int x)] [])) _
    refine st1 _ ?_
    show Steps p.tables e below (T1.setTop (mkF m 3 #[.val (.ref t), .val (.int (Int32.ofNat i)), .val (.int x)] [(.int (1 : Int32))])) _
    refine sg2 _ ?_
    show Steps p.tables e below (T1.setTop (mkF m 38 #[.val (.ref t), .val (.int (Int32.ofNat (2 * i + 1))), .val (.int x)] [(.int x), (.int (Int32.ofNat (2 * i))), (.ref t)])) _
    refine st3 _ ?_
    show Steps p.tables e below (T3.setTop (mkF m 41 #[.val (.ref t), .val (.int (Int32.ofNat (2 * i + 1))), .val (.int x)] [(.int (0 : Int32)), (.int x), (.int (Int32.ofNat (2 * i))), (.ref t)])) _
    refine sg4 _ ?_
    show Steps p.tables e below (T3.setTop (mkF m 43 #[.val (.ref t), .val (.int (Int32.ofNat (2 * i + 1))), .val (.int x)] [(.int (((x >>> ((0 : Int32) &&& 31))).toInt8.toInt32)), (.int (Int32.ofNat (2 * i))), (.ref t)])) _
    refine st8 _ ?_
    show Steps p.tables e below (T8.setTop (mkF m 44 #[.val (.ref t), .val (.int (Int32.ofNat (2 * i + 1))), .val (.int x)] [])) _
    refine sg5 _ ?_
    show Steps p.tables e below (T8.setTop (mkF m 47 #[.val (.ref t), .val (.int (Int32.ofNat (2 * i + 1))), .val (.int x)] [(.int x), (.int (Int32.ofNat (2 * i + 1))), (.ref t)])) _
    refine st6 _ ?_
    show Steps p.tables e below (T6.setTop (mkF m 50 #[.val (.ref t), .val (.int (Int32.ofNat (2 * i + 1))), .val (.int x)] [(.int (8 : Int32)), (.int x), (.int (Int32.ofNat (2 * i + 1))), (.ref t)])) _
    refine sg7 _ ?_
    show Steps p.tables e below (T6.setTop (mkF m 52 #[.val (.ref t), .val (.int (Int32.ofNat (2 * i + 1))), .val (.int x)] [(.int (((x >>> ((8 : Int32) &&& 31))).toInt8.toInt32)), (.int (Int32.ofNat (2 * i + 1))), (.ref t)])) _
    refine st9 _ ?_
    show Steps p.tables e below (T9.setTop (mkF m 53 #[.val (.ref t), .val (.int (Int32.ofNat (2 * i + 1))), .val (.int x)] [])) _
    exact X9.returnOut hx Bd.returns (hb hby dP_53) hr
  · show _
    exact by show own_QP Z t N _ n0 h0 none T9.heap _; rw [e9]; exact ⟨rfl, N9, ((Keep.refl _ _).wr W8 (Or.inl (List.mem_cons_self ..))).wr W9 (Or.inl (List.mem_cons_self ..)), F2⟩
theorem dG_0 : decode jdk_52_method_5_code 0 = .ok (.getstatic 44, 3) := by decide +kernel
theorem dG_3 : decode jdk_52_method_5_code 3 = .ok (.ifCond .ne 25, 3) := by decide +kernel
theorem dG_6 : decode jdk_52_method_5_code 6 = .ok (.iload_n 1, 1) := by decide +kernel
theorem dG_7 : decode jdk_52_method_5_code 7 = .ok (.ifCond .lt 11, 3) := by decide +kernel
theorem dG_10 : decode jdk_52_method_5_code 10 = .ok (.iload_n 1, 1) := by decide +kernel
theorem dG_11 : decode jdk_52_method_5_code 11 = .ok (.aload_n 0, 1) := by decide +kernel
theorem dG_12 : decode jdk_52_method_5_code 12 = .ok (.invokestatic 48, 3) := by decide +kernel
theorem dG_15 : decode jdk_52_method_5_code 15 = .ok (.if_icmp .lt 13, 3) := by decide +kernel
theorem dG_18 : decode jdk_52_method_5_code 18 = .ok (.new 52, 3) := by decide +kernel
theorem dG_21 : decode jdk_52_method_5_code 21 = .ok (.dup, 1) := by decide +kernel
theorem dG_22 : decode jdk_52_method_5_code 22 = .ok (.ldc 54, 2) := by decide +kernel
theorem dG_24 : decode jdk_52_method_5_code 24 = .ok (.invokespecial 56, 3) := by decide +kernel
theorem dG_27 : decode jdk_52_method_5_code 27 = .ok (.athrow, 1) := by decide +kernel
theorem dG_28 : decode jdk_52_method_5_code 28 = .ok (.iload_n 1, 1) := by decide +kernel
theorem dG_29 : decode jdk_52_method_5_code 29 = .ok (.iconst 1, 1) := by decide +kernel
theorem dG_30 : decode jdk_52_method_5_code 30 = .ok (.ishl, 1) := by decide +kernel
theorem dG_31 : decode jdk_52_method_5_code 31 = .ok (.istore_n 1, 1) := by decide +kernel
theorem dG_32 : decode jdk_52_method_5_code 32 = .ok (.aload_n 0, 1) := by decide +kernel
theorem dG_33 : decode jdk_52_method_5_code 33 = .ok (.iload_n 1, 1) := by decide +kernel
theorem dG_34 : decode jdk_52_method_5_code 34 = .ok (.iinc 1 1, 3) := by decide +kernel
theorem dG_37 : decode jdk_52_method_5_code 37 = .ok (.baload, 1) := by decide +kernel
theorem dG_38 : decode jdk_52_method_5_code 38 = .ok (.sipush 255, 3) := by decide +kernel
theorem dG_41 : decode jdk_52_method_5_code 41 = .ok (.iand, 1) := by decide +kernel
theorem dG_42 : decode jdk_52_method_5_code 42 = .ok (.getstatic 59, 3) := by decide +kernel
theorem dG_45 : decode jdk_52_method_5_code 45 = .ok (.ishl, 1) := by decide +kernel
theorem dG_46 : decode jdk_52_method_5_code 46 = .ok (.aload_n 0, 1) := by decide +kernel
theorem dG_47 : decode jdk_52_method_5_code 47 = .ok (.iload_n 1, 1) := by decide +kernel
theorem dG_48 : decode jdk_52_method_5_code 48 = .ok (.baload, 1) := by decide +kernel
theorem dG_49 : decode jdk_52_method_5_code 49 = .ok (.sipush 255, 3) := by decide +kernel
theorem dG_52 : decode jdk_52_method_5_code 52 = .ok (.iand, 1) := by decide +kernel
theorem dG_53 : decode jdk_52_method_5_code 53 = .ok (.getstatic 63, 3) := by decide +kernel
theorem dG_56 : decode jdk_52_method_5_code 56 = .ok (.ishl, 1) := by decide +kernel
theorem dG_57 : decode jdk_52_method_5_code 57 = .ok (.ior, 1) := by decide +kernel
theorem dG_58 : decode jdk_52_method_5_code 58 = .ok (.i2c, 1) := by decide +kernel
theorem dG_59 : decode jdk_52_method_5_code 59 = .ok (.ireturn, 1) := by decide +kernel
theorem efG (m : MethodId) (x0 : Addr) (x1 : Int32) : entryFrame m #[(.ref x0), (.int x1)] 2 = mkF m 0 #[.val (.ref x0), .val (.int x1)] [] := by first | (simp [entryFrame, mkF, argsToLocals, Value.category, maxLocals]; done) | rfl
theorem pdG : parseMethodDescriptor "([BI)C" = some ⟨[(.array .byte), .int], some .char⟩ := by decide +kernel
set_option maxRecDepth 65536 in
set_option maxHeartbeats 40000000 in
theorem rmG (l : Launch) (Z : State) (a0 : Array Value) (hw : ∀ d ∈ tables_1, d.before a0 Z = true) (t : Addr) (n i : Nat) (f : Nat → Int32) (h0 : Heap) (n0 : Nat) (hi : i < n) (hn : n ≤ 256) (hf : own_c16 (f i)) (Ft : own_AF Z h0 t .byte (2 * n) (own_b2 f)) (Uu : own_U Z h0) :
    MetFree l (⟨"java/lang/StringUTF16", "getChar", "([BI)C"⟩ : MethodName) (head1 [Jvm.Cond.code (⟨"java/lang/StringUTF16", "getChar", "([BI)C"⟩ : MethodName) jdk_52_method_5_code 2 (some .char)] ({ frames := 0, cells := 0, slots := 0, locals := 0 } : Room)) (fun q_ U => q_ = #[(.ref t), (.int (Int32.ofNat i))] ∧ Z.Warmed39 U.vm ∧ U.heap = h0) (fun _ _ _ _ _ => True) (fun _ U o U' => ∃ v L, o = .returned v ∧ own_QS n0 (.int (f i)) h0 v U'.heap L ∧ FrameEnd U o U' L ({ frames := 0, cells := 0, slots := 0, locals := 0 } : Room).cells ({ frames := 0, cells := 0, slots := 0, locals := 0 } : Room).slots) := by
  refine MetFree.of_bodySF (plainFor_of_name pn_U) hisR ?_
  intro p e s m args below meth c s₁ Bd hml0 hP hK
  obtain ⟨rfl, hZ, hh⟩ := hP
  have hx := Bd.exec
  have hby := Bd.bytes
  have hml : c.maxLocals = 2 := hml0
  have hown : s.vm.findClass "java/lang/StringUTF16" = some m.cls := findClass_of_methodNamed Bd.named
  have hnm := (name_of_methodNamed Bd.named Bd.method).1
  have X0 : Stand p l e ({ frames := 0, cells := 0, slots := 0, locals := 0 } : Room) s m #[(.ref t), (.int (Int32.ofNat i))] below meth c s₁ [] 0 0 := Stand.of_body Bd
  have e0 : s₁.heap = h0 := by rw [← hh, Bd.state]; rfl
  obtain ⟨ct, At, St, Ht⟩ := id Ft
  obtain ⟨T1, X1, e1, st1⟩ := getS X0 hx hZ hown (host := "") (hw _ (List.mem_of_getElem? (i := 52) rfl)) Via.refl e0 Uu.1 (g := (mkF m 0 #[.val (.ref t), .val (.int (Int32.ofNat i))] [])) rfl (hb hby dG_0)
  have sg2 : ∀ target, Steps p.tables e below (T1.setTop (mkF m 42 #[.val (.ref t), .val (.int (Int32.ofNat (2 * i + 1)))] [(.int ((own_lo (f i)) &&& (255 : Int32)))])) target → Steps p.tables e below (T1.setTop (mkF m 3 #[.val (.ref t), .val (.int (Int32.ofNat i))] [(.int (1 : Int32))])) target := by
    intro target kt
    show Steps p.tables e below (T1.setTop (mkF m 3 #[.val (.ref t), .val (.int (Int32.ofNat i))] [(.int (1 : Int32))])) _
    refine XS.ifYes X1.here hx rfl (pc0 := 3) (pc' := 28) rfl (hb hby dG_3) rfl (by decide) (by decide) (by decide) ?_
    show Steps p.tables e below (T1.setTop (mkF m 28 #[.val (.ref t), .val (.int (Int32.ofNat i))] [])) _
    refine XS.iloadN X1.here hx rfl (hb hby dG_28) rfl ?_
    show Steps p.tables e below (T1.setTop (mkF m 29 #[.val (.ref t), .val (.int (Int32.ofNat i))] [(.int (Int32.ofNat i))])) _
    refine XS.iconst X1.here hx rfl (hb hby dG_29) ?_
    show Steps p.tables e below (T1.setTop (mkF m 30 #[.val (.ref t), .val (.int (Int32.ofNat i))] [(.int (1 : Int32)), (.int (Int32.ofNat i))])) _
    refine XS.ishl X1.here hx rfl (hb hby dG_30) rfl ?_
    show Steps p.tables e below (T1.setTop (mkF m 31 #[.val (.ref t), .val (.int (Int32.ofNat i))] [(.int ((Int32.ofNat i) <<< ((1 : Int32) &&& 31)))])) _
    rw [(own_dbl (by omega : i ≤ 1000))]
    show Steps p.tables e below (T1.setTop (mkF m 31 #[.val (.ref t), .val (.int (Int32.ofNat i))] [(.int (Int32.ofNat (2 * i)))])) _
    refine XS.istoreN X1.here hx rfl (hb hby dG_31) rfl (l' := #[.val (.ref t), .val (.int (Int32.ofNat (2 * i)))]) rfl ?_
    show Steps p.tables e below (T1.setTop (mkF m 32 #[.val (.ref t), .val (.int (Int32.ofNat (2 * i)))] [])) _
    refine XS.aloadN X1.here hx rfl (hb hby dG_32) rfl rfl ?_
    show Steps p.tables e below (T1.setTop (mkF m 33 #[.val (.ref t), .val (.int (Int32.ofNat (2 * i)))] [(.ref t)])) _
    refine XS.iloadN X1.here hx rfl (hb hby dG_33) rfl ?_
    show Steps p.tables e below (T1.setTop (mkF m 34 #[.val (.ref t), .val (.int (Int32.ofNat (2 * i)))] [(.int (Int32.ofNat (2 * i))), (.ref t)])) _
    refine XS.iinc X1.here hx rfl (hb hby dG_34) rfl (l' := #[.val (.ref t), .val (.int ((Int32.ofNat (2 * i)) + (1 : Int32)))]) rfl ?_
    show Steps p.tables e below (T1.setTop (mkF m 37 #[.val (.ref t), .val (.int ((Int32.ofNat (2 * i)) + (1 : Int32)))] [(.int (Int32.ofNat (2 * i))), (.ref t)])) _
    rw [(own_one (2 * i))]
    show Steps p.tables e below (T1.setTop (mkF m 37 #[.val (.ref t), .val (.int (Int32.ofNat (2 * i + 1)))] [(.int (Int32.ofNat (2 * i))), (.ref t)])) _
    refine X1.baloadBytes hx (j := (Int32.ofNat (2 * i))) (v := (.int (own_b2 f (2 * i)))) (by rw [e1]; exact At.1) (State.isArrayOf_alike hZ.alike At.2.1) At.2.2 (own_inb St (by omega) (by omega)) (own_gt Ht (by omega) (by omega)) (g := (mkF m 37 #[.val (.ref t), .val (.int (Int32.ofNat (2 * i + 1)))] [(.int (Int32.ofNat (2 * i))), (.ref t)])) rfl rfl (hb hby dG_37) _ ?_
    show Steps p.tables e below (T1.setTop (mkF m 38 #[.val (.ref t), .val (.int (Int32.ofNat (2 * i + 1)))] [(.int (own_b2 f (2 * i)))])) _
    rw [own_b2e]
    show Steps p.tables e below (T1.setTop (mkF m 38 #[.val (.ref t), .val (.int (Int32.ofNat (2 * i + 1)))] [(.int (own_lo (f i)))])) _
    refine XS.sipush X1.here hx rfl (hb hby dG_38) ?_
    show Steps p.tables e below (T1.setTop (mkF m 41 #[.val (.ref t), .val (.int (Int32.ofNat (2 * i + 1)))] [(.int (255 : Int32)), (.int (own_lo (f i)))])) _
    refine XS.iand X1.here hx rfl (hb hby dG_41) rfl ?_
    show Steps p.tables e below (T1.setTop (mkF m 42 #[.val (.ref t), .val (.int (Int32.ofNat (2 * i + 1)))] [(.int ((own_lo (f i)) &&& (255 : Int32)))])) _
    exact kt
  obtain ⟨T3, X3, e3, st3⟩ := getS X1 hx hZ hown (host := "") (hw _ (List.mem_of_getElem? (i := 53) rfl)) Via.refl e1 Uu.2.1 (g := (mkF m 42 #[.val (.ref t), .val (.int (Int32.ofNat (2 * i + 1)))] [(.int ((own_lo (f i)) &&& (255 : Int32)))])) rfl (hb hby dG_42)
  have sg4 : ∀ target, Steps p.tables e below (T3.setTop (mkF m 53 #[.val (.ref t), .val (.int (Int32.ofNat (2 * i + 1)))] [(.int ((own_hi (f i)) &&& (255 : Int32))), (.int (((own_lo (f i)) &&& (255 : Int32)) <<< ((0 : Int32) &&& 31)))])) target → Steps p.tables e below (T3.setTop (mkF m 45 #[.val (.ref t), .val (.int (Int32.ofNat (2 * i + 1)))] [(.int (0 : Int32)), (.int ((own_lo (f i)) &&& (255 : Int32)))])) target := by
    intro target kt
    show Steps p.tables e below (T3.setTop (mkF m 45 #[.val (.ref t), .val (.int (Int32.ofNat (2 * i + 1)))] [(.int (0 : Int32)), (.int ((own_lo (f i)) &&& (255 : Int32)))])) _
    refine XS.ishl X3.here hx rfl (hb hby dG_45) rfl ?_
    show Steps p.tables e below (T3.setTop (mkF m 46 #[.val (.ref t), .val (.int (Int32.ofNat (2 * i + 1)))] [(.int (((own_lo (f i)) &&& (255 : Int32)) <<< ((0 : Int32) &&& 31)))])) _
    refine XS.aloadN X3.here hx rfl (hb hby dG_46) rfl rfl ?_
    show Steps p.tables e below (T3.setTop (mkF m 47 #[.val (.ref t), .val (.int (Int32.ofNat (2 * i + 1)))] [(.ref t), (.int (((own_lo (f i)) &&& (255 : Int32)) <<< ((0 : Int32) &&& 31)))])) _
    refine XS.iloadN X3.here hx rfl (hb hby dG_47) rfl ?_
    show Steps p.tables e below (T3.setTop (mkF m 48 #[.val (.ref t), .val (.int (Int32.ofNat (2 * i + 1)))] [(.int (Int32.ofNat (2 * i + 1))), (.ref t), (.int (((own_lo (f i)) &&& (255 : Int32)) <<< ((0 : Int32) &&& 31)))])) _
    refine X3.baloadBytes hx (j := (Int32.ofNat (2 * i + 1))) (v := (.int (own_b2 f (2 * i + 1)))) (by rw [e3]; exact At.1) (State.isArrayOf_alike hZ.alike At.2.1) At.2.2 (own_inb St (by omega) (by omega)) (own_gt Ht (by omega) (by omega)) (g := (mkF m 48 #[.val (.ref t), .val (.int (Int32.ofNat (2 * i + 1)))] [(.int (Int32.ofNat (2 * i + 1))), (.ref t), (.int (((own_lo (f i)) &&& (255 : Int32)) <<< ((0 : Int32) &&& 31)))])) rfl rfl (hb hby dG_48) _ ?_
    show Steps p.tables e below (T3.setTop (mkF m 49 #[.val (.ref t), .val (.int (Int32.ofNat (2 * i + 1)))] [(.int (own_b2 f (2 * i + 1))), (.int (((own_lo (f i)) &&& (255 : Int32)) <<< ((0 : Int32) &&& 31)))])) _
    rw [own_b2o]
    show Steps p.tables e below (T3.setTop (mkF m 49 #[.val (.ref t), .val (.int (Int32.ofNat (2 * i + 1)))] [(.int (own_hi (f i))), (.int (((own_lo (f i)) &&& (255 : Int32)) <<< ((0 : Int32) &&& 31)))])) _
    refine XS.sipush X3.here hx rfl (hb hby dG_49) ?_
    show Steps p.tables e below (T3.setTop (mkF m 52 #[.val (.ref t), .val (.int (Int32.ofNat (2 * i + 1)))] [(.int (255 : Int32)), (.int (own_hi (f i))), (.int (((own_lo (f i)) &&& (255 : Int32)) <<< ((0 : Int32) &&& 31)))])) _
    refine XS.iand X3.here hx rfl (hb hby dG_52) rfl ?_
    show Steps p.tables e below (T3.setTop (mkF m 53 #[.val (.ref t), .val (.int (Int32.ofNat (2 * i + 1)))] [(.int ((own_hi (f i)) &&& (255 : Int32))), (.int (((own_lo (f i)) &&& (255 : Int32)) <<< ((0 : Int32) &&& 31)))])) _
    exact kt
  obtain ⟨T5, X5, e5, st5⟩ := getS X3 hx hZ hown (host := "") (hw _ (List.mem_of_getElem? (i := 54) rfl)) Via.refl e3 Uu.2.2 (g := (mkF m 53 #[.val (.ref t), .val (.int (Int32.ofNat (2 * i + 1)))] [(.int ((own_hi (f i)) &&& (255 : Int32))), (.int (((own_lo (f i)) &&& (255 : Int32)) <<< ((0 : Int32) &&& 31)))])) rfl (hb hby dG_53)
  have sg6 : ∀ target, Steps p.tables e below (T5.setTop (mkF m 59 #[.val (.ref t), .val (.int (Int32.ofNat (2 * i + 1)))] [(.int (f i))])) target → Steps p.tables e below (T5.setTop (mkF m 56 #[.val (.ref t), .val (.int (Int32.ofNat (2 * i + 1)))] [(.int (8 : Int32)), (.int ((own_hi (f i)) &&& (255 : Int32))), (.int (((own_lo (f i)) &&& (255 : Int32)) <<< ((0 : Int32) &&& 31)))])) target := by
    intro target kt
    show Steps p.tables e below (T5.setTop (mkF m 56 #[.val (.ref t), .val (.int (Int32.ofNat (2 * i + 1)))] [(.int (8 : Int32)), (.int ((own_hi (f i)) &&& (255 : Int32))), (.int (((own_lo (f i)) &&& (255 : Int32)) <<< ((0 : Int32) &&& 31)))])) _
    refine XS.ishl X5.here hx rfl (hb hby dG_56) rfl ?_
    show Steps p.tables e below (T5.setTop (mkF m 57 #[.val (.ref t), .val (.int (Int32.ofNat (2 * i + 1)))] [(.int (((own_hi (f i)) &&& (255 : Int32)) <<< ((8 : Int32) &&& 31))), (.int (((own_lo (f i)) &&& (255 : Int32)) <<< ((0 : Int32) &&& 31)))])) _
    refine XS.ior X5.here hx rfl (hb hby dG_57) rfl ?_
    show Steps p.tables e below (T5.setTop (mkF m 58 #[.val (.ref t), .val (.int (Int32.ofNat (2 * i + 1)))] [(.int ((((own_lo (f i)) &&& (255 : Int32)) <<< ((0 : Int32) &&& 31)) ||| (((own_hi (f i)) &&& (255 : Int32)) <<< ((8 : Int32) &&& 31))))])) _
    refine XS.i2c X5.here hx rfl (hb hby dG_58) rfl ?_
    show Steps p.tables e below (T5.setTop (mkF m 59 #[.val (.ref t), .val (.int (Int32.ofNat (2 * i + 1)))] [(.int ((((((own_lo (f i)) &&& (255 : Int32)) <<< ((0 : Int32) &&& 31)) ||| (((own_hi (f i)) &&& (255 : Int32)) <<< ((8 : Int32) &&& 31)))).toUInt32.toUInt16.toUInt32.toInt32))])) _
    rw [(own_round hf)]
    show Steps p.tables e below (T5.setTop (mkF m 59 #[.val (.ref t), .val (.int (Int32.ofNat (2 * i + 1)))] [(.int (f i))])) _
    exact kt
  obtain ⟨fs, hr, hrun, hended, hW, hsame⟩ := X5.leave (v := some (.int (f i))) (fun h => by rw [Bd.returns] at h; cases h)
  refine ⟨_, _, castTop (efG m t (Int32.ofNat i)) ?_, hrun, hended, _, _, rfl, ?_, ⟨_, rfl⟩, hW, hsame.mono (by decide) (by decide)⟩
  · show Steps p.tables e below (s₁.setTop (mkF m 0 #[.val (.ref t), .val (.int (Int32.ofNat i))] [])) _
    refine st1 _ ?_
    show Steps p.tables e below (T1.setTop (mkF m 3 #[.val (.ref t), .val (.int (Int32.ofNat i))] [(.int (1 : Int32))])) _
    refine sg2 _ ?_
    show Steps p.tables e below (T1.setTop (mkF m 42 #[.val (.ref t), .val (.int (Int32.ofNat (2 * i + 1)))] [(.int ((own_lo (f i)) &&& (255 : Int32)))])) _
    refine st3 _ ?_
    show Steps p.tables e below (T3.setTop (mkF m 45 #[.val (.ref t), .val (.int (Int32.ofNat (2 * i + 1)))] [(.int (0 : Int32)), (.int ((own_lo (f i)) &&& (255 : Int32)))])) _
    refine sg4 _ ?_
    show Steps p.tables e below (T3.setTop (mkF m 53 #[.val (.ref t), .val (.int (Int32.ofNat (2 * i + 1)))] [(.int ((own_hi (f i)) &&& (255 : Int32))), (.int (((own_lo (f i)) &&& (255 : Int32)) <<< ((0 : Int32) &&& 31)))])) _
    refine st5 _ ?_
    show Steps p.tables e below (T5.setTop (mkF m 56 #[.val (.ref t), .val (.int (Int32.ofNat (2 * i + 1)))] [(.int (8 : Int32)), (.int ((own_hi (f i)) &&& (255 : Int32))), (.int (((own_lo (f i)) &&& (255 : Int32)) <<< ((0 : Int32) &&& 31)))])) _
    refine sg6 _ ?_
    show Steps p.tables e below (T5.setTop (mkF m 59 #[.val (.ref t), .val (.int (Int32.ofNat (2 * i + 1)))] [(.int (f i))])) _
    exact retN X5 hx (t := .char) Bd.returns (by simp) (hb hby dG_59) (by rw [own_narc hf]; exact hr)
  · show _
    exact ⟨rfl, Fr.nil n0, e5⟩
theorem dQ_0 : decode jdk_52_method_21_code 0 = .ok (.iconst 0, 1) := by decide +kernel
theorem dQ_1 : decode jdk_52_method_21_code 1 = .ok (.istore 5, 2) := by decide +kernel
theorem dQ_3 : decode jdk_52_method_21_code 3 = .ok (.iload 5, 2) := by decide +kernel
theorem dQ_5 : decode jdk_52_method_21_code 5 = .ok (.iload 4, 2) := by decide +kernel
theorem dQ_7 : decode jdk_52_method_21_code 7 = .ok (.if_icmp .ge 37, 3) := by decide +kernel
theorem dQ_10 : decode jdk_52_method_21_code 10 = .ok (.aload_n 0, 1) := by decide +kernel
theorem dQ_11 : decode jdk_52_method_21_code 11 = .ok (.iload_n 1, 1) := by decide +kernel
theorem dQ_12 : decode jdk_52_method_21_code 12 = .ok (.caload, 1) := by decide +kernel
theorem dQ_13 : decode jdk_52_method_21_code 13 = .ok (.istore 6, 2) := by decide +kernel
theorem dQ_15 : decode jdk_52_method_21_code 15 = .ok (.iload 6, 2) := by decide +kernel
theorem dQ_17 : decode jdk_52_method_21_code 17 = .ok (.sipush 255, 3) := by decide +kernel
theorem dQ_20 : decode jdk_52_method_21_code 20 = .ok (.if_icmp .le 6, 3) := by decide +kernel
theorem dQ_23 : decode jdk_52_method_21_code 23 = .ok (.iload 5, 2) := by decide +kernel
theorem dQ_25 : decode jdk_52_method_21_code 25 = .ok (.ireturn, 1) := by decide +kernel
theorem dQ_26 : decode jdk_52_method_21_code 26 = .ok (.aload_n 2, 1) := by decide +kernel
theorem dQ_27 : decode jdk_52_method_21_code 27 = .ok (.iload_n 3, 1) := by decide +kernel
theorem dQ_28 : decode jdk_52_method_21_code 28 = .ok (.iload 6, 2) := by decide +kernel
theorem dQ_30 : decode jdk_52_method_21_code 30 = .ok (.i2b, 1) := by decide +kernel
theorem dQ_31 : decode jdk_52_method_21_code 31 = .ok (.bastore, 1) := by decide +kernel
theorem dQ_32 : decode jdk_52_method_21_code 32 = .ok (.iinc 1 1, 3) := by decide +kernel
theorem dQ_35 : decode jdk_52_method_21_code 35 = .ok (.iinc 3 1, 3) := by decide +kernel
theorem dQ_38 : decode jdk_52_method_21_code 38 = .ok (.iinc 5 1, 3) := by decide +kernel
theorem dQ_41 : decode jdk_52_method_21_code 41 = .ok (.goto (-38), 3) := by decide +kernel
theorem dQ_44 : decode jdk_52_method_21_code 44 = .ok (.iload 4, 2) := by decide +kernel
theorem dQ_46 : decode jdk_52_method_21_code 46 = .ok (.ireturn, 1) := by decide +kernel
theorem efQ (m : MethodId) (x0 : Addr) (x1 : Int32) (x2 : Addr) (x3 : Int32) (x4 : Int32) : entryFrame m #[(.ref x0), (.int x1), (.ref x2), (.int x3), (.int x4)] 7 = mkF m 0 #[.val (.ref x0), .val (.int x1), .val (.ref x2), .val (.int x3), .val (.int x4), .unset, .unset] [] := by first | (simp [entryFrame, mkF, argsToLocals, Value.category, maxLocals]; done) | rfl
theorem pdQ : parseMethodDescriptor "([CI[BII)I" = some ⟨[(.array .char), .int, (.array .byte), .int, .int], some .int⟩ := by decide +kernel
set_option maxRecDepth 65536 in
set_option maxHeartbeats 40000000 in
theorem own_cturn {p : Program} {l : Launch} {e : Env} {s : State} {m : MethodId} {args : Array Value} {below : List Frame} {meth : Method} {c : Code} {T0 : State} {locs : List Loc} {Z : State} {a0 : Array Value} {n0 : Nat} (b d : Addr) (n i : Nat) (f g : Nat → Int32) (h : Heap) (s6 : Slot) (X0 : Stand p l e ({ frames := 0, cells := 0, slots := 0, locals := 0 } : Room) s m args below meth c T0 locs 0 0) (hx : p.tables.exec = Jvm.exec) (hZ : Z.Warmed39 s.vm) (hw : ∀ d ∈ tables_1, d.before a0 Z = true) (hby : c.code = jdk_52_method_21_code) (hml : c.maxLocals = 7) (hown : s.vm.findClass "java/lang/StringUTF16" = some m.cls) (e0 : T0.heap = h) (N0 : Fr n0 locs) (ge : n0 ≤ d) (nbd : b ≠ d) (hn : n ≤ 256) (hi : i < n) (hle : ¬ (255 : Int32) < f i) (Fb : own_AF Z h b .char n f) (Fd : own_AF Z h d .byte n g) (hs6 : ∀ (x : Int32), storeLocals #[.val (.ref b), .val (.int (Int32.ofNat i)), .val (.ref d), .val (.int (Int32.ofNat i)), .val (.int (Int32.ofNat n)), .val (.int (Int32.ofNat i)), s6] 6 (.int x) = some #[.val (.ref b), .val (.int (Int32.ofNat i)), .val (.ref d), .val (.int (Int32.ofNat i)), .val (.int (Int32.ofNat n)), .val (.int (Int32.ofNat i)), .val (.int x)]) :
    ∃ (T' : State) (L' : List Loc) (h' : Heap) (g' : Nat → Int32), Stand p l e ({ frames := 0, cells := 0, slots := 0, locals := 0 } : Room) s m args below meth c T' L' 0 0 ∧ T'.heap = h' ∧ Fr n0 L' ∧ Keep h h' [d] ∧ own_AF Z h' b .char n f ∧ own_AF Z h' d .byte n g' ∧
      ∀ target, Steps p.tables e below (T'.setTop (mkF m 3 #[.val (.ref b), .val (.int (Int32.ofNat (i + 1))), .val (.ref d), .val (.int (Int32.ofNat (i + 1))), .val (.int (Int32.ofNat n)), .val (.int (Int32.ofNat (i + 1))), .val (.int (f i))] [])) target → Steps p.tables e below (T0.setTop (mkF m 3 #[.val (.ref b), .val (.int (Int32.ofNat i)), .val (.ref d), .val (.int (Int32.ofNat i)), .val (.int (Int32.ofNat n)), .val (.int (Int32.ofNat i)), s6] [])) target := by
  obtain ⟨cb, Ab, Sb, Hb⟩ := id Fb
  obtain ⟨cd, Ad, Sd, Hd⟩ := id Fd
  have sg1 : ∀ target, Steps p.tables e below (T0.setTop (mkF m 31 #[.val (.ref b), .val (.int (Int32.ofNat i)), .val (.ref d), .val (.int (Int32.ofNat i)), .val (.int (Int32.ofNat n)), .val (.int (Int32.ofNat i)), .val (.int (f i))] [(.int (((f i)).toInt8.toInt32)), (.int (Int32.ofNat i)), (.ref d)])) target → Steps p.tables e below (T0.setTop (mkF m 3 #[.val (.ref b), .val (.int (Int32.ofNat i)), .val (.ref d), .val (.int (Int32.ofNat i)), .val (.int (Int32.ofNat n)), .val (.int (Int32.ofNat i)), s6] [])) target := by
    intro target kt
    show Steps p.tables e below (T0.setTop (mkF m 3 #[.val (.ref b), .val (.int (Int32.ofNat i)), .val (.ref d), .val (.int (Int32.ofNat i)), .val (.int (Int32.ofNat n)), .val (.int (Int32.ofNat i)), s6] [])) _
    refine XS.iload X0.here hx rfl (hb hby dQ_3) rfl ?_
    show Steps p.tables e below (T0.setTop (mkF m 5 #[.val (.ref b), .val (.int (Int32.ofNat i)), .val (.ref d), .val (.int (Int32.ofNat i)), .val (.int (Int32.ofNat n)), .val (.int (Int32.ofNat i)), s6] [(.int (Int32.ofNat i))])) _
    refine XS.iload X0.here hx rfl (hb hby dQ_5) rfl ?_
    show Steps p.tables e below (T0.setTop (mkF m 7 #[.val (.ref b), .val (.int (Int32.ofNat i)), .val (.ref d), .val (.int (Int32.ofNat i)), .val (.int (Int32.ofNat n)), .val (.int (Int32.ofNat i)), s6] [(.int (Int32.ofNat n)), (.int (Int32.ofNat i))])) _
    refine XS.icmpNo X0.here hx rfl (hb hby dQ_7) rfl (tlt (own_lt hi (by omega))).2.1 ?_
    show Steps p.tables e below (T0.setTop (mkF m 10 #[.val (.ref b), .val (.int (Int32.ofNat i)), .val (.ref d), .val (.int (Int32.ofNat i)), .val (.int (Int32.ofNat n)), .val (.int (Int32.ofNat i)), s6] [])) _
    refine XS.aloadN X0.here hx rfl (hb hby dQ_10) rfl rfl ?_
    show Steps p.tables e below (T0.setTop (mkF m 11 #[.val (.ref b), .val (.int (Int32.ofNat i)), .val (.ref d), .val (.int (Int32.ofNat i)), .val (.int (Int32.ofNat n)), .val (.int (Int32.ofNat i)), s6] [(.ref b)])) _
    refine XS.iloadN X0.here hx rfl (hb hby dQ_11) rfl ?_
    show Steps p.tables e below (T0.setTop (mkF m 12 #[.val (.ref b), .val (.int (Int32.ofNat i)), .val (.ref d), .val (.int (Int32.ofNat i)), .val (.int (Int32.ofNat n)), .val (.int (Int32.ofNat i)), s6] [(.int (Int32.ofNat i)), (.ref b)])) _
    refine X0.caload hx (j := (Int32.ofNat i)) (v := (.int (f i))) (by rw [e0]; exact Ab.1) (State.isArrayOf_alike hZ.alike Ab.2.1) Ab.2.2 (own_inb Sb hi (by omega)) (own_gt Hb hi (by omega)) (g := (mkF m 12 #[.val (.ref b), .val (.int (Int32.ofNat i)), .val (.ref d), .val (.int (Int32.ofNat i)), .val (.int (Int32.ofNat n)), .val (.int (Int32.ofNat i)), s6] [(.int (Int32.ofNat i)), (.ref b)])) rfl rfl (hb hby dQ_12) _ ?_
    show Steps p.tables e below (T0.setTop (mkF m 13 #[.val (.ref b), .val (.int (Int32.ofNat i)), .val (.ref d), .val (.int (Int32.ofNat i)), .val (.int (Int32.ofNat n)), .val (.int (Int32.ofNat i)), s6] [(.int (f i))])) _
    refine XS.istore X0.here hx rfl (hb hby dQ_13) rfl (l' := #[.val (.ref b), .val (.int (Int32.ofNat i)), .val (.ref d), .val (.int (Int32.ofNat i)), .val (.int (Int32.ofNat n)), .val (.int (Int32.ofNat i)), .val (.int (f i))]) (hs6 _) ?_
    show Steps p.tables e below (T0.setTop (mkF m 15 #[.val (.ref b), .val (.int (Int32.ofNat i)), .val (.ref d), .val (.int (Int32.ofNat i)), .val (.int (Int32.ofNat n)), .val (.int (Int32.ofNat i)), .val (.int (f i))] [])) _
    refine XS.iload X0.here hx rfl (hb hby dQ_15) rfl ?_
    show Steps p.tables e below (T0.setTop (mkF m 17 #[.val (.ref b), .val (.int (Int32.ofNat i)), .val (.ref d), .val (.int (Int32.ofNat i)), .val (.int (Int32.ofNat n)), .val (.int (Int32.ofNat i)), .val (.int (f i))] [(.int (f i))])) _
    refine XS.sipush X0.here hx rfl (hb hby dQ_17) ?_
    show Steps p.tables e below (T0.setTop (mkF m 20 #[.val (.ref b), .val (.int (Int32.ofNat i)), .val (.ref d), .val (.int (Int32.ofNat i)), .val (.int (Int32.ofNat n)), .val (.int (Int32.ofNat i)), .val (.int (f i))] [(.int (255 : Int32)), (.int (f i))])) _
    refine XS.icmpYes X0.here hx rfl (pc0 := 20) (pc' := 26) rfl (hb hby dQ_20) rfl (flt hle).2.2.2 (by decide) (by decide) ?_
    show Steps p.tables e below (T0.setTop (mkF m 26 #[.val (.ref b), .val (.int (Int32.ofNat i)), .val (.ref d), .val (.int (Int32.ofNat i)), .val (.int (Int32.ofNat n)), .val (.int (Int32.ofNat i)), .val (.int (f i))] [])) _
    refine XS.aloadN X0.here hx rfl (hb hby dQ_26) rfl rfl ?_
    show Steps p.tables e below (T0.setTop (mkF m 27 #[.val (.ref b), .val (.int (Int32.ofNat i)), .val (.ref d), .val (.int (Int32.ofNat i)), .val (.int (Int32.ofNat n)), .val (.int (Int32.ofNat i)), .val (.int (f i))] [(.ref d)])) _
    refine XS.iloadN X0.here hx rfl (hb hby dQ_27) rfl ?_
    show Steps p.tables e below (T0.setTop (mkF m 28 #[.val (.ref b), .val (.int (Int32.ofNat i)), .val (.ref d), .val (.int (Int32.ofNat i)), .val (.int (Int32.ofNat n)), .val (.int (Int32.ofNat i)), .val (.int (f i))] [(.int (Int32.ofNat i)), (.ref d)])) _
    refine XS.iload X0.here hx rfl (hb hby dQ_28) rfl ?_
    show Steps p.tables e below (T0.setTop (mkF m 30 #[.val (.ref b), .val (.int (Int32.ofNat i)), .val (.ref d), .val (.int (Int32.ofNat i)), .val (.int (Int32.ofNat n)), .val (.int (Int32.ofNat i)), .val (.int (f i))] [(.int (f i)), (.int (Int32.ofNat i)), (.ref d)])) _
    refine XS.i2b X0.here hx rfl (hb hby dQ_30) rfl ?_
    show Steps p.tables e below (T0.setTop (mkF m 31 #[.val (.ref b), .val (.int (Int32.ofNat i)), .val (.ref d), .val (.int (Int32.ofNat i)), .val (.int (Int32.ofNat n)), .val (.int (Int32.ofNat i)), .val (.int (f i))] [(.int (((f i)).toInt8.toInt32)), (.int (Int32.ofNat i)), (.ref d)])) _
    exact kt
  obtain ⟨T1, h1, X1, e1, W1, st1⟩ := stB X0 hx hZ e0 Ad (j := (Int32.ofNat i)) (own_inb Sd hi (by omega)) (g := (mkF m 31 #[.val (.ref b), .val (.int (Int32.ofNat i)), .val (.ref d), .val (.int (Int32.ofNat i)), .val (.int (Int32.ofNat n)), .val (.int (Int32.ofNat i)), .val (.int (f i))] [(.int (((f i)).toInt8.toInt32)), (.int (Int32.ofNat i)), (.ref d)])) rfl rfl (hb hby dQ_31)
  rw [own_nb] at W1
  have N1 := Fr.snoc X1 N0 ge
  have F1 := own_setAt Ad Sd Hd W1 i (own_cl (by omega))
  have G1 := Fb.other W1 nbd
  have sg2 : ∀ target, Steps p.tables e below (T1.setTop (mkF m 3 #[.val (.ref b), .val (.int (Int32.ofNat (i + 1))), .val (.ref d), .val (.int (Int32.ofNat (i + 1))), .val (.int (Int32.ofNat n)), .val (.int (Int32.ofNat (i + 1))), .val (.int (f i))] [])) target → Steps p.tables e below (T1.setTop (mkF m 32 #[.val (.ref b), .val (.int (Int32.ofNat i)), .val (.ref d), .val (.int (Int32.ofNat i)), .val (.int (Int32.ofNat n)), .val (.int (Int32.ofNat i)), .val (.int (f i))] [])) target := by
    intro target kt
    show Steps p.tables e below (T1.setTop (mkF m 32 #[.val (.ref b), .val (.int (Int32.ofNat i)), .val (.ref d), .val (.int (Int32.ofNat i)), .val (.int (Int32.ofNat n)), .val (.int (Int32.ofNat i)), .val (.int (f i))] [])) _
    refine XS.iinc X1.here hx rfl (hb hby dQ_32) rfl (l' := #[.val (.ref b), .val (.int ((Int32.ofNat i) + (1 : Int32))), .val (.ref d), .val (.int (Int32.ofNat i)), .val (.int (Int32.ofNat n)), .val (.int (Int32.ofNat i)), .val (.int (f i))]) rfl ?_
    show Steps p.tables e below (T1.setTop (mkF m 35 #[.val (.ref b), .val (.int ((Int32.ofNat i) + (1 : Int32))), .val (.ref d), .val (.int (Int32.ofNat i)), .val (.int (Int32.ofNat n)), .val (.int (Int32.ofNat i)), .val (.int (f i))] [])) _
    refine XS.iinc X1.here hx rfl (hb hby dQ_35) rfl (l' := #[.val (.ref b), .val (.int ((Int32.ofNat i) + (1 : Int32))), .val (.ref d), .val (.int ((Int32.ofNat i) + (1 : Int32))), .val (.int (Int32.ofNat n)), .val (.int (Int32.ofNat i)), .val (.int (f i))]) rfl ?_
    show Steps p.tables e below (T1.setTop (mkF m 38 #[.val (.ref b), .val (.int ((Int32.ofNat i) + (1 : Int32))), .val (.ref d), .val (.int ((Int32.ofNat i) + (1 : Int32))), .val (.int (Int32.ofNat n)), .val (.int (Int32.ofNat i)), .val (.int (f i))] [])) _
    refine XS.iinc X1.here hx rfl (hb hby dQ_38) rfl (l' := #[.val (.ref b), .val (.int ((Int32.ofNat i) + (1 : Int32))), .val (.ref d), .val (.int ((Int32.ofNat i) + (1 : Int32))), .val (.int (Int32.ofNat n)), .val (.int ((Int32.ofNat i) + (1 : Int32))), .val (.int (f i))]) rfl ?_
    show Steps p.tables e below (T1.setTop (mkF m 41 #[.val (.ref b), .val (.int ((Int32.ofNat i) + (1 : Int32))), .val (.ref d), .val (.int ((Int32.ofNat i) + (1 : Int32))), .val (.int (Int32.ofNat n)), .val (.int ((Int32.ofNat i) + (1 : Int32))), .val (.int (f i))] [])) _
    refine XS.goto X1.here hx rfl (pc0 := 41) (pc' := 3) rfl (hb hby dQ_41) (by decide) (by decide) ?_
    show Steps p.tables e below (T1.setTop (mkF m 3 #[.val (.ref b), .val (.int ((Int32.ofNat i) + (1 : Int32))), .val (.ref d), .val (.int ((Int32.ofNat i) + (1 : Int32))), .val (.int (Int32.ofNat n)), .val (.int ((Int32.ofNat i) + (1 : Int32))), .val (.int (f i))] [])) _
    rw [own_one]
    show Steps p.tables e below (T1.setTop (mkF m 3 #[.val (.ref b), .val (.int (Int32.ofNat (i + 1))), .val (.ref d), .val (.int (Int32.ofNat (i + 1))), .val (.int (Int32.ofNat n)), .val (.int (Int32.ofNat (i + 1))), .val (.int (f i))] [])) _
    exact kt
  refine ⟨T1, _, h1, _, X1, e1, N1, (Keep.refl _ _).wr W1 (Or.inl (List.mem_cons_self ..)), G1, F1, fun target kt => ?_⟩
  show Steps p.tables e below (T0.setTop (mkF m 3 #[.val (.ref b), .val (.int (Int32.ofNat i)), .val (.ref d), .val (.int (Int32.ofNat i)), .val (.int (Int32.ofNat n)), .val (.int (Int32.ofNat i)), s6] [])) _
  refine sg1 _ ?_
  show Steps p.tables e below (T0.setTop (mkF m 31 #[.val (.ref b), .val (.int (Int32.ofNat i)), .val (.ref d), .val (.int (Int32.ofNat i)), .val (.int (Int32.ofNat n)), .val (.int (Int32.ofNat i)), .val (.int (f i))] [(.int (((f i)).toInt8.toInt32)), (.int (Int32.ofNat i)), (.ref d)])) _
  refine st1 _ ?_
  show Steps p.tables e below (T1.setTop (mkF m 32 #[.val (.ref b), .val (.int (Int32.ofNat i)), .val (.ref d), .val (.int (Int32.ofNat i)), .val (.int (Int32.ofNat n)), .val (.int (Int32.ofNat i)), .val (.int (f i))] [])) _
  refine sg2 _ ?_
  exact kt
theorem own_keep_trans {h h1 h2 : Heap} {ws : List Addr} (K : Keep h h1 ws) (K2 : Keep h1 h2 ws) : Keep h h2 ws := K.trans K2 (fun _ q => Or.inl q)
set_option maxRecDepth 65536 in
set_option maxHeartbeats 40000000 in
theorem own_cloop {p : Program} {l : Launch} {e : Env} {s : State} {m : MethodId} {args : Array Value} {below : List Frame} {meth : Method} {c : Code} {Z : State} {a0 : Array Value} {n0 : Nat} (b d : Addr) (n r : Nat) (f : Nat → Int32) (hx : p.tables.exec = Jvm.exec) (hZ : Z.Warmed39 s.vm) (hw : ∀ d ∈ tables_1, d.before a0 Z = true) (hby : c.code = jdk_52_method_21_code) (hml : c.maxLocals = 7) (hown : s.vm.findClass "java/lang/StringUTF16" = some m.cls) (ge : n0 ≤ d) (nbd : b ≠ d) (hn : n ≤ 256) (hr : r < n) (hle : ∀ j, j < r → ¬ (255 : Int32) < f j) :
    ∀ (k i : Nat) (s6 : Slot) (g : Nat → Int32) (h : Heap) (T0 : State) (locs : List Loc), i + k = r → (s6 = .unset ∨ ∃ w : Int32, s6 = .val (.int w)) → Stand p l e ({ frames := 0, cells := 0, slots := 0, locals := 0 } : Room) s m args below meth c T0 locs 0 0 → T0.heap = h → Fr n0 locs → own_AF Z h b .char n f → own_AF Z h d .byte n g →
      ∃ (T' : State) (L' : List Loc) (h' : Heap) (t6 : Slot), Stand p l e ({ frames := 0, cells := 0, slots := 0, locals := 0 } : Room) s m args below meth c T' L' 0 0 ∧ T'.heap = h' ∧ Fr n0 L' ∧ Keep h h' [d] ∧ own_AF Z h' b .char n f ∧ (t6 = .unset ∨ ∃ w : Int32, t6 = .val (.int w)) ∧
        ∀ target, Steps p.tables e below (T'.setTop (mkF m 3 #[.val (.ref b), .val (.int (Int32.ofNat r)), .val (.ref d), .val (.int (Int32.ofNat r)), .val (.int (Int32.ofNat n)), .val (.int (Int32.ofNat r)), t6] [])) target → Steps p.tables e below (T0.setTop (mkF m 3 #[.val (.ref b), .val (.int (Int32.ofNat i)), .val (.ref d), .val (.int (Int32.ofNat i)), .val (.int (Int32.ofNat n)), .val (.int (Int32.ofNat i)), s6] [])) target := by
  intro k
  induction k with
  | zero =>
    intro i s6 g h T0 locs hj h6 X0 e0 N0 Fb Fd
    obtain rfl : i = r := by omega
    exact ⟨T0, locs, h, s6, X0, e0, N0, Keep.refl _ _, Fb, h6, fun target kt => kt⟩
  | succ k ih =>
    intro i s6 g h T0 locs hj h6 X0 e0 N0 Fb Fd
    obtain ⟨T1, L1, h1, g1, X1, e1, N1, K1, B1, D1, st1⟩ := own_cturn (n0 := n0) b d n i f g h s6 X0 hx hZ hw hby hml hown e0 N0 ge nbd hn (by omega) (hle i (by omega)) Fb Fd (by rcases h6 with rfl | ⟨w, rfl⟩ <;> exact fun _ => rfl)
    obtain ⟨T', L', h', t6, X', e', N', K', B', h6', st'⟩ := ih (i + 1) (.val (.int (f i))) g1 h1 T1 L1 (by omega) (Or.inr ⟨_, rfl⟩) X1 e1 N1 B1 D1
    exact ⟨T', L', h', t6, X', e', N', own_keep_trans K1 K', B', h6', fun target kt => st1 target (st' target kt)⟩
def own_Q5 (d : Addr) (r : Nat) (n0 : Nat) (h0 : Heap) (v : Option Value) (h : Heap) (L : List Loc) : Prop := v = some (.int (Int32.ofNat r)) ∧ Fr n0 L ∧ Keep h0 h [d]
set_option maxRecDepth 65536 in
set_option maxHeartbeats 40000000 in
theorem rmQ (l : Launch) (Z : State) (a0 : Array Value) (hw : ∀ d ∈ tables_1, d.before a0 Z = true) (b d : Addr) (n r : Nat) (f g : Nat → Int32) (h0 : Heap) (n0 : Nat) (ge : n0 ≤ d) (nbd : b ≠ d) (hn : n ≤ 256) (hrn : r < n) (hle : ∀ j, j < r → ¬ (255 : Int32) < f j) (hgt : (255 : Int32) < f r) (Fb : own_AF Z h0 b .char n f) (Fd : own_AF Z h0 d .byte n g) :
    MetFree l (⟨"java/lang/StringUTF16", "compress", "([CI[BII)I"⟩ : MethodName) (head1 [Jvm.Cond.code (⟨"java/lang/StringUTF16", "compress", "([CI[BII)I"⟩ : MethodName) jdk_52_method_21_code 7 (some .int)] ({ frames := 0, cells := 0, slots := 0, locals := 0 } : Room)) (fun q_ U => q_ = #[(.ref b), (.int (0 : Int32)), (.ref d), (.int (0 : Int32)), (.int (Int32.ofNat n))] ∧ Z.Warmed39 U.vm ∧ U.heap = h0) (fun _ _ _ _ _ => True) (fun _ U o U' => ∃ v L, o = .returned v ∧ own_Q5 d r n0 h0 v U'.heap L ∧ FrameEnd U o U' L ({ frames := 0, cells := 0, slots := 0, locals := 0 } : Room).cells ({ frames := 0, cells := 0, slots := 0, locals := 0 } : Room).slots) := by
  refine MetFree.of_bodySF (plainFor_of_name pn_U) hisR ?_
  intro p e s m args below meth c s₁ Bd hml0 hP hK
  obtain ⟨rfl, hZ, hh⟩ := hP
  have hx := Bd.exec
  have hby := Bd.bytes
  have hml : c.maxLocals = 7 := hml0
  have hown : s.vm.findClass "java/lang/StringUTF16" = some m.cls := findClass_of_methodNamed Bd.named
  have hnm := (name_of_methodNamed Bd.named Bd.method).1
  have X0 : Stand p l e ({ frames := 0, cells := 0, slots := 0, locals := 0 } : Room) s m #[(.ref b), (.int (0 : Int32)), (.ref d), (.int (0 : Int32)), (.int (Int32.ofNat n))] below meth c s₁ [] 0 0 := Stand.of_body Bd
  have e0 : s₁.heap = h0 := by rw [← hh, Bd.state]; rfl
  have sg1 : ∀ target, Steps p.tables e below (s₁.setTop (mkF m 3 #[.val (.ref b), .val (.int (Int32.ofNat 0)), .val (.ref d), .val (.int (Int32.ofNat 0)), .val (.int (Int32.ofNat n)), .val (.int (Int32.ofNat 0)), .unset] [])) target → Steps p.tables e below (s₁.setTop (mkF m 0 #[.val (.ref b), .val (.int (0 : Int32)), .val (.ref d), .val (.int (0 : Int32)), .val (.int (Int32.ofNat n)), .unset, .unset] [])) target := by
    intro target kt
    show Steps p.tables e below (s₁.setTop (mkF m 0 #[.val (.ref b), .val (.int (0 : Int32)), .val (.ref d), .val (.int (0 : Int32)), .val (.int (Int32.ofNat n)), .unset, .unset] [])) _
    refine XS.iconst X0.here hx rfl (hb hby dQ_0) ?_
    show Steps p.tables e below (s₁.setTop (mkF m 1 #[.val (.ref b), .val (.int (0 : Int32)), .val (.ref d), .val (.int (0 : Int32)), .val (.int (Int32.ofNat n)), .unset, .unset] [(.int (0 : Int32))])) _
    refine XS.istore X0.here hx rfl (hb hby dQ_1) rfl (l' := #[.val (.ref b), .val (.int (0 : Int32)), .val (.ref d), .val (.int (0 : Int32)), .val (.int (Int32.ofNat n)), .val (.int (0 : Int32)), .unset]) rfl ?_
    show Steps p.tables e below (s₁.setTop (mkF m 3 #[.val (.ref b), .val (.int (0 : Int32)), .val (.ref d), .val (.int (0 : Int32)), .val (.int (Int32.ofNat n)), .val (.int (0 : Int32)), .unset] [])) _
    show Steps p.tables e below (s₁.setTop (mkF m 3 #[.val (.ref b), .val (.int (Int32.ofNat 0)), .val (.ref d), .val (.int (Int32.ofNat 0)), .val (.int (Int32.ofNat n)), .val (.int (Int32.ofNat 0)), .unset] [])) _
    exact kt
  obtain ⟨T1, L1, h1, t6, X1, e1, N1, K1, B1, h6, st1⟩ := own_cloop (n0 := n0) b d n r f hx hZ hw hby hml hown ge nbd hn hrn hle r 0 .unset g h0 s₁ [] (by omega) (Or.inl rfl) X0 e0 (Fr.nil n0) Fb Fd
  obtain ⟨cb, Ab, Sb, Hb⟩ := id B1
  have hs6 : ∀ (x : Int32), storeLocals #[.val (.ref b), .val (.int (Int32.ofNat r)), .val (.ref d), .val (.int (Int32.ofNat r)), .val (.int (Int32.ofNat n)), .val (.int (Int32.ofNat r)), t6] 6 (.int x) = some #[.val (.ref b), .val (.int (Int32.ofNat r)), .val (.ref d), .val (.int (Int32.ofNat r)), .val (.int (Int32.ofNat n)), .val (.int (Int32.ofNat r)), .val (.int x)] := by rcases h6 with rfl | ⟨w, rfl⟩ <;> exact fun _ => rfl
  have sg2 : ∀ target, Steps p.tables e below (T1.setTop (mkF m 25 #[.val (.ref b), .val (.int (Int32.ofNat r)), .val (.ref d), .val (.int (Int32.ofNat r)), .val (.int (Int32.ofNat n)), .val (.int (Int32.ofNat r)), .val (.int (f r))] [(.int (Int32.ofNat r))])) target → Steps p.tables e below (T1.setTop (mkF m 3 #[.val (.ref b), .val (.int (Int32.ofNat r)), .val (.ref d), .val (.int (Int32.ofNat r)), .val (.int (Int32.ofNat n)), .val (.int (Int32.ofNat r)), t6] [])) target := by
    intro target kt
    show Steps p.tables e below (T1.setTop (mkF m 3 #[.val (.ref b), .val (.int (Int32.ofNat r)), .val (.ref d), .val (.int (Int32.ofNat r)), .val (.int (Int32.ofNat n)), .val (.int (Int32.ofNat r)), t6] [])) _
    refine XS.iload X1.here hx rfl (hb hby dQ_3) rfl ?_
    show Steps p.tables e below (T1.setTop (mkF m 5 #[.val (.ref b), .val (.int (Int32.ofNat r)), .val (.ref d), .val (.int (Int32.ofNat r)), .val (.int (Int32.ofNat n)), .val (.int (Int32.ofNat r)), t6] [(.int (Int32.ofNat r))])) _
    refine XS.iload X1.here hx rfl (hb hby dQ_5) rfl ?_
    show Steps p.tables e below (T1.setTop (mkF m 7 #[.val (.ref b), .val (.int (Int32.ofNat r)), .val (.ref d), .val (.int (Int32.ofNat r)), .val (.int (Int32.ofNat n)), .val (.int (Int32.ofNat r)), t6] [(.int (Int32.ofNat n)), (.int (Int32.ofNat r))])) _
    refine XS.icmpNo X1.here hx rfl (hb hby dQ_7) rfl (tlt (own_lt hrn (by omega))).2.1 ?_
    show Steps p.tables e below (T1.setTop (mkF m 10 #[.val (.ref b), .val (.int (Int32.ofNat r)), .val (.ref d), .val (.int (Int32.ofNat r)), .val (.int (Int32.ofNat n)), .val (.int (Int32.ofNat r)), t6] [])) _
    refine XS.aloadN X1.here hx rfl (hb hby dQ_10) rfl rfl ?_
    show Steps p.tables e below (T1.setTop (mkF m 11 #[.val (.ref b), .val (.int (Int32.ofNat r)), .val (.ref d), .val (.int (Int32.ofNat r)), .val (.int (Int32.ofNat n)), .val (.int (Int32.ofNat r)), t6] [(.ref b)])) _
    refine XS.iloadN X1.here hx rfl (hb hby dQ_11) rfl ?_
    show Steps p.tables e below (T1.setTop (mkF m 12 #[.val (.ref b), .val (.int (Int32.ofNat r)), .val (.ref d), .val (.int (Int32.ofNat r)), .val (.int (Int32.ofNat n)), .val (.int (Int32.ofNat r)), t6] [(.int (Int32.ofNat r)), (.ref b)])) _
    refine X1.caload hx (j := (Int32.ofNat r)) (v := (.int (f r))) (by rw [e1]; exact Ab.1) (State.isArrayOf_alike hZ.alike Ab.2.1) Ab.2.2 (own_inb Sb hrn (by omega)) (own_gt Hb hrn (by omega)) (g := (mkF m 12 #[.val (.ref b), .val (.int (Int32.ofNat r)), .val (.ref d), .val (.int (Int32.ofNat r)), .val (.int (Int32.ofNat n)), .val (.int (Int32.ofNat r)), t6] [(.int (Int32.ofNat r)), (.ref b)])) rfl rfl (hb hby dQ_12) _ ?_
    show Steps p.tables e below (T1.setTop (mkF m 13 #[.val (.ref b), .val (.int (Int32.ofNat r)), .val (.ref d), .val (.int (Int32.ofNat r)), .val (.int (Int32.ofNat n)), .val (.int (Int32.ofNat r)), t6] [(.int (f r))])) _
    refine XS.istore X1.here hx rfl (hb hby dQ_13) rfl (l' := #[.val (.ref b), .val (.int (Int32.ofNat r)), .val (.ref d), .val (.int (Int32.ofNat r)), .val (.int (Int32.ofNat n)), .val (.int (Int32.ofNat r)), .val (.int (f r))]) (hs6 _) ?_
    show Steps p.tables e below (T1.setTop (mkF m 15 #[.val (.ref b), .val (.int (Int32.ofNat r)), .val (.ref d), .val (.int (Int32.ofNat r)), .val (.int (Int32.ofNat n)), .val (.int (Int32.ofNat r)), .val (.int (f r))] [])) _
    refine XS.iload X1.here hx rfl (hb hby dQ_15) rfl ?_
    show Steps p.tables e below (T1.setTop (mkF m 17 #[.val (.ref b), .val (.int (Int32.ofNat r)), .val (.ref d), .val (.int (Int32.ofNat r)), .val (.int (Int32.ofNat n)), .val (.int (Int32.ofNat r)), .val (.int (f r))] [(.int (f r))])) _
    refine XS.sipush X1.here hx rfl (hb hby dQ_17) ?_
    show Steps p.tables e below (T1.setTop (mkF m 20 #[.val (.ref b), .val (.int (Int32.ofNat r)), .val (.ref d), .val (.int (Int32.ofNat r)), .val (.int (Int32.ofNat n)), .val (.int (Int32.ofNat r)), .val (.int (f r))] [(.int (255 : Int32)), (.int (f r))])) _
    refine XS.icmpNo X1.here hx rfl (hb hby dQ_20) rfl (tlt hgt).2.2.2 ?_
    show Steps p.tables e below (T1.setTop (mkF m 23 #[.val (.ref b), .val (.int (Int32.ofNat r)), .val (.ref d), .val (.int (Int32.ofNat r)), .val (.int (Int32.ofNat n)), .val (.int (Int32.ofNat r)), .val (.int (f r))] [])) _
    refine XS.iload X1.here hx rfl (hb hby dQ_23) rfl ?_
    show Steps p.tables e below (T1.setTop (mkF m 25 #[.val (.ref b), .val (.int (Int32.ofNat r)), .val (.ref d), .val (.int (Int32.ofNat r)), .val (.int (Int32.ofNat n)), .val (.int (Int32.ofNat r)), .val (.int (f r))] [(.int (Int32.ofNat r))])) _
    exact kt
  obtain ⟨fs, hr, hrun, hended, hW, hsame⟩ := X1.leave (v := some (.int (Int32.ofNat r))) (fun h => by rw [Bd.returns] at h; cases h)
  refine ⟨_, _, castTop (efQ m b 0 d 0 (Int32.ofNat n)) ?_, hrun, hended, _, _, rfl, ?_, ⟨_, rfl⟩, hW, hsame.mono (by decide) (by decide)⟩
  · show Steps p.tables e below (s₁.setTop (mkF m 0 #[.val (.ref b), .val (.int (0 : Int32)), .val (.ref d), .val (.int (0 : Int32)), .val (.int (Int32.ofNat n)), .unset, .unset] [])) _
    refine sg1 _ ?_
    show Steps p.tables e below (s₁.setTop (mkF m 3 #[.val (.ref b), .val (.int (Int32.ofNat 0)), .val (.ref d), .val (.int (Int32.ofNat 0)), .val (.int (Int32.ofNat n)), .val (.int (Int32.ofNat 0)), .unset] [])) _
    refine st1 _ ?_
    show Steps p.tables e below (T1.setTop (mkF m 3 #[.val (.ref b), .val (.int (Int32.ofNat r)), .val (.ref d), .val (.int (Int32.ofNat r)), .val (.int (Int32.ofNat n)), .val (.int (Int32.ofNat r)), t6] [])) _
    refine sg2 _ ?_
    show Steps p.tables e below (T1.setTop (mkF m 25 #[.val (.ref b), .val (.int (Int32.ofNat r)), .val (.ref d), .val (.int (Int32.ofNat r)), .val (.int (Int32.ofNat n)), .val (.int (Int32.ofNat r)), .val (.int (f r))] [(.int (Int32.ofNat r))])) _
    exact retOut X1 hx (t := .int) Bd.returns rfl (Or.inl ⟨rfl, Or.inl rfl, _, rfl⟩) (hb hby dQ_25) hr
  · show _
    exact by show own_Q5 d r n0 h0 _ T1.heap _; rw [e1]; exact ⟨rfl, N1, K1⟩
theorem dT_0 : decode jdk_52_method_14_code 0 = .ok (.iload_n 2, 1) := by decide +kernel
theorem dT_1 : decode jdk_52_method_14_code 1 = .ok (.invokestatic 107, 3) := by decide +kernel
theorem dT_4 : decode jdk_52_method_14_code 4 = .ok (.astore_n 3, 1) := by decide +kernel
theorem dT_5 : decode jdk_52_method_14_code 5 = .ok (.iconst 0, 1) := by decide +kernel
theorem dT_6 : decode jdk_52_method_14_code 6 = .ok (.istore 4, 2) := by decide +kernel
theorem dT_8 : decode jdk_52_method_14_code 8 = .ok (.iload 4, 2) := by decide +kernel
theorem dT_10 : decode jdk_52_method_14_code 10 = .ok (.iload_n 2, 1) := by decide +kernel
theorem dT_11 : decode jdk_52_method_14_code 11 = .ok (.if_icmp .ge 21, 3) := by decide +kernel
theorem dT_14 : decode jdk_52_method_14_code 14 = .ok (.aload_n 3, 1) := by decide +kernel
theorem dT_15 : decode jdk_52_method_14_code 15 = .ok (.iload 4, 2) := by decide +kernel
theorem dT_17 : decode jdk_52_method_14_code 17 = .ok (.aload_n 0, 1) := by decide +kernel
theorem dT_18 : decode jdk_52_method_14_code 18 = .ok (.iload_n 1, 1) := by decide +kernel
theorem dT_19 : decode jdk_52_method_14_code 19 = .ok (.caload, 1) := by decide +kernel
theorem dT_20 : decode jdk_52_method_14_code 20 = .ok (.invokestatic 111, 3) := by decide +kernel
theorem dT_23 : decode jdk_52_method_14_code 23 = .ok (.iinc 1 1, 3) := by decide +kernel
theorem dT_26 : decode jdk_52_method_14_code 26 = .ok (.iinc 4 1, 3) := by decide +kernel
theorem dT_29 : decode jdk_52_method_14_code 29 = .ok (.goto (-21), 3) := by decide +kernel
theorem dT_32 : decode jdk_52_method_14_code 32 = .ok (.aload_n 3, 1) := by decide +kernel
theorem dT_33 : decode jdk_52_method_14_code 33 = .ok (.areturn, 1) := by decide +kernel
theorem efT (m : MethodId) (x0 : Addr) (x1 : Int32) (x2 : Int32) : entryFrame m #[(.ref x0), (.int x1), (.int x2)] 5 = mkF m 0 #[.val (.ref x0), .val (.int x1), .val (.int x2), .unset, .unset] [] := by first | (simp [entryFrame, mkF, argsToLocals, Value.category, maxLocals]; done) | rfl
theorem pdT : parseMethodDescriptor "([CII)[B" = some ⟨[(.array .char), .int, .int], some (.array .byte)⟩ := by decide +kernel
def own_pt (f : Nat → Int32) (i : Nat) (j : Nat) : Int32 := if j < 2 * i then own_b2 f j else 0
theorem own_pt_step (f : Nat → Int32) (i j : Nat) : own_put (own_pt f i) i (f i) j = own_pt f (i + 1) j := by
  unfold own_put own_up1 own_pt
  by_cases h1 : j = 2 * i + 1
  · subst h1; rw [if_pos rfl, if_pos (by omega), own_b2o]
  · rw [if_neg h1]
    by_cases h2 : j = 2 * i
    · subst h2; rw [if_pos rfl, if_pos (by omega), own_b2e]
    · rw [if_neg h2]
      by_cases h3 : j < 2 * i
      · rw [if_pos h3, if_pos (by omega)]
      · rw [if_neg h3, if_neg (by omega)]
theorem own_staK {Z : State} {h h' : Heap} {t : Addr} {c : Cell} {ty : FieldType} {C n d : String} {w : Value} (F : Sta Z h C n d w) (K : Keep h h' [t]) (A : Arr Z h t c ty) : Sta Z h' C n d w := by
  obtain ⟨cf, i, k, f, st, cell, h1, h2, h3, h4, h5, h6, h7⟩ := F
  exact ⟨cf, i, k, f, st, cell, h1, h2, h3, h4, K.2.1 _ _ h5 (ninS (fun e => by subst e; cases h5.symm.trans A.1; rw [A.plain] at h6; cases h6) nin0), h6, h7⟩
theorem own_U.keep {Z : State} {h h' : Heap} {t : Addr} {ty : FieldType} {n : Nat} {f : Nat → Int32} (F : own_U Z h) (K : Keep h h' [t]) (G : own_AF Z h t ty n f) : own_U Z h' := by
  obtain ⟨c, A, -⟩ := G
  exact ⟨own_staK F.1 K A, own_staK F.2.1 K A, own_staK F.2.2 K A⟩
set_option maxRecDepth 65536 in
set_option maxHeartbeats 40000000 in
theorem own_tturn {p : Program} {l : Launch} {e : Env} {s : State} {m : MethodId} {args : Array Value} {below : List Frame} {meth : Method} {c : Code} {T0 : State} {locs : List Loc} {Z : State} {a0 : Array Value} {n0 : Nat} (b t : Addr) (n i : Nat) (f : Nat → Int32) (h : Heap) (X0 : Stand p l e ({ frames := 2, cells := 1, slots := 512, locals := 30 } : Room) s m args below meth c T0 locs 1 512) (hx : p.tables.exec = Jvm.exec) (hZ : Z.Warmed39 s.vm) (hw : ∀ d ∈ tables_1, d.before a0 Z = true) (hby : c.code = jdk_52_method_14_code) (hml : c.maxLocals = 5) (hown : s.vm.findClass "java/lang/StringUTF16" = some m.cls) (e0 : T0.heap = h) (N0 : Fr n0 locs) (ge : n0 ≤ t) (nbt : ¬ b = t) (hn : n ≤ 256) (hi : i < n) (Fb : own_AF Z h b .char n f) (Ft : own_AF Z h t .byte (2 * n) (own_pt f i)) (Uu : own_U Z h) :
    ∃ (T' : State) (L' : List Loc) (h' : Heap), Stand p l e ({ frames := 2, cells := 1, slots := 512, locals := 30 } : Room) s m args below meth c T' L' 1 512 ∧ T'.heap = h' ∧ Fr n0 L' ∧ Keep h h' [t] ∧ own_AF Z h' b .char n f ∧ own_AF Z h' t .byte (2 * n) (own_pt f (i + 1)) ∧ own_U Z h' ∧
      ∀ target, Steps p.tables e below (T'.setTop (mkF m 8 #[.val (.ref b), .val (.int (Int32.ofNat (i + 1))), .val (.int (Int32.ofNat n)), .val (.ref t), .val (.int (Int32.ofNat (i + 1)))] [])) target → Steps p.tables e below (T0.setTop (mkF m 8 #[.val (.ref b), .val (.int (Int32.ofNat i)), .val (.int (Int32.ofNat n)), .val (.ref t), .val (.int (Int32.ofNat i))] [])) target := by
  obtain ⟨cb, Ab, Sb, Hb⟩ := id Fb
  have sg1 : ∀ target, Steps p.tables e below (T0.setTop (mkF m 20 #[.val (.ref b), .val (.int (Int32.ofNat i)), .val (.int (Int32.ofNat n)), .val (.ref t), .val (.int (Int32.ofNat i))] [(.int (f i)), (.int (Int32.ofNat i)), (.ref t)])) target → Steps p.tables e below (T0.setTop (mkF m 8 #[.val (.ref b), .val (.int (Int32.ofNat i)), .val (.int (Int32.ofNat n)), .val (.ref t), .val (.int (Int32.ofNat i))] [])) target := by
    intro target kt
    show Steps p.tables e below (T0.setTop (mkF m 8 #[.val (.ref b), .val (.int (Int32.ofNat i)), .val (.int (Int32.ofNat n)), .val (.ref t), .val (.int (Int32.ofNat i))] [])) _
    refine XS.iload X0.here hx rfl (hb hby dT_8) rfl ?_
    show Steps p.tables e below (T0.setTop (mkF m 10 #[.val (.ref b), .val (.int (Int32.ofNat i)), .val (.int (Int32.ofNat n)), .val (.ref t), .val (.int (Int32.ofNat i))] [(.int (Int32.ofNat i))])) _
    refine XS.iloadN X0.here hx rfl (hb hby dT_10) rfl ?_
    show Steps p.tables e below (T0.setTop (mkF m 11 #[.val (.ref b), .val (.int (Int32.ofNat i)), .val (.int (Int32.ofNat n)), .val (.ref t), .val (.int (Int32.ofNat i))] [(.int (Int32.ofNat n)), (.int (Int32.ofNat i))])) _
    refine XS.icmpNo X0.here hx rfl (hb hby dT_11) rfl (tlt (own_lt hi (by omega))).2.1 ?_
    show Steps p.tables e below (T0.setTop (mkF m 14 #[.val (.ref b), .val (.int (Int32.ofNat i)), .val (.int (Int32.ofNat n)), .val (.ref t), .val (.int (Int32.ofNat i))] [])) _
    refine XS.aloadN X0.here hx rfl (hb hby dT_14) rfl rfl ?_
    show Steps p.tables e below (T0.setTop (mkF m 15 #[.val (.ref b), .val (.int (Int32.ofNat i)), .val (.int (Int32.ofNat n)), .val (.ref t), .val (.int (Int32.ofNat i))] [(.ref t)])) _
    refine XS.iload X0.here hx rfl (hb hby dT_15) rfl ?_
    show Steps p.tables e below (T0.setTop (mkF m 17 #[.val (.ref b), .val (.int (Int32.ofNat i)), .val (.int (Int32.ofNat n)), .val (.ref t), .val (.int (Int32.ofNat i))] [(.int (Int32.ofNat i)), (.ref t)])) _
    refine XS.aloadN X0.here hx rfl (hb hby dT_17) rfl rfl ?_
    show Steps p.tables e below (T0.setTop (mkF m 18 #[.val (.ref b), .val (.int (Int32.ofNat i)), .val (.int (Int32.ofNat n)), .val (.ref t), .val (.int (Int32.ofNat i))] [(.ref b), (.int (Int32.ofNat i)), (.ref t)])) _
    refine XS.iloadN X0.here hx rfl (hb hby dT_18) rfl ?_
    show Steps p.tables e below (T0.setTop (mkF m 19 #[.val (.ref b), .val (.int (Int32.ofNat i)), .val (.int (Int32.ofNat n)), .val (.ref t), .val (.int (Int32.ofNat i))] [(.int (Int32.ofNat i)), (.ref b), (.int (Int32.ofNat i)), (.ref t)])) _
    refine X0.caload hx (j := (Int32.ofNat i)) (v := (.int (f i))) (by rw [e0]; exact Ab.1) (State.isArrayOf_alike hZ.alike Ab.2.1) Ab.2.2 (own_inb Sb hi (by omega)) (own_gt Hb hi (by omega)) (g := (mkF m 19 #[.val (.ref b), .val (.int (Int32.ofNat i)), .val (.int (Int32.ofNat n)), .val (.ref t), .val (.int (Int32.ofNat i))] [(.int (Int32.ofNat i)), (.ref b), (.int (Int32.ofNat i)), (.ref t)])) rfl rfl (hb hby dT_19) _ ?_
    show Steps p.tables e below (T0.setTop (mkF m 20 #[.val (.ref b), .val (.int (Int32.ofNat i)), .val (.int (Int32.ofNat n)), .val (.ref t), .val (.int (Int32.ofNat i))] [(.int (f i)), (.int (Int32.ofNat i)), (.ref t)])) _
    exact kt
  obtain ⟨_, _, ⟨TP, LP, kP, nP⟩, -, XP, ⟨LcP, hQP, lP, yP, zP⟩, stP⟩ := Jvm.LawKit.callS X0 hx (y := (⟨"java/lang/StringUTF16", "putChar", "([BII)V"⟩ : MethodName)) hown (mvT hZ (hw _ (List.mem_of_getElem? (i := 49) rfl))) (mvT hZ (hw _ (List.mem_of_getElem? (i := 50) rfl))) (mvT hZ (hw _ (List.mem_of_getElem? (i := 26) rfl))) (mvT hZ (hw _ (List.mem_of_getElem? (i := 51) rfl))) (by decide) (backOf (W := 0) (rmP l Z a0 hw t (2 * n) i (f i) (own_pt f i) h n0 ge (by omega) (by omega) Ft Uu) hZ (hw _ (List.mem_of_getElem? (i := 51) rfl)) (hw _ (List.mem_of_getElem? (i := 26) rfl)) (by decide) (by decide)) (g := (mkF m 20 #[.val (.ref b), .val (.int (Int32.ofNat i)), .val (.int (Int32.ofNat n)), .val (.ref t), .val (.int (Int32.ofNat i))] [(.int (f i)), (.int (Int32.ofNat i)), (.ref t)])) rfl (by rw [hml]; rfl) (argsL := [(.ref t), (.int (Int32.ofNat i)), (.int (f i))]) (rest := []) (lenOf pdP rfl) rfl (by show 2 * 0 + _ ≤ _; exact Nat.le_of_eq rfl) (hb hby dT_20) (fun _ _ => ⟨rfl, e0, Nat.le_of_ble_eq_true rfl, Nat.le_of_ble_eq_true rfl⟩)
  dsimp only [Pt.U, Pt.locs, Pt.cells, Pt.slots] at XP lP yP zP stP hQP
  subst lP yP zP
  obtain ⟨rfl, NP, KP, FP⟩ := hQP
  have MP := Fr.app (N0) NP
  have F1 := FP.as (fun j _ => own_pt_step f i j)
  have nt : b ∉ [t] := by simp; exact nbt
  have B1 := Fb.keep KP nt
  have U1 := Uu.keep KP Ft
  have sg2 : ∀ target, Steps p.tables e below (TP.setTop (mkF m 8 #[.val (.ref b), .val (.int (Int32.ofNat (i + 1))), .val (.int (Int32.ofNat n)), .val (.ref t), .val (.int (Int32.ofNat (i + 1)))] [])) target → Steps p.tables e below (TP.setTop (mkF m 23 #[.val (.ref b), .val (.int (Int32.ofNat i)), .val (.int (Int32.ofNat n)), .val (.ref t), .val (.int (Int32.ofNat i))] [])) target := by
    intro target kt
    show Steps p.tables e below (TP.setTop (mkF m 23 #[.val (.ref b), .val (.int (Int32.ofNat i)), .val (.int (Int32.ofNat n)), .val (.ref t), .val (.int (Int32.ofNat i))] [])) _
    refine XS.iinc XP.here hx rfl (hb hby dT_23) rfl (l' := #[.val (.ref b), .val (.int ((Int32.ofNat i) + (1 : Int32))), .val (.int (Int32.ofNat n)), .val (.ref t), .val (.int (Int32.ofNat i))]) rfl ?_
    show Steps p.tables e below (TP.setTop (mkF m 26 #[.val (.ref b), .val (.int ((Int32.ofNat i) + (1 : Int32))), .val (.int (Int32.ofNat n)), .val (.ref t), .val (.int (Int32.ofNat i))] [])) _
    refine XS.iinc XP.here hx rfl (hb hby dT_26) rfl (l' := #[.val (.ref b), .val (.int ((Int32.ofNat i) + (1 : Int32))), .val (.int (Int32.ofNat n)), .val (.ref t), .val (.int ((Int32.ofNat i) + (1 : Int32)))]) rfl ?_
    show Steps p.tables e below (TP.setTop (mkF m 29 #[.val (.ref b), .val (.int ((Int32.ofNat i) + (1 : Int32))), .val (.int (Int32.ofNat n)), .val (.ref t), .val (.int ((Int32.ofNat i) + (1 : Int32)))] [])) _
    refine XS.goto XP.here hx rfl (pc0 := 29) (pc' := 8) rfl (hb hby dT_29) (by decide) (by decide) ?_
    show Steps p.tables e below (TP.setTop (mkF m 8 #[.val (.ref b), .val (.int ((Int32.ofNat i) + (1 : Int32))), .val (.int (Int32.ofNat n)), .val (.ref t), .val (.int ((Int32.ofNat i) + (1 : Int32)))] [])) _
    rw [own_one]
    show Steps p.tables e below (TP.setTop (mkF m 8 #[.val (.ref b), .val (.int (Int32.ofNat (i + 1))), .val (.int (Int32.ofNat n)), .val (.ref t), .val (.int (Int32.ofNat (i + 1)))] [])) _
    exact kt
  refine ⟨TP, _, _, XP, rfl, MP, KP, B1, F1, U1, fun target kt => ?_⟩
  show Steps p.tables e below (T0.setTop (mkF m 8 #[.val (.ref b), .val (.int (Int32.ofNat i)), .val (.int (Int32.ofNat n)), .val (.ref t), .val (.int (Int32.ofNat i))] [])) _
  refine sg1 _ ?_
  show Steps p.tables e below (T0.setTop (mkF m 20 #[.val (.ref b), .val (.int (Int32.ofNat i)), .val (.int (Int32.ofNat n)), .val (.ref t), .val (.int (Int32.ofNat i))] [(.int (f i)), (.int (Int32.ofNat i)), (.ref t)])) _
  refine stP _ ?_
  show Steps p.tables e below (TP.setTop (mkF m 23 #[.val (.ref b), .val (.int (Int32.ofNat i)), .val (.int (Int32.ofNat n)), .val (.ref t), .val (.int (Int32.ofNat i))] [])) _
  refine sg2 _ ?_
  exact kt
set_option maxRecDepth 65536 in
set_option maxHeartbeats 40000000 in
theorem own_tloop {p : Program} {l : Launch} {e : Env} {s : State} {m : MethodId} {args : Array Value} {below : List Frame} {meth : Method} {c : Code} {Z : State} {a0 : Array Value} {n0 : Nat} (b t : Addr) (n : Nat) (f : Nat → Int32) (hx : p.tables.exec = Jvm.exec) (hZ : Z.Warmed39 s.vm) (hw : ∀ d ∈ tables_1, d.before a0 Z = true) (hby : c.code = jdk_52_method_14_code) (hml : c.maxLocals = 5) (hown : s.vm.findClass "java/lang/StringUTF16" = some m.cls) (ge : n0 ≤ t) (nbt : ¬ b = t) (hn : n ≤ 256) :
    ∀ (k i : Nat) (h : Heap) (T0 : State) (locs : List Loc), i + k = n → Stand p l e ({ frames := 2, cells := 1, slots := 512, locals := 30 } : Room) s m args below meth c T0 locs 1 512 → T0.heap = h → Fr n0 locs → own_AF Z h b .char n f → own_AF Z h t .byte (2 * n) (own_pt f i) → own_U Z h →
      ∃ (T' : State) (L' : List Loc) (h' : Heap), Stand p l e ({ frames := 2, cells := 1, slots := 512, locals := 30 } : Room) s m args below meth c T' L' 1 512 ∧ T'.heap = h' ∧ Fr n0 L' ∧ Keep h h' [t] ∧ own_AF Z h' t .byte (2 * n) (own_pt f n) ∧
        ∀ target, Steps p.tables e below (T'.setTop (mkF m 8 #[.val (.ref b), .val (.int (Int32.ofNat n)), .val (.int (Int32.ofNat n)), .val (.ref t), .val (.int (Int32.ofNat n))] [])) target → Steps p.tables e below (T0.setTop (mkF m 8 #[.val (.ref b), .val (.int (Int32.ofNat i)), .val (.int (Int32.ofNat n)), .val (.ref t), .val (.int (Int32.ofNat i))] [])) target := by
  intro k
  induction k with
  | zero =>
    intro i h T0 locs hj X0 e0 N0 Fb Ft Uu
    obtain rfl : i = n := by omega
    exact ⟨T0, locs, h, X0, e0, N0, Keep.refl _ _, Ft, fun target kt => kt⟩
  | succ k ih =>
    intro i h T0 locs hj X0 e0 N0 Fb Ft Uu
    obtain ⟨T1, L1, h1, X1, e1, N1, K1, B1, F1, U1, st1⟩ := own_tturn (n0 := n0) b t n i f h X0 hx hZ hw hby hml hown e0 N0 ge nbt hn (by omega) Fb Ft Uu
    obtain ⟨T', L', h', X', e', N', K', F', st'⟩ := ih (i + 1) h1 T1 L1 (by omega) X1 e1 N1 B1 F1 U1
    exact ⟨T', L', h', X', e', N', own_keep_trans K1 K', F', fun target kt => st1 target (st' target kt)⟩
def own_QT (Z : State) (n : Nat) (f : Nat → Int32) (n0 : Nat) (h0 : Heap) (v : Option Value) (h : Heap) (L : List Loc) : Prop := ∃ t, v = some (.ref t) ∧ Fr n0 L ∧ Ext h0 h ∧ h0.size ≤ t ∧ own_AF Z h t .byte (2 * n) (own_b2 f)
set_option maxRecDepth 65536 in
set_option maxHeartbeats 40000000 in
theorem rmT (l : Launch) (Z : State) (a0 : Array Value) (hw : ∀ d ∈ tables_1, d.before a0 Z = true) (b : Addr) (n : Nat) (f : Nat → Int32) (h0 : Heap) (n0 : Nat) (Z0 : n0 ≤ h0.size) (hn : n ≤ 256) (Fb : own_AF Z h0 b .char n f) (Uu : own_U Z h0) :
    MetFree l (⟨"java/lang/StringUTF16", "toBytes", "([CII)[B"⟩ : MethodName) (head1 [Jvm.Cond.code (⟨"java/lang/StringUTF16", "toBytes", "([CII)[B"⟩ : MethodName) jdk_52_method_14_code 5 (some (.array .byte))] ({ frames := 2, cells := 1, slots := 512, locals := 30 } : Room)) (fun q_ U => q_ = #[(.ref b), (.int (0 : Int32)), (.int (Int32.ofNat n))] ∧ Z.Warmed39 U.vm ∧ U.heap = h0) (fun _ _ _ _ _ => True) (fun _ U o U' => ∃ v L, o = .returned v ∧ own_QT Z n f n0 h0 v U'.heap L ∧ FrameEnd U o U' L ({ frames := 2, cells := 1, slots := 512, locals := 30 } : Room).cells ({ frames := 2, cells := 1, slots := 512, locals := 30 } : Room).slots) := by
  refine MetFree.of_bodySF (plainFor_of_name pn_U) hisR ?_
  intro p e s m args below meth c s₁ Bd hml0 hP hK
  obtain ⟨rfl, hZ, hh⟩ := hP
  have hx := Bd.exec
  have hby := Bd.bytes
  have hml : c.maxLocals = 5 := hml0
  have hown : s.vm.findClass "java/lang/StringUTF16" = some m.cls := findClass_of_methodNamed Bd.named
  have hnm := (name_of_methodNamed Bd.named Bd.method).1
  have X0 : Stand p l e ({ frames := 2, cells := 1, slots := 512, locals := 30 } : Room) s m #[(.ref b), (.int (0 : Int32)), (.int (Int32.ofNat n))] below meth c s₁ [] 0 0 := Stand.of_body Bd
  have e0 : s₁.heap = h0 := by rw [← hh, Bd.state]; rfl
  have sg1 : ∀ target, Steps p.tables e below (s₁.setTop (mkF m 1 #[.val (.ref b), .val (.int (0 : Int32)), .val (.int (Int32.ofNat n)), .unset, .unset] [(.int (Int32.ofNat n))])) target → Steps p.tables e below (s₁.setTop (mkF m 0 #[.val (.ref b), .val (.int (0 : Int32)), .val (.int (Int32.ofNat n)), .unset, .unset] [])) target := by
    intro target kt
    show Steps p.tables e below (s₁.setTop (mkF m 0 #[.val (.ref b), .val (.int (0 : Int32)), .val (.int (Int32.ofNat n)), .unset, .unset] [])) _
    refine XS.iloadN X0.here hx rfl (hb hby dT_0) rfl ?_
    show Steps p.tables e below (s₁.setTop (mkF m 1 #[.val (.ref b), .val (.int (0 : Int32)), .val (.int (Int32.ofNat n)), .unset, .unset] [(.int (Int32.ofNat n))])) _
    exact kt
  obtain ⟨_, _, ⟨TF, LF, kF, nF⟩, -, XF, ⟨LcF, hQF, lF, yF, zF⟩, stF⟩ := Jvm.LawKit.callS X0 hx (y := (⟨"java/lang/StringUTF16", "newBytesFor", "(I)[B"⟩ : MethodName)) hown (mvT hZ (hw _ (List.mem_of_getElem? (i := 42) rfl))) (mvT hZ (hw _ (List.mem_of_getElem? (i := 43) rfl))) (mvT hZ (hw _ (List.mem_of_getElem? (i := 26) rfl))) (mvT hZ (hw _ (List.mem_of_getElem? (i := 44) rfl))) (by decide) (backOf (W := 0) (rmF l Z a0 hw n hn h0 n0) hZ (hw _ (List.mem_of_getElem? (i := 44) rfl)) (hw _ (List.mem_of_getElem? (i := 26) rfl)) (by decide) (by decide)) (g := (mkF m 1 #[.val (.ref b), .val (.int (0 : Int32)), .val (.int (Int32.ofNat n)), .unset, .unset] [(.int (Int32.ofNat n))])) rfl (by rw [hml]; rfl) (argsL := [(.int (Int32.ofNat n))]) (rest := []) (lenOf pdF rfl) rfl (by show 2 * 0 + _ ≤ _; exact Nat.le_of_eq rfl) (hb hby dT_1) (fun _ _ => ⟨rfl, e0, Nat.le_of_ble_eq_true rfl, Nat.le_of_ble_eq_true rfl⟩)
  dsimp only [Pt.U, Pt.locs, Pt.cells, Pt.slots] at XF lF yF zF stF hQF
  subst lF yF zF
  obtain ⟨t, rfl, NF, EF, gt, FF⟩ := hQF
  have MF := Fr.app (Fr.nil n0) NF
  have sg2 : ∀ target, Steps p.tables e below (TF.setTop (mkF m 8 #[.val (.ref b), .val (.int (Int32.ofNat 0)), .val (.int (Int32.ofNat n)), .val (.ref t), .val (.int (Int32.ofNat 0))] [])) target → Steps p.tables e below (TF.setTop (mkF m 4 #[.val (.ref b), .val (.int (0 : Int32)), .val (.int (Int32.ofNat n)), .unset, .unset] [(.ref t)])) target := by
    intro target kt
    show Steps p.tables e below (TF.setTop (mkF m 4 #[.val (.ref b), .val (.int (0 : Int32)), .val (.int (Int32.ofNat n)), .unset, .unset] [(.ref t)])) _
    refine XS.astoreN XF.here hx rfl (hb hby dT_4) rfl rfl (l' := #[.val (.ref b), .val (.int (0 : Int32)), .val (.int (Int32.ofNat n)), .val (.ref t), .unset]) rfl ?_
    show Steps p.tables e below (TF.setTop (mkF m 5 #[.val (.ref b), .val (.int (0 : Int32)), .val (.int (Int32.ofNat n)), .val (.ref t), .unset] [])) _
    refine XS.iconst XF.here hx rfl (hb hby dT_5) ?_
    show Steps p.tables e below (TF.setTop (mkF m 6 #[.val (.ref b), .val (.int (0 : Int32)), .val (.int (Int32.ofNat n)), .val (.ref t), .unset] [(.int (0 : Int32))])) _
    refine XS.istore XF.here hx rfl (hb hby dT_6) rfl (l' := #[.val (.ref b), .val (.int (0 : Int32)), .val (.int (Int32.ofNat n)), .val (.ref t), .val (.int (0 : Int32))]) rfl ?_
    show Steps p.tables e below (TF.setTop (mkF m 8 #[.val (.ref b), .val (.int (0 : Int32)), .val (.int (Int32.ofNat n)), .val (.ref t), .val (.int (0 : Int32))] [])) _
    show Steps p.tables e below (TF.setTop (mkF m 8 #[.val (.ref b), .val (.int (Int32.ofNat 0)), .val (.int (Int32.ofNat n)), .val (.ref t), .val (.int (Int32.ofNat 0))] [])) _
    exact kt
  obtain ⟨T1, L1, h1, X1, e1, N1, K1, F1, st1⟩ := own_tloop (n0 := n0) b t n f hx hZ hw hby hml hown (Nat.le_trans Z0 gt) (Nat.ne_of_lt (Nat.lt_of_lt_of_le Fb.lt gt)) hn n 0 TF.heap TF _ (by omega) XF rfl MF (Fb.ext EF) (FF.as (fun j _ => by unfold own_pt; rw [if_neg (by omega)])) (Uu.ext EF)
  have sg3 : ∀ target, Steps p.tables e below (T1.setTop (mkF m 33 #[.val (.ref b), .val (.int (Int32.ofNat n)), .val (.int (Int32.ofNat n)), .val (.ref t), .val (.int (Int32.ofNat n))] [(.ref t)])) target → Steps p.tables e below (T1.setTop (mkF m 8 #[.val (.ref b), .val (.int (Int32.ofNat n)), .val (.int (Int32.ofNat n)), .val (.ref t), .val (.int (Int32.ofNat n))] [])) target := by
    intro target kt
    show Steps p.tables e below (T1.setTop (mkF m 8 #[.val (.ref b), .val (.int (Int32.ofNat n)), .val (.int (Int32.ofNat n)), .val (.ref t), .val (.int (Int32.ofNat n))] [])) _
    refine XS.iload X1.here hx rfl (hb hby dT_8) rfl ?_
    show Steps p.tables e below (T1.setTop (mkF m 10 #[.val (.ref b), .val (.int (Int32.ofNat n)), .val (.int (Int32.ofNat n)), .val (.ref t), .val (.int (Int32.ofNat n))] [(.int (Int32.ofNat n))])) _
    refine XS.iloadN X1.here hx rfl (hb hby dT_10) rfl ?_
    show Steps p.tables e below (T1.setTop (mkF m 11 #[.val (.ref b), .val (.int (Int32.ofNat n)), .val (.int (Int32.ofNat n)), .val (.ref t), .val (.int (Int32.ofNat n))] [(.int (Int32.ofNat n)), (.int (Int32.ofNat n))])) _
    refine XS.icmpYes X1.here hx rfl (pc0 := 11) (pc' := 32) rfl (hb hby dT_11) rfl (flt (own_ge (Nat.le_refl n) (by omega))).2.1 (by decide) (by decide) ?_
    show Steps p.tables e below (T1.setTop (mkF m 32 #[.val (.ref b), .val (.int (Int32.ofNat n)), .val (.int (Int32.ofNat n)), .val (.ref t), .val (.int (Int32.ofNat n))] [])) _
    refine XS.aloadN X1.here hx rfl (hb hby dT_32) rfl rfl ?_
    show Steps p.tables e below (T1.setTop (mkF m 33 #[.val (.ref b), .val (.int (Int32.ofNat n)), .val (.int (Int32.ofNat n)), .val (.ref t), .val (.int (Int32.ofNat n))] [(.ref t)])) _
    exact kt
  obtain ⟨fs, hr, hrun, hended, hW, hsame⟩ := X1.leave (v := some (.ref t)) (fun h => by rw [Bd.returns] at h; cases h)
  refine ⟨_, _, castTop (efT m b 0 (Int32.ofNat n)) ?_, hrun, hended, _, _, rfl, ?_, ⟨_, rfl⟩, hW, hsame.mono (by decide) (by decide)⟩
  · show Steps p.tables e below (s₁.setTop (mkF m 0 #[.val (.ref b), .val (.int (0 : Int32)), .val (.int (Int32.ofNat n)), .unset, .unset] [])) _
    refine sg1 _ ?_
    show Steps p.tables e below (s₁.setTop (mkF m 1 #[.val (.ref b), .val (.int (0 : Int32)), .val (.int (Int32.ofNat n)), .unset, .unset] [(.int (Int32.ofNat n))])) _
    refine stF _ ?_
    show Steps p.tables e below (TF.setTop (mkF m 4 #[.val (.ref b), .val (.int (0 : Int32)), .val (.int (Int32.ofNat n)), .unset, .unset] [(.ref t)])) _
    refine sg2 _ ?_
    show Steps p.tables e below (TF.setTop (mkF m 8 #[.val (.ref b), .val (.int (Int32.ofNat 0)), .val (.int (Int32.ofNat n)), .val (.ref t), .val (.int (Int32.ofNat 0))] [])) _
    refine st1 _ ?_
    show Steps p.tables e below (T1.setTop (mkF m 8 #[.val (.ref b), .val (.int (Int32.ofNat n)), .val (.int (Int32.ofNat n)), .val (.ref t), .val (.int (Int32.ofNat n))] [])) _
    refine sg3 _ ?_
    show Steps p.tables e below (T1.setTop (mkF m 33 #[.val (.ref b), .val (.int (Int32.ofNat n)), .val (.int (Int32.ofNat n)), .val (.ref t), .val (.int (Int32.ofNat n))] [(.ref t)])) _
    exact retOut X1 hx (t := .array .byte) Bd.returns rfl (Or.inr (Or.inr (Or.inr (Or.inr ⟨rfl, rfl, rfl⟩)))) (hb hby dT_33) hr
  · show _
    exact by show own_QT Z n f n0 h0 _ T1.heap _; rw [e1]; exact ⟨t, rfl, N1, own_ext_keep EF K1 (allS gt all0), gt, F1.as (fun j hj => by unfold own_pt; rw [if_pos hj])⟩
theorem d3_0 : decode jdk_52_method_16_code 0 = .ok (.iload_n 2, 1) := by decide +kernel
theorem d3_1 : decode jdk_52_method_16_code 1 = .ok (.newarray .byte, 2) := by decide +kernel
theorem d3_3 : decode jdk_52_method_16_code 3 = .ok (.astore_n 3, 1) := by decide +kernel
theorem d3_4 : decode jdk_52_method_16_code 4 = .ok (.aload_n 0, 1) := by decide +kernel
theorem d3_5 : decode jdk_52_method_16_code 5 = .ok (.iload_n 1, 1) := by decide +kernel
theorem d3_6 : decode jdk_52_method_16_code 6 = .ok (.aload_n 3, 1) := by decide +kernel
theorem d3_7 : decode jdk_52_method_16_code 7 = .ok (.iconst 0, 1) := by decide +kernel
theorem d3_8 : decode jdk_52_method_16_code 8 = .ok (.iload_n 2, 1) := by decide +kernel
theorem d3_9 : decode jdk_52_method_16_code 9 = .ok (.invokestatic 115, 3) := by decide +kernel
theorem d3_12 : decode jdk_52_method_16_code 12 = .ok (.istore 4, 2) := by decide +kernel
theorem d3_14 : decode jdk_52_method_16_code 14 = .ok (.iload 4, 2) := by decide +kernel
theorem d3_16 : decode jdk_52_method_16_code 16 = .ok (.iload_n 2, 1) := by decide +kernel
theorem d3_17 : decode jdk_52_method_16_code 17 = .ok (.if_icmp .eq 40, 3) := by decide +kernel
theorem d3_20 : decode jdk_52_method_16_code 20 = .ok (.aload_n 0, 1) := by decide +kernel
theorem d3_21 : decode jdk_52_method_16_code 21 = .ok (.iload_n 1, 1) := by decide +kernel
theorem d3_22 : decode jdk_52_method_16_code 22 = .ok (.iload_n 2, 1) := by decide +kernel
theorem d3_23 : decode jdk_52_method_16_code 23 = .ok (.invokestatic 119, 3) := by decide +kernel
theorem d3_26 : decode jdk_52_method_16_code 26 = .ok (.astore 5, 2) := by decide +kernel
theorem d3_28 : decode jdk_52_method_16_code 28 = .ok (.aload 5, 2) := by decide +kernel
theorem d3_30 : decode jdk_52_method_16_code 30 = .ok (.iload 4, 2) := by decide +kernel
theorem d3_32 : decode jdk_52_method_16_code 32 = .ok (.invokestatic 71, 3) := by decide +kernel
theorem d3_35 : decode jdk_52_method_16_code 35 = .ok (.sipush 255, 3) := by decide +kernel
theorem d3_38 : decode jdk_52_method_16_code 38 = .ok (.if_icmp .gt 16, 3) := by decide +kernel
theorem d3_41 : decode jdk_52_method_16_code 41 = .ok (.aload 5, 2) := by decide +kernel
theorem d3_43 : decode jdk_52_method_16_code 43 = .ok (.iconst 0, 1) := by decide +kernel
theorem d3_44 : decode jdk_52_method_16_code 44 = .ok (.aload_n 3, 1) := by decide +kernel
theorem d3_45 : decode jdk_52_method_16_code 45 = .ok (.iconst 0, 1) := by decide +kernel
theorem d3_46 : decode jdk_52_method_16_code 46 = .ok (.iload_n 2, 1) := by decide +kernel
theorem d3_47 : decode jdk_52_method_16_code 47 = .ok (.invokestatic 123, 3) := by decide +kernel
theorem d3_50 : decode jdk_52_method_16_code 50 = .ok (.iload_n 2, 1) := by decide +kernel
theorem d3_51 : decode jdk_52_method_16_code 51 = .ok (.if_icmp .eq 6, 3) := by decide +kernel
theorem d3_54 : decode jdk_52_method_16_code 54 = .ok (.aload 5, 2) := by decide +kernel
theorem d3_56 : decode jdk_52_method_16_code 56 = .ok (.areturn, 1) := by decide +kernel
theorem d3_57 : decode jdk_52_method_16_code 57 = .ok (.aload_n 3, 1) := by decide +kernel
theorem d3_58 : decode jdk_52_method_16_code 58 = .ok (.areturn, 1) := by decide +kernel
theorem ef3 (m : MethodId) (x0 : Addr) (x1 : Int32) (x2 : Int32) : entryFrame m #[(.ref x0), (.int x1), (.int x2)] 6 = mkF m 0 #[.val (.ref x0), .val (.int x1), .val (.int x2), .unset, .unset, .unset] [] := by first | (simp [entryFrame, mkF, argsToLocals, Value.category, maxLocals]; done) | rfl
theorem own_neq {i n : Nat} (h : i < n) (hn : n ≤ 4000) : ¬ Int32.ofNat i = Int32.ofNat n := fun q => by
  have e := congrArg Int32.toInt q
  rw [own_n32 (by omega), own_n32 (by omega)] at e
  omega
theorem own_cdr {n : Nat} (h1 : 1 ≤ n) (hn : n ≤ 256) : ((((Int32.ofNat n - Int32.ofNat (2 * n)).toUInt32 >>> ((31 : Int32) &&& 31).toUInt32).toInt32).toInt8.toInt32) = 1 := by
  have a1 := c_isub (Int32.ofNat n) (Int32.ofNat (2 * n))
  have a2 := rng32 (Int32.ofNat n - Int32.ofNat (2 * n))
  have a3 := c_iushr (Int32.ofNat n - Int32.ofNat (2 * n)) 31 31 rfl (by decide)
  have a4 := c_i2b (((Int32.ofNat n - Int32.ofNat (2 * n)).toUInt32 >>> ((31 : Int32) &&& 31).toUInt32).toInt32)
  have e1 : (1 : Int32).toInt = 1 := rfl
  rw [own_n32 (by omega), own_n32 (by omega)] at a1
  rw [← Int32.toInt_inj, e1]
  omega
set_option maxRecDepth 65536 in
set_option maxHeartbeats 40000000 in
theorem rm3 (l : Launch) (Z : State) (a0 : Array Value) (hw : ∀ d ∈ tables_1, d.before a0 Z = true) (b : Addr) (n r : Nat) (f : Nat → Int32) (h0 : Heap) (n0 : Nat) (Z0 : n0 ≤ h0.size) (hn : n ≤ 256) (hrn : r < n) (hle : ∀ j, j < r → ¬ (255 : Int32) < f j) (hgt : (255 : Int32) < f r) (hf : own_c16 (f r)) (Fb : own_AF Z h0 b .char n f) (Uu : own_U Z h0) :
    MetFree l (⟨"java/lang/StringUTF16", "compress", "([CII)[B"⟩ : MethodName) (head1 [Jvm.Cond.code (⟨"java/lang/StringUTF16", "compress", "([CII)[B"⟩ : MethodName) jdk_52_method_16_code 6 (some (.array .byte))] ({ frames := 3, cells := 2, slots := 768, locals := 50 } : Room)) (fun q_ U => q_ = #[(.ref b), (.int (0 : Int32)), (.int (Int32.ofNat n))] ∧ Z.Warmed39 U.vm ∧ U.heap = h0) (fun _ _ _ _ _ => True) (fun _ U o U' => ∃ v L, o = .returned v ∧ own_QT Z n f n0 h0 v U'.heap L ∧ FrameEnd U o U' L ({ frames := 3, cells := 2, slots := 768, locals := 50 } : Room).cells ({ frames := 3, cells := 2, slots := 768, locals := 50 } : Room).slots) := by
  refine MetFree.of_bodySF (plainFor_of_name pn_U) hisR ?_
  intro p e s m args below meth c s₁ Bd hml0 hP hK
  obtain ⟨rfl, hZ, hh⟩ := hP
  have hx := Bd.exec
  have hby := Bd.bytes
  have hml : c.maxLocals = 6 := hml0
  have hown : s.vm.findClass "java/lang/StringUTF16" = some m.cls := findClass_of_methodNamed Bd.named
  have hnm := (name_of_methodNamed Bd.named Bd.method).1
  have X0 : Stand p l e ({ frames := 3, cells := 2, slots := 768, locals := 50 } : Room) s m #[(.ref b), (.int (0 : Int32)), (.int (Int32.ofNat n))] below meth c s₁ [] 0 0 := Stand.of_body Bd
  have e0 : s₁.heap = h0 := by rw [← hh, Bd.state]; rfl
  have sg1 : ∀ target, Steps p.tables e below (s₁.setTop (mkF m 1 #[.val (.ref b), .val (.int (0 : Int32)), .val (.int (Int32.ofNat n)), .unset, .unset, .unset] [(.int (Int32.ofNat n))])) target → Steps p.tables e below (s₁.setTop (mkF m 0 #[.val (.ref b), .val (.int (0 : Int32)), .val (.int (Int32.ofNat n)), .unset, .unset, .unset] [])) target := by
    intro target kt
    show Steps p.tables e below (s₁.setTop (mkF m 0 #[.val (.ref b), .val (.int (0 : Int32)), .val (.int (Int32.ofNat n)), .unset, .unset, .unset] [])) _
    refine XS.iloadN X0.here hx rfl (hb hby d3_0) rfl ?_
    show Steps p.tables e below (s₁.setTop (mkF m 1 #[.val (.ref b), .val (.int (0 : Int32)), .val (.int (Int32.ofNat n)), .unset, .unset, .unset] [(.int (Int32.ofNat n))])) _
    exact kt
  obtain ⟨T1, h1, k1, X1, e1, E1, A1, st1⟩ := newP X0 hx hZ (hw _ (List.mem_of_getElem? (i := 28) rfl)) e0 (g := (mkF m 1 #[.val (.ref b), .val (.int (0 : Int32)), .val (.int (Int32.ofNat n)), .unset, .unset, .unset] [(.int (Int32.ofNat n))])) rfl (hb hby d3_1) rfl (own_nn (by omega)) (cap := 256) (by rw [own_cl (by omega)]; omega) (by decide) (by decide) (by decide)
  obtain ⟨d, gd⟩ : ∃ z, z = h0.size := ⟨_, rfl⟩
  rw [← gd] at A1 st1
  have gd1 : h0.size ≤ d := by rw [gd]; exact Nat.le_refl _
  have Fd : own_AF Z h1 d .byte n (fun _ => 0) := by
    obtain ⟨cc, B1, -, S1, -, H1, -⟩ := Arv.new A1 (own_nn (by omega))
    rw [own_cl (by omega)] at S1
    exact ⟨cc, B1, S1, fun i hi => H1 i (by rw [S1]; exact hi)⟩
  have nbd : b ≠ d := by rw [gd]; exact Nat.ne_of_lt Fb.lt
  have sg2 : ∀ target, Steps p.tables e below (T1.setTop (mkF m 9 #[.val (.ref b), .val (.int (0 : Int32)), .val (.int (Int32.ofNat n)), .val (.ref d), .unset, .unset] [(.int (Int32.ofNat n)), (.int (0 : Int32)), (.ref d), (.int (0 : Int32)), (.ref b)])) target → Steps p.tables e below (T1.setTop (mkF m 3 #[.val (.ref b), .val (.int (0 : Int32)), .val (.int (Int32.ofNat n)), .unset, .unset, .unset] [(.ref d)])) target := by
    intro target kt
    show Steps p.tables e below (T1.setTop (mkF m 3 #[.val (.ref b), .val (.int (0 : Int32)), .val (.int (Int32.ofNat n)), .unset, .unset, .unset] [(.ref d)])) _
    refine XS.astoreN X1.here hx rfl (hb hby d3_3) rfl rfl (l' := #[.val (.ref b), .val (.int (0 : Int32)), .val (.int (Int32.ofNat n)), .val (.ref d), .unset, .unset]) rfl ?_
    show Steps p.tables e below (T1.setTop (mkF m 4 #[.val (.ref b), .val (.int (0 : Int32)), .val (.int (Int32.ofNat n)), .val (.ref d), .unset, .unset] [])) _
    refine XS.aloadN X1.here hx rfl (hb hby d3_4) rfl rfl ?_
    show Steps p.tables e below (T1.setTop (mkF m 5 #[.val (.ref b), .val (.int (0 : Int32)), .val (.int (Int32.ofNat n)), .val (.ref d), .unset, .unset] [(.ref b)])) _
    refine XS.iloadN X1.here hx rfl (hb hby d3_5) rfl ?_
    show Steps p.tables e below (T1.setTop (mkF m 6 #[.val (.ref b), .val (.int (0 : Int32)), .val (.int (Int32.ofNat n)), .val (.ref d), .unset, .unset] [(.int (0 : Int32)), (.ref b)])) _
    refine XS.aloadN X1.here hx rfl (hb hby d3_6) rfl rfl ?_
    show Steps p.tables e below (T1.setTop (mkF m 7 #[.val (.ref b), .val (.int (0 : Int32)), .val (.int (Int32.ofNat n)), .val (.ref d), .unset, .unset] [(.ref d), (.int (0 : Int32)), (.ref b)])) _
    refine XS.iconst X1.here hx rfl (hb hby d3_7) ?_
    show Steps p.tables e below (T1.setTop (mkF m 8 #[.val (.ref b), .val (.int (0 : Int32)), .val (.int (Int32.ofNat n)), .val (.ref d), .unset, .unset] [(.int (0 : Int32)), (.ref d), (.int (0 : Int32)), (.ref b)])) _
    refine XS.iloadN X1.here hx rfl (hb hby d3_8) rfl ?_
    show Steps p.tables e below (T1.setTop (mkF m 9 #[.val (.ref b), .val (.int (0 : Int32)), .val (.int (Int32.ofNat n)), .val (.ref d), .unset, .unset] [(.int (Int32.ofNat n)), (.int (0 : Int32)), (.ref d), (.int (0 : Int32)), (.ref b)])) _
    exact kt
  obtain ⟨_, _, ⟨TA, LA, kA, nA⟩, -, XA, ⟨LcA, hQA, lA, yA, zA⟩, stA⟩ := Jvm.LawKit.callS X1 hx (y := (⟨"java/lang/StringUTF16", "compress", "([CI[BII)I"⟩ : MethodName)) hown (mvT hZ (hw _ (List.mem_of_getElem? (i := 29) rfl))) (mvT hZ (hw _ (List.mem_of_getElem? (i := 30) rfl))) (mvT hZ (hw _ (List.mem_of_getElem? (i := 26) rfl))) (mvT hZ (hw _ (List.mem_of_getElem? (i := 31) rfl))) (by decide) (backOf (W := 0) (rmQ l Z a0 hw b d n r f (fun _ => 0) h1 n0 (by rw [gd]; exact Z0) nbd hn hrn hle hgt (Fb.ext E1) Fd) hZ (hw _ (List.mem_of_getElem? (i := 31) rfl)) (hw _ (List.mem_of_getElem? (i := 26) rfl)) (by decide) (by decide)) (g := (mkF m 9 #[.val (.ref b), .val (.int (0 : Int32)), .val (.int (Int32.ofNat n)), .val (.ref d), .unset, .unset] [(.int (Int32.ofNat n)), (.int (0 : Int32)), (.ref d), (.int (0 : Int32)), (.ref b)])) rfl (by rw [hml]; rfl) (argsL := [(.ref b), (.int (0 : Int32)), (.ref d), (.int (0 : Int32)), (.int (Int32.ofNat n))]) (rest := []) (lenOf pdQ rfl) rfl (by show 2 * 0 + _ ≤ _; exact Nat.le_of_eq rfl) (hb hby d3_9) (fun _ _ => ⟨rfl, e1, Nat.le_of_ble_eq_true rfl, Nat.le_of_ble_eq_true rfl⟩)
  dsimp only [Pt.U, Pt.locs, Pt.cells, Pt.slots] at XA lA yA zA stA hQA
  subst lA yA zA
  obtain ⟨rfl, NA, KA⟩ := hQA
  have MA := Fr.app (Fr.nil n0) NA
  have EA : Ext h0 TA.heap := own_ext_keep E1 KA (allS gd1 all0)
  have BA := Fb.ext EA
  have UA := Uu.ext EA
  have sg3 : ∀ target, Steps p.tables e below (TA.setTop (mkF m 23 #[.val (.ref b), .val (.int (0 : Int32)), .val (.int (Int32.ofNat n)), .val (.ref d), .val (.int (Int32.ofNat r)), .unset] [(.int (Int32.ofNat n)), (.int (0 : Int32)), (.ref b)])) target → Steps p.tables e below (TA.setTop (mkF m 12 #[.val (.ref b), .val (.int (0 : Int32)), .val (.int (Int32.ofNat n)), .val (.ref d), .unset, .unset] [(.int (Int32.ofNat r))])) target := by
    intro target kt
    show Steps p.tables e below (TA.setTop (mkF m 12 #[.val (.ref b), .val (.int (0 : Int32)), .val (.int (Int32.ofNat n)), .val (.ref d), .unset, .unset] [(.int (Int32.ofNat r))])) _
    refine XS.istore XA.here hx rfl (hb hby d3_12) rfl (l' := #[.val (.ref b), .val (.int (0 : Int32)), .val (.int (Int32.ofNat n)), .val (.ref d), .val (.int (Int32.ofNat r)), .unset]) rfl ?_
    show Steps p.tables e below (TA.setTop (mkF m 14 #[.val (.ref b), .val (.int (0 : Int32)), .val (.int (Int32.ofNat n)), .val (.ref d), .val (.int (Int32.ofNat r)), .unset] [])) _
    refine XS.iload XA.here hx rfl (hb hby d3_14) rfl ?_
    show Steps p.tables e below (TA.setTop (mkF m 16 #[.val (.ref b), .val (.int (0 : Int32)), .val (.int (Int32.ofNat n)), .val (.ref d), .val (.int (Int32.ofNat r)), .unset] [(.int (Int32.ofNat r))])) _
    refine XS.iloadN XA.here hx rfl (hb hby d3_16) rfl ?_
    show Steps p.tables e below (TA.setTop (mkF m 17 #[.val (.ref b), .val (.int (0 : Int32)), .val (.int (Int32.ofNat n)), .val (.ref d), .val (.int (Int32.ofNat r)), .unset] [(.int (Int32.ofNat n)), (.int (Int32.ofNat r))])) _
    refine XS.icmpNo XA.here hx rfl (hb hby d3_17) rfl (feq (own_neq hrn (by omega))).1 ?_
    show Steps p.tables e below (TA.setTop (mkF m 20 #[.val (.ref b), .val (.int (0 : Int32)), .val (.int (Int32.ofNat n)), .val (.ref d), .val (.int (Int32.ofNat r)), .unset] [])) _
    refine XS.aloadN XA.here hx rfl (hb hby d3_20) rfl rfl ?_
    show Steps p.tables e below (TA.setTop (mkF m 21 #[.val (.ref b), .val (.int (0 : Int32)), .val (.int (Int32.ofNat n)), .val (.ref d), .val (.int (Int32.ofNat r)), .unset] [(.ref b)])) _
    refine XS.iloadN XA.here hx rfl (hb hby d3_21) rfl ?_
    show Steps p.tables e below (TA.setTop (mkF m 22 #[.val (.ref b), .val (.int (0 : Int32)), .val (.int (Int32.ofNat n)), .val (.ref d), .val (.int (Int32.ofNat r)), .unset] [(.int (0 : Int32)), (.ref b)])) _
    refine XS.iloadN XA.here hx rfl (hb hby d3_22) rfl ?_
    show Steps p.tables e below (TA.setTop (mkF m 23 #[.val (.ref b), .val (.int (0 : Int32)), .val (.int (Int32.ofNat n)), .val (.ref d), .val (.int (Int32.ofNat r)), .unset] [(.int (Int32.ofNat n)), (.int (0 : Int32)), (.ref b)])) _
    exact kt
  obtain ⟨_, _, ⟨TB, LB, kB, nB⟩, -, XB, ⟨LcB, hQB, lB, yB, zB⟩, stB⟩ := Jvm.LawKit.callS XA hx (y := (⟨"java/lang/StringUTF16", "toBytes", "([CII)[B"⟩ : MethodName)) hown (mvT hZ (hw _ (List.mem_of_getElem? (i := 39) rfl))) (mvT hZ (hw _ (List.mem_of_getElem? (i := 40) rfl))) (mvT hZ (hw _ (List.mem_of_getElem? (i := 26) rfl))) (mvT hZ (hw _ (List.mem_of_getElem? (i := 41) rfl))) (by decide) (backOf (W := 0) (rmT l Z a0 hw b n f TA.heap n0 (Nat.le_trans Z0 EA.1) hn BA UA) hZ (hw _ (List.mem_of_getElem? (i := 41) rfl)) (hw _ (List.mem_of_getElem? (i := 26) rfl)) (by decide) (by decide)) (g := (mkF m 23 #[.val (.ref b), .val (.int (0 : Int32)), .val (.int (Int32.ofNat n)), .val (.ref d), .val (.int (Int32.ofNat r)), .unset] [(.int (Int32.ofNat n)), (.int (0 : Int32)), (.ref b)])) rfl (by rw [hml]; rfl) (argsL := [(.ref b), (.int (0 : Int32)), (.int (Int32.ofNat n))]) (rest := []) (lenOf pdT rfl) rfl (by show 2 * 0 + _ ≤ _; exact Nat.le_of_eq rfl) (hb hby d3_23) (fun _ _ => ⟨rfl, rfl, Nat.le_of_ble_eq_true rfl, Nat.le_of_ble_eq_true rfl⟩)
  dsimp only [Pt.U, Pt.locs, Pt.cells, Pt.slots] at XB lB yB zB stB hQB
  subst lB yB zB
  obtain ⟨t, rfl, NB, EB, gt, FB⟩ := hQB
  have MB := Fr.app (MA) NB
  have sg4 : ∀ target, Steps p.tables e below (TB.setTop (mkF m 32 #[.val (.ref b), .val (.int (0 : Int32)), .val (.int (Int32.ofNat n)), .val (.ref d), .val (.int (Int32.ofNat r)), .val (.ref t)] [(.int (Int32.ofNat r)), (.ref t)])) target → Steps p.tables e below (TB.setTop (mkF m 26 #[.val (.ref b), .val (.int (0 : Int32)), .val (.int (Int32.ofNat n)), .val (.ref d), .val (.int (Int32.ofNat r)), .unset] [(.ref t)])) target := by
    intro target kt
    show Steps p.tables e below (TB.setTop (mkF m 26 #[.val (.ref b), .val (.int (0 : Int32)), .val (.int (Int32.ofNat n)), .val (.ref d), .val (.int (Int32.ofNat r)), .unset] [(.ref t)])) _
    refine XS.astore XB.here hx rfl (hb hby d3_26) rfl rfl (l' := #[.val (.ref b), .val (.int (0 : Int32)), .val (.int (Int32.ofNat n)), .val (.ref d), .val (.int (Int32.ofNat r)), .val (.ref t)]) rfl ?_
    show Steps p.tables e below (TB.setTop (mkF m 28 #[.val (.ref b), .val (.int (0 : Int32)), .val (.int (Int32.ofNat n)), .val (.ref d), .val (.int (Int32.ofNat r)), .val (.ref t)] [])) _
    refine XS.aload XB.here hx rfl (hb hby d3_28) rfl rfl ?_
    show Steps p.tables e below (TB.setTop (mkF m 30 #[.val (.ref b), .val (.int (0 : Int32)), .val (.int (Int32.ofNat n)), .val (.ref d), .val (.int (Int32.ofNat r)), .val (.ref t)] [(.ref t)])) _
    refine XS.iload XB.here hx rfl (hb hby d3_30) rfl ?_
    show Steps p.tables e below (TB.setTop (mkF m 32 #[.val (.ref b), .val (.int (0 : Int32)), .val (.int (Int32.ofNat n)), .val (.ref d), .val (.int (Int32.ofNat r)), .val (.ref t)] [(.int (Int32.ofNat r)), (.ref t)])) _
    exact kt
  obtain ⟨_, _, ⟨TC, LC, kC, nC⟩, -, XC, ⟨LcC, hQC, lC, yC, zC⟩, stC⟩ := Jvm.LawKit.callS XB hx (y := (⟨"java/lang/StringUTF16", "getChar", "([BI)C"⟩ : MethodName)) hown (mvT hZ (hw _ (List.mem_of_getElem? (i := 55) rfl))) (mvT hZ (hw _ (List.mem_of_getElem? (i := 56) rfl))) (mvT hZ (hw _ (List.mem_of_getElem? (i := 26) rfl))) (mvT hZ (hw _ (List.mem_of_getElem? (i := 57) rfl))) (by decide) (backOf (W := 0) (rmG l Z a0 hw t n r f TB.heap n0 hrn hn hf FB (UA.ext EB)) hZ (hw _ (List.mem_of_getElem? (i := 57) rfl)) (hw _ (List.mem_of_getElem? (i := 26) rfl)) (by decide) (by decide)) (g := (mkF m 32 #[.val (.ref b), .val (.int (0 : Int32)), .val (.int (Int32.ofNat n)), .val (.ref d), .val (.int (Int32.ofNat r)), .val (.ref t)] [(.int (Int32.ofNat r)), (.ref t)])) rfl (by rw [hml]; rfl) (argsL := [(.ref t), (.int (Int32.ofNat r))]) (rest := []) (lenOf pdG rfl) rfl (by show 2 * 0 + _ ≤ _; exact Nat.le_of_eq rfl) (hb hby d3_32) (fun _ _ => ⟨rfl, rfl, Nat.le_of_ble_eq_true rfl, Nat.le_of_ble_eq_true rfl⟩)
  dsimp only [Pt.U, Pt.locs, Pt.cells, Pt.slots] at XC lC yC zC stC hQC
  subst lC yC zC
  obtain ⟨rfl, NC, eC⟩ := hQC
  have MC := Fr.app (MB) NC
  have sg5 : ∀ target, Steps p.tables e below (TC.setTop (mkF m 56 #[.val (.ref b), .val (.int (0 : Int32)), .val (.int (Int32.ofNat n)), .val (.ref d), .val (.int (Int32.ofNat r)), .val (.ref t)] [(.ref t)])) target → Steps p.tables e below (TC.setTop (mkF m 35 #[.val (.ref b), .val (.int (0 : Int32)), .val (.int (Int32.ofNat n)), .val (.ref d), .val (.int (Int32.ofNat r)), .val (.ref t)] [(.int (f r))])) target := by
    intro target kt
    show Steps p.tables e below (TC.setTop (mkF m 35 #[.val (.ref b), .val (.int (0 : Int32)), .val (.int (Int32.ofNat n)), .val (.ref d), .val (.int (Int32.ofNat r)), .val (.ref t)] [(.int (f r))])) _
    refine XS.sipush XC.here hx rfl (hb hby d3_35) ?_
    show Steps p.tables e below (TC.setTop (mkF m 38 #[.val (.ref b), .val (.int (0 : Int32)), .val (.int (Int32.ofNat n)), .val (.ref d), .val (.int (Int32.ofNat r)), .val (.ref t)] [(.int (255 : Int32)), (.int (f r))])) _
    refine XS.icmpYes XC.here hx rfl (pc0 := 38) (pc' := 54) rfl (hb hby d3_38) rfl (tlt hgt).2.2.1 (by decide) (by decide) ?_
    show Steps p.tables e below (TC.setTop (mkF m 54 #[.val (.ref b), .val (.int (0 : Int32)), .val (.int (Int32.ofNat n)), .val (.ref d), .val (.int (Int32.ofNat r)), .val (.ref t)] [])) _
    refine XS.aload XC.here hx rfl (hb hby d3_54) rfl rfl ?_
    show Steps p.tables e below (TC.setTop (mkF m 56 #[.val (.ref b), .val (.int (0 : Int32)), .val (.int (Int32.ofNat n)), .val (.ref d), .val (.int (Int32.ofNat r)), .val (.ref t)] [(.ref t)])) _
    exact kt
  obtain ⟨fs, hr, hrun, hended, hW, hsame⟩ := XC.leave (v := some (.ref t)) (fun h => by rw [Bd.returns] at h; cases h)
  refine ⟨_, _, castTop (ef3 m b 0 (Int32.ofNat n)) ?_, hrun, hended, _, _, rfl, ?_, ⟨_, rfl⟩, hW, hsame.mono (by decide) (by decide)⟩
  · show Steps p.tables e below (s₁.setTop (mkF m 0 #[.val (.ref b), .val (.int (0 : Int32)), .val (.int (Int32.ofNat n)), .unset, .unset, .unset] [])) _
    refine sg1 _ ?_
    show Steps p.tables e below (s₁.setTop (mkF m 1 #[.val (.ref b), .val (.int (0 : Int32)), .val (.int (Int32.ofNat n)), .unset, .unset, .unset] [(.int (Int32.ofNat n))])) _
    refine st1 _ ?_
    show Steps p.tables e below (T1.setTop (mkF m 3 #[.val (.ref b), .val (.int (0 : Int32)), .val (.int (Int32.ofNat n)), .unset, .unset, .unset] [(.ref d)])) _
    refine sg2 _ ?_
    show Steps p.tables e below (T1.setTop (mkF m 9 #[.val (.ref b), .val (.int (0 : Int32)), .val (.int (Int32.ofNat n)), .val (.ref d), .unset, .unset] [(.int (Int32.ofNat n)), (.int (0 : Int32)), (.ref d), (.int (0 : Int32)), (.ref b)])) _
    refine stA _ ?_
    show Steps p.tables e below (TA.setTop (mkF m 12 #[.val (.ref b), .val (.int (0 : Int32)), .val (.int (Int32.ofNat n)), .val (.ref d), .unset, .unset] [(.int (Int32.ofNat r))])) _
    refine sg3 _ ?_
    show Steps p.tables e below (TA.setTop (mkF m 23 #[.val (.ref b), .val (.int (0 : Int32)), .val (.int (Int32.ofNat n)), .val (.ref d), .val (.int (Int32.ofNat r)), .unset] [(.int (Int32.ofNat n)), (.int (0 : Int32)), (.ref b)])) _
    refine stB _ ?_
    show Steps p.tables e below (TB.setTop (mkF m 26 #[.val (.ref b), .val (.int (0 : Int32)), .val (.int (Int32.ofNat n)), .val (.ref d), .val (.int (Int32.ofNat r)), .unset] [(.ref t)])) _
    refine sg4 _ ?_
    show Steps p.tables e below (TB.setTop (mkF m 32 #[.val (.ref b), .val (.int (0 : Int32)), .val (.int (Int32.ofNat n)), .val (.ref d), .val (.int (Int32.ofNat r)), .val (.ref t)] [(.int (Int32.ofNat r)), (.ref t)])) _
    refine stC _ ?_
    show Steps p.tables e below (TC.setTop (mkF m 35 #[.val (.ref b), .val (.int (0 : Int32)), .val (.int (Int32.ofNat n)), .val (.ref d), .val (.int (Int32.ofNat r)), .val (.ref t)] [(.int (f r))])) _
    refine sg5 _ ?_
    show Steps p.tables e below (TC.setTop (mkF m 56 #[.val (.ref b), .val (.int (0 : Int32)), .val (.int (Int32.ofNat n)), .val (.ref d), .val (.int (Int32.ofNat r)), .val (.ref t)] [(.ref t)])) _
    exact retOut XC hx (t := .array .byte) Bd.returns rfl (Or.inr (Or.inr (Or.inr (Or.inr ⟨rfl, rfl, rfl⟩)))) (hb hby d3_56) hr
  · show _
    exact by show own_QT Z n f n0 h0 _ TC.heap _; rw [eC]; exact ⟨t, rfl, MC, own_ext_trans EA EB, Nat.le_trans EA.1 gt, FB⟩
theorem dK_0 : decode jdk_52_method_15_code 0 = .ok (.iload_n 1, 1) := by decide +kernel
theorem dK_1 : decode jdk_52_method_15_code 1 = .ok (.aload_n 0, 1) := by decide +kernel
theorem dK_2 : decode jdk_52_method_15_code 2 = .ok (.arraylength, 1) := by decide +kernel
theorem dK_3 : decode jdk_52_method_15_code 3 = .ok (.isub, 1) := by decide +kernel
theorem dK_4 : decode jdk_52_method_15_code 4 = .ok (.bipush 31, 2) := by decide +kernel
theorem dK_6 : decode jdk_52_method_15_code 6 = .ok (.iushr, 1) := by decide +kernel
theorem dK_7 : decode jdk_52_method_15_code 7 = .ok (.i2b, 1) := by decide +kernel
theorem dK_8 : decode jdk_52_method_15_code 8 = .ok (.ireturn, 1) := by decide +kernel
theorem efK (m : MethodId) (x0 : Addr) (x1 : Int32) : entryFrame m #[(.ref x0), (.int x1)] 2 = mkF m 0 #[.val (.ref x0), .val (.int x1)] [] := by first | (simp [entryFrame, mkF, argsToLocals, Value.category, maxLocals]; done) | rfl
theorem pdK : parseMethodDescriptor "([BI)B" = some ⟨[(.array .byte), .int], some .byte⟩ := by decide +kernel
set_option maxRecDepth 65536 in
set_option maxHeartbeats 40000000 in
theorem rmK (l : Launch) (Z : State) (a0 : Array Value) (hw : ∀ d ∈ tables_1, d.before a0 Z = true) (t : Addr) (n : Nat) (g : Nat → Int32) (h0 : Heap) (n0 : Nat) (h1 : 1 ≤ n) (hn : n ≤ 256) (Ft : own_AF Z h0 t .byte (2 * n) g) :
    MetFree l (⟨"java/lang/StringUTF16", "coderFromArrayLen", "([BI)B"⟩ : MethodName) (head1 [Jvm.Cond.code (⟨"java/lang/StringUTF16", "coderFromArrayLen", "([BI)B"⟩ : MethodName) jdk_52_method_15_code 2 (some .byte)] ({ frames := 0, cells := 0, slots := 0, locals := 0 } : Room)) (fun q_ U => q_ = #[(.ref t), (.int (Int32.ofNat n))] ∧ Z.Warmed39 U.vm ∧ U.heap = h0) (fun _ _ _ _ _ => True) (fun _ U o U' => ∃ v L, o = .returned v ∧ own_QS n0 (.int (1 : Int32)) h0 v U'.heap L ∧ FrameEnd U o U' L ({ frames := 0, cells := 0, slots := 0, locals := 0 } : Room).cells ({ frames := 0, cells := 0, slots := 0, locals := 0 } : Room).slots) := by
  refine MetFree.of_bodySF (plainFor_of_name pn_U) hisR ?_
  intro p e s m args below meth c s₁ Bd hml0 hP hK
  obtain ⟨rfl, hZ, hh⟩ := hP
  have hx := Bd.exec
  have hby := Bd.bytes
  have hml : c.maxLocals = 2 := hml0
  have hown : s.vm.findClass "java/lang/StringUTF16" = some m.cls := findClass_of_methodNamed Bd.named
  have hnm := (name_of_methodNamed Bd.named Bd.method).1
  have X0 : Stand p l e ({ frames := 0, cells := 0, slots := 0, locals := 0 } : Room) s m #[(.ref t), (.int (Int32.ofNat n))] below meth c s₁ [] 0 0 := Stand.of_body Bd
  have e0 : s₁.heap = h0 := by rw [← hh, Bd.state]; rfl
  obtain ⟨ct, At, St, Ht⟩ := id Ft
  have sg1 : ∀ target, Steps p.tables e below (s₁.setTop (mkF m 8 #[.val (.ref t), .val (.int (Int32.ofNat n))] [(.int (1 : Int32))])) target → Steps p.tables e below (s₁.setTop (mkF m 0 #[.val (.ref t), .val (.int (Int32.ofNat n))] [])) target := by
    intro target kt
    show Steps p.tables e below (s₁.setTop (mkF m 0 #[.val (.ref t), .val (.int (Int32.ofNat n))] [])) _
    refine XS.iloadN X0.here hx rfl (hb hby dK_0) rfl ?_
    show Steps p.tables e below (s₁.setTop (mkF m 1 #[.val (.ref t), .val (.int (Int32.ofNat n))] [(.int (Int32.ofNat n))])) _
    refine XS.aloadN X0.here hx rfl (hb hby dK_1) rfl rfl ?_
    show Steps p.tables e below (s₁.setTop (mkF m 2 #[.val (.ref t), .val (.int (Int32.ofNat n))] [(.ref t), (.int (Int32.ofNat n))])) _
    refine X0.arraylength hx (by rw [e0]; exact At.1) (State.isArrayOf_alike hZ.alike At.2.1) (g := (mkF m 2 #[.val (.ref t), .val (.int (Int32.ofNat n))] [(.ref t), (.int (Int32.ofNat n))])) rfl (rest := [(.int (Int32.ofNat n))]) rfl (hb hby dK_2) _ ?_
    rw [St]
    show Steps p.tables e below (s₁.setTop (mkF m 3 #[.val (.ref t), .val (.int (Int32.ofNat n))] [(.int (Int32.ofNat (2 * n))), (.int (Int32.ofNat n))])) _
    refine XS.isub X0.here hx rfl (hb hby dK_3) rfl ?_
    show Steps p.tables e below (s₁.setTop (mkF m 4 #[.val (.ref t), .val (.int (Int32.ofNat n))] [(.int ((Int32.ofNat n) - (Int32.ofNat (2 * n))))])) _
    refine XS.bipush X0.here hx rfl (hb hby dK_4) ?_
    show Steps p.tables e below (s₁.setTop (mkF m 6 #[.val (.ref t), .val (.int (Int32.ofNat n))] [(.int (31 : Int32)), (.int ((Int32.ofNat n) - (Int32.ofNat (2 * n))))])) _
    refine XS.iushr X0.here hx rfl (hb hby dK_6) rfl ?_
    show Steps p.tables e below (s₁.setTop (mkF m 7 #[.val (.ref t), .val (.int (Int32.ofNat n))] [(.int (((((Int32.ofNat n) - (Int32.ofNat (2 * n)))).toUInt32 >>> ((31 : Int32) &&& 31).toUInt32).toInt32))])) _
    refine XS.i2b X0.here hx rfl (hb hby dK_7) rfl ?_
    show Steps p.tables e below (s₁.setTop (mkF m 8 #[.val (.ref t), .val (.int (Int32.ofNat n))] [(.int (((((((Int32.ofNat n) - (Int32.ofNat (2 * n)))).toUInt32 >>> ((31 : Int32) &&& 31).toUInt32).toInt32)).toInt8.toInt32))])) _
    rw [(own_cdr h1 hn)]
    show Steps p.tables e below (s₁.setTop (mkF m 8 #[.val (.ref t), .val (.int (Int32.ofNat n))] [(.int (1 : Int32))])) _
    exact kt
  obtain ⟨fs, hr, hrun, hended, hW, hsame⟩ := X0.leave (v := some (.int (1 : Int32))) (fun h => by rw [Bd.returns] at h; cases h)
  refine ⟨_, _, castTop (efK m t (Int32.ofNat n)) ?_, hrun, hended, _, _, rfl, ?_, ⟨_, rfl⟩, hW, hsame.mono (by decide) (by decide)⟩
  · show Steps p.tables e below (s₁.setTop (mkF m 0 #[.val (.ref t), .val (.int (Int32.ofNat n))] [])) _
    refine sg1 _ ?_
    show Steps p.tables e below (s₁.setTop (mkF m 8 #[.val (.ref t), .val (.int (Int32.ofNat n))] [(.int (1 : Int32))])) _
    exact retN X0 hx (t := .byte) Bd.returns (by simp) (hb hby dK_8) hr
  · show _
    exact ⟨rfl, Fr.nil n0, e0⟩
/-- x is a String of the n chars f, UTF-16 -/
def own_SU (Z : State) (h : Heap) (x : Addr) (n : Nat) (f : Nat → Int32) : Prop := Exa Z h x "java/lang/String" ∧ Fld Z h x "java/lang/String" "coder" "B" (.int (1 : Int32)) ∧ ∃ t : Addr, Fld Z h x "java/lang/String" "value" "[B" (.ref t) ∧ own_AF Z h t .byte (2 * n) (own_b2 f)
theorem own_SU.ext {Z : State} {h h' : Heap} {x : Addr} {n : Nat} {f : Nat → Int32} (F : own_SU Z h x n f) (E : Ext h h') : own_SU Z h' x n f := by
  obtain ⟨a, b, t, c, d⟩ := F; exact ⟨a.ext E, b.ext E, t, c.ext E, d.ext E⟩
def own_QI (Z : State) (x : Addr) (n : Nat) (f : Nat → Int32) (n0 : Nat) (h0 : Heap) (v : Option Value) (h : Heap) (L : List Loc) : Prop := v = none ∧ Fr n0 L ∧ Keep h0 h [x] ∧ own_SU Z h x n f
theorem d4_0 : decode jdk_42_method_149_code 0 = .ok (.aload_n 0, 1) := by decide +kernel
theorem d4_1 : decode jdk_42_method_149_code 1 = .ok (.invokespecial 1, 3) := by decide +kernel
theorem d4_4 : decode jdk_42_method_149_code 4 = .ok (.iload_n 3, 1) := by decide +kernel
theorem d4_5 : decode jdk_42_method_149_code 5 = .ok (.ifCond .ne 22, 3) := by decide +kernel
theorem d4_8 : decode jdk_42_method_149_code 8 = .ok (.aload_n 0, 1) := by decide +kernel
theorem d4_9 : decode jdk_42_method_149_code 9 = .ok (.ldc 7, 2) := by decide +kernel
theorem d4_11 : decode jdk_42_method_149_code 11 = .ok (.getfield 9, 3) := by decide +kernel
theorem d4_14 : decode jdk_42_method_149_code 14 = .ok (.putfield 9, 3) := by decide +kernel
theorem d4_17 : decode jdk_42_method_149_code 17 = .ok (.aload_n 0, 1) := by decide +kernel
theorem d4_18 : decode jdk_42_method_149_code 18 = .ok (.ldc 7, 2) := by decide +kernel
theorem d4_20 : decode jdk_42_method_149_code 20 = .ok (.getfield 15, 3) := by decide +kernel
theorem d4_23 : decode jdk_42_method_149_code 23 = .ok (.putfield 15, 3) := by decide +kernel
theorem d4_26 : decode jdk_42_method_149_code 26 = .ok (.return_, 1) := by decide +kernel
theorem d4_27 : decode jdk_42_method_149_code 27 = .ok (.getstatic 38, 3) := by decide +kernel
theorem d4_30 : decode jdk_42_method_149_code 30 = .ok (.ifCond .eq 28, 3) := by decide +kernel
theorem d4_33 : decode jdk_42_method_149_code 33 = .ok (.aload_n 1, 1) := by decide +kernel
theorem d4_34 : decode jdk_42_method_149_code 34 = .ok (.iload_n 2, 1) := by decide +kernel
theorem d4_35 : decode jdk_42_method_149_code 35 = .ok (.iload_n 3, 1) := by decide +kernel
theorem d4_36 : decode jdk_42_method_149_code 36 = .ok (.invokestatic 177, 3) := by decide +kernel
theorem d4_39 : decode jdk_42_method_149_code 39 = .ok (.astore 5, 2) := by decide +kernel
theorem d4_41 : decode jdk_42_method_149_code 41 = .ok (.aload_n 0, 1) := by decide +kernel
theorem d4_42 : decode jdk_42_method_149_code 42 = .ok (.aload 5, 2) := by decide +kernel
theorem d4_44 : decode jdk_42_method_149_code 44 = .ok (.iload_n 3, 1) := by decide +kernel
theorem d4_45 : decode jdk_42_method_149_code 45 = .ok (.invokestatic 47, 3) := by decide +kernel
theorem d4_48 : decode jdk_42_method_149_code 48 = .ok (.putfield 15, 3) := by decide +kernel
theorem d4_51 : decode jdk_42_method_149_code 51 = .ok (.aload_n 0, 1) := by decide +kernel
theorem d4_52 : decode jdk_42_method_149_code 52 = .ok (.aload 5, 2) := by decide +kernel
theorem d4_54 : decode jdk_42_method_149_code 54 = .ok (.putfield 9, 3) := by decide +kernel
theorem d4_57 : decode jdk_42_method_149_code 57 = .ok (.return_, 1) := by decide +kernel
theorem d1_0 : decode jdk_42_method_3_code 0 = .ok (.aload_n 0, 1) := by decide +kernel
theorem d1_1 : decode jdk_42_method_3_code 1 = .ok (.aload_n 1, 1) := by decide +kernel
theorem d1_2 : decode jdk_42_method_3_code 2 = .ok (.iconst 0, 1) := by decide +kernel
theorem d1_3 : decode jdk_42_method_3_code 3 = .ok (.aload_n 1, 1) := by decide +kernel
theorem d1_4 : decode jdk_42_method_3_code 4 = .ok (.arraylength, 1) := by decide +kernel
theorem d1_5 : decode jdk_42_method_3_code 5 = .ok (.aconst_null, 1) := by decide +kernel
theorem d1_6 : decode jdk_42_method_3_code 6 = .ok (.invokespecial 27, 3) := by decide +kernel
theorem d1_9 : decode jdk_42_method_3_code 9 = .ok (.return_, 1) := by decide +kernel
theorem ef4 (m : MethodId) (x b : Addr) (i j : Int32) : entryFrame m #[(.ref x), (.ref b), (.int i), (.int j), .null] 6 = mkF m 0 #[.val (.ref x), .val (.ref b), .val (.int i), .val (.int j), .val .null, .unset] [] := by first | (simp [entryFrame, mkF, argsToLocals, Value.category]; done) | rfl
theorem ef1 (m : MethodId) (x0 : Addr) (x1 : Addr) : entryFrame m #[(.ref x0), (.ref x1)] 2 = mkF m 0 #[.val (.ref x0), .val (.ref x1)] [] := by first | (simp [entryFrame, mkF, argsToLocals, Value.category, maxLocals]; done) | rfl
theorem pd4 : parseMethodDescriptor "([CIILjava/lang/Void;)V" = some ⟨[(.array .char), .int, .int, (.object "java/lang/Void")], none⟩ := by decide +kernel
theorem pd1 : parseMethodDescriptor "([C)V" = some ⟨[(.array .char)], none⟩ := by decide +kernel
set_option maxRecDepth 65536 in
set_option maxHeartbeats 40000000 in
theorem rm4 (l : Launch) (Z : State) (a0 : Array Value) (hw : ∀ d ∈ tables_1, d.before a0 Z = true) (x b : Addr) (n r : Nat) (f : Nat → Int32) (G : Int32) (h0 : Heap) (n0 : Nat) (Z0 : n0 ≤ h0.size) (ge : n0 ≤ x) (hn : n ≤ 256) (hrn : r < n) (hle : ∀ j, j < r → ¬ (255 : Int32) < f j) (hgt : (255 : Int32) < f r) (hf : own_c16 (f r)) (Ex : Exa Z h0 x "java/lang/String") (Fv : Fld Z h0 x "java/lang/String" "value" "[B" .null) (Fc : Fld Z h0 x "java/lang/String" "coder" "B" (.int (0 : Int32))) (Fb : own_AF Z h0 b .char n f) (Uu : own_U Z h0) (O : Sta Z h0 "java/lang/String" "COMPACT_STRINGS" "Z" (.int G)) (hG : ¬ G = 0) :
    MetFree l (⟨"java/lang/String", "<init>", "([CIILjava/lang/Void;)V"⟩ : MethodName) (head1 [Jvm.Cond.code (⟨"java/lang/String", "<init>", "([CIILjava/lang/Void;)V"⟩ : MethodName) jdk_42_method_149_code 6 none] ({ frames := 4, cells := 2, slots := 768, locals := 70 } : Room)) (fun q_ U => q_ = #[(.ref x), (.ref b), (.int (0 : Int32)), (.int (Int32.ofNat n)), .null] ∧ Z.Warmed39 U.vm ∧ U.heap = h0) (fun _ _ _ _ _ => True) (fun _ U o U' => ∃ v L, o = .returned v ∧ own_QI Z x n f n0 h0 v U'.heap L ∧ FrameEnd U o U' L ({ frames := 4, cells := 2, slots := 768, locals := 70 } : Room).cells ({ frames := 4, cells := 2, slots := 768, locals := 70 } : Room).slots) := by
  refine MetFree.of_bodySF (plainFor_of_name pn_S) hisR ?_
  intro p e s m args below meth c s₁ Bd hml0 hP hK
  obtain ⟨rfl, hZ, hh⟩ := hP
  have hx := Bd.exec
  have hby := Bd.bytes
  have hml : c.maxLocals = 6 := hml0
  have hown : s.vm.findClass "java/lang/String" = some m.cls := findClass_of_methodNamed Bd.named
  have hnm := (name_of_methodNamed Bd.named Bd.method).1
  have X0 : Stand p l e ({ frames := 4, cells := 2, slots := 768, locals := 70 } : Room) s m #[(.ref x), (.ref b), (.int (0 : Int32)), (.int (Int32.ofNat n)), .null] below meth c s₁ [] 0 0 := Stand.of_body Bd
  have e0 : s₁.heap = h0 := by rw [← hh, Bd.state]; rfl
  have cne : RoadKit.slotOf Z "java/lang/String" "coder" "B" ≠ RoadKit.slotOf Z "java/lang/String" "value" "[B" := slot_ne (Or.inr (hw _ (List.mem_of_getElem? (i := 36) rfl))) (Or.inr (hw _ (List.mem_of_getElem? (i := 38) rfl))) (by decide) (t := .byte) (t' := .array .byte) (by decide) (by decide)
  have hn0 : ¬ Int32.ofNat n = 0 := fun q => own_neq (i := 0) (n := n) (by omega) (by omega) q.symm
  have sg1 : ∀ target, Steps p.tables e below (s₁.setTop (mkF m 1 #[.val (.ref x), .val (.ref b), .val (.int (0 : Int32)), .val (.int (Int32.ofNat n)), .val .null, .unset] [(.ref x)])) target → Steps p.tables e below (s₁.setTop (mkF m 0 #[.val (.ref x), .val (.ref b), .val (.int (0 : Int32)), .val (.int (Int32.ofNat n)), .val .null, .unset] [])) target := by
    intro target kt
    show Steps p.tables e below (s₁.setTop (mkF m 0 #[.val (.ref x), .val (.ref b), .val (.int (0 : Int32)), .val (.int (Int32.ofNat n)), .val .null, .unset] [])) _
    refine XS.aloadN X0.here hx rfl (hb hby d4_0) rfl rfl ?_
    show Steps p.tables e below (s₁.setTop (mkF m 1 #[.val (.ref x), .val (.ref b), .val (.int (0 : Int32)), .val (.int (Int32.ofNat n)), .val .null, .unset] [(.ref x)])) _
    exact kt
  obtain ⟨Ti2, Xi2, ei2, sti2⟩ := initO X0 hx hZ hown (hw _ (List.mem_of_getElem? (i := 20) rfl)) (hw _ (List.mem_of_getElem? (i := 21) rfl)) (hw _ (List.mem_of_getElem? (i := 22) rfl)) e0 (g := (mkF m 1 #[.val (.ref x), .val (.ref b), .val (.int (0 : Int32)), .val (.int (Int32.ofNat n)), .val .null, .unset] [(.ref x)])) rfl (by rw [hml]; rfl) rfl (hb hby d4_1) (by decide) (W := 0) (by show 2 * 0 + _ ≤ _; exact Nat.le_of_eq rfl) (by decide)
  have sg3 : ∀ target, Steps p.tables e below (Ti2.setTop (mkF m 27 #[.val (.ref x), .val (.ref b), .val (.int (0 : Int32)), .val (.int (Int32.ofNat n)), .val .null, .unset] [])) target → Steps p.tables e below (Ti2.setTop (mkF m 4 #[.val (.ref x), .val (.ref b), .val (.int (0 : Int32)), .val (.int (Int32.ofNat n)), .val .null, .unset] [])) target := by
    intro target kt
    show Steps p.tables e below (Ti2.setTop (mkF m 4 #[.val (.ref x), .val (.ref b), .val (.int (0 : Int32)), .val (.int (Int32.ofNat n)), .val .null, .unset] [])) _
    refine XS.iloadN Xi2.here hx rfl (hb hby d4_4) rfl ?_
    show Steps p.tables e below (Ti2.setTop (mkF m 5 #[.val (.ref x), .val (.ref b), .val (.int (0 : Int32)), .val (.int (Int32.ofNat n)), .val .null, .unset] [(.int (Int32.ofNat n))])) _
    refine XS.ifYes Xi2.here hx rfl (pc0 := 5) (pc' := 27) rfl (hb hby d4_5) rfl (by rw [if0]; exact (feq hn0).2) (by decide) (by decide) ?_
    show Steps p.tables e below (Ti2.setTop (mkF m 27 #[.val (.ref x), .val (.ref b), .val (.int (0 : Int32)), .val (.int (Int32.ofNat n)), .val .null, .unset] [])) _
    exact kt
  obtain ⟨T4, X4, e4, st4⟩ := getS Xi2 hx hZ hown (host := "") (hw _ (List.mem_of_getElem? (i := 23) rfl)) Via.refl ei2 O (g := (mkF m 27 #[.val (.ref x), .val (.ref b), .val (.int (0 : Int32)), .val (.int (Int32.ofNat n)), .val .null, .unset] [])) rfl (hb hby d4_27)
  have sg5 : ∀ target, Steps p.tables e below (T4.setTop (mkF m 36 #[.val (.ref x), .val (.ref b), .val (.int (0 : Int32)), .val (.int (Int32.ofNat n)), .val .null, .unset] [(.int (Int32.ofNat n)), (.int (0 : Int32)), (.ref b)])) target → Steps p.tables e below (T4.setTop (mkF m 30 #[.val (.ref x), .val (.ref b), .val (.int (0 : Int32)), .val (.int (Int32.ofNat n)), .val .null, .unset] [(.int G)])) target := by
    intro target kt
    show Steps p.tables e below (T4.setTop (mkF m 30 #[.val (.ref x), .val (.ref b), .val (.int (0 : Int32)), .val (.int (Int32.ofNat n)), .val .null, .unset] [(.int G)])) _
    refine XS.ifNo X4.here hx rfl (hb hby d4_30) rfl (by rw [if0]; exact (feq hG).1) ?_
    show Steps p.tables e below (T4.setTop (mkF m 33 #[.val (.ref x), .val (.ref b), .val (.int (0 : Int32)), .val (.int (Int32.ofNat n)), .val .null, .unset] [])) _
    refine XS.aloadN X4.here hx rfl (hb hby d4_33) rfl rfl ?_
    show Steps p.tables e below (T4.setTop (mkF m 34 #[.val (.ref x), .val (.ref b), .val (.int (0 : Int32)), .val (.int (Int32.ofNat n)), .val .null, .unset] [(.ref b)])) _
    refine XS.iloadN X4.here hx rfl (hb hby d4_34) rfl ?_
    show Steps p.tables e below (T4.setTop (mkF m 35 #[.val (.ref x), .val (.ref b), .val (.int (0 : Int32)), .val (.int (Int32.ofNat n)), .val .null, .unset] [(.int (0 : Int32)), (.ref b)])) _
    refine XS.iloadN X4.here hx rfl (hb hby d4_35) rfl ?_
    show Steps p.tables e below (T4.setTop (mkF m 36 #[.val (.ref x), .val (.ref b), .val (.int (0 : Int32)), .val (.int (Int32.ofNat n)), .val .null, .unset] [(.int (Int32.ofNat n)), (.int (0 : Int32)), (.ref b)])) _
    exact kt
  obtain ⟨_, _, ⟨TA, LA, kA, nA⟩, -, XA, ⟨LcA, hQA, lA, yA, zA⟩, stA⟩ := Jvm.LawKit.callS X4 hx (y := (⟨"java/lang/StringUTF16", "compress", "([CII)[B"⟩ : MethodName)) hown (mvT hZ (hw _ (List.mem_of_getElem? (i := 24) rfl))) (mvT hZ (hw _ (List.mem_of_getElem? (i := 25) rfl))) (mvT hZ (hw _ (List.mem_of_getElem? (i := 26) rfl))) (mvT hZ (hw _ (List.mem_of_getElem? (i := 27) rfl))) (by decide) (backOf (W := 0) (rm3 l Z a0 hw b n r f h0 n0 Z0 hn hrn hle hgt hf Fb Uu) hZ (hw _ (List.mem_of_getElem? (i := 27) rfl)) (hw _ (List.mem_of_getElem? (i := 26) rfl)) (by decide) (by decide)) (g := (mkF m 36 #[.val (.ref x), .val (.ref b), .val (.int (0 : Int32)), .val (.int (Int32.ofNat n)), .val .null, .unset] [(.int (Int32.ofNat n)), (.int (0 : Int32)), (.ref b)])) rfl (by rw [hml]; rfl) (argsL := [(.ref b), (.int (0 : Int32)), (.int (Int32.ofNat n))]) (rest := []) (lenOf pdT rfl) rfl (by show 2 * 0 + _ ≤ _; exact Nat.le_of_eq rfl) (hb hby d4_36) (fun _ _ => ⟨rfl, e4, Nat.le_of_ble_eq_true rfl, Nat.le_of_ble_eq_true rfl⟩)
  dsimp only [Pt.U, Pt.locs, Pt.cells, Pt.slots] at XA lA yA zA stA hQA
  subst lA yA zA
  obtain ⟨t, rfl, NA, EA, gt, FA⟩ := hQA
  have MA := Fr.app (Fr.nil n0) NA
  have sg6 : ∀ target, Steps p.tables e below (TA.setTop (mkF m 45 #[.val (.ref x), .val (.ref b), .val (.int (0 : Int32)), .val (.int (Int32.ofNat n)), .val .null, .val (.ref t)] [(.int (Int32.ofNat n)), (.ref t), (.ref x)])) target → Steps p.tables e below (TA.setTop (mkF m 39 #[.val (.ref x), .val (.ref b), .val (.int (0 : Int32)), .val (.int (Int32.ofNat n)), .val .null, .unset] [(.ref t)])) target := by
    intro target kt
    show Steps p.tables e below (TA.setTop (mkF m 39 #[.val (.ref x), .val (.ref b), .val (.int (0 : Int32)), .val (.int (Int32.ofNat n)), .val .null, .unset] [(.ref t)])) _
    refine XS.astore XA.here hx rfl (hb hby d4_39) rfl rfl (l' := #[.val (.ref x), .val (.ref b), .val (.int (0 : Int32)), .val (.int (Int32.ofNat n)), .val .null, .val (.ref t)]) rfl ?_
    show Steps p.tables e below (TA.setTop (mkF m 41 #[.val (.ref x), .val (.ref b), .val (.int (0 : Int32)), .val (.int (Int32.ofNat n)), .val .null, .val (.ref t)] [])) _
    refine XS.aloadN XA.here hx rfl (hb hby d4_41) rfl rfl ?_
    show Steps p.tables e below (TA.setTop (mkF m 42 #[.val (.ref x), .val (.ref b), .val (.int (0 : Int32)), .val (.int (Int32.ofNat n)), .val .null, .val (.ref t)] [(.ref x)])) _
    refine XS.aload XA.here hx rfl (hb hby d4_42) rfl rfl ?_
    show Steps p.tables e below (TA.setTop (mkF m 44 #[.val (.ref x), .val (.ref b), .val (.int (0 : Int32)), .val (.int (Int32.ofNat n)), .val .null, .val (.ref t)] [(.ref t), (.ref x)])) _
    refine XS.iloadN XA.here hx rfl (hb hby d4_44) rfl ?_
    show Steps p.tables e below (TA.setTop (mkF m 45 #[.val (.ref x), .val (.ref b), .val (.int (0 : Int32)), .val (.int (Int32.ofNat n)), .val .null, .val (.ref t)] [(.int (Int32.ofNat n)), (.ref t), (.ref x)])) _
    exact kt
  obtain ⟨_, _, ⟨TB, LB, kB, nB⟩, -, XB, ⟨LcB, hQB, lB, yB, zB⟩, stB⟩ := Jvm.LawKit.callS XA hx (y := (⟨"java/lang/StringUTF16", "coderFromArrayLen", "([BI)B"⟩ : MethodName)) hown (mvT hZ (hw _ (List.mem_of_getElem? (i := 32) rfl))) (mvT hZ (hw _ (List.mem_of_getElem? (i := 33) rfl))) (mvT hZ (hw _ (List.mem_of_getElem? (i := 26) rfl))) (mvT hZ (hw _ (List.mem_of_getElem? (i := 34) rfl))) (by decide) (backOf (W := 1) (rmK l Z a0 hw t n (own_b2 f) TA.heap n0 (by omega) hn FA) hZ (hw _ (List.mem_of_getElem? (i := 34) rfl)) (hw _ (List.mem_of_getElem? (i := 26) rfl)) (by decide) (by decide)) (g := (mkF m 45 #[.val (.ref x), .val (.ref b), .val (.int (0 : Int32)), .val (.int (Int32.ofNat n)), .val .null, .val (.ref t)] [(.int (Int32.ofNat n)), (.ref t), (.ref x)])) rfl (by rw [hml]; rfl) (argsL := [(.ref t), (.int (Int32.ofNat n))]) (rest := [(.ref x)]) (lenOf pdK rfl) rfl (by show 2 * 0 + _ ≤ _; exact Nat.le_of_eq rfl) (hb hby d4_45) (fun _ _ => ⟨rfl, rfl, Nat.le_of_ble_eq_true rfl, Nat.le_of_ble_eq_true rfl⟩)
  dsimp only [Pt.U, Pt.locs, Pt.cells, Pt.slots] at XB lB yB zB stB hQB
  subst lB yB zB
  obtain ⟨rfl, NB, eB⟩ := hQB
  have MB := Fr.app (MA) NB
  obtain ⟨T7, h7, X7, e7, W7, st7⟩ := putF XB hx hZ hown (host := "") (Or.inl (hw _ (List.mem_of_getElem? (i := 35) rfl))) Via.refl eB (Fc.ext EA) (Ex.ext EA) (Or.inr ⟨(hw _ (List.mem_of_getElem? (i := 36) rfl)), rfl, hnm⟩) (hw _ (List.mem_of_getElem? (i := 11) rfl)) (ty := .byte) (by decide) rfl rfl (g := (mkF m 48 #[.val (.ref x), .val (.ref b), .val (.int (0 : Int32)), .val (.int (Int32.ofNat n)), .val .null, .val (.ref t)] [(.int (1 : Int32)), (.ref x)])) rfl rfl (hb hby d4_48)
  have Nx := Fr.snoc X7 (MB) ge
  have sg8 : ∀ target, Steps p.tables e below (T7.setTop (mkF m 54 #[.val (.ref x), .val (.ref b), .val (.int (0 : Int32)), .val (.int (Int32.ofNat n)), .val .null, .val (.ref t)] [(.ref t), (.ref x)])) target → Steps p.tables e below (T7.setTop (mkF m 51 #[.val (.ref x), .val (.ref b), .val (.int (0 : Int32)), .val (.int (Int32.ofNat n)), .val .null, .val (.ref t)] [])) target := by
    intro target kt
    show Steps p.tables e below (T7.setTop (mkF m 51 #[.val (.ref x), .val (.ref b), .val (.int (0 : Int32)), .val (.int (Int32.ofNat n)), .val .null, .val (.ref t)] [])) _
    refine XS.aloadN X7.here hx rfl (hb hby d4_51) rfl rfl ?_
    show Steps p.tables e below (T7.setTop (mkF m 52 #[.val (.ref x), .val (.ref b), .val (.int (0 : Int32)), .val (.int (Int32.ofNat n)), .val .null, .val (.ref t)] [(.ref x)])) _
    refine XS.aload X7.here hx rfl (hb hby d4_52) rfl rfl ?_
    show Steps p.tables e below (T7.setTop (mkF m 54 #[.val (.ref x), .val (.ref b), .val (.int (0 : Int32)), .val (.int (Int32.ofNat n)), .val .null, .val (.ref t)] [(.ref t), (.ref x)])) _
    exact kt
  obtain ⟨T9, h9, X9, e9, W9, st9⟩ := putF X7 hx hZ hown (host := "") (Or.inl (hw _ (List.mem_of_getElem? (i := 37) rfl))) Via.refl e7 ((Fv.ext EA).other W7 (Or.inr (Ne.symm cne))) ((Ex.ext EA).wr W7) (Or.inr ⟨(hw _ (List.mem_of_getElem? (i := 38) rfl)), rfl, hnm⟩) (hw _ (List.mem_of_getElem? (i := 11) rfl)) (ty := (.array .byte)) (by decide) rfl rfl (g := (mkF m 54 #[.val (.ref x), .val (.ref b), .val (.int (0 : Int32)), .val (.int (Int32.ofNat n)), .val .null, .val (.ref t)] [(.ref t), (.ref x)])) rfl rfl (hb hby d4_54)
  have Ny := Fr.snoc X9 (Nx) ge
  have nt : t ≠ x := Ne.symm (Nat.ne_of_lt (Nat.lt_of_lt_of_le Ex.lt gt))
  have Sx : own_SU Z h9 x n f := ⟨((Ex.ext EA).wr W7).wr W9, (Fld.same W7 (Fc.ext EA)).other W9 (Or.inr cne), t, Fld.same W9 ((Fv.ext EA).other W7 (Or.inr (Ne.symm cne))), (FA.other W7 nt).other W9 nt⟩
  obtain ⟨fs, hr, hrun, hended, hW, hsame⟩ := X9.leave (v := none) (fun _ => rfl)
  refine ⟨_, _, castTop (ef4 m x b 0 (Int32.ofNat n)) ?_, hrun, hended, _, _, rfl, ?_, ⟨_, rfl⟩, hW, hsame.mono (by decide) (by decide)⟩
  · show Steps p.tables e below (s₁.setTop (mkF m 0 #[.val (.ref x), .val (.ref b), .val (.int (0 : Int32)), .val (.int (Int32.ofNat n)), .val .null, .unset] [])) _
    refine sg1 _ ?_
    show Steps p.tables e below (s₁.setTop (mkF m 1 #[.val (.ref x), .val (.ref b), .val (.int (0 : Int32)), .val (.int (Int32.ofNat n)), .val .null, .unset] [(.ref x)])) _
    refine sti2 _ ?_
    show Steps p.tables e below (Ti2.setTop (mkF m 4 #[.val (.ref x), .val (.ref b), .val (.int (0 : Int32)), .val (.int (Int32.ofNat n)), .val .null, .unset] [])) _
    refine sg3 _ ?_
    show Steps p.tables e below (Ti2.setTop (mkF m 27 #[.val (.ref x), .val (.ref b), .val (.int (0 : Int32)), .val (.int (Int32.ofNat n)), .val .null, .unset] [])) _
    refine st4 _ ?_
    show Steps p.tables e below (T4.setTop (mkF m 30 #[.val (.ref x), .val (.ref b), .val (.int (0 : Int32)), .val (.int (Int32.ofNat n)), .val .null, .unset] [(.int G)])) _
    refine sg5 _ ?_
    show Steps p.tables e below (T4.setTop (mkF m 36 #[.val (.ref x), .val (.ref b), .val (.int (0 : Int32)), .val (.int (Int32.ofNat n)), .val .null, .unset] [(.int (Int32.ofNat n)), (.int (0 : Int32)), (.ref b)])) _
    refine stA _ ?_
    show Steps p.tables e below (TA.setTop (mkF m 39 #[.val (.ref x), .val (.ref b), .val (.int (0 : Int32)), .val (.int (Int32.ofNat n)), .val .null, .unset] [(.ref t)])) _
    refine sg6 _ ?_
    show Steps p.tables e below (TA.setTop (mkF m 45 #[.val (.ref x), .val (.ref b), .val (.int (0 : Int32)), .val (.int (Int32.ofNat n)), .val .null, .val (.ref t)] [(.int (Int32.ofNat n)), (.ref t), (.ref x)])) _
    refine stB _ ?_
    show Steps p.tables e below (TB.setTop (mkF m 48 #[.val (.ref x), .val (.ref b), .val (.int (0 : Int32)), .val (.int (Int32.ofNat n)), .val .null, .val (.ref t)] [(.int (1 : Int32)), (.ref x)])) _
    refine st7 _ ?_
    show Steps p.tables e below (T7.setTop (mkF m 51 #[.val (.ref x), .val (.ref b), .val (.int (0 : Int32)), .val (.int (Int32.ofNat n)), .val .null, .val (.ref t)] [])) _
    refine sg8 _ ?_
    show Steps p.tables e below (T7.setTop (mkF m 54 #[.val (.ref x), .val (.ref b), .val (.int (0 : Int32)), .val (.int (Int32.ofNat n)), .val .null, .val (.ref t)] [(.ref t), (.ref x)])) _
    refine st9 _ ?_
    show Steps p.tables e below (T9.setTop (mkF m 57 #[.val (.ref x), .val (.ref b), .val (.int (0 : Int32)), .val (.int (Int32.ofNat n)), .val .null, .val (.ref t)] [])) _
    exact X9.returnOut hx Bd.returns (hb hby d4_57) hr
  · show _
    exact by show own_QI Z x n f n0 h0 none T9.heap _; rw [e9]; exact ⟨rfl, Ny, (((Keep.refl h0 [x]).ext EA).wr W7 (Or.inl (List.mem_cons_self ..))).wr W9 (Or.inl (List.mem_cons_self ..)), Sx⟩
set_option maxRecDepth 65536 in
set_option maxHeartbeats 40000000 in
theorem rm1 (l : Launch) (Z : State) (a0 : Array Value) (hw : ∀ d ∈ tables_1, d.before a0 Z = true) (x b : Addr) (n r : Nat) (f : Nat → Int32) (G : Int32) (h0 : Heap) (n0 : Nat) (Z0 : n0 ≤ h0.size) (ge : n0 ≤ x) (hn : n ≤ 256) (hrn : r < n) (hle : ∀ j, j < r → ¬ (255 : Int32) < f j) (hgt : (255 : Int32) < f r) (hf : own_c16 (f r)) (Ex : Exa Z h0 x "java/lang/String") (Fv : Fld Z h0 x "java/lang/String" "value" "[B" .null) (Fc : Fld Z h0 x "java/lang/String" "coder" "B" (.int (0 : Int32))) (Fb : own_AF Z h0 b .char n f) (Uu : own_U Z h0) (O : Sta Z h0 "java/lang/String" "COMPACT_STRINGS" "Z" (.int G)) (hG : ¬ G = 0) :
    MetFree l (⟨"java/lang/String", "<init>", "([C)V"⟩ : MethodName) (head1 [Jvm.Cond.code (⟨"java/lang/String", "<init>", "([C)V"⟩ : MethodName) jdk_42_method_3_code 2 none] ({ frames := 5, cells := 2, slots := 768, locals := 90 } : Room)) (fun q_ U => q_ = #[(.ref x), (.ref b)] ∧ Z.Warmed39 U.vm ∧ U.heap = h0) (fun _ _ _ _ _ => True) (fun _ U o U' => ∃ v L, o = .returned v ∧ own_QI Z x n f n0 h0 v U'.heap L ∧ FrameEnd U o U' L ({ frames := 5, cells := 2, slots := 768, locals := 90 } : Room).cells ({ frames := 5, cells := 2, slots := 768, locals := 90 } : Room).slots) := by
  refine MetFree.of_bodySF (plainFor_of_name pn_S) hisR ?_
  intro p e s m args below meth c s₁ Bd hml0 hP hK
  obtain ⟨rfl, hZ, hh⟩ := hP
  have hx := Bd.exec
  have hby := Bd.bytes
  have hml : c.maxLocals = 2 := hml0
  have hown : s.vm.findClass "java/lang/String" = some m.cls := findClass_of_methodNamed Bd.named
  have hnm := (name_of_methodNamed Bd.named Bd.method).1
  have X0 : Stand p l e ({ frames := 5, cells := 2, slots := 768, locals := 90 } : Room) s m #[(.ref x), (.ref b)] below meth c s₁ [] 0 0 := Stand.of_body Bd
  have e0 : s₁.heap = h0 := by rw [← hh, Bd.state]; rfl
  obtain ⟨cb, Ab, Sb, Hb⟩ := id Fb
  have sg1 : ∀ target, Steps p.tables e below (s₁.setTop (mkF m 6 #[.val (.ref x), .val (.ref b)] [.null, (.int (Int32.ofNat n)), (.int (0 : Int32)), (.ref b), (.ref x)])) target → Steps p.tables e below (s₁.setTop (mkF m 0 #[.val (.ref x), .val (.ref b)] [])) target := by
    intro target kt
    show Steps p.tables e below (s₁.setTop (mkF m 0 #[.val (.ref x), .val (.ref b)] [])) _
    refine XS.aloadN X0.here hx rfl (hb hby d1_0) rfl rfl ?_
    show Steps p.tables e below (s₁.setTop (mkF m 1 #[.val (.ref x), .val (.ref b)] [(.ref x)])) _
    refine XS.aloadN X0.here hx rfl (hb hby d1_1) rfl rfl ?_
    show Steps p.tables e below (s₁.setTop (mkF m 2 #[.val (.ref x), .val (.ref b)] [(.ref b), (.ref x)])) _
    refine XS.iconst X0.here hx rfl (hb hby d1_2) ?_
    show Steps p.tables e below (s₁.setTop (mkF m 3 #[.val (.ref x), .val (.ref b)] [(.int (0 : Int32)), (.ref b), (.ref x)])) _
    refine XS.aloadN X0.here hx rfl (hb hby d1_3) rfl rfl ?_
    show Steps p.tables e below (s₁.setTop (mkF m 4 #[.val (.ref x), .val (.ref b)] [(.ref b), (.int (0 : Int32)), (.ref b), (.ref x)])) _
    refine X0.arraylength hx (by rw [e0]; exact Ab.1) (State.isArrayOf_alike hZ.alike Ab.2.1) (g := (mkF m 4 #[.val (.ref x), .val (.ref b)] [(.ref b), (.int (0 : Int32)), (.ref b), (.ref x)])) rfl (rest := [(.int (0 : Int32)), (.ref b), (.ref x)]) rfl (hb hby d1_4) _ ?_
    rw [Sb]
    show Steps p.tables e below (s₁.setTop (mkF m 5 #[.val (.ref x), .val (.ref b)] [(.int (Int32.ofNat n)), (.int (0 : Int32)), (.ref b), (.ref x)])) _
    refine XS.aconstNull X0.here hx rfl (hb hby d1_5) ?_
    show Steps p.tables e below (s₁.setTop (mkF m 6 #[.val (.ref x), .val (.ref b)] [.null, (.int (Int32.ofNat n)), (.int (0 : Int32)), (.ref b), (.ref x)])) _
    exact kt
  obtain ⟨_, _, ⟨TA, LA, kA, nA⟩, -, XA, ⟨LcA, hQA, lA, yA, zA⟩, stA⟩ := X0.specialBack hx (y := (⟨"java/lang/String", "<init>", "([CIILjava/lang/Void;)V"⟩ : MethodName)) rfl hown (mvT hZ (hw _ (List.mem_of_getElem? (i := 16) rfl))) (mvT hZ (hw _ (List.mem_of_getElem? (i := 17) rfl))) (mvT hZ (hw _ (List.mem_of_getElem? (i := 19) rfl))) (by decide) (backOf (W := 0) (rm4 l Z a0 hw x b n r f G h0 n0 Z0 ge hn hrn hle hgt hf Ex Fv Fc Fb Uu O hG) hZ (hw _ (List.mem_of_getElem? (i := 19) rfl)) (hw _ (List.mem_of_getElem? (i := 12) rfl)) (by decide) (by decide)) (g := (mkF m 6 #[.val (.ref x), .val (.ref b)] [.null, (.int (Int32.ofNat n)), (.int (0 : Int32)), (.ref b), (.ref x)])) rfl (by rw [hml]; rfl) (Steps.refl _) (a := x) (argsL := [(.ref b), (.int (0 : Int32)), (.int (Int32.ofNat n)), .null]) (rest := []) (lenOf pd4 rfl) rfl (by show 2 * 0 + _ ≤ _; exact Nat.le_of_eq rfl) (hb hby d1_6) (fun _ _ => ⟨rfl, e0, Nat.le_of_ble_eq_true rfl, Nat.le_of_ble_eq_true rfl⟩)
  dsimp only [Pt.U, Pt.locs, Pt.cells, Pt.slots] at XA lA yA zA stA hQA
  subst lA yA zA
  obtain ⟨rfl, NA, KA, SA⟩ := hQA
  have MA := Fr.app (Fr.nil n0) NA
  obtain ⟨fs, hr, hrun, hended, hW, hsame⟩ := XA.leave (v := none) (fun _ => rfl)
  refine ⟨_, _, castTop (ef1 m x b) ?_, hrun, hended, _, _, rfl, ?_, ⟨_, rfl⟩, hW, hsame.mono (by decide) (by decide)⟩
  · show Steps p.tables e below (s₁.setTop (mkF m 0 #[.val (.ref x), .val (.ref b)] [])) _
    refine sg1 _ ?_
    show Steps p.tables e below (s₁.setTop (mkF m 6 #[.val (.ref x), .val (.ref b)] [.null, (.int (Int32.ofNat n)), (.int (0 : Int32)), (.ref b), (.ref x)])) _
    refine stA.trans ?_
    show Steps p.tables e below (TA.setTop (mkF m 9 #[.val (.ref x), .val (.ref b)] [])) _
    exact XA.returnOut hx Bd.returns (hb hby d1_9) hr
  · show _
    exact ⟨rfl, MA, KA, SA⟩
theorem pn_P : plainName "jdk/internal/util/Preconditions" = true := by first | (simp [plainName, overriddenIn]; done) | decide +kernel
def own_isH (k : Int32) : Prop := ¬ k < (55296 : Int32) ∧ k < (56320 : Int32)
def own_isL (k : Int32) : Prop := ¬ k < (56320 : Int32) ∧ k < (57344 : Int32)
/-- what stands at index i of the n chars f: w, a char of its own or a pair -/
def own_at (f : Nat → Int32) (n i : Nat) (w : Int32) : Prop := (¬ own_isH (f i) ∧ w = f i) ∨ (own_isH (f i) ∧ i + 1 < n ∧ own_isL (f (i + 1)) ∧ w = own_cp (f i) (f (i + 1)))
theorem own_half {n : Nat} (hn : n ≤ 1000) : Int32.ofNat (2 * n) >>> ((1 : Int32) &&& 31) = Int32.ofNat n := by
  have h := c_ishr (Int32.ofNat (2 * n)) 1 1 rfl
  rw [own_n32 (by omega)] at h
  rw [← Int32.toInt_inj, own_n32 (by omega), h]
  omega
theorem own_sh0 (n : Nat) (hn : n ≤ 1000) : Int32.ofNat n >>> ((0 : Int32) &&& 31) = Int32.ofNat n := by
  have h := c_ishr (Int32.ofNat n) 0 0 rfl
  rw [own_n32 (by omega)] at h
  rw [← Int32.toInt_inj, own_n32 (by omega), h]
  omega
theorem own_l8 {x : Int32} (h : own_c16 x) (h2 : ¬ (255 : Int32) < x) : x.toInt8.toInt32 &&& (255 : Int32) = x := by
  obtain ⟨h0, -⟩ := h
  rw [Int32.lt_iff_toInt_lt, show (255 : Int32).toInt = 255 from rfl] at h2
  have a2 := c_i2b x
  have a3 := c_mask (x.toInt8.toInt32) 255 8 (by decide) (by decide)
  rw [← Int32.toInt_inj]
  omega
theorem d7_0 : decode jdk_52_method_7_code 0 = .ok (.getstatic 44, 3) := by decide +kernel
theorem d7_3 : decode jdk_52_method_7_code 3 = .ok (.ifCond .ne 16, 3) := by decide +kernel
theorem d7_6 : decode jdk_52_method_7_code 6 = .ok (.iload_n 1, 1) := by decide +kernel
theorem d7_7 : decode jdk_52_method_7_code 7 = .ok (.iload_n 2, 1) := by decide +kernel
theorem d7_8 : decode jdk_52_method_7_code 8 = .ok (.if_icmp .lt 11, 3) := by decide +kernel
theorem d7_11 : decode jdk_52_method_7_code 11 = .ok (.new 52, 3) := by decide +kernel
theorem d7_14 : decode jdk_52_method_7_code 14 = .ok (.dup, 1) := by decide +kernel
theorem d7_15 : decode jdk_52_method_7_code 15 = .ok (.invokespecial 66, 3) := by decide +kernel
theorem d7_18 : decode jdk_52_method_7_code 18 = .ok (.athrow, 1) := by decide +kernel
theorem d7_19 : decode jdk_52_method_7_code 19 = .ok (.iload_n 3, 1) := by decide +kernel
theorem d7_20 : decode jdk_52_method_7_code 20 = .ok (.ifCond .eq 8, 3) := by decide +kernel
theorem d7_23 : decode jdk_52_method_7_code 23 = .ok (.iload_n 1, 1) := by decide +kernel
theorem d7_24 : decode jdk_52_method_7_code 24 = .ok (.aload_n 0, 1) := by decide +kernel
theorem d7_25 : decode jdk_52_method_7_code 25 = .ok (.invokestatic 67, 3) := by decide +kernel
theorem d7_28 : decode jdk_52_method_7_code 28 = .ok (.aload_n 0, 1) := by decide +kernel
theorem d7_29 : decode jdk_52_method_7_code 29 = .ok (.iload_n 1, 1) := by decide +kernel
theorem d7_30 : decode jdk_52_method_7_code 30 = .ok (.invokestatic 71, 3) := by decide +kernel
theorem d7_33 : decode jdk_52_method_7_code 33 = .ok (.istore 4, 2) := by decide +kernel
theorem d7_35 : decode jdk_52_method_7_code 35 = .ok (.iload 4, 2) := by decide +kernel
theorem d7_37 : decode jdk_52_method_7_code 37 = .ok (.invokestatic 75, 3) := by decide +kernel
theorem d7_40 : decode jdk_52_method_7_code 40 = .ok (.ifCond .eq 43, 3) := by decide +kernel
theorem d7_43 : decode jdk_52_method_7_code 43 = .ok (.iinc 1 1, 3) := by decide +kernel
theorem d7_46 : decode jdk_52_method_7_code 46 = .ok (.iload_n 1, 1) := by decide +kernel
theorem d7_47 : decode jdk_52_method_7_code 47 = .ok (.iload_n 2, 1) := by decide +kernel
theorem d7_48 : decode jdk_52_method_7_code 48 = .ok (.if_icmp .ge 35, 3) := by decide +kernel
theorem d7_51 : decode jdk_52_method_7_code 51 = .ok (.iload_n 3, 1) := by decide +kernel
theorem d7_52 : decode jdk_52_method_7_code 52 = .ok (.ifCond .eq 8, 3) := by decide +kernel
theorem d7_55 : decode jdk_52_method_7_code 55 = .ok (.iload_n 1, 1) := by decide +kernel
theorem d7_56 : decode jdk_52_method_7_code 56 = .ok (.aload_n 0, 1) := by decide +kernel
theorem d7_57 : decode jdk_52_method_7_code 57 = .ok (.invokestatic 67, 3) := by decide +kernel
theorem d7_60 : decode jdk_52_method_7_code 60 = .ok (.aload_n 0, 1) := by decide +kernel
theorem d7_61 : decode jdk_52_method_7_code 61 = .ok (.iload_n 1, 1) := by decide +kernel
theorem d7_62 : decode jdk_52_method_7_code 62 = .ok (.invokestatic 71, 3) := by decide +kernel
theorem d7_65 : decode jdk_52_method_7_code 65 = .ok (.istore 5, 2) := by decide +kernel
theorem d7_67 : decode jdk_52_method_7_code 67 = .ok (.iload 5, 2) := by decide +kernel
theorem d7_69 : decode jdk_52_method_7_code 69 = .ok (.invokestatic 81, 3) := by decide +kernel
theorem d7_72 : decode jdk_52_method_7_code 72 = .ok (.ifCond .eq 11, 3) := by decide +kernel
theorem d7_75 : decode jdk_52_method_7_code 75 = .ok (.iload 4, 2) := by decide +kernel
theorem d7_77 : decode jdk_52_method_7_code 77 = .ok (.iload 5, 2) := by decide +kernel
theorem d7_79 : decode jdk_52_method_7_code 79 = .ok (.invokestatic 84, 3) := by decide +kernel
theorem d7_82 : decode jdk_52_method_7_code 82 = .ok (.ireturn, 1) := by decide +kernel
theorem d7_83 : decode jdk_52_method_7_code 83 = .ok (.iload 4, 2) := by decide +kernel
theorem d7_85 : decode jdk_52_method_7_code 85 = .ok (.ireturn, 1) := by decide +kernel
theorem ef7 (m : MethodId) (x0 : Addr) (x1 : Int32) (x2 : Int32) (x3 : Int32) : entryFrame m #[(.ref x0), (.int x1), (.int x2), (.int x3)] 6 = mkF m 0 #[.val (.ref x0), .val (.int x1), .val (.int x2), .val (.int x3), .unset, .unset] [] := by first | (simp [entryFrame, mkF, argsToLocals, Value.category, maxLocals]; done) | rfl
theorem pd7 : parseMethodDescriptor "([BIIZ)I" = some ⟨[(.array .byte), .int, .int, .boolean], some .int⟩ := by decide +kernel
set_option maxRecDepth 65536 in
set_option maxHeartbeats 40000000 in
theorem rm7 (l : Launch) (Z : State) (a0 : Array Value) (hw : ∀ d ∈ tables_1, d.before a0 Z = true) (t : Addr) (n i : Nat) (f : Nat → Int32) (w : Int32) (h0 : Heap) (n0 : Nat) (hi : i < n) (hn : n ≤ 256) (hf : ∀ j, j < n → own_c16 (f j)) (hw1 : own_at f n i w) (Ft : own_AF Z h0 t .byte (2 * n) (own_b2 f)) (Uu : own_U Z h0) :
    MetFree l (⟨"java/lang/StringUTF16", "codePointAt", "([BIIZ)I"⟩ : MethodName) (head1 [Jvm.Cond.code (⟨"java/lang/StringUTF16", "codePointAt", "([BIIZ)I"⟩ : MethodName) jdk_52_method_7_code 6 (some .int)] ({ frames := 1, cells := 0, slots := 0, locals := 20 } : Room)) (fun q_ U => q_ = #[(.ref t), (.int (Int32.ofNat i)), (.int (Int32.ofNat n)), (.int (0 : Int32))] ∧ Z.Warmed39 U.vm ∧ U.heap = h0) (fun _ _ _ _ _ => True) (fun _ U o U' => ∃ v L, o = .returned v ∧ own_QS n0 (.int w) h0 v U'.heap L ∧ FrameEnd U o U' L ({ frames := 1, cells := 0, slots := 0, locals := 20 } : Room).cells ({ frames := 1, cells := 0, slots := 0, locals := 20 } : Room).slots) := by
  refine MetFree.of_bodySF (plainFor_of_name pn_U) hisR ?_
  intro p e s m args below meth c s₁ Bd hml0 hP hK
  obtain ⟨rfl, hZ, hh⟩ := hP
  have hx := Bd.exec
  have hby := Bd.bytes
  have hml : c.maxLocals = 6 := hml0
  have hown : s.vm.findClass "java/lang/StringUTF16" = some m.cls := findClass_of_methodNamed Bd.named
  have hnm := (name_of_methodNamed Bd.named Bd.method).1
  have X0 : Stand p l e ({ frames := 1, cells := 0, slots := 0, locals := 20 } : Room) s m #[(.ref t), (.int (Int32.ofNat i)), (.int (Int32.ofNat n)), (.int (0 : Int32))] below meth c s₁ [] 0 0 := Stand.of_body Bd
  have e0 : s₁.heap = h0 := by rw [← hh, Bd.state]; rfl
  obtain ⟨T1, X1, e1, st1⟩ := getS X0 hx hZ hown (host := "") (hw _ (List.mem_of_getElem? (i := 52) rfl)) Via.refl e0 Uu.1 (g := (mkF m 0 #[.val (.ref t), .val (.int (Int32.ofNat i)), .val (.int (Int32.ofNat n)), .val (.int (0 : Int32)), .unset, .unset] [])) rfl (hb hby d7_0)
  have sg2 : ∀ target, Steps p.tables e below (T1.setTop (mkF m 30 #[.val (.ref t), .val (.int (Int32.ofNat i)), .val (.int (Int32.ofNat n)), .val (.int (0 : Int32)), .unset, .unset] [(.int (Int32.ofNat i)), (.ref t)])) target → Steps p.tables e below (T1.setTop (mkF m 3 #[.val (.ref t), .val (.int (Int32.ofNat i)), .val (.int (Int32.ofNat n)), .val (.int (0 : Int32)), .unset, .unset] [(.int (1 : Int32))])) target := by
    intro target kt
    show Steps p.tables e below (T1.setTop (mkF m 3 #[.val (.ref t), .val (.int (Int32.ofNat i)), .val (.int (Int32.ofNat n)), .val (.int (0 : Int32)), .unset, .unset] [(.int (1 : Int32))])) _
    refine XS.ifYes X1.here hx rfl (pc0 := 3) (pc' := 19) rfl (hb hby d7_3) rfl (by decide) (by decide) (by decide) ?_
    show Steps p.tables e below (T1.setTop (mkF m 19 #[.val (.ref t), .val (.int (Int32.ofNat i)), .val (.int (Int32.ofNat n)), .val (.int (0 : Int32)), .unset, .unset] [])) _
    refine XS.iloadN X1.here hx rfl (hb hby d7_19) rfl ?_
    show Steps p.tables e below (T1.setTop (mkF m 20 #[.val (.ref t), .val (.int (Int32.ofNat i)), .val (.int (Int32.ofNat n)), .val (.int (0 : Int32)), .unset, .unset] [(.int (0 : Int32))])) _
    refine XS.ifYes X1.here hx rfl (pc0 := 20) (pc' := 28) rfl (hb hby d7_20) rfl (by decide) (by decide) (by decide) ?_
    show Steps p.tables e below (T1.setTop (mkF m 28 #[.val (.ref t), .val (.int (Int32.ofNat i)), .val (.int (Int32.ofNat n)), .val (.int (0 : Int32)), .unset, .unset] [])) _
    refine XS.aloadN X1.here hx rfl (hb hby d7_28) rfl rfl ?_
    show Steps p.tables e below (T1.setTop (mkF m 29 #[.val (.ref t), .val (.int (Int32.ofNat i)), .val (.int (Int32.ofNat n)), .val (.int (0 : Int32)), .unset, .unset] [(.ref t)])) _
    refine XS.iloadN X1.here hx rfl (hb hby d7_29) rfl ?_
    show Steps p.tables e below (T1.setTop (mkF m 30 #[.val (.ref t), .val (.int (Int32.ofNat i)), .val (.int (Int32.ofNat n)), .val (.int (0 : Int32)), .unset, .unset] [(.int (Int32.ofNat i)), (.ref t)])) _
    exact kt
  obtain ⟨_, _, ⟨TA, LA, kA, nA⟩, -, XA, ⟨LcA, hQA, lA, yA, zA⟩, stA⟩ := Jvm.LawKit.callS X1 hx (y := (⟨"java/lang/StringUTF16", "getChar", "([BI)C"⟩ : MethodName)) hown (mvT hZ (hw _ (List.mem_of_getElem? (i := 55) rfl))) (mvT hZ (hw _ (List.mem_of_getElem? (i := 56) rfl))) (mvT hZ (hw _ (List.mem_of_getElem? (i := 26) rfl))) (mvT hZ (hw _ (List.mem_of_getElem? (i := 57) rfl))) (by decide) (backOf (W := 0) (rmG l Z a0 hw t n i f h0 n0 hi hn (hf i hi) Ft Uu) hZ (hw _ (List.mem_of_getElem? (i := 57) rfl)) (hw _ (List.mem_of_getElem? (i := 26) rfl)) (by decide) (by decide)) (g := (mkF m 30 #[.val (.ref t), .val (.int (Int32.ofNat i)), .val (.int (Int32.ofNat n)), .val (.int (0 : Int32)), .unset, .unset] [(.int (Int32.ofNat i)), (.ref t)])) rfl (by rw [hml]; rfl) (argsL := [(.ref t), (.int (Int32.ofNat i))]) (rest := []) (lenOf pdG rfl) rfl (by show 2 * 0 + _ ≤ _; exact Nat.le_of_eq rfl) (hb hby d7_30) (fun _ _ => ⟨rfl, e1, Nat.le_of_ble_eq_true rfl, Nat.le_of_ble_eq_true rfl⟩)
  dsimp only [Pt.U, Pt.locs, Pt.cells, Pt.slots] at XA lA yA zA stA hQA
  subst lA yA zA
  obtain ⟨rfl, NA, eA⟩ := hQA
  have MA := Fr.app (Fr.nil n0) NA
  have sg3 : ∀ target, Steps p.tables e below (TA.setTop (mkF m 37 #[.val (.ref t), .val (.int (Int32.ofNat i)), .val (.int (Int32.ofNat n)), .val (.int (0 : Int32)), .val (.int (f i)), .unset] [(.int (f i))])) target → Steps p.tables e below (TA.setTop (mkF m 33 #[.val (.ref t), .val (.int (Int32.ofNat i)), .val (.int (Int32.ofNat n)), .val (.int (0 : Int32)), .unset, .unset] [(.int (f i))])) target := by
    intro target kt
    show Steps p.tables e below (TA.setTop (mkF m 33 #[.val (.ref t), .val (.int (Int32.ofNat i)), .val (.int (Int32.ofNat n)), .val (.int (0 : Int32)), .unset, .unset] [(.int (f i))])) _
    refine XS.istore XA.here hx rfl (hb hby d7_33) rfl (l' := #[.val (.ref t), .val (.int (Int32.ofNat i)), .val (.int (Int32.ofNat n)), .val (.int (0 : Int32)), .val (.int (f i)), .unset]) rfl ?_
    show Steps p.tables e below (TA.setTop (mkF m 35 #[.val (.ref t), .val (.int (Int32.ofNat i)), .val (.int (Int32.ofNat n)), .val (.int (0 : Int32)), .val (.int (f i)), .unset] [])) _
    refine XS.iload XA.here hx rfl (hb hby d7_35) rfl ?_
    show Steps p.tables e below (TA.setTop (mkF m 37 #[.val (.ref t), .val (.int (Int32.ofNat i)), .val (.int (Int32.ofNat n)), .val (.int (0 : Int32)), .val (.int (f i)), .unset] [(.int (f i))])) _
    exact kt
  obtain ⟨_, _, ⟨TB, LB, kB, nB⟩, -, XB, ⟨LcB, hQB, lB, yB, zB⟩, stB⟩ := Jvm.LawKit.callS XA hx (y := (⟨"java/lang/Character", "isHighSurrogate", "(C)Z"⟩ : MethodName)) hown (mvT hZ (hw _ (List.mem_of_getElem? (i := 114) rfl))) (mvT hZ (hw _ (List.mem_of_getElem? (i := 115) rfl))) (mvT hZ (hw _ (List.mem_of_getElem? (i := 105) rfl))) (mvT hZ (hw _ (List.mem_of_getElem? (i := 116) rfl))) (by decide) (backOf (W := 0) (rmA l Z a0 hw (f i) h0 n0) hZ (hw _ (List.mem_of_getElem? (i := 116) rfl)) (hw _ (List.mem_of_getElem? (i := 105) rfl)) (by decide) (by decide)) (g := (mkF m 37 #[.val (.ref t), .val (.int (Int32.ofNat i)), .val (.int (Int32.ofNat n)), .val (.int (0 : Int32)), .val (.int (f i)), .unset] [(.int (f i))])) rfl (by rw [hml]; rfl) (argsL := [(.int (f i))]) (rest := []) (lenOf pdA rfl) rfl (by show 2 * 0 + _ ≤ _; exact Nat.le_of_eq rfl) (hb hby d7_37) (fun _ _ => ⟨rfl, eA, Nat.le_of_ble_eq_true rfl, Nat.le_of_ble_eq_true rfl⟩)
  dsimp only [Pt.U, Pt.locs, Pt.cells, Pt.slots] at XB lB yB zB stB hQB
  subst lB yB zB
  obtain ⟨rfl, NB, eB⟩ := hQB
  have MB := Fr.app (MA) NB
  rcases hw1 with ⟨q1, rfl⟩ | ⟨q1, q2, q3, rfl⟩
  · have hb0 : (own_bit (¬ (f i) < (55296 : Int32) ∧ (f i) < (56320 : Int32))) = 0 := if_neg q1
    have sg4 : ∀ target, Steps p.tables e below (TB.setTop (mkF m 85 #[.val (.ref t), .val (.int (Int32.ofNat i)), .val (.int (Int32.ofNat n)), .val (.int (0 : Int32)), .val (.int (f i)), .unset] [(.int (f i))])) target → Steps p.tables e below (TB.setTop (mkF m 40 #[.val (.ref t), .val (.int (Int32.ofNat i)), .val (.int (Int32.ofNat n)), .val (.int (0 : Int32)), .val (.int (f i)), .unset] [(.int (own_bit (¬ (f i) < (55296 : Int32) ∧ (f i) < (56320 : Int32))))])) target := by
      intro target kt
      show Steps p.tables e below (TB.setTop (mkF m 40 #[.val (.ref t), .val (.int (Int32.ofNat i)), .val (.int (Int32.ofNat n)), .val (.int (0 : Int32)), .val (.int (f i)), .unset] [(.int (own_bit (¬ (f i) < (55296 : Int32) ∧ (f i) < (56320 : Int32))))])) _
      rw [hb0]
      show Steps p.tables e below (TB.setTop (mkF m 40 #[.val (.ref t), .val (.int (Int32.ofNat i)), .val (.int (Int32.ofNat n)), .val (.int (0 : Int32)), .val (.int (f i)), .unset] [(.int (0 : Int32))])) _
      refine XS.ifYes XB.here hx rfl (pc0 := 40) (pc' := 83) rfl (hb hby d7_40) rfl (by decide) (by decide) (by decide) ?_
      show Steps p.tables e below (TB.setTop (mkF m 83 #[.val (.ref t), .val (.int (Int32.ofNat i)), .val (.int (Int32.ofNat n)), .val (.int (0 : Int32)), .val (.int (f i)), .unset] [])) _
      refine XS.iload XB.here hx rfl (hb hby d7_83) rfl ?_
      show Steps p.tables e below (TB.setTop (mkF m 85 #[.val (.ref t), .val (.int (Int32.ofNat i)), .val (.int (Int32.ofNat n)), .val (.int (0 : Int32)), .val (.int (f i)), .unset] [(.int (f i))])) _
      exact kt
    obtain ⟨fs, hr, hrun, hended, hW, hsame⟩ := XB.leave (v := some (.int (f i))) (fun h => by rw [Bd.returns] at h; cases h)
    refine ⟨_, _, castTop (ef7 m t (Int32.ofNat i) (Int32.ofNat n) 0) ?_, hrun, hended, _, _, rfl, ?_, ⟨_, rfl⟩, hW, hsame.mono (by decide) (by decide)⟩
    · show Steps p.tables e below (s₁.setTop (mkF m 0 #[.val (.ref t), .val (.int (Int32.ofNat i)), .val (.int (Int32.ofNat n)), .val (.int (0 : Int32)), .unset, .unset] [])) _
      refine st1 _ ?_
      show Steps p.tables e below (T1.setTop (mkF m 3 #[.val (.ref t), .val (.int (Int32.ofNat i)), .val (.int (Int32.ofNat n)), .val (.int (0 : Int32)), .unset, .unset] [(.int (1 : Int32))])) _
      refine sg2 _ ?_
      show Steps p.tables e below (T1.setTop (mkF m 30 #[.val (.ref t), .val (.int (Int32.ofNat i)), .val (.int (Int32.ofNat n)), .val (.int (0 : Int32)), .unset, .unset] [(.int (Int32.ofNat i)), (.ref t)])) _
      refine stA _ ?_
      show Steps p.tables e below (TA.setTop (mkF m 33 #[.val (.ref t), .val (.int (Int32.ofNat i)), .val (.int (Int32.ofNat n)), .val (.int (0 : Int32)), .unset, .unset] [(.int (f i))])) _
      refine sg3 _ ?_
      show Steps p.tables e below (TA.setTop (mkF m 37 #[.val (.ref t), .val (.int (Int32.ofNat i)), .val (.int (Int32.ofNat n)), .val (.int (0 : Int32)), .val (.int (f i)), .unset] [(.int (f i))])) _
      refine stB _ ?_
      show Steps p.tables e below (TB.setTop (mkF m 40 #[.val (.ref t), .val (.int (Int32.ofNat i)), .val (.int (Int32.ofNat n)), .val (.int (0 : Int32)), .val (.int (f i)), .unset] [(.int (own_bit (¬ (f i) < (55296 : Int32) ∧ (f i) < (56320 : Int32))))])) _
      refine sg4 _ ?_
      show Steps p.tables e below (TB.setTop (mkF m 85 #[.val (.ref t), .val (.int (Int32.ofNat i)), .val (.int (Int32.ofNat n)), .val (.int (0 : Int32)), .val (.int (f i)), .unset] [(.int (f i))])) _
      exact retOut XB hx (t := .int) Bd.returns rfl (Or.inl ⟨rfl, Or.inl rfl, _, rfl⟩) (hb hby d7_85) hr
    · show _
      exact ⟨rfl, MB, eB⟩
  · have hb0 : (own_bit (¬ (f i) < (55296 : Int32) ∧ (f i) < (56320 : Int32))) = 1 := if_pos q1
    have sg4 : ∀ target, Steps p.tables e below (TB.setTop (mkF m 62 #[.val (.ref t), .val (.int (Int32.ofNat (i + 1))), .val (.int (Int32.ofNat n)), .val (.int (0 : Int32)), .val (.int (f i)), .unset] [(.int (Int32.ofNat (i + 1))), (.ref t)])) target → Steps p.tables e below (TB.setTop (mkF m 40 #[.val (.ref t), .val (.int (Int32.ofNat i)), .val (.int (Int32.ofNat n)), .val (.int (0 : Int32)), .val (.int (f i)), .unset] [(.int (own_bit (¬ (f i) < (55296 : Int32) ∧ (f i) < (56320 : Int32))))])) target := by
      intro target kt
      show Steps p.tables e below (TB.setTop (mkF m 40 #[.val (.ref t), .val (.int (Int32.ofNat i)), .val (.int (Int32.ofNat n)), .val (.int (0 : Int32)), .val (.int (f i)), .unset] [(.int (own_bit (¬ (f i) < (55296 : Int32) ∧ (f i) < (56320 : Int32))))])) _
      rw [hb0]
      show Steps p.tables e below (TB.setTop (mkF m 40 #[.val (.ref t), .val (.int (Int32.ofNat i)), .val (.int (Int32.ofNat n)), .val (.int (0 : Int32)), .val (.int (f i)), .unset] [(.int (1 : Int32))])) _
      refine XS.ifNo XB.here hx rfl (hb hby d7_40) rfl (by decide) ?_
      show Steps p.tables e below (TB.setTop (mkF m 43 #[.val (.ref t), .val (.int (Int32.ofNat i)), .val (.int (Int32.ofNat n)), .val (.int (0 : Int32)), .val (.int (f i)), .unset] [])) _
      refine XS.iinc XB.here hx rfl (hb hby d7_43) rfl (l' := #[.val (.ref t), .val (.int ((Int32.ofNat i) + (1 : Int32))), .val (.int (Int32.ofNat n)), .val (.int (0 : Int32)), .val (.int (f i)), .unset]) rfl ?_
      show Steps p.tables e below (TB.setTop (mkF m 46 #[.val (.ref t), .val (.int ((Int32.ofNat i) + (1 : Int32))), .val (.int (Int32.ofNat n)), .val (.int (0 : Int32)), .val (.int (f i)), .unset] [])) _
      rw [(own_one i)]
      show Steps p.tables e below (TB.setTop (mkF m 46 #[.val (.ref t), .val (.int (Int32.ofNat (i + 1))), .val (.int (Int32.ofNat n)), .val (.int (0 : Int32)), .val (.int (f i)), .unset] [])) _
      refine XS.iloadN XB.here hx rfl (hb hby d7_46) rfl ?_
      show Steps p.tables e below (TB.setTop (mkF m 47 #[.val (.ref t), .val (.int (Int32.ofNat (i + 1))), .val (.int (Int32.ofNat n)), .val (.int (0 : Int32)), .val (.int (f i)), .unset] [(.int (Int32.ofNat (i + 1)))])) _
      refine XS.iloadN XB.here hx rfl (hb hby d7_47) rfl ?_
      show Steps p.tables e below (TB.setTop (mkF m 48 #[.val (.ref t), .val (.int (Int32.ofNat (i + 1))), .val (.int (Int32.ofNat n)), .val (.int (0 : Int32)), .val (.int (f i)), .unset] [(.int (Int32.ofNat n)), (.int (Int32.ofNat (i + 1)))])) _
      refine XS.icmpNo XB.here hx rfl (hb hby d7_48) rfl (tlt (own_lt q2 (by omega))).2.1 ?_
      show Steps p.tables e below (TB.setTop (mkF m 51 #[.val (.ref t), .val (.int (Int32.ofNat (i + 1))), .val (.int (Int32.ofNat n)), .val (.int (0 : Int32)), .val (.int (f i)), .unset] [])) _
      refine XS.iloadN XB.here hx rfl (hb hby d7_51) rfl ?_
      show Steps p.tables e below (TB.setTop (mkF m 52 #[.val (.ref t), .val (.int (Int32.ofNat (i + 1))), .val (.int (Int32.ofNat n)), .val (.int (0 : Int32)), .val (.int (f i)), .unset] [(.int (0 : Int32))])) _
      refine XS.ifYes XB.here hx rfl (pc0 := 52) (pc' := 60) rfl (hb hby d7_52) rfl (by decide) (by decide) (by decide) ?_
      show Steps p.tables e below (TB.setTop (mkF m 60 #[.val (.ref t), .val (.int (Int32.ofNat (i + 1))), .val (.int (Int32.ofNat n)), .val (.int (0 : Int32)), .val (.int (f i)), .unset] [])) _
      refine XS.aloadN XB.here hx rfl (hb hby d7_60) rfl rfl ?_
      show Steps p.tables e below (TB.setTop (mkF m 61 #[.val (.ref t), .val (.int (Int32.ofNat (i + 1))), .val (.int (Int32.ofNat n)), .val (.int (0 : Int32)), .val (.int (f i)), .unset] [(.ref t)])) _
      refine XS.iloadN XB.here hx rfl (hb hby d7_61) rfl ?_
      show Steps p.tables e below (TB.setTop (mkF m 62 #[.val (.ref t), .val (.int (Int32.ofNat (i + 1))), .val (.int (Int32.ofNat n)), .val (.int (0 : Int32)), .val (.int (f i)), .unset] [(.int (Int32.ofNat (i + 1))), (.ref t)])) _
      exact kt
    obtain ⟨_, _, ⟨TC, LC, kC, nC⟩, -, XC, ⟨LcC, hQC, lC, yC, zC⟩, stC⟩ := Jvm.LawKit.callS XB hx (y := (⟨"java/lang/StringUTF16", "getChar", "([BI)C"⟩ : MethodName)) hown (mvT hZ (hw _ (List.mem_of_getElem? (i := 55) rfl))) (mvT hZ (hw _ (List.mem_of_getElem? (i := 56) rfl))) (mvT hZ (hw _ (List.mem_of_getElem? (i := 26) rfl))) (mvT hZ (hw _ (List.mem_of_getElem? (i := 57) rfl))) (by decide) (backOf (W := 0) (rmG l Z a0 hw t n (i + 1) f h0 n0 q2 hn (hf _ q2) Ft Uu) hZ (hw _ (List.mem_of_getElem? (i := 57) rfl)) (hw _ (List.mem_of_getElem? (i := 26) rfl)) (by decide) (by decide)) (g := (mkF m 62 #[.val (.ref t), .val (.int (Int32.ofNat (i + 1))), .val (.int (Int32.ofNat n)), .val (.int (0 : Int32)), .val (.int (f i)), .unset] [(.int (Int32.ofNat (i + 1))), (.ref t)])) rfl (by rw [hml]; rfl) (argsL := [(.ref t), (.int (Int32.ofNat (i + 1)))]) (rest := []) (lenOf pdG rfl) rfl (by show 2 * 0 + _ ≤ _; exact Nat.le_of_eq rfl) (hb hby d7_62) (fun _ _ => ⟨rfl, eB, Nat.le_of_ble_eq_true rfl, Nat.le_of_ble_eq_true rfl⟩)
    dsimp only [Pt.U, Pt.locs, Pt.cells, Pt.slots] at XC lC yC zC stC hQC
    subst lC yC zC
    obtain ⟨rfl, NC, eC⟩ := hQC
    have MC := Fr.app (MB) NC
    have sg5 : ∀ target, Steps p.tables e below (TC.setTop (mkF m 69 #[.val (.ref t), .val (.int (Int32.ofNat (i + 1))), .val (.int (Int32.ofNat n)), .val (.int (0 : Int32)), .val (.int (f i)), .val (.int (f (i + 1)))] [(.int (f (i + 1)))])) target → Steps p.tables e below (TC.setTop (mkF m 65 #[.val (.ref t), .val (.int (Int32.ofNat (i + 1))), .val (.int (Int32.ofNat n)), .val (.int (0 : Int32)), .val (.int (f i)), .unset] [(.int (f (i + 1)))])) target := by
      intro target kt
      show Steps p.tables e below (TC.setTop (mkF m 65 #[.val (.ref t), .val (.int (Int32.ofNat (i + 1))), .val (.int (Int32.ofNat n)), .val (.int (0 : Int32)), .val (.int (f i)), .unset] [(.int (f (i + 1)))])) _
      refine XS.istore XC.here hx rfl (hb hby d7_65) rfl (l' := #[.val (.ref t), .val (.int (Int32.ofNat (i + 1))), .val (.int (Int32.ofNat n)), .val (.int (0 : Int32)), .val (.int (f i)), .val (.int (f (i + 1)))]) rfl ?_
      show Steps p.tables e below (TC.setTop (mkF m 67 #[.val (.ref t), .val (.int (Int32.ofNat (i + 1))), .val (.int (Int32.ofNat n)), .val (.int (0 : Int32)), .val (.int (f i)), .val (.int (f (i + 1)))] [])) _
      refine XS.iload XC.here hx rfl (hb hby d7_67) rfl ?_
      show Steps p.tables e below (TC.setTop (mkF m 69 #[.val (.ref t), .val (.int (Int32.ofNat (i + 1))), .val (.int (Int32.ofNat n)), .val (.int (0 : Int32)), .val (.int (f i)), .val (.int (f (i + 1)))] [(.int (f (i + 1)))])) _
      exact kt
    obtain ⟨_, _, ⟨TD, LD, kD, nD⟩, -, XD, ⟨LcD, hQD, lD, yD, zD⟩, stD⟩ := Jvm.LawKit.callS XC hx (y := (⟨"java/lang/Character", "isLowSurrogate", "(C)Z"⟩ : MethodName)) hown (mvT hZ (hw _ (List.mem_of_getElem? (i := 119) rfl))) (mvT hZ (hw _ (List.mem_of_getElem? (i := 120) rfl))) (mvT hZ (hw _ (List.mem_of_getElem? (i := 105) rfl))) (mvT hZ (hw _ (List.mem_of_getElem? (i := 121) rfl))) (by decide) (backOf (W := 0) (rmB l Z a0 hw (f (i + 1)) h0 n0) hZ (hw _ (List.mem_of_getElem? (i := 121) rfl)) (hw _ (List.mem_of_getElem? (i := 105) rfl)) (by decide) (by decide)) (g := (mkF m 69 #[.val (.ref t), .val (.int (Int32.ofNat (i + 1))), .val (.int (Int32.ofNat n)), .val (.int (0 : Int32)), .val (.int (f i)), .val (.int (f (i + 1)))] [(.int (f (i + 1)))])) rfl (by rw [hml]; rfl) (argsL := [(.int (f (i + 1)))]) (rest := []) (lenOf pdA rfl) rfl (by show 2 * 0 + _ ≤ _; exact Nat.le_of_eq rfl) (hb hby d7_69) (fun _ _ => ⟨rfl, eC, Nat.le_of_ble_eq_true rfl, Nat.le_of_ble_eq_true rfl⟩)
    dsimp only [Pt.U, Pt.locs, Pt.cells, Pt.slots] at XD lD yD zD stD hQD
    subst lD yD zD
    obtain ⟨rfl, ND, eD⟩ := hQD
    have MD := Fr.app (MC) ND
    have hb1 : (own_bit (¬ (f (i + 1)) < (56320 : Int32) ∧ (f (i + 1)) < (57344 : Int32))) = 1 := if_pos q3
    have sg6 : ∀ target, Steps p.tables e below (TD.setTop (mkF m 79 #[.val (.ref t), .val (.int (Int32.ofNat (i + 1))), .val (.int (Int32.ofNat n)), .val (.int (0 : Int32)), .val (.int (f i)), .val (.int (f (i + 1)))] [(.int (f (i + 1))), (.int (f i))])) target → Steps p.tables e below (TD.setTop (mkF m 72 #[.val (.ref t), .val (.int (Int32.ofNat (i + 1))), .val (.int (Int32.ofNat n)), .val (.int (0 : Int32)), .val (.int (f i)), .val (.int (f (i + 1)))] [(.int (own_bit (¬ (f (i + 1)) < (56320 : Int32) ∧ (f (i + 1)) < (57344 : Int32))))])) target := by
      intro target kt
      show Steps p.tables e below (TD.setTop (mkF m 72 #[.val (.ref t), .val (.int (Int32.ofNat (i + 1))), .val (.int (Int32.ofNat n)), .val (.int (0 : Int32)), .val (.int (f i)), .val (.int (f (i + 1)))] [(.int (own_bit (¬ (f (i + 1)) < (56320 : Int32) ∧ (f (i + 1)) < (57344 : Int32))))])) _
      rw [hb1]
      show Steps p.tables e below (TD.setTop (mkF m 72 #[.val (.ref t), .val (.int (Int32.ofNat (i + 1))), .val (.int (Int32.ofNat n)), .val (.int (0 : Int32)), .val (.int (f i)), .val (.int (f (i + 1)))] [(.int (1 : Int32))])) _
      refine XS.ifNo XD.here hx rfl (hb hby d7_72) rfl (by decide) ?_
      show Steps p.tables e below (TD.setTop (mkF m 75 #[.val (.ref t), .val (.int (Int32.ofNat (i + 1))), .val (.int (Int32.ofNat n)), .val (.int (0 : Int32)), .val (.int (f i)), .val (.int (f (i + 1)))] [])) _
      refine XS.iload XD.here hx rfl (hb hby d7_75) rfl ?_
      show Steps p.tables e below (TD.setTop (mkF m 77 #[.val (.ref t), .val (.int (Int32.ofNat (i + 1))), .val (.int (Int32.ofNat n)), .val (.int (0 : Int32)), .val (.int (f i)), .val (.int (f (i + 1)))] [(.int (f i))])) _
      refine XS.iload XD.here hx rfl (hb hby d7_77) rfl ?_
      show Steps p.tables e below (TD.setTop (mkF m 79 #[.val (.ref t), .val (.int (Int32.ofNat (i + 1))), .val (.int (Int32.ofNat n)), .val (.int (0 : Int32)), .val (.int (f i)), .val (.int (f (i + 1)))] [(.int (f (i + 1))), (.int (f i))])) _
      exact kt
    obtain ⟨_, _, ⟨TE, LE, kE, nE⟩, -, XE, ⟨LcE, hQE, lE, yE, zE⟩, stE⟩ := Jvm.LawKit.callS XD hx (y := (⟨"java/lang/Character", "toCodePoint", "(CC)I"⟩ : MethodName)) hown (mvT hZ (hw _ (List.mem_of_getElem? (i := 123) rfl))) (mvT hZ (hw _ (List.mem_of_getElem? (i := 124) rfl))) (mvT hZ (hw _ (List.mem_of_getElem? (i := 105) rfl))) (mvT hZ (hw _ (List.mem_of_getElem? (i := 125) rfl))) (by decide) (backOf (W := 0) (rmC l Z a0 hw (f i) (f (i + 1)) h0 n0) hZ (hw _ (List.mem_of_getElem? (i := 125) rfl)) (hw _ (List.mem_of_getElem? (i := 105) rfl)) (by decide) (by decide)) (g := (mkF m 79 #[.val (.ref t), .val (.int (Int32.ofNat (i + 1))), .val (.int (Int32.ofNat n)), .val (.int (0 : Int32)), .val (.int (f i)), .val (.int (f (i + 1)))] [(.int (f (i + 1))), (.int (f i))])) rfl (by rw [hml]; rfl) (argsL := [(.int (f i)), (.int (f (i + 1)))]) (rest := []) (lenOf pdC rfl) rfl (by show 2 * 0 + _ ≤ _; exact Nat.le_of_eq rfl) (hb hby d7_79) (fun _ _ => ⟨rfl, eD, Nat.le_of_ble_eq_true rfl, Nat.le_of_ble_eq_true rfl⟩)
    dsimp only [Pt.U, Pt.locs, Pt.cells, Pt.slots] at XE lE yE zE stE hQE
    subst lE yE zE
    obtain ⟨rfl, NE, eE⟩ := hQE
    have ME := Fr.app (MD) NE
    obtain ⟨fs, hr, hrun, hended, hW, hsame⟩ := XE.leave (v := some (.int (own_cp (f i) (f (i + 1))))) (fun h => by rw [Bd.returns] at h; cases h)
    refine ⟨_, _, castTop (ef7 m t (Int32.ofNat i) (Int32.ofNat n) 0) ?_, hrun, hended, _, _, rfl, ?_, ⟨_, rfl⟩, hW, hsame.mono (by decide) (by decide)⟩
    · show Steps p.tables e below (s₁.setTop (mkF m 0 #[.val (.ref t), .val (.int (Int32.ofNat i)), .val (.int (Int32.ofNat n)), .val (.int (0 : Int32)), .unset, .unset] [])) _
      refine st1 _ ?_
      show Steps p.tables e below (T1.setTop (mkF m 3 #[.val (.ref t), .val (.int (Int32.ofNat i)), .val (.int (Int32.ofNat n)), .val (.int (0 : Int32)), .unset, .unset] [(.int (1 : Int32))])) _
      refine sg2 _ ?_
      show Steps p.tables e below (T1.setTop (mkF m 30 #[.val (.ref t), .val (.int (Int32.ofNat i)), .val (.int (Int32.ofNat n)), .val (.int (0 : Int32)), .unset, .unset] [(.int (Int32.ofNat i)), (.ref t)])) _
      refine stA _ ?_
      show Steps p.tables e below (TA.setTop (mkF m 33 #[.val (.ref t), .val (.int (Int32.ofNat i)), .val (.int (Int32.ofNat n)), .val (.int (0 : Int32)), .unset, .unset] [(.int (f i))])) _
      refine sg3 _ ?_
      show Steps p.tables e below (TA.setTop (mkF m 37 #[.val (.ref t), .val (.int (Int32.ofNat i)), .val (.int (Int32.ofNat n)), .val (.int (0 : Int32)), .val (.int (f i)), .unset] [(.int (f i))])) _
      refine stB _ ?_
      show Steps p.tables e below (TB.setTop (mkF m 40 #[.val (.ref t), .val (.int (Int32.ofNat i)), .val (.int (Int32.ofNat n)), .val (.int (0 : Int32)), .val (.int (f i)), .unset] [(.int (own_bit (¬ (f i) < (55296 : Int32) ∧ (f i) < (56320 : Int32))))])) _
      refine sg4 _ ?_
      show Steps p.tables e below (TB.setTop (mkF m 62 #[.val (.ref t), .val (.int (Int32.ofNat (i + 1))), .val (.int (Int32.ofNat n)), .val (.int (0 : Int32)), .val (.int (f i)), .unset] [(.int (Int32.ofNat (i + 1))), (.ref t)])) _
      refine stC _ ?_
      show Steps p.tables e below (TC.setTop (mkF m 65 #[.val (.ref t), .val (.int (Int32.ofNat (i + 1))), .val (.int (Int32.ofNat n)), .val (.int (0 : Int32)), .val (.int (f i)), .unset] [(.int (f (i + 1)))])) _
      refine sg5 _ ?_
      show Steps p.tables e below (TC.setTop (mkF m 69 #[.val (.ref t), .val (.int (Int32.ofNat (i + 1))), .val (.int (Int32.ofNat n)), .val (.int (0 : Int32)), .val (.int (f i)), .val (.int (f (i + 1)))] [(.int (f (i + 1)))])) _
      refine stD _ ?_
      show Steps p.tables e below (TD.setTop (mkF m 72 #[.val (.ref t), .val (.int (Int32.ofNat (i + 1))), .val (.int (Int32.ofNat n)), .val (.int (0 : Int32)), .val (.int (f i)), .val (.int (f (i + 1)))] [(.int (own_bit (¬ (f (i + 1)) < (56320 : Int32) ∧ (f (i + 1)) < (57344 : Int32))))])) _
      refine sg6 _ ?_
      show Steps p.tables e below (TD.setTop (mkF m 79 #[.val (.ref t), .val (.int (Int32.ofNat (i + 1))), .val (.int (Int32.ofNat n)), .val (.int (0 : Int32)), .val (.int (f i)), .val (.int (f (i + 1)))] [(.int (f (i + 1))), (.int (f i))])) _
      refine stE _ ?_
      show Steps p.tables e below (TE.setTop (mkF m 82 #[.val (.ref t), .val (.int (Int32.ofNat (i + 1))), .val (.int (Int32.ofNat n)), .val (.int (0 : Int32)), .val (.int (f i)), .val (.int (f (i + 1)))] [(.int (own_cp (f i) (f (i + 1))))])) _
      exact retOut XE hx (t := .int) Bd.returns rfl (Or.inl ⟨rfl, Or.inl rfl, _, rfl⟩) (hb hby d7_82) hr
    · show _
      exact ⟨rfl, ME, eE⟩
theorem d6_0 : decode jdk_52_method_8_code 0 = .ok (.aload_n 0, 1) := by decide +kernel
theorem d6_1 : decode jdk_52_method_8_code 1 = .ok (.iload_n 1, 1) := by decide +kernel
theorem d6_2 : decode jdk_52_method_8_code 2 = .ok (.iload_n 2, 1) := by decide +kernel
theorem d6_3 : decode jdk_52_method_8_code 3 = .ok (.iconst 0, 1) := by decide +kernel
theorem d6_4 : decode jdk_52_method_8_code 4 = .ok (.invokestatic 88, 3) := by decide +kernel
theorem d6_7 : decode jdk_52_method_8_code 7 = .ok (.ireturn, 1) := by decide +kernel
theorem ef6 (m : MethodId) (x0 : Addr) (x1 : Int32) (x2 : Int32) : entryFrame m #[(.ref x0), (.int x1), (.int x2)] 3 = mkF m 0 #[.val (.ref x0), .val (.int x1), .val (.int x2)] [] := by first | (simp [entryFrame, mkF, argsToLocals, Value.category, maxLocals]; done) | rfl
theorem pd6 : parseMethodDescriptor "([BII)I" = some ⟨[(.array .byte), .int, .int], some .int⟩ := by decide +kernel
set_option maxRecDepth 65536 in
set_option maxHeartbeats 40000000 in
theorem rm6 (l : Launch) (Z : State) (a0 : Array Value) (hw : ∀ d ∈ tables_1, d.before a0 Z = true) (t : Addr) (n i : Nat) (f : Nat → Int32) (w : Int32) (h0 : Heap) (n0 : Nat) (hi : i < n) (hn : n ≤ 256) (hf : ∀ j, j < n → own_c16 (f j)) (hw1 : own_at f n i w) (Ft : own_AF Z h0 t .byte (2 * n) (own_b2 f)) (Uu : own_U Z h0) :
    MetFree l (⟨"java/lang/StringUTF16", "codePointAt", "([BII)I"⟩ : MethodName) (head1 [Jvm.Cond.code (⟨"java/lang/StringUTF16", "codePointAt", "([BII)I"⟩ : MethodName) jdk_52_method_8_code 3 (some .int)] ({ frames := 2, cells := 0, slots := 0, locals := 40 } : Room)) (fun q_ U => q_ = #[(.ref t), (.int (Int32.ofNat i)), (.int (Int32.ofNat n))] ∧ Z.Warmed39 U.vm ∧ U.heap = h0) (fun _ _ _ _ _ => True) (fun _ U o U' => ∃ v L, o = .returned v ∧ own_QS n0 (.int w) h0 v U'.heap L ∧ FrameEnd U o U' L ({ frames := 2, cells := 0, slots := 0, locals := 40 } : Room).cells ({ frames := 2, cells := 0, slots := 0, locals := 40 } : Room).slots) := by
  refine MetFree.of_bodySF (plainFor_of_name pn_U) hisR ?_
  intro p e s m args below meth c s₁ Bd hml0 hP hK
  obtain ⟨rfl, hZ, hh⟩ := hP
  have hx := Bd.exec
  have hby := Bd.bytes
  have hml : c.maxLocals = 3 := hml0
  have hown : s.vm.findClass "java/lang/StringUTF16" = some m.cls := findClass_of_methodNamed Bd.named
  have hnm := (name_of_methodNamed Bd.named Bd.method).1
  have X0 : Stand p l e ({ frames := 2, cells := 0, slots := 0, locals := 40 } : Room) s m #[(.ref t), (.int (Int32.ofNat i)), (.int (Int32.ofNat n))] below meth c s₁ [] 0 0 := Stand.of_body Bd
  have e0 : s₁.heap = h0 := by rw [← hh, Bd.state]; rfl
  have sg1 : ∀ target, Steps p.tables e below (s₁.setTop (mkF m 4 #[.val (.ref t), .val (.int (Int32.ofNat i)), .val (.int (Int32.ofNat n))] [(.int (0 : Int32)), (.int (Int32.ofNat n)), (.int (Int32.ofNat i)), (.ref t)])) target → Steps p.tables e below (s₁.setTop (mkF m 0 #[.val (.ref t), .val (.int (Int32.ofNat i)), .val (.int (Int32.ofNat n))] [])) target := by
    intro target kt
    show Steps p.tables e below (s₁.setTop (mkF m 0 #[.val (.ref t), .val (.int (Int32.ofNat i)), .val (.int (Int32.ofNat n))] [])) _
    refine XS.aloadN X0.here hx rfl (hb hby d6_0) rfl rfl ?_
    show Steps p.tables e below (s₁.setTop (mkF m 1 #[.val (.ref t), .val (.int (Int32.ofNat i)), .val (.int (Int32.ofNat n))] [(.ref t)])) _
    refine XS.iloadN X0.here hx rfl (hb hby d6_1) rfl ?_
    show Steps p.tables e below (s₁.setTop (mkF m 2 #[.val (.ref t), .val (.int (Int32.ofNat i)), .val (.int (Int32.ofNat n))] [(.int (Int32.ofNat i)), (.ref t)])) _
    refine XS.iloadN X0.here hx rfl (hb hby d6_2) rfl ?_
    show Steps p.tables e below (s₁.setTop (mkF m 3 #[.val (.ref t), .val (.int (Int32.ofNat i)), .val (.int (Int32.ofNat n))] [(.int (Int32.ofNat n)), (.int (Int32.ofNat i)), (.ref t)])) _
    refine XS.iconst X0.here hx rfl (hb hby d6_3) ?_
    show Steps p.tables e below (s₁.setTop (mkF m 4 #[.val (.ref t), .val (.int (Int32.ofNat i)), .val (.int (Int32.ofNat n))] [(.int (0 : Int32)), (.int (Int32.ofNat n)), (.int (Int32.ofNat i)), (.ref t)])) _
    exact kt
  obtain ⟨_, _, ⟨TA, LA, kA, nA⟩, -, XA, ⟨LcA, hQA, lA, yA, zA⟩, stA⟩ := Jvm.LawKit.callS X0 hx (y := (⟨"java/lang/StringUTF16", "codePointAt", "([BIIZ)I"⟩ : MethodName)) hown (mvT hZ (hw _ (List.mem_of_getElem? (i := 111) rfl))) (mvT hZ (hw _ (List.mem_of_getElem? (i := 112) rfl))) (mvT hZ (hw _ (List.mem_of_getElem? (i := 26) rfl))) (mvT hZ (hw _ (List.mem_of_getElem? (i := 113) rfl))) (by decide) (backOf (W := 0) (rm7 l Z a0 hw t n i f w h0 n0 hi hn hf hw1 Ft Uu) hZ (hw _ (List.mem_of_getElem? (i := 113) rfl)) (hw _ (List.mem_of_getElem? (i := 26) rfl)) (by decide) (by decide)) (g := (mkF m 4 #[.val (.ref t), .val (.int (Int32.ofNat i)), .val (.int (Int32.ofNat n))] [(.int (0 : Int32)), (.int (Int32.ofNat n)), (.int (Int32.ofNat i)), (.ref t)])) rfl (by rw [hml]; rfl) (argsL := [(.ref t), (.int (Int32.ofNat i)), (.int (Int32.ofNat n)), (.int (0 : Int32))]) (rest := []) (lenOf pd7 rfl) rfl (by show 2 * 0 + _ ≤ _; exact Nat.le_of_eq rfl) (hb hby d6_4) (fun _ _ => ⟨rfl, e0, Nat.le_of_ble_eq_true rfl, Nat.le_of_ble_eq_true rfl⟩)
  dsimp only [Pt.U, Pt.locs, Pt.cells, Pt.slots] at XA lA yA zA stA hQA
  subst lA yA zA
  obtain ⟨rfl, NA, eA⟩ := hQA
  have MA := Fr.app (Fr.nil n0) NA
  obtain ⟨fs, hr, hrun, hended, hW, hsame⟩ := XA.leave (v := some (.int w)) (fun h => by rw [Bd.returns] at h; cases h)
  refine ⟨_, _, castTop (ef6 m t (Int32.ofNat i) (Int32.ofNat n)) ?_, hrun, hended, _, _, rfl, ?_, ⟨_, rfl⟩, hW, hsame.mono (by decide) (by decide)⟩
  · show Steps p.tables e below (s₁.setTop (mkF m 0 #[.val (.ref t), .val (.int (Int32.ofNat i)), .val (.int (Int32.ofNat n))] [])) _
    refine sg1 _ ?_
    show Steps p.tables e below (s₁.setTop (mkF m 4 #[.val (.ref t), .val (.int (Int32.ofNat i)), .val (.int (Int32.ofNat n))] [(.int (0 : Int32)), (.int (Int32.ofNat n)), (.int (Int32.ofNat i)), (.ref t)])) _
    refine stA _ ?_
    show Steps p.tables e below (TA.setTop (mkF m 7 #[.val (.ref t), .val (.int (Int32.ofNat i)), .val (.int (Int32.ofNat n))] [(.int w)])) _
    exact retOut XA hx (t := .int) Bd.returns rfl (Or.inl ⟨rfl, Or.inl rfl, _, rfl⟩) (hb hby d6_7) hr
  · show _
    exact ⟨rfl, MA, eA⟩
theorem d8_0 : decode jdk_42_method_154_code 0 = .ok (.getstatic 38, 3) := by decide +kernel
theorem d8_3 : decode jdk_42_method_154_code 3 = .ok (.ifCond .eq 14, 3) := by decide +kernel
theorem d8_6 : decode jdk_42_method_154_code 6 = .ok (.aload_n 0, 1) := by decide +kernel
theorem d8_7 : decode jdk_42_method_154_code 7 = .ok (.getfield 15, 3) := by decide +kernel
theorem d8_10 : decode jdk_42_method_154_code 10 = .ok (.ifCond .ne 7, 3) := by decide +kernel
theorem d8_13 : decode jdk_42_method_154_code 13 = .ok (.iconst 1, 1) := by decide +kernel
theorem d8_14 : decode jdk_42_method_154_code 14 = .ok (.goto 4, 3) := by decide +kernel
theorem d8_17 : decode jdk_42_method_154_code 17 = .ok (.iconst 0, 1) := by decide +kernel
theorem d8_18 : decode jdk_42_method_154_code 18 = .ok (.ireturn, 1) := by decide +kernel
theorem ef8 (m : MethodId) (x0 : Addr) : entryFrame m #[(.ref x0)] 1 = mkF m 0 #[.val (.ref x0)] [] := by first | (simp [entryFrame, mkF, argsToLocals, Value.category, maxLocals]; done) | rfl
theorem pd8 : parseMethodDescriptor "()Z" = some ⟨[], some .boolean⟩ := by decide +kernel
set_option maxRecDepth 65536 in
set_option maxHeartbeats 40000000 in
theorem rm8 (l : Launch) (Z : State) (a0 : Array Value) (hw : ∀ d ∈ tables_1, d.before a0 Z = true) (x : Addr) (cd w : Int32) (hcd : cd = 0 ∧ w = 1 ∨ cd = 1 ∧ w = 0) (h0 : Heap) (n0 : Nat) (Fc : Fld Z h0 x "java/lang/String" "coder" "B" (.int cd)) (G : Int32) (O : Sta Z h0 "java/lang/String" "COMPACT_STRINGS" "Z" (.int G)) (hG : ¬ G = 0) :
    MetFree l (⟨"java/lang/String", "isLatin1", "()Z"⟩ : MethodName) (head1 [Jvm.Cond.code (⟨"java/lang/String", "isLatin1", "()Z"⟩ : MethodName) jdk_42_method_154_code 1 (some .boolean)] ({ frames := 0, cells := 0, slots := 0, locals := 0 } : Room)) (fun q_ U => q_ = #[(.ref x)] ∧ Z.Warmed39 U.vm ∧ U.heap = h0) (fun _ _ _ _ _ => True) (fun _ U o U' => ∃ v L, o = .returned v ∧ own_QS n0 (.int w) h0 v U'.heap L ∧ FrameEnd U o U' L ({ frames := 0, cells := 0, slots := 0, locals := 0 } : Room).cells ({ frames := 0, cells := 0, slots := 0, locals := 0 } : Room).slots) := by
  refine MetFree.of_bodySF (plainFor_of_name pn_S) hisR ?_
  intro p e s m args below meth c s₁ Bd hml0 hP hK
  obtain ⟨rfl, hZ, hh⟩ := hP
  have hx := Bd.exec
  have hby := Bd.bytes
  have hml : c.maxLocals = 1 := hml0
  have hown : s.vm.findClass "java/lang/String" = some m.cls := findClass_of_methodNamed Bd.named
  have hnm := (name_of_methodNamed Bd.named Bd.method).1
  have X0 : Stand p l e ({ frames := 0, cells := 0, slots := 0, locals := 0 } : Room) s m #[(.ref x)] below meth c s₁ [] 0 0 := Stand.of_body Bd
  have e0 : s₁.heap = h0 := by rw [← hh, Bd.state]; rfl
  rcases hcd with ⟨rfl, rfl⟩ | ⟨rfl, rfl⟩
  · obtain ⟨T1, X1, e1, st1⟩ := getS X0 hx hZ hown (host := "") (hw _ (List.mem_of_getElem? (i := 23) rfl)) Via.refl e0 O (g := (mkF m 0 #[.val (.ref x)] [])) rfl (hb hby d8_0)
    have sg2 : ∀ target, Steps p.tables e below (T1.setTop (mkF m 7 #[.val (.ref x)] [(.ref x)])) target → Steps p.tables e below (T1.setTop (mkF m 3 #[.val (.ref x)] [(.int G)])) target := by
      intro target kt
      show Steps p.tables e below (T1.setTop (mkF m 3 #[.val (.ref x)] [(.int G)])) _
      refine XS.ifNo X1.here hx rfl (hb hby d8_3) rfl (by rw [if0]; exact (feq hG).1) ?_
      show Steps p.tables e below (T1.setTop (mkF m 6 #[.val (.ref x)] [])) _
      refine XS.aloadN X1.here hx rfl (hb hby d8_6) rfl rfl ?_
      show Steps p.tables e below (T1.setTop (mkF m 7 #[.val (.ref x)] [(.ref x)])) _
      exact kt
    obtain ⟨T3, X3, e3, st3⟩ := getF X1 hx hZ hown (host := "") (Or.inl (hw _ (List.mem_of_getElem? (i := 35) rfl))) Via.refl e1 Fc (g := (mkF m 7 #[.val (.ref x)] [(.ref x)])) rfl rfl (hb hby d8_7)
    have sg4 : ∀ target, Steps p.tables e below (T3.setTop (mkF m 18 #[.val (.ref x)] [(.int (1 : Int32))])) target → Steps p.tables e below (T3.setTop (mkF m 10 #[.val (.ref x)] [(.int (0 : Int32))])) target := by
      intro target kt
      show Steps p.tables e below (T3.setTop (mkF m 10 #[.val (.ref x)] [(.int (0 : Int32))])) _
      refine XS.ifNo X3.here hx rfl (hb hby d8_10) rfl (by decide) ?_
      show Steps p.tables e below (T3.setTop (mkF m 13 #[.val (.ref x)] [])) _
      refine XS.iconst X3.here hx rfl (hb hby d8_13) ?_
      show Steps p.tables e below (T3.setTop (mkF m 14 #[.val (.ref x)] [(.int (1 : Int32))])) _
      refine XS.goto X3.here hx rfl (pc0 := 14) (pc' := 18) rfl (hb hby d8_14) (by decide) (by decide) ?_
      show Steps p.tables e below (T3.setTop (mkF m 18 #[.val (.ref x)] [(.int (1 : Int32))])) _
      exact kt
    obtain ⟨fs, hr, hrun, hended, hW, hsame⟩ := X3.leave (v := some (.int (1 : Int32))) (fun h => by rw [Bd.returns] at h; cases h)
    refine ⟨_, _, castTop (ef8 m x) ?_, hrun, hended, _, _, rfl, ?_, ⟨_, rfl⟩, hW, hsame.mono (by decide) (by decide)⟩
    · show Steps p.tables e below (s₁.setTop (mkF m 0 #[.val (.ref x)] [])) _
      refine st1 _ ?_
      show Steps p.tables e below (T1.setTop (mkF m 3 #[.val (.ref x)] [(.int G)])) _
      refine sg2 _ ?_
      show Steps p.tables e below (T1.setTop (mkF m 7 #[.val (.ref x)] [(.ref x)])) _
      refine st3 _ ?_
      show Steps p.tables e below (T3.setTop (mkF m 10 #[.val (.ref x)] [(.int (0 : Int32))])) _
      refine sg4 _ ?_
      show Steps p.tables e below (T3.setTop (mkF m 18 #[.val (.ref x)] [(.int (1 : Int32))])) _
      exact retN X3 hx (t := .boolean) Bd.returns (by simp) (hb hby d8_18) hr
    · show _
      exact ⟨rfl, Fr.nil n0, e3⟩
  · obtain ⟨T1, X1, e1, st1⟩ := getS X0 hx hZ hown (host := "") (hw _ (List.mem_of_getElem? (i := 23) rfl)) Via.refl e0 O (g := (mkF m 0 #[.val (.ref x)] [])) rfl (hb hby d8_0)
    have sg2 : ∀ target, Steps p.tables e below (T1.setTop (mkF m 7 #[.val (.ref x)] [(.ref x)])) target → Steps p.tables e below (T1.setTop (mkF m 3 #[.val (.ref x)] [(.int G)])) target := by
      intro target kt
      show Steps p.tables e below (T1.setTop (mkF m 3 #[.val (.ref x)] [(.int G)])) _
      refine XS.ifNo X1.here hx rfl (hb hby d8_3) rfl (by rw [if0]; exact (feq hG).1) ?_
      show Steps p.tables e below (T1.setTop (mkF m 6 #[.val (.ref x)] [])) _
      refine XS.aloadN X1.here hx rfl (hb hby d8_6) rfl rfl ?_
      show Steps p.tables e below (T1.setTop (mkF m 7 #[.val (.ref x)] [(.ref x)])) _
      exact kt
    obtain ⟨T3, X3, e3, st3⟩ := getF X1 hx hZ hown (host := "") (Or.inl (hw _ (List.mem_of_getElem? (i := 35) rfl))) Via.refl e1 Fc (g := (mkF m 7 #[.val (.ref x)] [(.ref x)])) rfl rfl (hb hby d8_7)
    have sg4 : ∀ target, Steps p.tables e below (T3.setTop (mkF m 18 #[.val (.ref x)] [(.int (0 : Int32))])) target → Steps p.tables e below (T3.setTop (mkF m 10 #[.val (.ref x)] [(.int (1 : Int32))])) target := by
      intro target kt
      show Steps p.tables e below (T3.setTop (mkF m 10 #[.val (.ref x)] [(.int (1 : Int32))])) _
      refine XS.ifYes X3.here hx rfl (pc0 := 10) (pc' := 17) rfl (hb hby d8_10) rfl (by decide) (by decide) (by decide) ?_
      show Steps p.tables e below (T3.setTop (mkF m 17 #[.val (.ref x)] [])) _
      refine XS.iconst X3.here hx rfl (hb hby d8_17) ?_
      show Steps p.tables e below (T3.setTop (mkF m 18 #[.val (.ref x)] [(.int (0 : Int32))])) _
      exact kt
    obtain ⟨fs, hr, hrun, hended, hW, hsame⟩ := X3.leave (v := some (.int (0 : Int32))) (fun h => by rw [Bd.returns] at h; cases h)
    refine ⟨_, _, castTop (ef8 m x) ?_, hrun, hended, _, _, rfl, ?_, ⟨_, rfl⟩, hW, hsame.mono (by decide) (by decide)⟩
    · show Steps p.tables e below (s₁.setTop (mkF m 0 #[.val (.ref x)] [])) _
      refine st1 _ ?_
      show Steps p.tables e below (T1.setTop (mkF m 3 #[.val (.ref x)] [(.int G)])) _
      refine sg2 _ ?_
      show Steps p.tables e below (T1.setTop (mkF m 7 #[.val (.ref x)] [(.ref x)])) _
      refine st3 _ ?_
      show Steps p.tables e below (T3.setTop (mkF m 10 #[.val (.ref x)] [(.int (1 : Int32))])) _
      refine sg4 _ ?_
      show Steps p.tables e below (T3.setTop (mkF m 18 #[.val (.ref x)] [(.int (0 : Int32))])) _
      exact retN X3 hx (t := .boolean) Bd.returns (by simp) (hb hby d8_18) hr
    · show _
      exact ⟨rfl, Fr.nil n0, e3⟩
theorem d9_0 : decode jdk_41_method_11_code 0 = .ok (.iload_n 0, 1) := by decide +kernel
theorem d9_1 : decode jdk_41_method_11_code 1 = .ok (.ifCond .lt 8, 3) := by decide +kernel
theorem d9_4 : decode jdk_41_method_11_code 4 = .ok (.iload_n 0, 1) := by decide +kernel
theorem d9_5 : decode jdk_41_method_11_code 5 = .ok (.iload_n 1, 1) := by decide +kernel
theorem d9_6 : decode jdk_41_method_11_code 6 = .ok (.if_icmp .lt 10, 3) := by decide +kernel
theorem d9_9 : decode jdk_41_method_11_code 9 = .ok (.aload_n 2, 1) := by decide +kernel
theorem d9_10 : decode jdk_41_method_11_code 10 = .ok (.iload_n 0, 1) := by decide +kernel
theorem d9_11 : decode jdk_41_method_11_code 11 = .ok (.iload_n 1, 1) := by decide +kernel
theorem d9_12 : decode jdk_41_method_11_code 12 = .ok (.invokestatic 95, 3) := by decide +kernel
theorem d9_15 : decode jdk_41_method_11_code 15 = .ok (.athrow, 1) := by decide +kernel
theorem d9_16 : decode jdk_41_method_11_code 16 = .ok (.iload_n 0, 1) := by decide +kernel
theorem d9_17 : decode jdk_41_method_11_code 17 = .ok (.ireturn, 1) := by decide +kernel
theorem ef9x (m : MethodId) (x0 : Int32) (x1 : Int32) (x2 : Addr) : entryFrame m #[(.int x0), (.int x1), (.ref x2)] 3 = mkF m 0 #[.val (.int x0), .val (.int x1), .val (.ref x2)] [] := by first | (simp [entryFrame, mkF, argsToLocals, Value.category, maxLocals]; done) | rfl
theorem ef9 (m : MethodId) (i n : Int32) (F : Value) (rF : F.isRef = true) : entryFrame m #[(.int i), (.int n), F] 3 = mkF m 0 #[.val (.int i), .val (.int n), .val F] [] := by rcases ref_cases rF with rfl | ⟨_, rfl⟩ <;> first | (simp [entryFrame, mkF, argsToLocals, Value.category]; done) | rfl
theorem pd9 : parseMethodDescriptor "(IILjava/util/function/BiFunction;)I" = some ⟨[.int, .int, (.object "java/util/function/BiFunction")], some .int⟩ := by decide +kernel
set_option maxRecDepth 65536 in
set_option maxHeartbeats 40000000 in
theorem rm9 (l : Launch) (Z : State) (a0 : Array Value) (hw : ∀ d ∈ tables_1, d.before a0 Z = true) (i n : Nat) (F : Value) (rF : F.isRef = true) (h0 : Heap) (n0 : Nat) (hi : i < n) (hn : n ≤ 1000) :
    MetFree l (⟨"jdk/internal/util/Preconditions", "checkIndex", "(IILjava/util/function/BiFunction;)I"⟩ : MethodName) (head1 [Jvm.Cond.code (⟨"jdk/internal/util/Preconditions", "checkIndex", "(IILjava/util/function/BiFunction;)I"⟩ : MethodName) jdk_41_method_11_code 3 (some .int)] ({ frames := 0, cells := 0, slots := 0, locals := 0 } : Room)) (fun q_ U => q_ = #[(.int (Int32.ofNat i)), (.int (Int32.ofNat n)), F] ∧ Z.Warmed39 U.vm ∧ U.heap = h0) (fun _ _ _ _ _ => True) (fun _ U o U' => ∃ v L, o = .returned v ∧ own_QS n0 (.int (Int32.ofNat i)) h0 v U'.heap L ∧ FrameEnd U o U' L ({ frames := 0, cells := 0, slots := 0, locals := 0 } : Room).cells ({ frames := 0, cells := 0, slots := 0, locals := 0 } : Room).slots) := by
  refine MetFree.of_bodySF (plainFor_of_name pn_P) hisR ?_
  intro p e s m args below meth c s₁ Bd hml0 hP hK
  obtain ⟨rfl, hZ, hh⟩ := hP
  have hx := Bd.exec
  have hby := Bd.bytes
  have hml : c.maxLocals = 3 := hml0
  have hown : s.vm.findClass "jdk/internal/util/Preconditions" = some m.cls := findClass_of_methodNamed Bd.named
  have hnm := (name_of_methodNamed Bd.named Bd.method).1
  have X0 : Stand p l e ({ frames := 0, cells := 0, slots := 0, locals := 0 } : Room) s m #[(.int (Int32.ofNat i)), (.int (Int32.ofNat n)), F] below meth c s₁ [] 0 0 := Stand.of_body Bd
  have e0 : s₁.heap = h0 := by rw [← hh, Bd.state]; rfl
  have sg1 : ∀ target, Steps p.tables e below (s₁.setTop (mkF m 17 #[.val (.int (Int32.ofNat i)), .val (.int (Int32.ofNat n)), .val F] [(.int (Int32.ofNat i))])) target → Steps p.tables e below (s₁.setTop (mkF m 0 #[.val (.int (Int32.ofNat i)), .val (.int (Int32.ofNat n)), .val F] [])) target := by
    intro target kt
    show Steps p.tables e below (s₁.setTop (mkF m 0 #[.val (.int (Int32.ofNat i)), .val (.int (Int32.ofNat n)), .val F] [])) _
    refine XS.iloadN X0.here hx rfl (hb hby d9_0) rfl ?_
    show Steps p.tables e below (s₁.setTop (mkF m 1 #[.val (.int (Int32.ofNat i)), .val (.int (Int32.ofNat n)), .val F] [(.int (Int32.ofNat i))])) _
    refine XS.ifNo X0.here hx rfl (hb hby d9_1) rfl (by rw [if0]; exact (flt (own_nn (by omega))).1) ?_
    show Steps p.tables e below (s₁.setTop (mkF m 4 #[.val (.int (Int32.ofNat i)), .val (.int (Int32.ofNat n)), .val F] [])) _
    refine XS.iloadN X0.here hx rfl (hb hby d9_4) rfl ?_
    show Steps p.tables e below (s₁.setTop (mkF m 5 #[.val (.int (Int32.ofNat i)), .val (.int (Int32.ofNat n)), .val F] [(.int (Int32.ofNat i))])) _
    refine XS.iloadN X0.here hx rfl (hb hby d9_5) rfl ?_
    show Steps p.tables e below (s₁.setTop (mkF m 6 #[.val (.int (Int32.ofNat i)), .val (.int (Int32.ofNat n)), .val F] [(.int (Int32.ofNat n)), (.int (Int32.ofNat i))])) _
    refine XS.icmpYes X0.here hx rfl (pc0 := 6) (pc' := 16) rfl (hb hby d9_6) rfl (tlt (own_lt hi (by omega))).1 (by decide) (by decide) ?_
    show Steps p.tables e below (s₁.setTop (mkF m 16 #[.val (.int (Int32.ofNat i)), .val (.int (Int32.ofNat n)), .val F] [])) _
    refine XS.iloadN X0.here hx rfl (hb hby d9_16) rfl ?_
    show Steps p.tables e below (s₁.setTop (mkF m 17 #[.val (.int (Int32.ofNat i)), .val (.int (Int32.ofNat n)), .val F] [(.int (Int32.ofNat i))])) _
    exact kt
  obtain ⟨fs, hr, hrun, hended, hW, hsame⟩ := X0.leave (v := some (.int (Int32.ofNat i))) (fun h => by rw [Bd.returns] at h; cases h)
  refine ⟨_, _, castTop (ef9 m (Int32.ofNat i) (Int32.ofNat n) F rF) ?_, hrun, hended, _, _, rfl, ?_, ⟨_, rfl⟩, hW, hsame.mono (by decide) (by decide)⟩
  · show Steps p.tables e below (s₁.setTop (mkF m 0 #[.val (.int (Int32.ofNat i)), .val (.int (Int32.ofNat n)), .val F] [])) _
    refine sg1 _ ?_
    show Steps p.tables e below (s₁.setTop (mkF m 17 #[.val (.int (Int32.ofNat i)), .val (.int (Int32.ofNat n)), .val F] [(.int (Int32.ofNat i))])) _
    exact retOut X0 hx (t := .int) Bd.returns rfl (Or.inl ⟨rfl, Or.inl rfl, _, rfl⟩) (hb hby d9_17) hr
  · show _
    exact ⟨rfl, Fr.nil n0, e0⟩
theorem dI_0 : decode jdk_42_method_155_code 0 = .ok (.iload_n 0, 1) := by decide +kernel
theorem dI_1 : decode jdk_42_method_155_code 1 = .ok (.iload_n 1, 1) := by decide +kernel
theorem dI_2 : decode jdk_42_method_155_code 2 = .ok (.getstatic 1053, 3) := by decide +kernel
theorem dI_5 : decode jdk_42_method_155_code 5 = .ok (.invokestatic 1059, 3) := by decide +kernel
theorem dI_8 : decode jdk_42_method_155_code 8 = .ok (.pop, 1) := by decide +kernel
theorem dI_9 : decode jdk_42_method_155_code 9 = .ok (.return_, 1) := by decide +kernel
theorem efI (m : MethodId) (x0 : Int32) (x1 : Int32) : entryFrame m #[(.int x0), (.int x1)] 2 = mkF m 0 #[.val (.int x0), .val (.int x1)] [] := by first | (simp [entryFrame, mkF, argsToLocals, Value.category, maxLocals]; done) | rfl
theorem pdI : parseMethodDescriptor "(II)V" = some ⟨[.int, .int], none⟩ := by decide +kernel
def own_QV (n0 : Nat) (h0 : Heap) (v : Option Value) (h : Heap) (L : List Loc) : Prop := v = none ∧ Fr n0 L ∧ h = h0
set_option maxRecDepth 65536 in
set_option maxHeartbeats 40000000 in
theorem rmI (l : Launch) (Z : State) (a0 : Array Value) (hw : ∀ d ∈ tables_1, d.before a0 Z = true) (i n : Nat) (h0 : Heap) (n0 : Nat) (hi : i < n) (hn : n ≤ 1000) (F : Value) (rF : F.isRef = true) (Of : Sta Z h0 "jdk/internal/util/Preconditions" "SIOOBE_FORMATTER" "Ljava/util/function/BiFunction;" F) :
    MetFree l (⟨"java/lang/String", "checkIndex", "(II)V"⟩ : MethodName) (head1 [Jvm.Cond.code (⟨"java/lang/String", "checkIndex", "(II)V"⟩ : MethodName) jdk_42_method_155_code 2 none] ({ frames := 1, cells := 0, slots := 0, locals := 16 } : Room)) (fun q_ U => q_ = #[(.int (Int32.ofNat i)), (.int (Int32.ofNat n))] ∧ Z.Warmed39 U.vm ∧ U.heap = h0) (fun _ _ _ _ _ => True) (fun _ U o U' => ∃ v L, o = .returned v ∧ own_QV n0 h0 v U'.heap L ∧ FrameEnd U o U' L ({ frames := 1, cells := 0, slots := 0, locals := 16 } : Room).cells ({ frames := 1, cells := 0, slots := 0, locals := 16 } : Room).slots) := by
  refine MetFree.of_bodySF (plainFor_of_name pn_S) hisR ?_
  intro p e s m args below meth c s₁ Bd hml0 hP hK
  obtain ⟨rfl, hZ, hh⟩ := hP
  have hx := Bd.exec
  have hby := Bd.bytes
  have hml : c.maxLocals = 2 := hml0
  have hown : s.vm.findClass "java/lang/String" = some m.cls := findClass_of_methodNamed Bd.named
  have hnm := (name_of_methodNamed Bd.named Bd.method).1
  have X0 : Stand p l e ({ frames := 1, cells := 0, slots := 0, locals := 16 } : Room) s m #[(.int (Int32.ofNat i)), (.int (Int32.ofNat n))] below meth c s₁ [] 0 0 := Stand.of_body Bd
  have e0 : s₁.heap = h0 := by rw [← hh, Bd.state]; rfl
  have sg1 : ∀ target, Steps p.tables e below (s₁.setTop (mkF m 2 #[.val (.int (Int32.ofNat i)), .val (.int (Int32.ofNat n))] [(.int (Int32.ofNat n)), (.int (Int32.ofNat i))])) target → Steps p.tables e below (s₁.setTop (mkF m 0 #[.val (.int (Int32.ofNat i)), .val (.int (Int32.ofNat n))] [])) target := by
    intro target kt
    show Steps p.tables e below (s₁.setTop (mkF m 0 #[.val (.int (Int32.ofNat i)), .val (.int (Int32.ofNat n))] [])) _
    refine XS.iloadN X0.here hx rfl (hb hby dI_0) rfl ?_
    show Steps p.tables e below (s₁.setTop (mkF m 1 #[.val (.int (Int32.ofNat i)), .val (.int (Int32.ofNat n))] [(.int (Int32.ofNat i))])) _
    refine XS.iloadN X0.here hx rfl (hb hby dI_1) rfl ?_
    show Steps p.tables e below (s₁.setTop (mkF m 2 #[.val (.int (Int32.ofNat i)), .val (.int (Int32.ofNat n))] [(.int (Int32.ofNat n)), (.int (Int32.ofNat i))])) _
    exact kt
  obtain ⟨T2, X2, e2, st2⟩ := getS X0 hx hZ hown (host := "") (hw _ (List.mem_of_getElem? (i := 97) rfl)) Via.refl e0 Of (g := (mkF m 2 #[.val (.int (Int32.ofNat i)), .val (.int (Int32.ofNat n))] [(.int (Int32.ofNat n)), (.int (Int32.ofNat i))])) rfl (hb hby dI_2)
  obtain ⟨_, _, ⟨TA, LA, kA, nA⟩, -, XA, ⟨LcA, hQA, lA, yA, zA⟩, stA⟩ := Jvm.LawKit.callS X2 hx (y := (⟨"jdk/internal/util/Preconditions", "checkIndex", "(IILjava/util/function/BiFunction;)I"⟩ : MethodName)) hown (mvT hZ (hw _ (List.mem_of_getElem? (i := 99) rfl))) (mvT hZ (hw _ (List.mem_of_getElem? (i := 100) rfl))) (mvT hZ (hw _ (List.mem_of_getElem? (i := 98) rfl))) (mvT hZ (hw _ (List.mem_of_getElem? (i := 101) rfl))) (by decide) (backOf (W := 0) (rm9 l Z a0 hw i n F rF h0 n0 hi hn) hZ (hw _ (List.mem_of_getElem? (i := 101) rfl)) (hw _ (List.mem_of_getElem? (i := 98) rfl)) (by decide) (by decide)) (g := (mkF m 5 #[.val (.int (Int32.ofNat i)), .val (.int (Int32.ofNat n))] [F, (.int (Int32.ofNat n)), (.int (Int32.ofNat i))])) rfl (by rw [hml]; rfl) (argsL := [(.int (Int32.ofNat i)), (.int (Int32.ofNat n)), F]) (rest := []) (lenOf pd9 rfl) rfl (by show 2 * 0 + _ ≤ _; exact Nat.le_of_eq rfl) (hb hby dI_5) (fun _ _ => ⟨rfl, e2, Nat.le_of_ble_eq_true rfl, Nat.le_of_ble_eq_true rfl⟩)
  dsimp only [Pt.U, Pt.locs, Pt.cells, Pt.slots] at XA lA yA zA stA hQA
  subst lA yA zA
  obtain ⟨rfl, NA, eA⟩ := hQA
  have MA := Fr.app (Fr.nil n0) NA
  have sg3 : ∀ target, Steps p.tables e below (TA.setTop (mkF m 9 #[.val (.int (Int32.ofNat i)), .val (.int (Int32.ofNat n))] [])) target → Steps p.tables e below (TA.setTop (mkF m 8 #[.val (.int (Int32.ofNat i)), .val (.int (Int32.ofNat n))] [(.int (Int32.ofNat i))])) target := by
    intro target kt
    show Steps p.tables e below (TA.setTop (mkF m 8 #[.val (.int (Int32.ofNat i)), .val (.int (Int32.ofNat n))] [(.int (Int32.ofNat i))])) _
    refine XS.pop XA.here hx rfl (hb hby dI_8) rfl rfl ?_
    show Steps p.tables e below (TA.setTop (mkF m 9 #[.val (.int (Int32.ofNat i)), .val (.int (Int32.ofNat n))] [])) _
    exact kt
  obtain ⟨fs, hr, hrun, hended, hW, hsame⟩ := XA.leave (v := none) (fun _ => rfl)
  refine ⟨_, _, castTop (efI m (Int32.ofNat i) (Int32.ofNat n)) ?_, hrun, hended, _, _, rfl, ?_, ⟨_, rfl⟩, hW, hsame.mono (by decide) (by decide)⟩
  · show Steps p.tables e below (s₁.setTop (mkF m 0 #[.val (.int (Int32.ofNat i)), .val (.int (Int32.ofNat n))] [])) _
    refine sg1 _ ?_
    show Steps p.tables e below (s₁.setTop (mkF m 2 #[.val (.int (Int32.ofNat i)), .val (.int (Int32.ofNat n))] [(.int (Int32.ofNat n)), (.int (Int32.ofNat i))])) _
    refine st2 _ ?_
    show Steps p.tables e below (T2.setTop (mkF m 5 #[.val (.int (Int32.ofNat i)), .val (.int (Int32.ofNat n))] [F, (.int (Int32.ofNat n)), (.int (Int32.ofNat i))])) _
    refine stA _ ?_
    show Steps p.tables e below (TA.setTop (mkF m 8 #[.val (.int (Int32.ofNat i)), .val (.int (Int32.ofNat n))] [(.int (Int32.ofNat i))])) _
    refine sg3 _ ?_
    show Steps p.tables e below (TA.setTop (mkF m 9 #[.val (.int (Int32.ofNat i)), .val (.int (Int32.ofNat n))] [])) _
    exact XA.returnOut hx Bd.returns (hb hby dI_9) hr
  · show _
    exact ⟨rfl, MA, eA⟩
/-- x is a String of the n chars f, of either coder -/
def own_SX (Z : State) (h : Heap) (x : Addr) (n : Nat) (f : Nat → Int32) : Prop := Exa Z h x "java/lang/String" ∧ ∃ (t : Addr), Fld Z h x "java/lang/String" "value" "[B" (.ref t) ∧
  ((Fld Z h x "java/lang/String" "coder" "B" (.int (0 : Int32)) ∧ own_AF Z h t .byte n (fun j => (f j).toInt8.toInt32) ∧ ∀ j, j < n → ¬ (255 : Int32) < f j) ∨ (Fld Z h x "java/lang/String" "coder" "B" (.int (1 : Int32)) ∧ own_AF Z h t .byte (2 * n) (own_b2 f)))
theorem own_SX.ext {Z : State} {h h' : Heap} {x : Addr} {n : Nat} {f : Nat → Int32} (F : own_SX Z h x n f) (E : Ext h h') : own_SX Z h' x n f := by
  obtain ⟨a, t, b, c⟩ := F
  exact ⟨a.ext E, t, b.ext E, c.imp (fun q => ⟨q.1.ext E, q.2.1.ext E, q.2.2⟩) (fun q => ⟨q.1.ext E, q.2.ext E⟩)⟩
theorem own_at0 {f : Nat → Int32} {n i : Nat} {w : Int32} (h : own_at f n i w) (h2 : ¬ (255 : Int32) < f i) : w = f i := by
  rcases h with ⟨-, q⟩ | ⟨q, -⟩
  · exact q
  · refine absurd q.1 (fun z => z ?_)
    rw [Int32.lt_iff_toInt_lt] at h2 ⊢
    have e1 : (255 : Int32).toInt = 255 := rfl
    have e2 : (55296 : Int32).toInt = 55296 := rfl
    omega
theorem dO_0 : decode jdk_42_method_57_code 0 = .ok (.aload_n 0, 1) := by decide +kernel
theorem dO_1 : decode jdk_42_method_57_code 1 = .ok (.invokevirtual 492, 3) := by decide +kernel
theorem dO_4 : decode jdk_42_method_57_code 4 = .ok (.ifCond .eq 23, 3) := by decide +kernel
theorem dO_7 : decode jdk_42_method_57_code 7 = .ok (.iload_n 1, 1) := by decide +kernel
theorem dO_8 : decode jdk_42_method_57_code 8 = .ok (.aload_n 0, 1) := by decide +kernel
theorem dO_9 : decode jdk_42_method_57_code 9 = .ok (.getfield 9, 3) := by decide +kernel
theorem dO_12 : decode jdk_42_method_57_code 12 = .ok (.arraylength, 1) := by decide +kernel
theorem dO_13 : decode jdk_42_method_57_code 13 = .ok (.invokestatic 499, 3) := by decide +kernel
theorem dO_16 : decode jdk_42_method_57_code 16 = .ok (.aload_n 0, 1) := by decide +kernel
theorem dO_17 : decode jdk_42_method_57_code 17 = .ok (.getfield 9, 3) := by decide +kernel
theorem dO_20 : decode jdk_42_method_57_code 20 = .ok (.iload_n 1, 1) := by decide +kernel
theorem dO_21 : decode jdk_42_method_57_code 21 = .ok (.baload, 1) := by decide +kernel
theorem dO_22 : decode jdk_42_method_57_code 22 = .ok (.sipush 255, 3) := by decide +kernel
theorem dO_25 : decode jdk_42_method_57_code 25 = .ok (.iand, 1) := by decide +kernel
theorem dO_26 : decode jdk_42_method_57_code 26 = .ok (.ireturn, 1) := by decide +kernel
theorem dO_27 : decode jdk_42_method_57_code 27 = .ok (.aload_n 0, 1) := by decide +kernel
theorem dO_28 : decode jdk_42_method_57_code 28 = .ok (.getfield 9, 3) := by decide +kernel
theorem dO_31 : decode jdk_42_method_57_code 31 = .ok (.arraylength, 1) := by decide +kernel
theorem dO_32 : decode jdk_42_method_57_code 32 = .ok (.iconst 1, 1) := by decide +kernel
theorem dO_33 : decode jdk_42_method_57_code 33 = .ok (.ishr, 1) := by decide +kernel
theorem dO_34 : decode jdk_42_method_57_code 34 = .ok (.istore_n 2, 1) := by decide +kernel
theorem dO_35 : decode jdk_42_method_57_code 35 = .ok (.iload_n 1, 1) := by decide +kernel
theorem dO_36 : decode jdk_42_method_57_code 36 = .ok (.iload_n 2, 1) := by decide +kernel
theorem dO_37 : decode jdk_42_method_57_code 37 = .ok (.invokestatic 499, 3) := by decide +kernel
theorem dO_40 : decode jdk_42_method_57_code 40 = .ok (.aload_n 0, 1) := by decide +kernel
theorem dO_41 : decode jdk_42_method_57_code 41 = .ok (.getfield 9, 3) := by decide +kernel
theorem dO_44 : decode jdk_42_method_57_code 44 = .ok (.iload_n 1, 1) := by decide +kernel
theorem dO_45 : decode jdk_42_method_57_code 45 = .ok (.iload_n 2, 1) := by decide +kernel
theorem dO_46 : decode jdk_42_method_57_code 46 = .ok (.invokestatic 502, 3) := by decide +kernel
theorem dO_49 : decode jdk_42_method_57_code 49 = .ok (.ireturn, 1) := by decide +kernel
theorem efO (m : MethodId) (x0 : Addr) (x1 : Int32) : entryFrame m #[(.ref x0), (.int x1)] 3 = mkF m 0 #[.val (.ref x0), .val (.int x1), .unset] [] := by first | (simp [entryFrame, mkF, argsToLocals, Value.category, maxLocals]; done) | rfl
set_option maxRecDepth 65536 in
set_option maxHeartbeats 40000000 in
theorem rmO (l : Launch) (Z : State) (a0 : Array Value) (hw : ∀ d ∈ tables_1, d.before a0 Z = true) (x : Addr) (n : Nat) (f : Nat → Int32) (G : Int32) (h0 : Heap) (n0 : Nat) (h1n : 1 ≤ n) (hn : n ≤ 256) (hf : ∀ j, j < n → own_c16 (f j)) (Sx : own_SX Z h0 x n f) (O : Sta Z h0 "java/lang/String" "COMPACT_STRINGS" "Z" (.int G)) (hG : ¬ G = 0) (F : Value) (rF : F.isRef = true) (Of : Sta Z h0 "jdk/internal/util/Preconditions" "SIOOBE_FORMATTER" "Ljava/util/function/BiFunction;" F) (Uu : own_U Z h0) (i : Nat) (w : Int32) (hi : i < n) (hw1 : own_at f n i w) :
    MetFree l (⟨"java/lang/String", "codePointAt", "(I)I"⟩ : MethodName) (head1 [Jvm.Cond.code (⟨"java/lang/String", "codePointAt", "(I)I"⟩ : MethodName) jdk_42_method_57_code 3 (some .int)] ({ frames := 3, cells := 0, slots := 0, locals := 60 } : Room)) (fun q_ U => q_ = #[(.ref x), (.int (Int32.ofNat i))] ∧ Z.Warmed39 U.vm ∧ U.heap = h0) (fun _ _ _ _ _ => True) (fun _ U o U' => ∃ v L, o = .returned v ∧ own_QS n0 (.int w) h0 v U'.heap L ∧ FrameEnd U o U' L ({ frames := 3, cells := 0, slots := 0, locals := 60 } : Room).cells ({ frames := 3, cells := 0, slots := 0, locals := 60 } : Room).slots) := by
  refine MetFree.of_bodySF (plainFor_of_name pn_S) hisR ?_
  intro p e s m args below meth c s₁ Bd hml0 hP hK
  obtain ⟨rfl, hZ, hh⟩ := hP
  have hx := Bd.exec
  have hby := Bd.bytes
  have hml : c.maxLocals = 3 := hml0
  have hown : s.vm.findClass "java/lang/String" = some m.cls := findClass_of_methodNamed Bd.named
  have hnm := (name_of_methodNamed Bd.named Bd.method).1
  have X0 : Stand p l e ({ frames := 3, cells := 0, slots := 0, locals := 60 } : Room) s m #[(.ref x), (.int (Int32.ofNat i))] below meth c s₁ [] 0 0 := Stand.of_body Bd
  have e0 : s₁.heap = h0 := by rw [← hh, Bd.state]; rfl
  obtain ⟨Ex, t, Vx, ⟨Cx, Ft, h8⟩ | ⟨Cx, Ft⟩⟩ := Sx
  · obtain ⟨ct, At, St, Ht⟩ := id Ft
    have sg1 : ∀ target, Steps p.tables e below (s₁.setTop (mkF m 1 #[.val (.ref x), .val (.int (Int32.ofNat i)), .unset] [(.ref x)])) target → Steps p.tables e below (s₁.setTop (mkF m 0 #[.val (.ref x), .val (.int (Int32.ofNat i)), .unset] [])) target := by
      intro target kt
      show Steps p.tables e below (s₁.setTop (mkF m 0 #[.val (.ref x), .val (.int (Int32.ofNat i)), .unset] [])) _
      refine XS.aloadN X0.here hx rfl (hb hby dO_0) rfl rfl ?_
      show Steps p.tables e below (s₁.setTop (mkF m 1 #[.val (.ref x), .val (.int (Int32.ofNat i)), .unset] [(.ref x)])) _
      exact kt
    obtain ⟨cqA, kqA, qaA, qbA, qcA⟩ := isOf hZ e0 Ex
    obtain ⟨_, _, ⟨TA, LA, kA, nA⟩, -, XA, ⟨LcA, hQA, lA, yA, zA⟩, stA⟩ := X0.virtualBack hx (y := (⟨"java/lang/String", "isLatin1", "()Z"⟩ : MethodName)) (z := (⟨"java/lang/String", "isLatin1", "()Z"⟩ : MethodName)) hown (mvT hZ (hw _ (List.mem_of_getElem? (i := 89) rfl))) (mvT hZ (hw _ (List.mem_of_getElem? (i := 90) rfl))) (notFace_of_selects (args := #[]) (mvT hZ (hw _ (List.mem_of_getElem? (i := 92) rfl)))) (mvT hZ (hw _ (List.mem_of_getElem? (i := 92) rfl))) (mvT hZ (hw _ (List.mem_of_getElem? (i := 91) rfl))) (by decide) (backOf (W := 0) (rm8 l Z a0 hw x 0 1 (by simp) h0 n0 Cx G O hG) hZ (hw _ (List.mem_of_getElem? (i := 93) rfl)) (hw _ (List.mem_of_getElem? (i := 12) rfl)) (by decide) (by decide)) qaA qcA (g := (mkF m 1 #[.val (.ref x), .val (.int (Int32.ofNat i)), .unset] [(.ref x)])) rfl (by rw [hml]; rfl) (Steps.refl _) (argsL := []) (rest := []) (lenOf pd8 rfl) rfl (by show 2 * 0 + _ ≤ _; exact Nat.le_of_eq rfl) (hb hby dO_1) (fun _ _ => ⟨rfl, e0, Nat.le_of_ble_eq_true rfl, Nat.le_of_ble_eq_true rfl⟩)
    dsimp only [Pt.U, Pt.locs, Pt.cells, Pt.slots] at XA lA yA zA stA hQA
    subst lA yA zA
    obtain ⟨rfl, NA, eA⟩ := hQA
    have MA := Fr.app (Fr.nil n0) NA
    have sg2 : ∀ target, Steps p.tables e below (TA.setTop (mkF m 9 #[.val (.ref x), .val (.int (Int32.ofNat i)), .unset] [(.ref x), (.int (Int32.ofNat i))])) target → Steps p.tables e below (TA.setTop (mkF m 4 #[.val (.ref x), .val (.int (Int32.ofNat i)), .unset] [(.int (1 : Int32))])) target := by
      intro target kt
      show Steps p.tables e below (TA.setTop (mkF m 4 #[.val (.ref x), .val (.int (Int32.ofNat i)), .unset] [(.int (1 : Int32))])) _
      refine XS.ifNo XA.here hx rfl (hb hby dO_4) rfl (by decide) ?_
      show Steps p.tables e below (TA.setTop (mkF m 7 #[.val (.ref x), .val (.int (Int32.ofNat i)), .unset] [])) _
      refine XS.iloadN XA.here hx rfl (hb hby dO_7) rfl ?_
      show Steps p.tables e below (TA.setTop (mkF m 8 #[.val (.ref x), .val (.int (Int32.ofNat i)), .unset] [(.int (Int32.ofNat i))])) _
      refine XS.aloadN XA.here hx rfl (hb hby dO_8) rfl rfl ?_
      show Steps p.tables e below (TA.setTop (mkF m 9 #[.val (.ref x), .val (.int (Int32.ofNat i)), .unset] [(.ref x), (.int (Int32.ofNat i))])) _
      exact kt
    obtain ⟨T3, X3, e3, st3⟩ := getF XA hx hZ hown (host := "") (Or.inl (hw _ (List.mem_of_getElem? (i := 37) rfl))) Via.refl eA Vx (g := (mkF m 9 #[.val (.ref x), .val (.int (Int32.ofNat i)), .unset] [(.ref x), (.int (Int32.ofNat i))])) rfl rfl (hb hby dO_9)
    have sg4 : ∀ target, Steps p.tables e below (T3.setTop (mkF m 13 #[.val (.ref x), .val (.int (Int32.ofNat i)), .unset] [(.int (Int32.ofNat n)), (.int (Int32.ofNat i))])) target → Steps p.tables e below (T3.setTop (mkF m 12 #[.val (.ref x), .val (.int (Int32.ofNat i)), .unset] [(.ref t), (.int (Int32.ofNat i))])) target := by
      intro target kt
      show Steps p.tables e below (T3.setTop (mkF m 12 #[.val (.ref x), .val (.int (Int32.ofNat i)), .unset] [(.ref t), (.int (Int32.ofNat i))])) _
      refine X3.arraylength hx (by rw [e3]; exact At.1) (State.isArrayOf_alike hZ.alike At.2.1) (g := (mkF m 12 #[.val (.ref x), .val (.int (Int32.ofNat i)), .unset] [(.ref t), (.int (Int32.ofNat i))])) rfl (rest := [(.int (Int32.ofNat i))]) rfl (hb hby dO_12) _ ?_
      rw [St]
      show Steps p.tables e below (T3.setTop (mkF m 13 #[.val (.ref x), .val (.int (Int32.ofNat i)), .unset] [(.int (Int32.ofNat n)), (.int (Int32.ofNat i))])) _
      exact kt
    obtain ⟨_, _, ⟨TB, LB, kB, nB⟩, -, XB, ⟨LcB, hQB, lB, yB, zB⟩, stB⟩ := Jvm.LawKit.callS X3 hx (y := (⟨"java/lang/String", "checkIndex", "(II)V"⟩ : MethodName)) hown (mvT hZ (hw _ (List.mem_of_getElem? (i := 94) rfl))) (mvT hZ (hw _ (List.mem_of_getElem? (i := 95) rfl))) (mvT hZ (hw _ (List.mem_of_getElem? (i := 12) rfl))) (mvT hZ (hw _ (List.mem_of_getElem? (i := 96) rfl))) (by decide) (backOf (W := 0) (rmI l Z a0 hw i n h0 n0 hi (by omega) F rF Of) hZ (hw _ (List.mem_of_getElem? (i := 96) rfl)) (hw _ (List.mem_of_getElem? (i := 12) rfl)) (by decide) (by decide)) (g := (mkF m 13 #[.val (.ref x), .val (.int (Int32.ofNat i)), .unset] [(.int (Int32.ofNat n)), (.int (Int32.ofNat i))])) rfl (by rw [hml]; rfl) (argsL := [(.int (Int32.ofNat i)), (.int (Int32.ofNat n))]) (rest := []) (lenOf pdI rfl) rfl (by show 2 * 0 + _ ≤ _; exact Nat.le_of_eq rfl) (hb hby dO_13) (fun _ _ => ⟨rfl, e3, Nat.le_of_ble_eq_true rfl, Nat.le_of_ble_eq_true rfl⟩)
    dsimp only [Pt.U, Pt.locs, Pt.cells, Pt.slots] at XB lB yB zB stB hQB
    subst lB yB zB
    obtain ⟨rfl, NB, eB⟩ := hQB
    have MB := Fr.app (MA) NB
    have sg5 : ∀ target, Steps p.tables e below (TB.setTop (mkF m 17 #[.val (.ref x), .val (.int (Int32.ofNat i)), .unset] [(.ref x)])) target → Steps p.tables e below (TB.setTop (mkF m 16 #[.val (.ref x), .val (.int (Int32.ofNat i)), .unset] [])) target := by
      intro target kt
      show Steps p.tables e below (TB.setTop (mkF m 16 #[.val (.ref x), .val (.int (Int32.ofNat i)), .unset] [])) _
      refine XS.aloadN XB.here hx rfl (hb hby dO_16) rfl rfl ?_
      show Steps p.tables e below (TB.setTop (mkF m 17 #[.val (.ref x), .val (.int (Int32.ofNat i)), .unset] [(.ref x)])) _
      exact kt
    obtain ⟨T6, X6, e6, st6⟩ := getF XB hx hZ hown (host := "") (Or.inl (hw _ (List.mem_of_getElem? (i := 37) rfl))) Via.refl eB Vx (g := (mkF m 17 #[.val (.ref x), .val (.int (Int32.ofNat i)), .unset] [(.ref x)])) rfl rfl (hb hby dO_17)
    have hw2 := own_at0 hw1 (h8 i hi)
    have hw3 : (f i).toInt8.toInt32 &&& (255 : Int32) = w := by rw [own_l8 (hf i hi) (h8 i hi), hw2]
    have sg7 : ∀ target, Steps p.tables e below (T6.setTop (mkF m 26 #[.val (.ref x), .val (.int (Int32.ofNat i)), .unset] [(.int w)])) target → Steps p.tables e below (T6.setTop (mkF m 20 #[.val (.ref x), .val (.int (Int32.ofNat i)), .unset] [(.ref t)])) target := by
      intro target kt
      show Steps p.tables e below (T6.setTop (mkF m 20 #[.val (.ref x), .val (.int (Int32.ofNat i)), .unset] [(.ref t)])) _
      refine XS.iloadN X6.here hx rfl (hb hby dO_20) rfl ?_
      show Steps p.tables e below (T6.setTop (mkF m 21 #[.val (.ref x), .val (.int (Int32.ofNat i)), .unset] [(.int (Int32.ofNat i)), (.ref t)])) _
      refine X6.baloadBytes hx (j := (Int32.ofNat i)) (v := (.int ((f i).toInt8.toInt32))) (by rw [e6]; exact At.1) (State.isArrayOf_alike hZ.alike At.2.1) At.2.2 (own_inb St hi (by omega)) (own_gt Ht hi (by omega)) (g := (mkF m 21 #[.val (.ref x), .val (.int (Int32.ofNat i)), .unset] [(.int (Int32.ofNat i)), (.ref t)])) rfl rfl (hb hby dO_21) _ ?_
      show Steps p.tables e below (T6.setTop (mkF m 22 #[.val (.ref x), .val (.int (Int32.ofNat i)), .unset] [(.int ((f i).toInt8.toInt32))])) _
      refine XS.sipush X6.here hx rfl (hb hby dO_22) ?_
      show Steps p.tables e below (T6.setTop (mkF m 25 #[.val (.ref x), .val (.int (Int32.ofNat i)), .unset] [(.int (255 : Int32)), (.int ((f i).toInt8.toInt32))])) _
      refine XS.iand X6.here hx rfl (hb hby dO_25) rfl ?_
      show Steps p.tables e below (T6.setTop (mkF m 26 #[.val (.ref x), .val (.int (Int32.ofNat i)), .unset] [(.int (((f i).toInt8.toInt32) &&& (255 : Int32)))])) _
      rw [hw3]
      show Steps p.tables e below (T6.setTop (mkF m 26 #[.val (.ref x), .val (.int (Int32.ofNat i)), .unset] [(.int w)])) _
      exact kt
    obtain ⟨fs, hr, hrun, hended, hW, hsame⟩ := X6.leave (v := some (.int w)) (fun h => by rw [Bd.returns] at h; cases h)
    refine ⟨_, _, castTop (efO m x (Int32.ofNat i)) ?_, hrun, hended, _, _, rfl, ?_, ⟨_, rfl⟩, hW, hsame.mono (by decide) (by decide)⟩
    · show Steps p.tables e below (s₁.setTop (mkF m 0 #[.val (.ref x), .val (.int (Int32.ofNat i)), .unset] [])) _
      refine sg1 _ ?_
      show Steps p.tables e below (s₁.setTop (mkF m 1 #[.val (.ref x), .val (.int (Int32.ofNat i)), .unset] [(.ref x)])) _
      refine stA.trans ?_
      show Steps p.tables e below (TA.setTop (mkF m 4 #[.val (.ref x), .val (.int (Int32.ofNat i)), .unset] [(.int (1 : Int32))])) _
      refine sg2 _ ?_
      show Steps p.tables e below (TA.setTop (mkF m 9 #[.val (.ref x), .val (.int (Int32.ofNat i)), .unset] [(.ref x), (.int (Int32.ofNat i))])) _
      refine st3 _ ?_
      show Steps p.tables e below (T3.setTop (mkF m 12 #[.val (.ref x), .val (.int (Int32.ofNat i)), .unset] [(.ref t), (.int (Int32.ofNat i))])) _
      refine sg4 _ ?_
      show Steps p.tables e below (T3.setTop (mkF m 13 #[.val (.ref x), .val (.int (Int32.ofNat i)), .unset] [(.int (Int32.ofNat n)), (.int (Int32.ofNat i))])) _
      refine stB _ ?_
      show Steps p.tables e below (TB.setTop (mkF m 16 #[.val (.ref x), .val (.int (Int32.ofNat i)), .unset] [])) _
      refine sg5 _ ?_
      show Steps p.tables e below (TB.setTop (mkF m 17 #[.val (.ref x), .val (.int (Int32.ofNat i)), .unset] [(.ref x)])) _
      refine st6 _ ?_
      show Steps p.tables e below (T6.setTop (mkF m 20 #[.val (.ref x), .val (.int (Int32.ofNat i)), .unset] [(.ref t)])) _
      refine sg7 _ ?_
      show Steps p.tables e below (T6.setTop (mkF m 26 #[.val (.ref x), .val (.int (Int32.ofNat i)), .unset] [(.int w)])) _
      exact retOut X6 hx (t := .int) Bd.returns rfl (Or.inl ⟨rfl, Or.inl rfl, _, rfl⟩) (hb hby dO_26) hr
    · show _
      exact ⟨rfl, MB, e6⟩
  · obtain ⟨ct, At, St, Ht⟩ := id Ft
    have sg1 : ∀ target, Steps p.tables e below (s₁.setTop (mkF m 1 #[.val (.ref x), .val (.int (Int32.ofNat i)), .unset] [(.ref x)])) target → Steps p.tables e below (s₁.setTop (mkF m 0 #[.val (.ref x), .val (.int (Int32.ofNat i)), .unset] [])) target := by
      intro target kt
      show Steps p.tables e below (s₁.setTop (mkF m 0 #[.val (.ref x), .val (.int (Int32.ofNat i)), .unset] [])) _
      refine XS.aloadN X0.here hx rfl (hb hby dO_0) rfl rfl ?_
      show Steps p.tables e below (s₁.setTop (mkF m 1 #[.val (.ref x), .val (.int (Int32.ofNat i)), .unset] [(.ref x)])) _
      exact kt
    obtain ⟨cqA, kqA, qaA, qbA, qcA⟩ := isOf hZ e0 Ex
    obtain ⟨_, _, ⟨TA, LA, kA, nA⟩, -, XA, ⟨LcA, hQA, lA, yA, zA⟩, stA⟩ := X0.virtualBack hx (y := (⟨"java/lang/String", "isLatin1", "()Z"⟩ : MethodName)) (z := (⟨"java/lang/String", "isLatin1", "()Z"⟩ : MethodName)) hown (mvT hZ (hw _ (List.mem_of_getElem? (i := 89) rfl))) (mvT hZ (hw _ (List.mem_of_getElem? (i := 90) rfl))) (notFace_of_selects (args := #[]) (mvT hZ (hw _ (List.mem_of_getElem? (i := 92) rfl)))) (mvT hZ (hw _ (List.mem_of_getElem? (i := 92) rfl))) (mvT hZ (hw _ (List.mem_of_getElem? (i := 91) rfl))) (by decide) (backOf (W := 0) (rm8 l Z a0 hw x 1 0 (by simp) h0 n0 Cx G O hG) hZ (hw _ (List.mem_of_getElem? (i := 93) rfl)) (hw _ (List.mem_of_getElem? (i := 12) rfl)) (by decide) (by decide)) qaA qcA (g := (mkF m 1 #[.val (.ref x), .val (.int (Int32.ofNat i)), .unset] [(.ref x)])) rfl (by rw [hml]; rfl) (Steps.refl _) (argsL := []) (rest := []) (lenOf pd8 rfl) rfl (by show 2 * 0 + _ ≤ _; exact Nat.le_of_eq rfl) (hb hby dO_1) (fun _ _ => ⟨rfl, e0, Nat.le_of_ble_eq_true rfl, Nat.le_of_ble_eq_true rfl⟩)
    dsimp only [Pt.U, Pt.locs, Pt.cells, Pt.slots] at XA lA yA zA stA hQA
    subst lA yA zA
    obtain ⟨rfl, NA, eA⟩ := hQA
    have MA := Fr.app (Fr.nil n0) NA
    have sg2 : ∀ target, Steps p.tables e below (TA.setTop (mkF m 28 #[.val (.ref x), .val (.int (Int32.ofNat i)), .unset] [(.ref x)])) target → Steps p.tables e below (TA.setTop (mkF m 4 #[.val (.ref x), .val (.int (Int32.ofNat i)), .unset] [(.int (0 : Int32))])) target := by
      intro target kt
      show Steps p.tables e below (TA.setTop (mkF m 4 #[.val (.ref x), .val (.int (Int32.ofNat i)), .unset] [(.int (0 : Int32))])) _
      refine XS.ifYes XA.here hx rfl (pc0 := 4) (pc' := 27) rfl (hb hby dO_4) rfl (by decide) (by decide) (by decide) ?_
      show Steps p.tables e below (TA.setTop (mkF m 27 #[.val (.ref x), .val (.int (Int32.ofNat i)), .unset] [])) _
      refine XS.aloadN XA.here hx rfl (hb hby dO_27) rfl rfl ?_
      show Steps p.tables e below (TA.setTop (mkF m 28 #[.val (.ref x), .val (.int (Int32.ofNat i)), .unset] [(.ref x)])) _
      exact kt
    obtain ⟨T3, X3, e3, st3⟩ := getF XA hx hZ hown (host := "") (Or.inl (hw _ (List.mem_of_getElem? (i := 37) rfl))) Via.refl eA Vx (g := (mkF m 28 #[.val (.ref x), .val (.int (Int32.ofNat i)), .unset] [(.ref x)])) rfl rfl (hb hby dO_28)
    have sg4 : ∀ target, Steps p.tables e below (T3.setTop (mkF m 37 #[.val (.ref x), .val (.int (Int32.ofNat i)), .val (.int (Int32.ofNat n))] [(.int (Int32.ofNat n)), (.int (Int32.ofNat i))])) target → Steps p.tables e below (T3.setTop (mkF m 31 #[.val (.ref x), .val (.int (Int32.ofNat i)), .unset] [(.ref t)])) target := by
      intro target kt
      show Steps p.tables e below (T3.setTop (mkF m 31 #[.val (.ref x), .val (.int (Int32.ofNat i)), .unset] [(.ref t)])) _
      refine X3.arraylength hx (by rw [e3]; exact At.1) (State.isArrayOf_alike hZ.alike At.2.1) (g := (mkF m 31 #[.val (.ref x), .val (.int (Int32.ofNat i)), .unset] [(.ref t)])) rfl (rest := []) rfl (hb hby dO_31) _ ?_
      rw [St]
      show Steps p.tables e below (T3.setTop (mkF m 32 #[.val (.ref x), .val (.int (Int32.ofNat i)), .unset] [(.int (Int32.ofNat (2 * n)))])) _
      refine XS.iconst X3.here hx rfl (hb hby dO_32) ?_
      show Steps p.tables e below (T3.setTop (mkF m 33 #[.val (.ref x), .val (.int (Int32.ofNat i)), .unset] [(.int (1 : Int32)), (.int (Int32.ofNat (2 * n)))])) _
      refine XS.ishr X3.here hx rfl (hb hby dO_33) rfl ?_
      show Steps p.tables e below (T3.setTop (mkF m 34 #[.val (.ref x), .val (.int (Int32.ofNat i)), .unset] [(.int ((Int32.ofNat (2 * n)) >>> ((1 : Int32) &&& 31)))])) _
      rw [(own_half (by omega : n ≤ 1000))]
      show Steps p.tables e below (T3.setTop (mkF m 34 #[.val (.ref x), .val (.int (Int32.ofNat i)), .unset] [(.int (Int32.ofNat n))])) _
      refine XS.istoreN X3.here hx rfl (hb hby dO_34) rfl (l' := #[.val (.ref x), .val (.int (Int32.ofNat i)), .val (.int (Int32.ofNat n))]) rfl ?_
      show Steps p.tables e below (T3.setTop (mkF m 35 #[.val (.ref x), .val (.int (Int32.ofNat i)), .val (.int (Int32.ofNat n))] [])) _
      refine XS.iloadN X3.here hx rfl (hb hby dO_35) rfl ?_
      show Steps p.tables e below (T3.setTop (mkF m 36 #[.val (.ref x), .val (.int (Int32.ofNat i)), .val (.int (Int32.ofNat n))] [(.int (Int32.ofNat i))])) _
      refine XS.iloadN X3.here hx rfl (hb hby dO_36) rfl ?_
      show Steps p.tables e below (T3.setTop (mkF m 37 #[.val (.ref x), .val (.int (Int32.ofNat i)), .val (.int (Int32.ofNat n))] [(.int (Int32.ofNat n)), (.int (Int32.ofNat i))])) _
      exact kt
    obtain ⟨_, _, ⟨TB, LB, kB, nB⟩, -, XB, ⟨LcB, hQB, lB, yB, zB⟩, stB⟩ := Jvm.LawKit.callS X3 hx (y := (⟨"java/lang/String", "checkIndex", "(II)V"⟩ : MethodName)) hown (mvT hZ (hw _ (List.mem_of_getElem? (i := 94) rfl))) (mvT hZ (hw _ (List.mem_of_getElem? (i := 95) rfl))) (mvT hZ (hw _ (List.mem_of_getElem? (i := 12) rfl))) (mvT hZ (hw _ (List.mem_of_getElem? (i := 96) rfl))) (by decide) (backOf (W := 0) (rmI l Z a0 hw i n h0 n0 hi (by omega) F rF Of) hZ (hw _ (List.mem_of_getElem? (i := 96) rfl)) (hw _ (List.mem_of_getElem? (i := 12) rfl)) (by decide) (by decide)) (g := (mkF m 37 #[.val (.ref x), .val (.int (Int32.ofNat i)), .val (.int (Int32.ofNat n))] [(.int (Int32.ofNat n)), (.int (Int32.ofNat i))])) rfl (by rw [hml]; rfl) (argsL := [(.int (Int32.ofNat i)), (.int (Int32.ofNat n))]) (rest := []) (lenOf pdI rfl) rfl (by show 2 * 0 + _ ≤ _; exact Nat.le_of_eq rfl) (hb hby dO_37) (fun _ _ => ⟨rfl, e3, Nat.le_of_ble_eq_true rfl, Nat.le_of_ble_eq_true rfl⟩)
    dsimp only [Pt.U, Pt.locs, Pt.cells, Pt.slots] at XB lB yB zB stB hQB
    subst lB yB zB
    obtain ⟨rfl, NB, eB⟩ := hQB
    have MB := Fr.app (MA) NB
    have sg5 : ∀ target, Steps p.tables e below (TB.setTop (mkF m 41 #[.val (.ref x), .val (.int (Int32.ofNat i)), .val (.int (Int32.ofNat n))] [(.ref x)])) target → Steps p.tables e below (TB.setTop (mkF m 40 #[.val (.ref x), .val (.int (Int32.ofNat i)), .val (.int (Int32.ofNat n))] [])) target := by
      intro target kt
      show Steps p.tables e below (TB.setTop (mkF m 40 #[.val (.ref x), .val (.int (Int32.ofNat i)), .val (.int (Int32.ofNat n))] [])) _
      refine XS.aloadN XB.here hx rfl (hb hby dO_40) rfl rfl ?_
      show Steps p.tables e below (TB.setTop (mkF m 41 #[.val (.ref x), .val (.int (Int32.ofNat i)), .val (.int (Int32.ofNat n))] [(.ref x)])) _
      exact kt
    obtain ⟨T6, X6, e6, st6⟩ := getF XB hx hZ hown (host := "") (Or.inl (hw _ (List.mem_of_getElem? (i := 37) rfl))) Via.refl eB Vx (g := (mkF m 41 #[.val (.ref x), .val (.int (Int32.ofNat i)), .val (.int (Int32.ofNat n))] [(.ref x)])) rfl rfl (hb hby dO_41)
    have sg7 : ∀ target, Steps p.tables e below (T6.setTop (mkF m 46 #[.val (.ref x), .val (.int (Int32.ofNat i)), .val (.int (Int32.ofNat n))] [(.int (Int32.ofNat n)), (.int (Int32.ofNat i)), (.ref t)])) target → Steps p.tables e below (T6.setTop (mkF m 44 #[.val (.ref x), .val (.int (Int32.ofNat i)), .val (.int (Int32.ofNat n))] [(.ref t)])) target := by
      intro target kt
      show Steps p.tables e below (T6.setTop (mkF m 44 #[.val (.ref x), .val (.int (Int32.ofNat i)), .val (.int (Int32.ofNat n))] [(.ref t)])) _
      refine XS.iloadN X6.here hx rfl (hb hby dO_44) rfl ?_
      show Steps p.tables e below (T6.setTop (mkF m 45 #[.val (.ref x), .val (.int (Int32.ofNat i)), .val (.int (Int32.ofNat n))] [(.int (Int32.ofNat i)), (.ref t)])) _
      refine XS.iloadN X6.here hx rfl (hb hby dO_45) rfl ?_
      show Steps p.tables e below (T6.setTop (mkF m 46 #[.val (.ref x), .val (.int (Int32.ofNat i)), .val (.int (Int32.ofNat n))] [(.int (Int32.ofNat n)), (.int (Int32.ofNat i)), (.ref t)])) _
      exact kt
    obtain ⟨_, _, ⟨TC, LC, kC, nC⟩, -, XC, ⟨LcC, hQC, lC, yC, zC⟩, stC⟩ := Jvm.LawKit.callS X6 hx (y := (⟨"java/lang/StringUTF16", "codePointAt", "([BII)I"⟩ : MethodName)) hown (mvT hZ (hw _ (List.mem_of_getElem? (i := 108) rfl))) (mvT hZ (hw _ (List.mem_of_getElem? (i := 109) rfl))) (mvT hZ (hw _ (List.mem_of_getElem? (i := 26) rfl))) (mvT hZ (hw _ (List.mem_of_getElem? (i := 110) rfl))) (by decide) (backOf (W := 0) (rm6 l Z a0 hw t n i f w h0 n0 hi hn hf hw1 Ft Uu) hZ (hw _ (List.mem_of_getElem? (i := 110) rfl)) (hw _ (List.mem_of_getElem? (i := 26) rfl)) (by decide) (by decide)) (g := (mkF m 46 #[.val (.ref x), .val (.int (Int32.ofNat i)), .val (.int (Int32.ofNat n))] [(.int (Int32.ofNat n)), (.int (Int32.ofNat i)), (.ref t)])) rfl (by rw [hml]; rfl) (argsL := [(.ref t), (.int (Int32.ofNat i)), (.int (Int32.ofNat n))]) (rest := []) (lenOf pd6 rfl) rfl (by show 2 * 0 + _ ≤ _; exact Nat.le_of_eq rfl) (hb hby dO_46) (fun _ _ => ⟨rfl, e6, Nat.le_of_ble_eq_true rfl, Nat.le_of_ble_eq_true rfl⟩)
    dsimp only [Pt.U, Pt.locs, Pt.cells, Pt.slots] at XC lC yC zC stC hQC
    subst lC yC zC
    obtain ⟨rfl, NC, eC⟩ := hQC
    have MC := Fr.app (MB) NC
    obtain ⟨fs, hr, hrun, hended, hW, hsame⟩ := XC.leave (v := some (.int w)) (fun h => by rw [Bd.returns] at h; cases h)
    refine ⟨_, _, castTop (efO m x (Int32.ofNat i)) ?_, hrun, hended, _, _, rfl, ?_, ⟨_, rfl⟩, hW, hsame.mono (by decide) (by decide)⟩
    · show Steps p.tables e below (s₁.setTop (mkF m 0 #[.val (.ref x), .val (.int (Int32.ofNat i)), .unset] [])) _
      refine sg1 _ ?_
      show Steps p.tables e below (s₁.setTop (mkF m 1 #[.val (.ref x), .val (.int (Int32.ofNat i)), .unset] [(.ref x)])) _
      refine stA.trans ?_
      show Steps p.tables e below (TA.setTop (mkF m 4 #[.val (.ref x), .val (.int (Int32.ofNat i)), .unset] [(.int (0 : Int32))])) _
      refine sg2 _ ?_
      show Steps p.tables e below (TA.setTop (mkF m 28 #[.val (.ref x), .val (.int (Int32.ofNat i)), .unset] [(.ref x)])) _
      refine st3 _ ?_
      show Steps p.tables e below (T3.setTop (mkF m 31 #[.val (.ref x), .val (.int (Int32.ofNat i)), .unset] [(.ref t)])) _
      refine sg4 _ ?_
      show Steps p.tables e below (T3.setTop (mkF m 37 #[.val (.ref x), .val (.int (Int32.ofNat i)), .val (.int (Int32.ofNat n))] [(.int (Int32.ofNat n)), (.int (Int32.ofNat i))])) _
      refine stB _ ?_
      show Steps p.tables e below (TB.setTop (mkF m 40 #[.val (.ref x), .val (.int (Int32.ofNat i)), .val (.int (Int32.ofNat n))] [])) _
      refine sg5 _ ?_
      show Steps p.tables e below (TB.setTop (mkF m 41 #[.val (.ref x), .val (.int (Int32.ofNat i)), .val (.int (Int32.ofNat n))] [(.ref x)])) _
      refine st6 _ ?_
      show Steps p.tables e below (T6.setTop (mkF m 44 #[.val (.ref x), .val (.int (Int32.ofNat i)), .val (.int (Int32.ofNat n))] [(.ref t)])) _
      refine sg7 _ ?_
      show Steps p.tables e below (T6.setTop (mkF m 46 #[.val (.ref x), .val (.int (Int32.ofNat i)), .val (.int (Int32.ofNat n))] [(.int (Int32.ofNat n)), (.int (Int32.ofNat i)), (.ref t)])) _
      refine stC _ ?_
      show Steps p.tables e below (TC.setTop (mkF m 49 #[.val (.ref x), .val (.int (Int32.ofNat i)), .val (.int (Int32.ofNat n))] [(.int w)])) _
      exact retOut XC hx (t := .int) Bd.returns rfl (Or.inl ⟨rfl, Or.inl rfl, _, rfl⟩) (hb hby dO_49) hr
    · show _
      exact ⟨rfl, MC, eC⟩
theorem dCd_0 : decode jdk_42_method_152_code 0 = .ok (.getstatic 38, 3) := by decide +kernel
theorem dCd_3 : decode jdk_42_method_152_code 3 = .ok (.ifCond .eq 10, 3) := by decide +kernel
theorem dCd_6 : decode jdk_42_method_152_code 6 = .ok (.aload_n 0, 1) := by decide +kernel
theorem dCd_7 : decode jdk_42_method_152_code 7 = .ok (.getfield 15, 3) := by decide +kernel
theorem dCd_10 : decode jdk_42_method_152_code 10 = .ok (.goto 4, 3) := by decide +kernel
theorem dCd_13 : decode jdk_42_method_152_code 13 = .ok (.iconst 1, 1) := by decide +kernel
theorem dCd_14 : decode jdk_42_method_152_code 14 = .ok (.ireturn, 1) := by decide +kernel
theorem efCd (m : MethodId) (x0 : Addr) : entryFrame m #[(.ref x0)] 1 = mkF m 0 #[.val (.ref x0)] [] := by first | (simp [entryFrame, mkF, argsToLocals, Value.category, maxLocals]; done) | rfl
theorem pdCd : parseMethodDescriptor "()B" = some ⟨[], some .byte⟩ := by decide +kernel
theorem pdLn : parseMethodDescriptor "()I" = some ⟨[], some .int⟩ := by decide +kernel
set_option maxRecDepth 65536 in
set_option maxHeartbeats 40000000 in
theorem rmCd (l : Launch) (Z : State) (a0 : Array Value) (hw : ∀ d ∈ tables_1, d.before a0 Z = true) (x : Addr) (cd : Int32) (hcd : cd = 0 ∨ cd = 1) (h0 : Heap) (n0 : Nat) (Fc : Fld Z h0 x "java/lang/String" "coder" "B" (.int cd)) (G : Int32) (O : Sta Z h0 "java/lang/String" "COMPACT_STRINGS" "Z" (.int G)) (hG : ¬ G = 0) :
    MetFree l (⟨"java/lang/String", "coder", "()B"⟩ : MethodName) (head1 [Jvm.Cond.code (⟨"java/lang/String", "coder", "()B"⟩ : MethodName) jdk_42_method_152_code 1 (some .byte)] ({ frames := 0, cells := 0, slots := 0, locals := 0 } : Room)) (fun q_ U => q_ = #[(.ref x)] ∧ Z.Warmed39 U.vm ∧ U.heap = h0) (fun _ _ _ _ _ => True) (fun _ U o U' => ∃ v L, o = .returned v ∧ own_QS n0 (.int cd) h0 v U'.heap L ∧ FrameEnd U o U' L ({ frames := 0, cells := 0, slots := 0, locals := 0 } : Room).cells ({ frames := 0, cells := 0, slots := 0, locals := 0 } : Room).slots) := by
  refine MetFree.of_bodySF (plainFor_of_name pn_S) hisR ?_
  intro p e s m args below meth c s₁ Bd hml0 hP hK
  obtain ⟨rfl, hZ, hh⟩ := hP
  have hx := Bd.exec
  have hby := Bd.bytes
  have hml : c.maxLocals = 1 := hml0
  have hown : s.vm.findClass "java/lang/String" = some m.cls := findClass_of_methodNamed Bd.named
  have hnm := (name_of_methodNamed Bd.named Bd.method).1
  have X0 : Stand p l e ({ frames := 0, cells := 0, slots := 0, locals := 0 } : Room) s m #[(.ref x)] below meth c s₁ [] 0 0 := Stand.of_body Bd
  have e0 : s₁.heap = h0 := by rw [← hh, Bd.state]; rfl
  rcases hcd with rfl | rfl
  · obtain ⟨T1, X1, e1, st1⟩ := getS X0 hx hZ hown (host := "") (hw _ (List.mem_of_getElem? (i := 23) rfl)) Via.refl e0 O (g := (mkF m 0 #[.val (.ref x)] [])) rfl (hb hby dCd_0)
    have sg2 : ∀ target, Steps p.tables e below (T1.setTop (mkF m 7 #[.val (.ref x)] [(.ref x)])) target → Steps p.tables e below (T1.setTop (mkF m 3 #[.val (.ref x)] [(.int G)])) target := by
      intro target kt
      show Steps p.tables e below (T1.setTop (mkF m 3 #[.val (.ref x)] [(.int G)])) _
      refine XS.ifNo X1.here hx rfl (hb hby dCd_3) rfl (by rw [if0]; exact (feq hG).1) ?_
      show Steps p.tables e below (T1.setTop (mkF m 6 #[.val (.ref x)] [])) _
      refine XS.aloadN X1.here hx rfl (hb hby dCd_6) rfl rfl ?_
      show Steps p.tables e below (T1.setTop (mkF m 7 #[.val (.ref x)] [(.ref x)])) _
      exact kt
    obtain ⟨T3, X3, e3, st3⟩ := getF X1 hx hZ hown (host := "") (Or.inl (hw _ (List.mem_of_getElem? (i := 35) rfl))) Via.refl e1 Fc (g := (mkF m 7 #[.val (.ref x)] [(.ref x)])) rfl rfl (hb hby dCd_7)
    have sg4 : ∀ target, Steps p.tables e below (T3.setTop (mkF m 14 #[.val (.ref x)] [(.int (0 : Int32))])) target → Steps p.tables e below (T3.setTop (mkF m 10 #[.val (.ref x)] [(.int (0 : Int32))])) target := by
      intro target kt
      show Steps p.tables e below (T3.setTop (mkF m 10 #[.val (.ref x)] [(.int (0 : Int32))])) _
      refine XS.goto X3.here hx rfl (pc0 := 10) (pc' := 14) rfl (hb hby dCd_10) (by decide) (by decide) ?_
      show Steps p.tables e below (T3.setTop (mkF m 14 #[.val (.ref x)] [(.int (0 : Int32))])) _
      exact kt
    obtain ⟨fs, hr, hrun, hended, hW, hsame⟩ := X3.leave (v := some (.int (0 : Int32))) (fun h => by rw [Bd.returns] at h; cases h)
    refine ⟨_, _, castTop (efCd m x) ?_, hrun, hended, _, _, rfl, ?_, ⟨_, rfl⟩, hW, hsame.mono (by decide) (by decide)⟩
    · show Steps p.tables e below (s₁.setTop (mkF m 0 #[.val (.ref x)] [])) _
      refine st1 _ ?_
      show Steps p.tables e below (T1.setTop (mkF m 3 #[.val (.ref x)] [(.int G)])) _
      refine sg2 _ ?_
      show Steps p.tables e below (T1.setTop (mkF m 7 #[.val (.ref x)] [(.ref x)])) _
      refine st3 _ ?_
      show Steps p.tables e below (T3.setTop (mkF m 10 #[.val (.ref x)] [(.int (0 : Int32))])) _
      refine sg4 _ ?_
      show Steps p.tables e below (T3.setTop (mkF m 14 #[.val (.ref x)] [(.int (0 : Int32))])) _
      exact retN X3 hx (t := .byte) Bd.returns (by simp) (hb hby dCd_14) hr
    · show _
      exact ⟨rfl, Fr.nil n0, e3⟩
  · obtain ⟨T1, X1, e1, st1⟩ := getS X0 hx hZ hown (host := "") (hw _ (List.mem_of_getElem? (i := 23) rfl)) Via.refl e0 O (g := (mkF m 0 #[.val (.ref x)] [])) rfl (hb hby dCd_0)
    have sg2 : ∀ target, Steps p.tables e below (T1.setTop (mkF m 7 #[.val (.ref x)] [(.ref x)])) target → Steps p.tables e below (T1.setTop (mkF m 3 #[.val (.ref x)] [(.int G)])) target := by
      intro target kt
      show Steps p.tables e below (T1.setTop (mkF m 3 #[.val (.ref x)] [(.int G)])) _
      refine XS.ifNo X1.here hx rfl (hb hby dCd_3) rfl (by rw [if0]; exact (feq hG).1) ?_
      show Steps p.tables e below (T1.setTop (mkF m 6 #[.val (.ref x)] [])) _
      refine XS.aloadN X1.here hx rfl (hb hby dCd_6) rfl rfl ?_
      show Steps p.tables e below (T1.setTop (mkF m 7 #[.val (.ref x)] [(.ref x)])) _
      exact kt
    obtain ⟨T3, X3, e3, st3⟩ := getF X1 hx hZ hown (host := "") (Or.inl (hw _ (List.mem_of_getElem? (i := 35) rfl))) Via.refl e1 Fc (g := (mkF m 7 #[.val (.ref x)] [(.ref x)])) rfl rfl (hb hby dCd_7)
    have sg4 : ∀ target, Steps p.tables e below (T3.setTop (mkF m 14 #[.val (.ref x)] [(.int (1 : Int32))])) target → Steps p.tables e below (T3.setTop (mkF m 10 #[.val (.ref x)] [(.int (1 : Int32))])) target := by
      intro target kt
      show Steps p.tables e below (T3.setTop (mkF m 10 #[.val (.ref x)] [(.int (1 : Int32))])) _
      refine XS.goto X3.here hx rfl (pc0 := 10) (pc' := 14) rfl (hb hby dCd_10) (by decide) (by decide) ?_
      show Steps p.tables e below (T3.setTop (mkF m 14 #[.val (.ref x)] [(.int (1 : Int32))])) _
      exact kt
    obtain ⟨fs, hr, hrun, hended, hW, hsame⟩ := X3.leave (v := some (.int (1 : Int32))) (fun h => by rw [Bd.returns] at h; cases h)
    refine ⟨_, _, castTop (efCd m x) ?_, hrun, hended, _, _, rfl, ?_, ⟨_, rfl⟩, hW, hsame.mono (by decide) (by decide)⟩
    · show Steps p.tables e below (s₁.setTop (mkF m 0 #[.val (.ref x)] [])) _
      refine st1 _ ?_
      show Steps p.tables e below (T1.setTop (mkF m 3 #[.val (.ref x)] [(.int G)])) _
      refine sg2 _ ?_
      show Steps p.tables e below (T1.setTop (mkF m 7 #[.val (.ref x)] [(.ref x)])) _
      refine st3 _ ?_
      show Steps p.tables e below (T3.setTop (mkF m 10 #[.val (.ref x)] [(.int (1 : Int32))])) _
      refine sg4 _ ?_
      show Steps p.tables e below (T3.setTop (mkF m 14 #[.val (.ref x)] [(.int (1 : Int32))])) _
      exact retN X3 hx (t := .byte) Bd.returns (by simp) (hb hby dCd_14) hr
    · show _
      exact ⟨rfl, Fr.nil n0, e3⟩
theorem dLn_0 : decode jdk_42_method_54_code 0 = .ok (.aload_n 0, 1) := by decide +kernel
theorem dLn_1 : decode jdk_42_method_54_code 1 = .ok (.getfield 9, 3) := by decide +kernel
theorem dLn_4 : decode jdk_42_method_54_code 4 = .ok (.arraylength, 1) := by decide +kernel
theorem dLn_5 : decode jdk_42_method_54_code 5 = .ok (.aload_n 0, 1) := by decide +kernel
theorem dLn_6 : decode jdk_42_method_54_code 6 = .ok (.invokevirtual 335, 3) := by decide +kernel
theorem dLn_9 : decode jdk_42_method_54_code 9 = .ok (.ishr, 1) := by decide +kernel
theorem dLn_10 : decode jdk_42_method_54_code 10 = .ok (.ireturn, 1) := by decide +kernel
theorem efLn (m : MethodId) (x0 : Addr) : entryFrame m #[(.ref x0)] 1 = mkF m 0 #[.val (.ref x0)] [] := by first | (simp [entryFrame, mkF, argsToLocals, Value.category, maxLocals]; done) | rfl
set_option maxRecDepth 65536 in
set_option maxHeartbeats 40000000 in
theorem rmLn (l : Launch) (Z : State) (a0 : Array Value) (hw : ∀ d ∈ tables_1, d.before a0 Z = true) (x : Addr) (n : Nat) (f : Nat → Int32) (G : Int32) (h0 : Heap) (n0 : Nat) (h1n : 1 ≤ n) (hn : n ≤ 256) (hf : ∀ j, j < n → own_c16 (f j)) (Sx : own_SX Z h0 x n f) (O : Sta Z h0 "java/lang/String" "COMPACT_STRINGS" "Z" (.int G)) (hG : ¬ G = 0) :
    MetFree l (⟨"java/lang/String", "length", "()I"⟩ : MethodName) (head1 [Jvm.Cond.code (⟨"java/lang/String", "length", "()I"⟩ : MethodName) jdk_42_method_54_code 1 (some .int)] ({ frames := 1, cells := 0, slots := 0, locals := 16 } : Room)) (fun q_ U => q_ = #[(.ref x)] ∧ Z.Warmed39 U.vm ∧ U.heap = h0) (fun _ _ _ _ _ => True) (fun _ U o U' => ∃ v L, o = .returned v ∧ own_QS n0 (.int (Int32.ofNat n)) h0 v U'.heap L ∧ FrameEnd U o U' L ({ frames := 1, cells := 0, slots := 0, locals := 16 } : Room).cells ({ frames := 1, cells := 0, slots := 0, locals := 16 } : Room).slots) := by
  refine MetFree.of_bodySF (plainFor_of_name pn_S) hisR ?_
  intro p e s m args below meth c s₁ Bd hml0 hP hK
  obtain ⟨rfl, hZ, hh⟩ := hP
  have hx := Bd.exec
  have hby := Bd.bytes
  have hml : c.maxLocals = 1 := hml0
  have hown : s.vm.findClass "java/lang/String" = some m.cls := findClass_of_methodNamed Bd.named
  have hnm := (name_of_methodNamed Bd.named Bd.method).1
  have X0 : Stand p l e ({ frames := 1, cells := 0, slots := 0, locals := 16 } : Room) s m #[(.ref x)] below meth c s₁ [] 0 0 := Stand.of_body Bd
  have e0 : s₁.heap = h0 := by rw [← hh, Bd.state]; rfl
  obtain ⟨Ex, t, Vx, ⟨Cx, Ft, h8⟩ | ⟨Cx, Ft⟩⟩ := Sx
  · obtain ⟨ct, At, St, Ht⟩ := id Ft
    have sg1 : ∀ target, Steps p.tables e below (s₁.setTop (mkF m 1 #[.val (.ref x)] [(.ref x)])) target → Steps p.tables e below (s₁.setTop (mkF m 0 #[.val (.ref x)] [])) target := by
      intro target kt
      show Steps p.tables e below (s₁.setTop (mkF m 0 #[.val (.ref x)] [])) _
      refine XS.aloadN X0.here hx rfl (hb hby dLn_0) rfl rfl ?_
      show Steps p.tables e below (s₁.setTop (mkF m 1 #[.val (.ref x)] [(.ref x)])) _
      exact kt
    obtain ⟨T2, X2, e2, st2⟩ := getF X0 hx hZ hown (host := "") (Or.inl (hw _ (List.mem_of_getElem? (i := 37) rfl))) Via.refl e0 Vx (g := (mkF m 1 #[.val (.ref x)] [(.ref x)])) rfl rfl (hb hby dLn_1)
    have sg3 : ∀ target, Steps p.tables e below (T2.setTop (mkF m 6 #[.val (.ref x)] [(.ref x), (.int (Int32.ofNat n))])) target → Steps p.tables e below (T2.setTop (mkF m 4 #[.val (.ref x)] [(.ref t)])) target := by
      intro target kt
      show Steps p.tables e below (T2.setTop (mkF m 4 #[.val (.ref x)] [(.ref t)])) _
      refine X2.arraylength hx (by rw [e2]; exact At.1) (State.isArrayOf_alike hZ.alike At.2.1) (g := (mkF m 4 #[.val (.ref x)] [(.ref t)])) rfl (rest := []) rfl (hb hby dLn_4) _ ?_
      rw [St]
      show Steps p.tables e below (T2.setTop (mkF m 5 #[.val (.ref x)] [(.int (Int32.ofNat n))])) _
      refine XS.aloadN X2.here hx rfl (hb hby dLn_5) rfl rfl ?_
      show Steps p.tables e below (T2.setTop (mkF m 6 #[.val (.ref x)] [(.ref x), (.int (Int32.ofNat n))])) _
      exact kt
    obtain ⟨cqA, kqA, qaA, qbA, qcA⟩ := isOf hZ e2 Ex
    obtain ⟨_, _, ⟨TA, LA, kA, nA⟩, -, XA, ⟨LcA, hQA, lA, yA, zA⟩, stA⟩ := X2.virtualBack hx (y := (⟨"java/lang/String", "coder", "()B"⟩ : MethodName)) (z := (⟨"java/lang/String", "coder", "()B"⟩ : MethodName)) hown (mvT hZ (hw _ (List.mem_of_getElem? (i := 79) rfl))) (mvT hZ (hw _ (List.mem_of_getElem? (i := 80) rfl))) (notFace_of_selects (args := #[]) (mvT hZ (hw _ (List.mem_of_getElem? (i := 82) rfl)))) (mvT hZ (hw _ (List.mem_of_getElem? (i := 82) rfl))) (mvT hZ (hw _ (List.mem_of_getElem? (i := 81) rfl))) (by decide) (backOf (W := 1) (rmCd l Z a0 hw x 0 (by simp) h0 n0 Cx G O hG) hZ (hw _ (List.mem_of_getElem? (i := 83) rfl)) (hw _ (List.mem_of_getElem? (i := 12) rfl)) (by decide) (by decide)) qaA qcA (g := (mkF m 6 #[.val (.ref x)] [(.ref x), (.int (Int32.ofNat n))])) rfl (by rw [hml]; rfl) (Steps.refl _) (argsL := []) (rest := [(.int (Int32.ofNat n))]) (lenOf pdCd rfl) rfl (by show 2 * 0 + _ ≤ _; exact Nat.le_of_eq rfl) (hb hby dLn_6) (fun _ _ => ⟨rfl, e2, Nat.le_of_ble_eq_true rfl, Nat.le_of_ble_eq_true rfl⟩)
    dsimp only [Pt.U, Pt.locs, Pt.cells, Pt.slots] at XA lA yA zA stA hQA
    subst lA yA zA
    obtain ⟨rfl, NA, eA⟩ := hQA
    have MA := Fr.app (Fr.nil n0) NA
    have sg4 : ∀ target, Steps p.tables e below (TA.setTop (mkF m 10 #[.val (.ref x)] [(.int (Int32.ofNat n))])) target → Steps p.tables e below (TA.setTop (mkF m 9 #[.val (.ref x)] [(.int (0 : Int32)), (.int (Int32.ofNat n))])) target := by
      intro target kt
      show Steps p.tables e below (TA.setTop (mkF m 9 #[.val (.ref x)] [(.int (0 : Int32)), (.int (Int32.ofNat n))])) _
      refine XS.ishr XA.here hx rfl (hb hby dLn_9) rfl ?_
      show Steps p.tables e below (TA.setTop (mkF m 10 #[.val (.ref x)] [(.int ((Int32.ofNat n) >>> ((0 : Int32) &&& 31)))])) _
      rw [(own_sh0 n (by omega))]
      show Steps p.tables e below (TA.setTop (mkF m 10 #[.val (.ref x)] [(.int (Int32.ofNat n))])) _
      exact kt
    obtain ⟨fs, hr, hrun, hended, hW, hsame⟩ := XA.leave (v := some (.int (Int32.ofNat n))) (fun h => by rw [Bd.returns] at h; cases h)
    refine ⟨_, _, castTop (efLn m x) ?_, hrun, hended, _, _, rfl, ?_, ⟨_, rfl⟩, hW, hsame.mono (by decide) (by decide)⟩
    · show Steps p.tables e below (s₁.setTop (mkF m 0 #[.val (.ref x)] [])) _
      refine sg1 _ ?_
      show Steps p.tables e below (s₁.setTop (mkF m 1 #[.val (.ref x)] [(.ref x)])) _
      refine st2 _ ?_
      show Steps p.tables e below (T2.setTop (mkF m 4 #[.val (.ref x)] [(.ref t)])) _
      refine sg3 _ ?_
      show Steps p.tables e below (T2.setTop (mkF m 6 #[.val (.ref x)] [(.ref x), (.int (Int32.ofNat n))])) _
      refine stA.trans ?_
      show Steps p.tables e below (TA.setTop (mkF m 9 #[.val (.ref x)] [(.int (0 : Int32)), (.int (Int32.ofNat n))])) _
      refine sg4 _ ?_
      show Steps p.tables e below (TA.setTop (mkF m 10 #[.val (.ref x)] [(.int (Int32.ofNat n))])) _
      exact retOut XA hx (t := .int) Bd.returns rfl (Or.inl ⟨rfl, Or.inl rfl, _, rfl⟩) (hb hby dLn_10) hr
    · show _
      exact ⟨rfl, MA, eA⟩
  · obtain ⟨ct, At, St, Ht⟩ := id Ft
    have sg1 : ∀ target, Steps p.tables e below (s₁.setTop (mkF m 1 #[.val (.ref x)] [(.ref x)])) target → Steps p.tables e below (s₁.setTop (mkF m 0 #[.val (.ref x)] [])) target := by
      intro target kt
      show Steps p.tables e below (s₁.setTop (mkF m 0 #[.val (.ref x)] [])) _
      refine XS.aloadN X0.here hx rfl (hb hby dLn_0) rfl rfl ?_
      show Steps p.tables e below (s₁.setTop (mkF m 1 #[.val (.ref x)] [(.ref x)])) _
      exact kt
    obtain ⟨T2, X2, e2, st2⟩ := getF X0 hx hZ hown (host := "") (Or.inl (hw _ (List.mem_of_getElem? (i := 37) rfl))) Via.refl e0 Vx (g := (mkF m 1 #[.val (.ref x)] [(.ref x)])) rfl rfl (hb hby dLn_1)
    have sg3 : ∀ target, Steps p.tables e below (T2.setTop (mkF m 6 #[.val (.ref x)] [(.ref x), (.int (Int32.ofNat (2 * n)))])) target → Steps p.tables e below (T2.setTop (mkF m 4 #[.val (.ref x)] [(.ref t)])) target := by
      intro target kt
      show Steps p.tables e below (T2.setTop (mkF m 4 #[.val (.ref x)] [(.ref t)])) _
      refine X2.arraylength hx (by rw [e2]; exact At.1) (State.isArrayOf_alike hZ.alike At.2.1) (g := (mkF m 4 #[.val (.ref x)] [(.ref t)])) rfl (rest := []) rfl (hb hby dLn_4) _ ?_
      rw [St]
      show Steps p.tables e below (T2.setTop (mkF m 5 #[.val (.ref x)] [(.int (Int32.ofNat (2 * n)))])) _
      refine XS.aloadN X2.here hx rfl (hb hby dLn_5) rfl rfl ?_
      show Steps p.tables e below (T2.setTop (mkF m 6 #[.val (.ref x)] [(.ref x), (.int (Int32.ofNat (2 * n)))])) _
      exact kt
    obtain ⟨cqA, kqA, qaA, qbA, qcA⟩ := isOf hZ e2 Ex
    obtain ⟨_, _, ⟨TA, LA, kA, nA⟩, -, XA, ⟨LcA, hQA, lA, yA, zA⟩, stA⟩ := X2.virtualBack hx (y := (⟨"java/lang/String", "coder", "()B"⟩ : MethodName)) (z := (⟨"java/lang/String", "coder", "()B"⟩ : MethodName)) hown (mvT hZ (hw _ (List.mem_of_getElem? (i := 79) rfl))) (mvT hZ (hw _ (List.mem_of_getElem? (i := 80) rfl))) (notFace_of_selects (args := #[]) (mvT hZ (hw _ (List.mem_of_getElem? (i := 82) rfl)))) (mvT hZ (hw _ (List.mem_of_getElem? (i := 82) rfl))) (mvT hZ (hw _ (List.mem_of_getElem? (i := 81) rfl))) (by decide) (backOf (W := 1) (rmCd l Z a0 hw x 1 (by simp) h0 n0 Cx G O hG) hZ (hw _ (List.mem_of_getElem? (i := 83) rfl)) (hw _ (List.mem_of_getElem? (i := 12) rfl)) (by decide) (by decide)) qaA qcA (g := (mkF m 6 #[.val (.ref x)] [(.ref x), (.int (Int32.ofNat (2 * n)))])) rfl (by rw [hml]; rfl) (Steps.refl _) (argsL := []) (rest := [(.int (Int32.ofNat (2 * n)))]) (lenOf pdCd rfl) rfl (by show 2 * 0 + _ ≤ _; exact Nat.le_of_eq rfl) (hb hby dLn_6) (fun _ _ => ⟨rfl, e2, Nat.le_of_ble_eq_true rfl, Nat.le_of_ble_eq_true rfl⟩)
    dsimp only [Pt.U, Pt.locs, Pt.cells, Pt.slots] at XA lA yA zA stA hQA
    subst lA yA zA
    obtain ⟨rfl, NA, eA⟩ := hQA
    have MA := Fr.app (Fr.nil n0) NA
    have sg4 : ∀ target, Steps p.tables e below (TA.setTop (mkF m 10 #[.val (.ref x)] [(.int (Int32.ofNat n))])) target → Steps p.tables e below (TA.setTop (mkF m 9 #[.val (.ref x)] [(.int (1 : Int32)), (.int (Int32.ofNat (2 * n)))])) target := by
      intro target kt
      show Steps p.tables e below (TA.setTop (mkF m 9 #[.val (.ref x)] [(.int (1 : Int32)), (.int (Int32.ofNat (2 * n)))])) _
      refine XS.ishr XA.here hx rfl (hb hby dLn_9) rfl ?_
      show Steps p.tables e below (TA.setTop (mkF m 10 #[.val (.ref x)] [(.int ((Int32.ofNat (2 * n)) >>> ((1 : Int32) &&& 31)))])) _
      rw [(own_half (by omega : n ≤ 1000))]
      show Steps p.tables e below (TA.setTop (mkF m 10 #[.val (.ref x)] [(.int (Int32.ofNat n))])) _
      exact kt
    obtain ⟨fs, hr, hrun, hended, hW, hsame⟩ := XA.leave (v := some (.int (Int32.ofNat n))) (fun h => by rw [Bd.returns] at h; cases h)
    refine ⟨_, _, castTop (efLn m x) ?_, hrun, hended, _, _, rfl, ?_, ⟨_, rfl⟩, hW, hsame.mono (by decide) (by decide)⟩
    · show Steps p.tables e below (s₁.setTop (mkF m 0 #[.val (.ref x)] [])) _
      refine sg1 _ ?_
      show Steps p.tables e below (s₁.setTop (mkF m 1 #[.val (.ref x)] [(.ref x)])) _
      refine st2 _ ?_
      show Steps p.tables e below (T2.setTop (mkF m 4 #[.val (.ref x)] [(.ref t)])) _
      refine sg3 _ ?_
      show Steps p.tables e below (T2.setTop (mkF m 6 #[.val (.ref x)] [(.ref x), (.int (Int32.ofNat (2 * n)))])) _
      refine stA.trans ?_
      show Steps p.tables e below (TA.setTop (mkF m 9 #[.val (.ref x)] [(.int (1 : Int32)), (.int (Int32.ofNat (2 * n)))])) _
      refine sg4 _ ?_
      show Steps p.tables e below (TA.setTop (mkF m 10 #[.val (.ref x)] [(.int (Int32.ofNat n))])) _
      exact retOut XA hx (t := .int) Bd.returns rfl (Or.inl ⟨rfl, Or.inl rfl, _, rfl⟩) (hb hby dLn_10) hr
    · show _
      exact ⟨rfl, MA, eA⟩
theorem dEm_0 : decode jdk_42_method_55_code 0 = .ok (.aload_n 0, 1) := by decide +kernel
theorem dEm_1 : decode jdk_42_method_55_code 1 = .ok (.getfield 9, 3) := by decide +kernel
theorem dEm_4 : decode jdk_42_method_55_code 4 = .ok (.arraylength, 1) := by decide +kernel
theorem dEm_5 : decode jdk_42_method_55_code 5 = .ok (.ifCond .ne 7, 3) := by decide +kernel
theorem dEm_8 : decode jdk_42_method_55_code 8 = .ok (.iconst 1, 1) := by decide +kernel
theorem dEm_9 : decode jdk_42_method_55_code 9 = .ok (.goto 4, 3) := by decide +kernel
theorem dEm_12 : decode jdk_42_method_55_code 12 = .ok (.iconst 0, 1) := by decide +kernel
theorem dEm_13 : decode jdk_42_method_55_code 13 = .ok (.ireturn, 1) := by decide +kernel
theorem efEm (m : MethodId) (x0 : Addr) : entryFrame m #[(.ref x0)] 1 = mkF m 0 #[.val (.ref x0)] [] := by first | (simp [entryFrame, mkF, argsToLocals, Value.category, maxLocals]; done) | rfl
set_option maxRecDepth 65536 in
set_option maxHeartbeats 40000000 in
theorem rmEm (l : Launch) (Z : State) (a0 : Array Value) (hw : ∀ d ∈ tables_1, d.before a0 Z = true) (x : Addr) (n : Nat) (f : Nat → Int32) (G : Int32) (h0 : Heap) (n0 : Nat) (h1n : 1 ≤ n) (hn : n ≤ 256) (hf : ∀ j, j < n → own_c16 (f j)) (Sx : own_SX Z h0 x n f) (O : Sta Z h0 "java/lang/String" "COMPACT_STRINGS" "Z" (.int G)) (hG : ¬ G = 0) :
    MetFree l (⟨"java/lang/String", "isEmpty", "()Z"⟩ : MethodName) (head1 [Jvm.Cond.code (⟨"java/lang/String", "isEmpty", "()Z"⟩ : MethodName) jdk_42_method_55_code 1 (some .boolean)] ({ frames := 0, cells := 0, slots := 0, locals := 0 } : Room)) (fun q_ U => q_ = #[(.ref x)] ∧ Z.Warmed39 U.vm ∧ U.heap = h0) (fun _ _ _ _ _ => True) (fun _ U o U' => ∃ v L, o = .returned v ∧ own_QS n0 (.int (0 : Int32)) h0 v U'.heap L ∧ FrameEnd U o U' L ({ frames := 0, cells := 0, slots := 0, locals := 0 } : Room).cells ({ frames := 0, cells := 0, slots := 0, locals := 0 } : Room).slots) := by
  refine MetFree.of_bodySF (plainFor_of_name pn_S) hisR ?_
  intro p e s m args below meth c s₁ Bd hml0 hP hK
  obtain ⟨rfl, hZ, hh⟩ := hP
  have hx := Bd.exec
  have hby := Bd.bytes
  have hml : c.maxLocals = 1 := hml0
  have hown : s.vm.findClass "java/lang/String" = some m.cls := findClass_of_methodNamed Bd.named
  have hnm := (name_of_methodNamed Bd.named Bd.method).1
  have X0 : Stand p l e ({ frames := 0, cells := 0, slots := 0, locals := 0 } : Room) s m #[(.ref x)] below meth c s₁ [] 0 0 := Stand.of_body Bd
  have e0 : s₁.heap = h0 := by rw [← hh, Bd.state]; rfl
  obtain ⟨Ex, t, Vx, ⟨Cx, Ft, h8⟩ | ⟨Cx, Ft⟩⟩ := Sx
  · obtain ⟨ct, At, St, Ht⟩ := id Ft
    have hz : ¬ Int32.ofNat n = 0 := fun q => own_neq (i := 0) (n := n) (by omega) (by omega) q.symm
    have sg1 : ∀ target, Steps p.tables e below (s₁.setTop (mkF m 1 #[.val (.ref x)] [(.ref x)])) target → Steps p.tables e below (s₁.setTop (mkF m 0 #[.val (.ref x)] [])) target := by
      intro target kt
      show Steps p.tables e below (s₁.setTop (mkF m 0 #[.val (.ref x)] [])) _
      refine XS.aloadN X0.here hx rfl (hb hby dEm_0) rfl rfl ?_
      show Steps p.tables e below (s₁.setTop (mkF m 1 #[.val (.ref x)] [(.ref x)])) _
      exact kt
    obtain ⟨T2, X2, e2, st2⟩ := getF X0 hx hZ hown (host := "") (Or.inl (hw _ (List.mem_of_getElem? (i := 37) rfl))) Via.refl e0 Vx (g := (mkF m 1 #[.val (.ref x)] [(.ref x)])) rfl rfl (hb hby dEm_1)
    have sg3 : ∀ target, Steps p.tables e below (T2.setTop (mkF m 13 #[.val (.ref x)] [(.int (0 : Int32))])) target → Steps p.tables e below (T2.setTop (mkF m 4 #[.val (.ref x)] [(.ref t)])) target := by
      intro target kt
      show Steps p.tables e below (T2.setTop (mkF m 4 #[.val (.ref x)] [(.ref t)])) _
      refine X2.arraylength hx (by rw [e2]; exact At.1) (State.isArrayOf_alike hZ.alike At.2.1) (g := (mkF m 4 #[.val (.ref x)] [(.ref t)])) rfl (rest := []) rfl (hb hby dEm_4) _ ?_
      rw [St]
      show Steps p.tables e below (T2.setTop (mkF m 5 #[.val (.ref x)] [(.int (Int32.ofNat n))])) _
      refine XS.ifYes X2.here hx rfl (pc0 := 5) (pc' := 12) rfl (hb hby dEm_5) rfl (by rw [if0]; exact (feq hz).2) (by decide) (by decide) ?_
      show Steps p.tables e below (T2.setTop (mkF m 12 #[.val (.ref x)] [])) _
      refine XS.iconst X2.here hx rfl (hb hby dEm_12) ?_
      show Steps p.tables e below (T2.setTop (mkF m 13 #[.val (.ref x)] [(.int (0 : Int32))])) _
      exact kt
    obtain ⟨fs, hr, hrun, hended, hW, hsame⟩ := X2.leave (v := some (.int (0 : Int32))) (fun h => by rw [Bd.returns] at h; cases h)
    refine ⟨_, _, castTop (efEm m x) ?_, hrun, hended, _, _, rfl, ?_, ⟨_, rfl⟩, hW, hsame.mono (by decide) (by decide)⟩
    · show Steps p.tables e below (s₁.setTop (mkF m 0 #[.val (.ref x)] [])) _
      refine sg1 _ ?_
      show Steps p.tables e below (s₁.setTop (mkF m 1 #[.val (.ref x)] [(.ref x)])) _
      refine st2 _ ?_
      show Steps p.tables e below (T2.setTop (mkF m 4 #[.val (.ref x)] [(.ref t)])) _
      refine sg3 _ ?_
      show Steps p.tables e below (T2.setTop (mkF m 13 #[.val (.ref x)] [(.int (0 : Int32))])) _
      exact retN X2 hx (t := .boolean) Bd.returns (by simp) (hb hby dEm_13) hr
    · show _
      exact ⟨rfl, Fr.nil n0, e2⟩
  · obtain ⟨ct, At, St, Ht⟩ := id Ft
    have hz : ¬ Int32.ofNat (2 * n) = 0 := fun q => own_neq (i := 0) (n := (2 * n)) (by omega) (by omega) q.symm
    have sg1 : ∀ target, Steps p.tables e below (s₁.setTop (mkF m 1 #[.val (.ref x)] [(.ref x)])) target → Steps p.tables e below (s₁.setTop (mkF m 0 #[.val (.ref x)] [])) target := by
      intro target kt
      show Steps p.tables e below (s₁.setTop (mkF m 0 #[.val (.ref x)] [])) _
      refine XS.aloadN X0.here hx rfl (hb hby dEm_0) rfl rfl ?_
      show Steps p.tables e below (s₁.setTop (mkF m 1 #[.val (.ref x)] [(.ref x)])) _
      exact kt
    obtain ⟨T2, X2, e2, st2⟩ := getF X0 hx hZ hown (host := "") (Or.inl (hw _ (List.mem_of_getElem? (i := 37) rfl))) Via.refl e0 Vx (g := (mkF m 1 #[.val (.ref x)] [(.ref x)])) rfl rfl (hb hby dEm_1)
    have sg3 : ∀ target, Steps p.tables e below (T2.setTop (mkF m 13 #[.val (.ref x)] [(.int (0 : Int32))])) target → Steps p.tables e below (T2.setTop (mkF m 4 #[.val (.ref x)] [(.ref t)])) target := by
      intro target kt
      show Steps p.tables e below (T2.setTop (mkF m 4 #[.val (.ref x)] [(.ref t)])) _
      refine X2.arraylength hx (by rw [e2]; exact At.1) (State.isArrayOf_alike hZ.alike At.2.1) (g := (mkF m 4 #[.val (.ref x)] [(.ref t)])) rfl (rest := []) rfl (hb hby dEm_4) _ ?_
      rw [St]
      show Steps p.tables e below (T2.setTop (mkF m 5 #[.val (.ref x)] [(.int (Int32.ofNat (2 * n)))])) _
      refine XS.ifYes X2.here hx rfl (pc0 := 5) (pc' := 12) rfl (hb hby dEm_5) rfl (by rw [if0]; exact (feq hz).2) (by decide) (by decide) ?_
      show Steps p.tables e below (T2.setTop (mkF m 12 #[.val (.ref x)] [])) _
      refine XS.iconst X2.here hx rfl (hb hby dEm_12) ?_
      show Steps p.tables e below (T2.setTop (mkF m 13 #[.val (.ref x)] [(.int (0 : Int32))])) _
      exact kt
    obtain ⟨fs, hr, hrun, hended, hW, hsame⟩ := X2.leave (v := some (.int (0 : Int32))) (fun h => by rw [Bd.returns] at h; cases h)
    refine ⟨_, _, castTop (efEm m x) ?_, hrun, hended, _, _, rfl, ?_, ⟨_, rfl⟩, hW, hsame.mono (by decide) (by decide)⟩
    · show Steps p.tables e below (s₁.setTop (mkF m 0 #[.val (.ref x)] [])) _
      refine sg1 _ ?_
      show Steps p.tables e below (s₁.setTop (mkF m 1 #[.val (.ref x)] [(.ref x)])) _
      refine st2 _ ?_
      show Steps p.tables e below (T2.setTop (mkF m 4 #[.val (.ref x)] [(.ref t)])) _
      refine sg3 _ ?_
      show Steps p.tables e below (T2.setTop (mkF m 13 #[.val (.ref x)] [(.int (0 : Int32))])) _
      exact retN X2 hx (t := .boolean) Bd.returns (by simp) (hb hby dEm_13) hr
    · show _
      exact ⟨rfl, Fr.nil n0, e2⟩
theorem dNn_0 : decode jdk_31_method_11_code 0 = .ok (.aload_n 0, 1) := by decide +kernel
theorem dNn_1 : decode jdk_31_method_11_code 1 = .ok (.ifnonnull 12, 3) := by decide +kernel
theorem dNn_4 : decode jdk_31_method_11_code 4 = .ok (.new 84, 3) := by decide +kernel
theorem dNn_7 : decode jdk_31_method_11_code 7 = .ok (.dup, 1) := by decide +kernel
theorem dNn_8 : decode jdk_31_method_11_code 8 = .ok (.aload_n 1, 1) := by decide +kernel
theorem dNn_9 : decode jdk_31_method_11_code 9 = .ok (.invokespecial 87, 3) := by decide +kernel
theorem dNn_12 : decode jdk_31_method_11_code 12 = .ok (.athrow, 1) := by decide +kernel
theorem dNn_13 : decode jdk_31_method_11_code 13 = .ok (.aload_n 0, 1) := by decide +kernel
theorem dNn_14 : decode jdk_31_method_11_code 14 = .ok (.areturn, 1) := by decide +kernel
theorem efNn (m : MethodId) (x0 : Addr) (x1 : Addr) : entryFrame m #[(.ref x0), (.ref x1)] 2 = mkF m 0 #[.val (.ref x0), .val (.ref x1)] [] := by first | (simp [entryFrame, mkF, argsToLocals, Value.category, maxLocals]; done) | rfl
theorem pdNn : parseMethodDescriptor "(Ljava/lang/Object;Ljava/lang/String;)Ljava/lang/Object;" = some ⟨[(.object "java/lang/Object"), (.object "java/lang/String")], some (.object "java/lang/Object")⟩ := by decide +kernel
set_option maxRecDepth 65536 in
set_option maxHeartbeats 40000000 in
theorem rmNn (l : Launch) (Z : State) (a0 : Array Value) (hw : ∀ d ∈ tables_1, d.before a0 Z = true) (x y : Addr) (h0 : Heap) (n0 : Nat) :
    MetFree l (⟨"java/util/Objects", "requireNonNull", "(Ljava/lang/Object;Ljava/lang/String;)Ljava/lang/Object;"⟩ : MethodName) (head1 [Jvm.Cond.code (⟨"java/util/Objects", "requireNonNull", "(Ljava/lang/Object;Ljava/lang/String;)Ljava/lang/Object;"⟩ : MethodName) jdk_31_method_11_code 2 (some (.object "java/lang/Object"))] ({ frames := 0, cells := 0, slots := 0, locals := 0 } : Room)) (fun q_ U => q_ = #[(.ref x), (.ref y)] ∧ Z.Warmed39 U.vm ∧ U.heap = h0) (fun _ _ _ _ _ => True) (fun _ U o U' => ∃ v L, o = .returned v ∧ own_QS n0 (.ref x) h0 v U'.heap L ∧ FrameEnd U o U' L ({ frames := 0, cells := 0, slots := 0, locals := 0 } : Room).cells ({ frames := 0, cells := 0, slots := 0, locals := 0 } : Room).slots) := by
  refine MetFree.of_bodySF (plainFor_of_name pn_O) hisR ?_
  intro p e s m args below meth c s₁ Bd hml0 hP hK
  obtain ⟨rfl, hZ, hh⟩ := hP
  have hx := Bd.exec
  have hby := Bd.bytes
  have hml : c.maxLocals = 2 := hml0
  have hown : s.vm.findClass "java/util/Objects" = some m.cls := findClass_of_methodNamed Bd.named
  have hnm := (name_of_methodNamed Bd.named Bd.method).1
  have X0 : Stand p l e ({ frames := 0, cells := 0, slots := 0, locals := 0 } : Room) s m #[(.ref x), (.ref y)] below meth c s₁ [] 0 0 := Stand.of_body Bd
  have e0 : s₁.heap = h0 := by rw [← hh, Bd.state]; rfl
  have sg1 : ∀ target, Steps p.tables e below (s₁.setTop (mkF m 14 #[.val (.ref x), .val (.ref y)] [(.ref x)])) target → Steps p.tables e below (s₁.setTop (mkF m 0 #[.val (.ref x), .val (.ref y)] [])) target := by
    intro target kt
    show Steps p.tables e below (s₁.setTop (mkF m 0 #[.val (.ref x), .val (.ref y)] [])) _
    refine XS.aloadN X0.here hx rfl (hb hby dNn_0) rfl rfl ?_
    show Steps p.tables e below (s₁.setTop (mkF m 1 #[.val (.ref x), .val (.ref y)] [(.ref x)])) _
    refine XS.ifnonnullYes X0.here hx rfl (pc0 := 1) (pc' := 13) rfl (hb hby dNn_1) rfl (by decide) (by decide) ?_
    show Steps p.tables e below (s₁.setTop (mkF m 13 #[.val (.ref x), .val (.ref y)] [])) _
    refine XS.aloadN X0.here hx rfl (hb hby dNn_13) rfl rfl ?_
    show Steps p.tables e below (s₁.setTop (mkF m 14 #[.val (.ref x), .val (.ref y)] [(.ref x)])) _
    exact kt
  obtain ⟨fs, hr, hrun, hended, hW, hsame⟩ := X0.leave (v := some (.ref x)) (fun h => by rw [Bd.returns] at h; cases h)
  refine ⟨_, _, castTop (efNn m x y) ?_, hrun, hended, _, _, rfl, ?_, ⟨_, rfl⟩, hW, hsame.mono (by decide) (by decide)⟩
  · show Steps p.tables e below (s₁.setTop (mkF m 0 #[.val (.ref x), .val (.ref y)] [])) _
    refine sg1 _ ?_
    show Steps p.tables e below (s₁.setTop (mkF m 14 #[.val (.ref x), .val (.ref y)] [(.ref x)])) _
    exact retOut X0 hx (t := .object "java/lang/Object") Bd.returns rfl (Or.inr (Or.inr (Or.inr (Or.inr ⟨rfl, rfl, rfl⟩)))) (hb hby dNn_14) hr
  · show _
    exact ⟨rfl, Fr.nil n0, e0⟩
theorem dY_0 : decode prog_6_method_2_code 0 = .ok (.aload_n 0, 1) := by decide +kernel
theorem dY_1 : decode prog_6_method_2_code 1 = .ok (.ldc 7, 2) := by decide +kernel
theorem dY_3 : decode prog_6_method_2_code 3 = .ok (.invokestatic 9, 3) := by decide +kernel
theorem dY_6 : decode prog_6_method_2_code 6 = .ok (.pop, 1) := by decide +kernel
theorem dY_7 : decode prog_6_method_2_code 7 = .ok (.aload_n 0, 1) := by decide +kernel
theorem dY_8 : decode prog_6_method_2_code 8 = .ok (.invokevirtual 15, 3) := by decide +kernel
theorem dY_11 : decode prog_6_method_2_code 11 = .ok (.ifCond .eq 13, 3) := by decide +kernel
theorem dY_14 : decode prog_6_method_2_code 14 = .ok (.new 21, 3) := by decide +kernel
theorem dY_17 : decode prog_6_method_2_code 17 = .ok (.dup, 1) := by decide +kernel
theorem dY_18 : decode prog_6_method_2_code 18 = .ok (.ldc 23, 2) := by decide +kernel
theorem dY_20 : decode prog_6_method_2_code 20 = .ok (.invokespecial 25, 3) := by decide +kernel
theorem dY_23 : decode prog_6_method_2_code 23 = .ok (.athrow, 1) := by decide +kernel
theorem dY_24 : decode prog_6_method_2_code 24 = .ok (.iconst 0, 1) := by decide +kernel
theorem dY_25 : decode prog_6_method_2_code 25 = .ok (.istore_n 1, 1) := by decide +kernel
theorem dY_26 : decode prog_6_method_2_code 26 = .ok (.iconst 0, 1) := by decide +kernel
theorem dY_27 : decode prog_6_method_2_code 27 = .ok (.istore_n 2, 1) := by decide +kernel
theorem dY_28 : decode prog_6_method_2_code 28 = .ok (.iload_n 2, 1) := by decide +kernel
theorem dY_29 : decode prog_6_method_2_code 29 = .ok (.aload_n 0, 1) := by decide +kernel
theorem dY_30 : decode prog_6_method_2_code 30 = .ok (.invokevirtual 28, 3) := by decide +kernel
theorem dY_33 : decode prog_6_method_2_code 33 = .ok (.if_icmp .ge 58, 3) := by decide +kernel
theorem dY_36 : decode prog_6_method_2_code 36 = .ok (.aload_n 0, 1) := by decide +kernel
theorem dY_37 : decode prog_6_method_2_code 37 = .ok (.iload_n 2, 1) := by decide +kernel
theorem dY_38 : decode prog_6_method_2_code 38 = .ok (.invokevirtual 32, 3) := by decide +kernel
theorem dY_41 : decode prog_6_method_2_code 41 = .ok (.istore_n 3, 1) := by decide +kernel
theorem dY_42 : decode prog_6_method_2_code 42 = .ok (.iload_n 3, 1) := by decide +kernel
theorem dY_43 : decode prog_6_method_2_code 43 = .ok (.ldc 38, 2) := by decide +kernel
theorem dY_45 : decode prog_6_method_2_code 45 = .ok (.if_icmp .lt 33, 3) := by decide +kernel
theorem dY_48 : decode prog_6_method_2_code 48 = .ok (.iload_n 3, 1) := by decide +kernel
theorem dY_49 : decode prog_6_method_2_code 49 = .ok (.ldc 39, 2) := by decide +kernel
theorem dY_51 : decode prog_6_method_2_code 51 = .ok (.if_icmp .gt 27, 3) := by decide +kernel
theorem dY_54 : decode prog_6_method_2_code 54 = .ok (.new 21, 3) := by decide +kernel
theorem dY_57 : decode prog_6_method_2_code 57 = .ok (.dup, 1) := by decide +kernel
theorem dY_58 : decode prog_6_method_2_code 58 = .ok (.ldc 40, 2) := by decide +kernel
theorem dY_60 : decode prog_6_method_2_code 60 = .ok (.iconst 1, 1) := by decide +kernel
theorem dY_61 : decode prog_6_method_2_code 61 = .ok (.anewarray 2, 3) := by decide +kernel
theorem dY_64 : decode prog_6_method_2_code 64 = .ok (.dup, 1) := by decide +kernel
theorem dY_65 : decode prog_6_method_2_code 65 = .ok (.iconst 0, 1) := by decide +kernel
theorem dY_66 : decode prog_6_method_2_code 66 = .ok (.iload_n 2, 1) := by decide +kernel
theorem dY_67 : decode prog_6_method_2_code 67 = .ok (.invokestatic 42, 3) := by decide +kernel
theorem dY_70 : decode prog_6_method_2_code 70 = .ok (.aastore, 1) := by decide +kernel
theorem dY_71 : decode prog_6_method_2_code 71 = .ok (.invokestatic 48, 3) := by decide +kernel
theorem dY_74 : decode prog_6_method_2_code 74 = .ok (.invokespecial 25, 3) := by decide +kernel
theorem dY_77 : decode prog_6_method_2_code 77 = .ok (.athrow, 1) := by decide +kernel
theorem dY_78 : decode prog_6_method_2_code 78 = .ok (.iinc 1 1, 3) := by decide +kernel
theorem dY_81 : decode prog_6_method_2_code 81 = .ok (.iload_n 2, 1) := by decide +kernel
theorem dY_82 : decode prog_6_method_2_code 82 = .ok (.iload_n 3, 1) := by decide +kernel
theorem dY_83 : decode prog_6_method_2_code 83 = .ok (.invokestatic 52, 3) := by decide +kernel
theorem dY_86 : decode prog_6_method_2_code 86 = .ok (.iadd, 1) := by decide +kernel
theorem dY_87 : decode prog_6_method_2_code 87 = .ok (.istore_n 2, 1) := by decide +kernel
theorem dY_88 : decode prog_6_method_2_code 88 = .ok (.goto (-60), 3) := by decide +kernel
theorem dY_91 : decode prog_6_method_2_code 91 = .ok (.iload_n 1, 1) := by decide +kernel
theorem dY_92 : decode prog_6_method_2_code 92 = .ok (.sipush 255, 3) := by decide +kernel
theorem dY_95 : decode prog_6_method_2_code 95 = .ok (.if_icmp .le 36, 3) := by decide +kernel
theorem dY_98 : decode prog_6_method_2_code 98 = .ok (.new 21, 3) := by decide +kernel
theorem dY_101 : decode prog_6_method_2_code 101 = .ok (.dup, 1) := by decide +kernel
theorem dY_102 : decode prog_6_method_2_code 102 = .ok (.ldc 57, 2) := by decide +kernel
theorem dY_104 : decode prog_6_method_2_code 104 = .ok (.iconst 2, 1) := by decide +kernel
theorem dY_105 : decode prog_6_method_2_code 105 = .ok (.anewarray 2, 3) := by decide +kernel
theorem dY_108 : decode prog_6_method_2_code 108 = .ok (.dup, 1) := by decide +kernel
theorem dY_109 : decode prog_6_method_2_code 109 = .ok (.iconst 0, 1) := by decide +kernel
theorem dY_110 : decode prog_6_method_2_code 110 = .ok (.sipush 255, 3) := by decide +kernel
theorem dY_113 : decode prog_6_method_2_code 113 = .ok (.invokestatic 42, 3) := by decide +kernel
theorem dY_116 : decode prog_6_method_2_code 116 = .ok (.aastore, 1) := by decide +kernel
theorem dY_117 : decode prog_6_method_2_code 117 = .ok (.dup, 1) := by decide +kernel
theorem dY_118 : decode prog_6_method_2_code 118 = .ok (.iconst 1, 1) := by decide +kernel
theorem dY_119 : decode prog_6_method_2_code 119 = .ok (.iload_n 1, 1) := by decide +kernel
theorem dY_120 : decode prog_6_method_2_code 120 = .ok (.invokestatic 42, 3) := by decide +kernel
theorem dY_123 : decode prog_6_method_2_code 123 = .ok (.aastore, 1) := by decide +kernel
theorem dY_124 : decode prog_6_method_2_code 124 = .ok (.invokestatic 48, 3) := by decide +kernel
theorem dY_127 : decode prog_6_method_2_code 127 = .ok (.invokespecial 25, 3) := by decide +kernel
theorem dY_130 : decode prog_6_method_2_code 130 = .ok (.athrow, 1) := by decide +kernel
theorem dY_131 : decode prog_6_method_2_code 131 = .ok (.return_, 1) := by decide +kernel
theorem efY (m : MethodId) (x0 : Addr) : entryFrame m #[(.ref x0)] 4 = mkF m 0 #[.val (.ref x0), .unset, .unset, .unset] [] := by first | (simp [entryFrame, mkF, argsToLocals, Value.category, maxLocals]; done) | rfl
theorem pdY : parseMethodDescriptor "(Ljava/lang/String;)V" = some ⟨[(.object "java/lang/String")], none⟩ := by decide +kernel
/-- from index i on: just k code points, none of them a surrogate -/
def own_run (f : Nat → Int32) (n : Nat) : Nat → Nat → Prop
  | 0, i => i = n
  | k + 1, i => ∃ w, i < n ∧ own_at f n i w ∧ ((w < (55296 : Int32) ∧ own_run f n k (i + 1)) ∨ ((57343 : Int32) < w ∧ w < (65536 : Int32) ∧ own_run f n k (i + 1)) ∨ ((57343 : Int32) < w ∧ ¬ w < (65536 : Int32) ∧ own_run f n k (i + 2)))
theorem own_two (i : Nat) : Int32.ofNat i + (2 : Int32) = Int32.ofNat (i + 2) := (Int32.ofNat_add i 2).symm
theorem own_lt16 {w : Int32} (h : w < (55296 : Int32)) : w < (65536 : Int32) := by
  rw [Int32.lt_iff_toInt_lt] at h ⊢
  have e1 : (55296 : Int32).toInt = 55296 := rfl
  have e2 : (65536 : Int32).toInt = 65536 := rfl
  omega
theorem own_ge16 {w : Int32} (h : (57343 : Int32) < w) : ¬ w < (55296 : Int32) := by
  rw [Int32.lt_iff_toInt_lt] at h ⊢
  have e1 : (55296 : Int32).toInt = 55296 := rfl
  have e2 : (57343 : Int32).toInt = 57343 := rfl
  omega
set_option maxRecDepth 65536 in
set_option maxHeartbeats 40000000 in
theorem own_kturn {p : Program} {l : Launch} {e : Env} {s : State} {m : MethodId} {args : Array Value} {below : List Frame} {meth : Method} {c : Code} {T0 : State} {locs : List Loc} {Z : State} {a0 : Array Value} {n0 : Nat} {cells slots : Nat} (x : Addr) (n : Nat) (f : Nat → Int32) (G : Int32) (h0 : Heap) (h1n : 1 ≤ n) (hn : n ≤ 256) (hf : ∀ j, j < n → own_c16 (f j)) (Sx : own_SX Z h0 x n f) (O : Sta Z h0 "java/lang/String" "COMPACT_STRINGS" "Z" (.int G)) (hG : ¬ G = 0) (F : Value) (rF : F.isRef = true) (Of : Sta Z h0 "jdk/internal/util/Preconditions" "SIOOBE_FORMATTER" "Ljava/util/function/BiFunction;" F) (Uu : own_U Z h0) (hc2 : cells = 2) (hs2 : slots = 28) (q i j : Nat) (w : Int32) (s3 : Slot) (X0 : Stand p l e ({ frames := 4, cells := 2, slots := 28, locals := 90 } : Room) s m args below meth c T0 locs cells slots) (hx : p.tables.exec = Jvm.exec) (hZ : Z.Warmed39 s.vm) (hw : ∀ d ∈ tables_1, d.before a0 Z = true) (hby : c.code = prog_6_method_2_code) (hml : c.maxLocals = 4) (hown : s.vm.findClass "com/example/seize/seize/LockLimits" = some m.cls) (e0 : T0.heap = h0) (N0 : Fr n0 locs) (hi : i < n) (hw1 : own_at f n i w) (hj : (w < (55296 : Int32) ∧ j = i + 1) ∨ ((57343 : Int32) < w ∧ w < (65536 : Int32) ∧ j = i + 1) ∨ ((57343 : Int32) < w ∧ ¬ w < (65536 : Int32) ∧ j = i + 2)) (hs3 : ∀ (z : Int32), storeLocals #[.val (.ref x), .val (.int (Int32.ofNat q)), .val (.int (Int32.ofNat i)), s3] 3 (.int z) = some #[.val (.ref x), .val (.int (Int32.ofNat q)), .val (.int (Int32.ofNat i)), .val (.int z)]) :
    ∃ (T' : State) (L' : List Loc), Stand p l e ({ frames := 4, cells := 2, slots := 28, locals := 90 } : Room) s m args below meth c T' L' cells slots ∧ T'.heap = h0 ∧ Fr n0 L' ∧
      ∀ target, Steps p.tables e below (T'.setTop (mkF m 28 #[.val (.ref x), .val (.int (Int32.ofNat (q + 1))), .val (.int (Int32.ofNat j)), .val (.int w)] [])) target → Steps p.tables e below (T0.setTop (mkF m 28 #[.val (.ref x), .val (.int (Int32.ofNat q)), .val (.int (Int32.ofNat i)), s3] [])) target := by
  subst hc2 hs2
  have Ex := Sx.1
  have sg1 : ∀ target, Steps p.tables e below (T0.setTop (mkF m 30 #[.val (.ref x), .val (.int (Int32.ofNat q)), .val (.int (Int32.ofNat i)), s3] [(.ref x), (.int (Int32.ofNat i))])) target → Steps p.tables e below (T0.setTop (mkF m 28 #[.val (.ref x), .val (.int (Int32.ofNat q)), .val (.int (Int32.ofNat i)), s3] [])) target := by
    intro target kt
    show Steps p.tables e below (T0.setTop (mkF m 28 #[.val (.ref x), .val (.int (Int32.ofNat q)), .val (.int (Int32.ofNat i)), s3] [])) _
    refine XS.iloadN X0.here hx rfl (hb hby dY_28) rfl ?_
    show Steps p.tables e below (T0.setTop (mkF m 29 #[.val (.ref x), .val (.int (Int32.ofNat q)), .val (.int (Int32.ofNat i)), s3] [(.int (Int32.ofNat i))])) _
    refine XS.aloadN X0.here hx rfl (hb hby dY_29) rfl rfl ?_
    show Steps p.tables e below (T0.setTop (mkF m 30 #[.val (.ref x), .val (.int (Int32.ofNat q)), .val (.int (Int32.ofNat i)), s3] [(.ref x), (.int (Int32.ofNat i))])) _
    exact kt
  obtain ⟨cqA, kqA, qaA, qbA, qcA⟩ := isOf hZ e0 Ex
  obtain ⟨_, _, ⟨TA, LA, kA, nA⟩, -, XA, ⟨LcA, hQA, lA, yA, zA⟩, stA⟩ := X0.virtualBack hx (y := (⟨"java/lang/String", "length", "()I"⟩ : MethodName)) (z := (⟨"java/lang/String", "length", "()I"⟩ : MethodName)) hown (mvT hZ (hw _ (List.mem_of_getElem? (i := 74) rfl))) (mvT hZ (hw _ (List.mem_of_getElem? (i := 75) rfl))) (notFace_of_selects (args := #[]) (mvT hZ (hw _ (List.mem_of_getElem? (i := 77) rfl)))) (mvT hZ (hw _ (List.mem_of_getElem? (i := 77) rfl))) (mvT hZ (hw _ (List.mem_of_getElem? (i := 76) rfl))) (by decide) (backOf (W := 1) (rmLn l Z a0 hw x n f G h0 n0 h1n hn hf Sx O hG) hZ (hw _ (List.mem_of_getElem? (i := 78) rfl)) (hw _ (List.mem_of_getElem? (i := 12) rfl)) (by decide) (by decide)) qaA qcA (g := (mkF m 30 #[.val (.ref x), .val (.int (Int32.ofNat q)), .val (.int (Int32.ofNat i)), s3] [(.ref x), (.int (Int32.ofNat i))])) rfl (by rw [hml]; rfl) (Steps.refl _) (argsL := []) (rest := [(.int (Int32.ofNat i))]) (lenOf pdLn rfl) rfl (by show 2 * 0 + _ ≤ _; exact Nat.le_of_eq rfl) (hb hby dY_30) (fun _ _ => ⟨rfl, e0, Nat.le_of_ble_eq_true rfl, Nat.le_of_ble_eq_true rfl⟩)
  dsimp only [Pt.U, Pt.locs, Pt.cells, Pt.slots] at XA lA yA zA stA hQA
  subst lA yA zA
  obtain ⟨rfl, NA, eA⟩ := hQA
  have MA := Fr.app (N0) NA
  have sg2 : ∀ target, Steps p.tables e below (TA.setTop (mkF m 38 #[.val (.ref x), .val (.int (Int32.ofNat q)), .val (.int (Int32.ofNat i)), s3] [(.int (Int32.ofNat i)), (.ref x)])) target → Steps p.tables e below (TA.setTop (mkF m 33 #[.val (.ref x), .val (.int (Int32.ofNat q)), .val (.int (Int32.ofNat i)), s3] [(.int (Int32.ofNat n)), (.int (Int32.ofNat i))])) target := by
    intro target kt
    show Steps p.tables e below (TA.setTop (mkF m 33 #[.val (.ref x), .val (.int (Int32.ofNat q)), .val (.int (Int32.ofNat i)), s3] [(.int (Int32.ofNat n)), (.int (Int32.ofNat i))])) _
    refine XS.icmpNo XA.here hx rfl (hb hby dY_33) rfl (tlt (own_lt hi (by omega))).2.1 ?_
    show Steps p.tables e below (TA.setTop (mkF m 36 #[.val (.ref x), .val (.int (Int32.ofNat q)), .val (.int (Int32.ofNat i)), s3] [])) _
    refine XS.aloadN XA.here hx rfl (hb hby dY_36) rfl rfl ?_
    show Steps p.tables e below (TA.setTop (mkF m 37 #[.val (.ref x), .val (.int (Int32.ofNat q)), .val (.int (Int32.ofNat i)), s3] [(.ref x)])) _
    refine XS.iloadN XA.here hx rfl (hb hby dY_37) rfl ?_
    show Steps p.tables e below (TA.setTop (mkF m 38 #[.val (.ref x), .val (.int (Int32.ofNat q)), .val (.int (Int32.ofNat i)), s3] [(.int (Int32.ofNat i)), (.ref x)])) _
    exact kt
  obtain ⟨cqB, kqB, qaB, qbB, qcB⟩ := isOf hZ eA Ex
  obtain ⟨_, _, ⟨TB, LB, kB, nB⟩, -, XB, ⟨LcB, hQB, lB, yB, zB⟩, stB⟩ := XA.virtualBack hx (y := (⟨"java/lang/String", "codePointAt", "(I)I"⟩ : MethodName)) (z := (⟨"java/lang/String", "codePointAt", "(I)I"⟩ : MethodName)) hown (mvT hZ (hw _ (List.mem_of_getElem? (i := 84) rfl))) (mvT hZ (hw _ (List.mem_of_getElem? (i := 85) rfl))) (notFace_of_selects (args := #[]) (mvT hZ (hw _ (List.mem_of_getElem? (i := 87) rfl)))) (mvT hZ (hw _ (List.mem_of_getElem? (i := 87) rfl))) (mvT hZ (hw _ (List.mem_of_getElem? (i := 86) rfl))) (by decide) (backOf (W := 0) (rmO l Z a0 hw x n f G h0 n0 h1n hn hf Sx O hG F rF Of Uu i w hi hw1) hZ (hw _ (List.mem_of_getElem? (i := 88) rfl)) (hw _ (List.mem_of_getElem? (i := 12) rfl)) (by decide) (by decide)) qaB qcB (g := (mkF m 38 #[.val (.ref x), .val (.int (Int32.ofNat q)), .val (.int (Int32.ofNat i)), s3] [(.int (Int32.ofNat i)), (.ref x)])) rfl (by rw [hml]; rfl) (Steps.refl _) (argsL := [(.int (Int32.ofNat i))]) (rest := []) (lenOf pdD rfl) rfl (by show 2 * 0 + _ ≤ _; exact Nat.le_of_eq rfl) (hb hby dY_38) (fun _ _ => ⟨rfl, eA, Nat.le_of_ble_eq_true rfl, Nat.le_of_ble_eq_true rfl⟩)
  dsimp only [Pt.U, Pt.locs, Pt.cells, Pt.slots] at XB lB yB zB stB hQB
  subst lB yB zB
  obtain ⟨rfl, NB, eB⟩ := hQB
  have MB := Fr.app (MA) NB
  have sg3 : ∀ target, Steps p.tables e below (TB.setTop (mkF m 42 #[.val (.ref x), .val (.int (Int32.ofNat q)), .val (.int (Int32.ofNat i)), .val (.int w)] [])) target → Steps p.tables e below (TB.setTop (mkF m 41 #[.val (.ref x), .val (.int (Int32.ofNat q)), .val (.int (Int32.ofNat i)), s3] [(.int w)])) target := by
    intro target kt
    show Steps p.tables e below (TB.setTop (mkF m 41 #[.val (.ref x), .val (.int (Int32.ofNat q)), .val (.int (Int32.ofNat i)), s3] [(.int w)])) _
    refine XS.istoreN XB.here hx rfl (hb hby dY_41) rfl (l' := #[.val (.ref x), .val (.int (Int32.ofNat q)), .val (.int (Int32.ofNat i)), .val (.int w)]) (hs3 _) ?_
    show Steps p.tables e below (TB.setTop (mkF m 42 #[.val (.ref x), .val (.int (Int32.ofNat q)), .val (.int (Int32.ofNat i)), .val (.int w)] [])) _
    exact kt
  rcases hj with ⟨g1, rfl⟩ | ⟨g1, g2, rfl⟩ | ⟨g1, g2, rfl⟩
  · have sg4 : ∀ target, Steps p.tables e below (TB.setTop (mkF m 83 #[.val (.ref x), .val (.int ((Int32.ofNat q) + (1 : Int32))), .val (.int (Int32.ofNat i)), .val (.int w)] [(.int w), (.int (Int32.ofNat i))])) target → Steps p.tables e below (TB.setTop (mkF m 42 #[.val (.ref x), .val (.int (Int32.ofNat q)), .val (.int (Int32.ofNat i)), .val (.int w)] [])) target := by
      intro target kt
      show Steps p.tables e below (TB.setTop (mkF m 42 #[.val (.ref x), .val (.int (Int32.ofNat q)), .val (.int (Int32.ofNat i)), .val (.int w)] [])) _
      refine XS.iloadN XB.here hx rfl (hb hby dY_42) rfl ?_
      show Steps p.tables e below (TB.setTop (mkF m 43 #[.val (.ref x), .val (.int (Int32.ofNat q)), .val (.int (Int32.ofNat i)), .val (.int w)] [(.int w)])) _
      refine XB.ldcInt hx hown (mvT hZ (hw _ (List.mem_of_getElem? (i := 102) rfl))) (g := (mkF m 43 #[.val (.ref x), .val (.int (Int32.ofNat q)), .val (.int (Int32.ofNat i)), .val (.int w)] [(.int w)])) rfl (hb hby dY_43) _ ?_
      show Steps p.tables e below (TB.setTop (mkF m 45 #[.val (.ref x), .val (.int (Int32.ofNat q)), .val (.int (Int32.ofNat i)), .val (.int w)] [(.int (55296 : Int32)), (.int w)])) _
      refine XS.icmpYes XB.here hx rfl (pc0 := 45) (pc' := 78) rfl (hb hby dY_45) rfl (tlt g1).1 (by decide) (by decide) ?_
      show Steps p.tables e below (TB.setTop (mkF m 78 #[.val (.ref x), .val (.int (Int32.ofNat q)), .val (.int (Int32.ofNat i)), .val (.int w)] [])) _
      refine XS.iinc XB.here hx rfl (hb hby dY_78) rfl (l' := #[.val (.ref x), .val (.int ((Int32.ofNat q) + (1 : Int32))), .val (.int (Int32.ofNat i)), .val (.int w)]) rfl ?_
      show Steps p.tables e below (TB.setTop (mkF m 81 #[.val (.ref x), .val (.int ((Int32.ofNat q) + (1 : Int32))), .val (.int (Int32.ofNat i)), .val (.int w)] [])) _
      refine XS.iloadN XB.here hx rfl (hb hby dY_81) rfl ?_
      show Steps p.tables e below (TB.setTop (mkF m 82 #[.val (.ref x), .val (.int ((Int32.ofNat q) + (1 : Int32))), .val (.int (Int32.ofNat i)), .val (.int w)] [(.int (Int32.ofNat i))])) _
      refine XS.iloadN XB.here hx rfl (hb hby dY_82) rfl ?_
      show Steps p.tables e below (TB.setTop (mkF m 83 #[.val (.ref x), .val (.int ((Int32.ofNat q) + (1 : Int32))), .val (.int (Int32.ofNat i)), .val (.int w)] [(.int w), (.int (Int32.ofNat i))])) _
      exact kt
    obtain ⟨_, _, ⟨TC, LC, kC, nC⟩, -, XC, ⟨LcC, hQC, lC, yC, zC⟩, stC⟩ := Jvm.LawKit.callS XB hx (y := (⟨"java/lang/Character", "charCount", "(I)I"⟩ : MethodName)) hown (mvT hZ (hw _ (List.mem_of_getElem? (i := 103) rfl))) (mvT hZ (hw _ (List.mem_of_getElem? (i := 104) rfl))) (mvT hZ (hw _ (List.mem_of_getElem? (i := 105) rfl))) (mvT hZ (hw _ (List.mem_of_getElem? (i := 106) rfl))) (by decide) (backOf (W := 1) (rmD l Z a0 hw w h0 n0) hZ (hw _ (List.mem_of_getElem? (i := 106) rfl)) (hw _ (List.mem_of_getElem? (i := 105) rfl)) (by decide) (by decide)) (g := (mkF m 83 #[.val (.ref x), .val (.int ((Int32.ofNat q) + (1 : Int32))), .val (.int (Int32.ofNat i)), .val (.int w)] [(.int w), (.int (Int32.ofNat i))])) rfl (by rw [hml]; rfl) (argsL := [(.int w)]) (rest := [(.int (Int32.ofNat i))]) (lenOf pdD rfl) rfl (by show 2 * 0 + _ ≤ _; exact Nat.le_of_eq rfl) (hb hby dY_83) (fun _ _ => ⟨rfl, eB, Nat.le_of_ble_eq_true rfl, Nat.le_of_ble_eq_true rfl⟩)
    dsimp only [Pt.U, Pt.locs, Pt.cells, Pt.slots] at XC lC yC zC stC hQC
    subst lC yC zC
    obtain ⟨rfl, NC, eC⟩ := hQC
    have MC := Fr.app (MB) NC
    have hcc : own_cc w = 1 := if_pos (own_lt16 g1)
    have sg5 : ∀ target, Steps p.tables e below (TC.setTop (mkF m 28 #[.val (.ref x), .val (.int (Int32.ofNat (q + 1))), .val (.int (Int32.ofNat (i + 1))), .val (.int w)] [])) target → Steps p.tables e below (TC.setTop (mkF m 86 #[.val (.ref x), .val (.int ((Int32.ofNat q) + (1 : Int32))), .val (.int (Int32.ofNat i)), .val (.int w)] [(.int (own_cc w)), (.int (Int32.ofNat i))])) target := by
      intro target kt
      show Steps p.tables e below (TC.setTop (mkF m 86 #[.val (.ref x), .val (.int ((Int32.ofNat q) + (1 : Int32))), .val (.int (Int32.ofNat i)), .val (.int w)] [(.int (own_cc w)), (.int (Int32.ofNat i))])) _
      rw [hcc]
      show Steps p.tables e below (TC.setTop (mkF m 86 #[.val (.ref x), .val (.int ((Int32.ofNat q) + (1 : Int32))), .val (.int (Int32.ofNat i)), .val (.int w)] [(.int (1 : Int32)), (.int (Int32.ofNat i))])) _
      refine XS.iadd XC.here hx rfl (hb hby dY_86) rfl ?_
      show Steps p.tables e below (TC.setTop (mkF m 87 #[.val (.ref x), .val (.int ((Int32.ofNat q) + (1 : Int32))), .val (.int (Int32.ofNat i)), .val (.int w)] [(.int ((Int32.ofNat i) + (1 : Int32)))])) _
      refine XS.istoreN XC.here hx rfl (hb hby dY_87) rfl (l' := #[.val (.ref x), .val (.int ((Int32.ofNat q) + (1 : Int32))), .val (.int ((Int32.ofNat i) + (1 : Int32))), .val (.int w)]) rfl ?_
      show Steps p.tables e below (TC.setTop (mkF m 88 #[.val (.ref x), .val (.int ((Int32.ofNat q) + (1 : Int32))), .val (.int ((Int32.ofNat i) + (1 : Int32))), .val (.int w)] [])) _
      refine XS.goto XC.here hx rfl (pc0 := 88) (pc' := 28) rfl (hb hby dY_88) (by decide) (by decide) ?_
      show Steps p.tables e below (TC.setTop (mkF m 28 #[.val (.ref x), .val (.int ((Int32.ofNat q) + (1 : Int32))), .val (.int ((Int32.ofNat i) + (1 : Int32))), .val (.int w)] [])) _
      rw [own_one, own_one]
      show Steps p.tables e below (TC.setTop (mkF m 28 #[.val (.ref x), .val (.int (Int32.ofNat (q + 1))), .val (.int (Int32.ofNat (i + 1))), .val (.int w)] [])) _
      exact kt
    refine ⟨TC, _, XC, eC, MC, fun target kt => ?_⟩
    show Steps p.tables e below (T0.setTop (mkF m 28 #[.val (.ref x), .val (.int (Int32.ofNat q)), .val (.int (Int32.ofNat i)), s3] [])) _
    refine sg1 _ ?_
    show Steps p.tables e below (T0.setTop (mkF m 30 #[.val (.ref x), .val (.int (Int32.ofNat q)), .val (.int (Int32.ofNat i)), s3] [(.ref x), (.int (Int32.ofNat i))])) _
    refine stA.trans ?_
    show Steps p.tables e below (TA.setTop (mkF m 33 #[.val (.ref x), .val (.int (Int32.ofNat q)), .val (.int (Int32.ofNat i)), s3] [(.int (Int32.ofNat n)), (.int (Int32.ofNat i))])) _
    refine sg2 _ ?_
    show Steps p.tables e below (TA.setTop (mkF m 38 #[.val (.ref x), .val (.int (Int32.ofNat q)), .val (.int (Int32.ofNat i)), s3] [(.int (Int32.ofNat i)), (.ref x)])) _
    refine stB.trans ?_
    show Steps p.tables e below (TB.setTop (mkF m 41 #[.val (.ref x), .val (.int (Int32.ofNat q)), .val (.int (Int32.ofNat i)), s3] [(.int w)])) _
    refine sg3 _ ?_
    show Steps p.tables e below (TB.setTop (mkF m 42 #[.val (.ref x), .val (.int (Int32.ofNat q)), .val (.int (Int32.ofNat i)), .val (.int w)] [])) _
    refine sg4 _ ?_
    show Steps p.tables e below (TB.setTop (mkF m 83 #[.val (.ref x), .val (.int ((Int32.ofNat q) + (1 : Int32))), .val (.int (Int32.ofNat i)), .val (.int w)] [(.int w), (.int (Int32.ofNat i))])) _
    refine stC _ ?_
    show Steps p.tables e below (TC.setTop (mkF m 86 #[.val (.ref x), .val (.int ((Int32.ofNat q) + (1 : Int32))), .val (.int (Int32.ofNat i)), .val (.int w)] [(.int (own_cc w)), (.int (Int32.ofNat i))])) _
    refine sg5 _ ?_
    exact kt
  · have sg4 : ∀ target, Steps p.tables e below (TB.setTop (mkF m 83 #[.val (.ref x), .val (.int ((Int32.ofNat q) + (1 : Int32))), .val (.int (Int32.ofNat i)), .val (.int w)] [(.int w), (.int (Int32.ofNat i))])) target → Steps p.tables e below (TB.setTop (mkF m 42 #[.val (.ref x), .val (.int (Int32.ofNat q)), .val (.int (Int32.ofNat i)), .val (.int w)] [])) target := by
      intro target kt
      show Steps p.tables e below (TB.setTop (mkF m 42 #[.val (.ref x), .val (.int (Int32.ofNat q)), .val (.int (Int32.ofNat i)), .val (.int w)] [])) _
      refine XS.iloadN XB.here hx rfl (hb hby dY_42) rfl ?_
      show Steps p.tables e below (TB.setTop (mkF m 43 #[.val (.ref x), .val (.int (Int32.ofNat q)), .val (.int (Int32.ofNat i)), .val (.int w)] [(.int w)])) _
      refine XB.ldcInt hx hown (mvT hZ (hw _ (List.mem_of_getElem? (i := 102) rfl))) (g := (mkF m 43 #[.val (.ref x), .val (.int (Int32.ofNat q)), .val (.int (Int32.ofNat i)), .val (.int w)] [(.int w)])) rfl (hb hby dY_43) _ ?_
      show Steps p.tables e below (TB.setTop (mkF m 45 #[.val (.ref x), .val (.int (Int32.ofNat q)), .val (.int (Int32.ofNat i)), .val (.int w)] [(.int (55296 : Int32)), (.int w)])) _
      refine XS.icmpNo XB.here hx rfl (hb hby dY_45) rfl (flt (own_ge16 g1)).1 ?_
      show Steps p.tables e below (TB.setTop (mkF m 48 #[.val (.ref x), .val (.int (Int32.ofNat q)), .val (.int (Int32.ofNat i)), .val (.int w)] [])) _
      refine XS.iloadN XB.here hx rfl (hb hby dY_48) rfl ?_
      show Steps p.tables e below (TB.setTop (mkF m 49 #[.val (.ref x), .val (.int (Int32.ofNat q)), .val (.int (Int32.ofNat i)), .val (.int w)] [(.int w)])) _
      refine XB.ldcInt hx hown (mvT hZ (hw _ (List.mem_of_getElem? (i := 127) rfl))) (g := (mkF m 49 #[.val (.ref x), .val (.int (Int32.ofNat q)), .val (.int (Int32.ofNat i)), .val (.int w)] [(.int w)])) rfl (hb hby dY_49) _ ?_
      show Steps p.tables e below (TB.setTop (mkF m 51 #[.val (.ref x), .val (.int (Int32.ofNat q)), .val (.int (Int32.ofNat i)), .val (.int w)] [(.int (57343 : Int32)), (.int w)])) _
      refine XS.icmpYes XB.here hx rfl (pc0 := 51) (pc' := 78) rfl (hb hby dY_51) rfl (tlt g1).2.2.1 (by decide) (by decide) ?_
      show Steps p.tables e below (TB.setTop (mkF m 78 #[.val (.ref x), .val (.int (Int32.ofNat q)), .val (.int (Int32.ofNat i)), .val (.int w)] [])) _
      refine XS.iinc XB.here hx rfl (hb hby dY_78) rfl (l' := #[.val (.ref x), .val (.int ((Int32.ofNat q) + (1 : Int32))), .val (.int (Int32.ofNat i)), .val (.int w)]) rfl ?_
      show Steps p.tables e below (TB.setTop (mkF m 81 #[.val (.ref x), .val (.int ((Int32.ofNat q) + (1 : Int32))), .val (.int (Int32.ofNat i)), .val (.int w)] [])) _
      refine XS.iloadN XB.here hx rfl (hb hby dY_81) rfl ?_
      show Steps p.tables e below (TB.setTop (mkF m 82 #[.val (.ref x), .val (.int ((Int32.ofNat q) + (1 : Int32))), .val (.int (Int32.ofNat i)), .val (.int w)] [(.int (Int32.ofNat i))])) _
      refine XS.iloadN XB.here hx rfl (hb hby dY_82) rfl ?_
      show Steps p.tables e below (TB.setTop (mkF m 83 #[.val (.ref x), .val (.int ((Int32.ofNat q) + (1 : Int32))), .val (.int (Int32.ofNat i)), .val (.int w)] [(.int w), (.int (Int32.ofNat i))])) _
      exact kt
    obtain ⟨_, _, ⟨TC, LC, kC, nC⟩, -, XC, ⟨LcC, hQC, lC, yC, zC⟩, stC⟩ := Jvm.LawKit.callS XB hx (y := (⟨"java/lang/Character", "charCount", "(I)I"⟩ : MethodName)) hown (mvT hZ (hw _ (List.mem_of_getElem? (i := 103) rfl))) (mvT hZ (hw _ (List.mem_of_getElem? (i := 104) rfl))) (mvT hZ (hw _ (List.mem_of_getElem? (i := 105) rfl))) (mvT hZ (hw _ (List.mem_of_getElem? (i := 106) rfl))) (by decide) (backOf (W := 1) (rmD l Z a0 hw w h0 n0) hZ (hw _ (List.mem_of_getElem? (i := 106) rfl)) (hw _ (List.mem_of_getElem? (i := 105) rfl)) (by decide) (by decide)) (g := (mkF m 83 #[.val (.ref x), .val (.int ((Int32.ofNat q) + (1 : Int32))), .val (.int (Int32.ofNat i)), .val (.int w)] [(.int w), (.int (Int32.ofNat i))])) rfl (by rw [hml]; rfl) (argsL := [(.int w)]) (rest := [(.int (Int32.ofNat i))]) (lenOf pdD rfl) rfl (by show 2 * 0 + _ ≤ _; exact Nat.le_of_eq rfl) (hb hby dY_83) (fun _ _ => ⟨rfl, eB, Nat.le_of_ble_eq_true rfl, Nat.le_of_ble_eq_true rfl⟩)
    dsimp only [Pt.U, Pt.locs, Pt.cells, Pt.slots] at XC lC yC zC stC hQC
    subst lC yC zC
    obtain ⟨rfl, NC, eC⟩ := hQC
    have MC := Fr.app (MB) NC
    have hcc : own_cc w = 1 := if_pos g2
    have sg5 : ∀ target, Steps p.tables e below (TC.setTop (mkF m 28 #[.val (.ref x), .val (.int (Int32.ofNat (q + 1))), .val (.int (Int32.ofNat (i + 1))), .val (.int w)] [])) target → Steps p.tables e below (TC.setTop (mkF m 86 #[.val (.ref x), .val (.int ((Int32.ofNat q) + (1 : Int32))), .val (.int (Int32.ofNat i)), .val (.int w)] [(.int (own_cc w)), (.int (Int32.ofNat i))])) target := by
      intro target kt
      show Steps p.tables e below (TC.setTop (mkF m 86 #[.val (.ref x), .val (.int ((Int32.ofNat q) + (1 : Int32))), .val (.int (Int32.ofNat i)), .val (.int w)] [(.int (own_cc w)), (.int (Int32.ofNat i))])) _
      rw [hcc]
      show Steps p.tables e below (TC.setTop (mkF m 86 #[.val (.ref x), .val (.int ((Int32.ofNat q) + (1 : Int32))), .val (.int (Int32.ofNat i)), .val (.int w)] [(.int (1 : Int32)), (.int (Int32.ofNat i))])) _
      refine XS.iadd XC.here hx rfl (hb hby dY_86) rfl ?_
      show Steps p.tables e below (TC.setTop (mkF m 87 #[.val (.ref x), .val (.int ((Int32.ofNat q) + (1 : Int32))), .val (.int (Int32.ofNat i)), .val (.int w)] [(.int ((Int32.ofNat i) + (1 : Int32)))])) _
      refine XS.istoreN XC.here hx rfl (hb hby dY_87) rfl (l' := #[.val (.ref x), .val (.int ((Int32.ofNat q) + (1 : Int32))), .val (.int ((Int32.ofNat i) + (1 : Int32))), .val (.int w)]) rfl ?_
      show Steps p.tables e below (TC.setTop (mkF m 88 #[.val (.ref x), .val (.int ((Int32.ofNat q) + (1 : Int32))), .val (.int ((Int32.ofNat i) + (1 : Int32))), .val (.int w)] [])) _
      refine XS.goto XC.here hx rfl (pc0 := 88) (pc' := 28) rfl (hb hby dY_88) (by decide) (by decide) ?_
      show Steps p.tables e below (TC.setTop (mkF m 28 #[.val (.ref x), .val (.int ((Int32.ofNat q) + (1 : Int32))), .val (.int ((Int32.ofNat i) + (1 : Int32))), .val (.int w)] [])) _
      rw [own_one, own_one]
      show Steps p.tables e below (TC.setTop (mkF m 28 #[.val (.ref x), .val (.int (Int32.ofNat (q + 1))), .val (.int (Int32.ofNat (i + 1))), .val (.int w)] [])) _
      exact kt
    refine ⟨TC, _, XC, eC, MC, fun target kt => ?_⟩
    show Steps p.tables e below (T0.setTop (mkF m 28 #[.val (.ref x), .val (.int (Int32.ofNat q)), .val (.int (Int32.ofNat i)), s3] [])) _
    refine sg1 _ ?_
    show Steps p.tables e below (T0.setTop (mkF m 30 #[.val (.ref x), .val (.int (Int32.ofNat q)), .val (.int (Int32.ofNat i)), s3] [(.ref x), (.int (Int32.ofNat i))])) _
    refine stA.trans ?_
    show Steps p.tables e below (TA.setTop (mkF m 33 #[.val (.ref x), .val (.int (Int32.ofNat q)), .val (.int (Int32.ofNat i)), s3] [(.int (Int32.ofNat n)), (.int (Int32.ofNat i))])) _
    refine sg2 _ ?_
    show Steps p.tables e below (TA.setTop (mkF m 38 #[.val (.ref x), .val (.int (Int32.ofNat q)), .val (.int (Int32.ofNat i)), s3] [(.int (Int32.ofNat i)), (.ref x)])) _
    refine stB.trans ?_
    show Steps p.tables e below (TB.setTop (mkF m 41 #[.val (.ref x), .val (.int (Int32.ofNat q)), .val (.int (Int32.ofNat i)), s3] [(.int w)])) _
    refine sg3 _ ?_
    show Steps p.tables e below (TB.setTop (mkF m 42 #[.val (.ref x), .val (.int (Int32.ofNat q)), .val (.int (Int32.ofNat i)), .val (.int w)] [])) _
    refine sg4 _ ?_
    show Steps p.tables e below (TB.setTop (mkF m 83 #[.val (.ref x), .val (.int ((Int32.ofNat q) + (1 : Int32))), .val (.int (Int32.ofNat i)), .val (.int w)] [(.int w), (.int (Int32.ofNat i))])) _
    refine stC _ ?_
    show Steps p.tables e below (TC.setTop (mkF m 86 #[.val (.ref x), .val (.int ((Int32.ofNat q) + (1 : Int32))), .val (.int (Int32.ofNat i)), .val (.int w)] [(.int (own_cc w)), (.int (Int32.ofNat i))])) _
    refine sg5 _ ?_
    exact kt
  · have sg4 : ∀ target, Steps p.tables e below (TB.setTop (mkF m 83 #[.val (.ref x), .val (.int ((Int32.ofNat q) + (1 : Int32))), .val (.int (Int32.ofNat i)), .val (.int w)] [(.int w), (.int (Int32.ofNat i))])) target → Steps p.tables e below (TB.setTop (mkF m 42 #[.val (.ref x), .val (.int (Int32.ofNat q)), .val (.int (Int32.ofNat i)), .val (.int w)] [])) target := by
      intro target kt
      show Steps p.tables e below (TB.setTop (mkF m 42 #[.val (.ref x), .val (.int (Int32.ofNat q)), .val (.int (Int32.ofNat i)), .val (.int w)] [])) _
      refine XS.iloadN XB.here hx rfl (hb hby dY_42) rfl ?_
      show Steps p.tables e below (TB.setTop (mkF m 43 #[.val (.ref x), .val (.int (Int32.ofNat q)), .val (.int (Int32.ofNat i)), .val (.int w)] [(.int w)])) _
      refine XB.ldcInt hx hown (mvT hZ (hw _ (List.mem_of_getElem? (i := 102) rfl))) (g := (mkF m 43 #[.val (.ref x), .val (.int (Int32.ofNat q)), .val (.int (Int32.ofNat i)), .val (.int w)] [(.int w)])) rfl (hb hby dY_43) _ ?_
      show Steps p.tables e below (TB.setTop (mkF m 45 #[.val (.ref x), .val (.int (Int32.ofNat q)), .val (.int (Int32.ofNat i)), .val (.int w)] [(.int (55296 : Int32)), (.int w)])) _
      refine XS.icmpNo XB.here hx rfl (hb hby dY_45) rfl (flt (own_ge16 g1)).1 ?_
      show Steps p.tables e below (TB.setTop (mkF m 48 #[.val (.ref x), .val (.int (Int32.ofNat q)), .val (.int (Int32.ofNat i)), .val (.int w)] [])) _
      refine XS.iloadN XB.here hx rfl (hb hby dY_48) rfl ?_
      show Steps p.tables e below (TB.setTop (mkF m 49 #[.val (.ref x), .val (.int (Int32.ofNat q)), .val (.int (Int32.ofNat i)), .val (.int w)] [(.int w)])) _
      refine XB.ldcInt hx hown (mvT hZ (hw _ (List.mem_of_getElem? (i := 127) rfl))) (g := (mkF m 49 #[.val (.ref x), .val (.int (Int32.ofNat q)), .val (.int (Int32.ofNat i)), .val (.int w)] [(.int w)])) rfl (hb hby dY_49) _ ?_
      show Steps p.tables e below (TB.setTop (mkF m 51 #[.val (.ref x), .val (.int (Int32.ofNat q)), .val (.int (Int32.ofNat i)), .val (.int w)] [(.int (57343 : Int32)), (.int w)])) _
      refine XS.icmpYes XB.here hx rfl (pc0 := 51) (pc' := 78) rfl (hb hby dY_51) rfl (tlt g1).2.2.1 (by decide) (by decide) ?_
      show Steps p.tables e below (TB.setTop (mkF m 78 #[.val (.ref x), .val (.int (Int32.ofNat q)), .val (.int (Int32.ofNat i)), .val (.int w)] [])) _
      refine XS.iinc XB.here hx rfl (hb hby dY_78) rfl (l' := #[.val (.ref x), .val (.int ((Int32.ofNat q) + (1 : Int32))), .val (.int (Int32.ofNat i)), .val (.int w)]) rfl ?_
      show Steps p.tables e below (TB.setTop (mkF m 81 #[.val (.ref x), .val (.int ((Int32.ofNat q) + (1 : Int32))), .val (.int (Int32.ofNat i)), .val (.int w)] [])) _
      refine XS.iloadN XB.here hx rfl (hb hby dY_81) rfl ?_
      show Steps p.tables e below (TB.setTop (mkF m 82 #[.val (.ref x), .val (.int ((Int32.ofNat q) + (1 : Int32))), .val (.int (Int32.ofNat i)), .val (.int w)] [(.int (Int32.ofNat i))])) _
      refine XS.iloadN XB.here hx rfl (hb hby dY_82) rfl ?_
      show Steps p.tables e below (TB.setTop (mkF m 83 #[.val (.ref x), .val (.int ((Int32.ofNat q) + (1 : Int32))), .val (.int (Int32.ofNat i)), .val (.int w)] [(.int w), (.int (Int32.ofNat i))])) _
      exact kt
    obtain ⟨_, _, ⟨TC, LC, kC, nC⟩, -, XC, ⟨LcC, hQC, lC, yC, zC⟩, stC⟩ := Jvm.LawKit.callS XB hx (y := (⟨"java/lang/Character", "charCount", "(I)I"⟩ : MethodName)) hown (mvT hZ (hw _ (List.mem_of_getElem? (i := 103) rfl))) (mvT hZ (hw _ (List.mem_of_getElem? (i := 104) rfl))) (mvT hZ (hw _ (List.mem_of_getElem? (i := 105) rfl))) (mvT hZ (hw _ (List.mem_of_getElem? (i := 106) rfl))) (by decide) (backOf (W := 1) (rmD l Z a0 hw w h0 n0) hZ (hw _ (List.mem_of_getElem? (i := 106) rfl)) (hw _ (List.mem_of_getElem? (i := 105) rfl)) (by decide) (by decide)) (g := (mkF m 83 #[.val (.ref x), .val (.int ((Int32.ofNat q) + (1 : Int32))), .val (.int (Int32.ofNat i)), .val (.int w)] [(.int w), (.int (Int32.ofNat i))])) rfl (by rw [hml]; rfl) (argsL := [(.int w)]) (rest := [(.int (Int32.ofNat i))]) (lenOf pdD rfl) rfl (by show 2 * 0 + _ ≤ _; exact Nat.le_of_eq rfl) (hb hby dY_83) (fun _ _ => ⟨rfl, eB, Nat.le_of_ble_eq_true rfl, Nat.le_of_ble_eq_true rfl⟩)
    dsimp only [Pt.U, Pt.locs, Pt.cells, Pt.slots] at XC lC yC zC stC hQC
    subst lC yC zC
    obtain ⟨rfl, NC, eC⟩ := hQC
    have MC := Fr.app (MB) NC
    have hcc : own_cc w = 2 := if_neg g2
    have sg5 : ∀ target, Steps p.tables e below (TC.setTop (mkF m 28 #[.val (.ref x), .val (.int (Int32.ofNat (q + 1))), .val (.int (Int32.ofNat (i + 2))), .val (.int w)] [])) target → Steps p.tables e below (TC.setTop (mkF m 86 #[.val (.ref x), .val (.int ((Int32.ofNat q) + (1 : Int32))), .val (.int (Int32.ofNat i)), .val (.int w)] [(.int (own_cc w)), (.int (Int32.ofNat i))])) target := by
      intro target kt
      show Steps p.tables e below (TC.setTop (mkF m 86 #[.val (.ref x), .val (.int ((Int32.ofNat q) + (1 : Int32))), .val (.int (Int32.ofNat i)), .val (.int w)] [(.int (own_cc w)), (.int (Int32.ofNat i))])) _
      rw [hcc]
      show Steps p.tables e below (TC.setTop (mkF m 86 #[.val (.ref x), .val (.int ((Int32.ofNat q) + (1 : Int32))), .val (.int (Int32.ofNat i)), .val (.int w)] [(.int (2 : Int32)), (.int (Int32.ofNat i))])) _
      refine XS.iadd XC.here hx rfl (hb hby dY_86) rfl ?_
      show Steps p.tables e below (TC.setTop (mkF m 87 #[.val (.ref x), .val (.int ((Int32.ofNat q) + (1 : Int32))), .val (.int (Int32.ofNat i)), .val (.int w)] [(.int ((Int32.ofNat i) + (2 : Int32)))])) _
      refine XS.istoreN XC.here hx rfl (hb hby dY_87) rfl (l' := #[.val (.ref x), .val (.int ((Int32.ofNat q) + (1 : Int32))), .val (.int ((Int32.ofNat i) + (2 : Int32))), .val (.int w)]) rfl ?_
      show Steps p.tables e below (TC.setTop (mkF m 88 #[.val (.ref x), .val (.int ((Int32.ofNat q) + (1 : Int32))), .val (.int ((Int32.ofNat i) + (2 : Int32))), .val (.int w)] [])) _
      refine XS.goto XC.here hx rfl (pc0 := 88) (pc' := 28) rfl (hb hby dY_88) (by decide) (by decide) ?_
      show Steps p.tables e below (TC.setTop (mkF m 28 #[.val (.ref x), .val (.int ((Int32.ofNat q) + (1 : Int32))), .val (.int ((Int32.ofNat i) + (2 : Int32))), .val (.int w)] [])) _
      rw [own_two, own_one]
      show Steps p.tables e below (TC.setTop (mkF m 28 #[.val (.ref x), .val (.int (Int32.ofNat (q + 1))), .val (.int (Int32.ofNat (i + 2))), .val (.int w)] [])) _
      exact kt
    refine ⟨TC, _, XC, eC, MC, fun target kt => ?_⟩
    show Steps p.tables e below (T0.setTop (mkF m 28 #[.val (.ref x), .val (.int (Int32.ofNat q)), .val (.int (Int32.ofNat i)), s3] [])) _
    refine sg1 _ ?_
    show Steps p.tables e below (T0.setTop (mkF m 30 #[.val (.ref x), .val (.int (Int32.ofNat q)), .val (.int (Int32.ofNat i)), s3] [(.ref x), (.int (Int32.ofNat i))])) _
    refine stA.trans ?_
    show Steps p.tables e below (TA.setTop (mkF m 33 #[.val (.ref x), .val (.int (Int32.ofNat q)), .val (.int (Int32.ofNat i)), s3] [(.int (Int32.ofNat n)), (.int (Int32.ofNat i))])) _
    refine sg2 _ ?_
    show Steps p.tables e below (TA.setTop (mkF m 38 #[.val (.ref x), .val (.int (Int32.ofNat q)), .val (.int (Int32.ofNat i)), s3] [(.int (Int32.ofNat i)), (.ref x)])) _
    refine stB.trans ?_
    show Steps p.tables e below (TB.setTop (mkF m 41 #[.val (.ref x), .val (.int (Int32.ofNat q)), .val (.int (Int32.ofNat i)), s3] [(.int w)])) _
    refine sg3 _ ?_
    show Steps p.tables e below (TB.setTop (mkF m 42 #[.val (.ref x), .val (.int (Int32.ofNat q)), .val (.int (Int32.ofNat i)), .val (.int w)] [])) _
    refine sg4 _ ?_
    show Steps p.tables e below (TB.setTop (mkF m 83 #[.val (.ref x), .val (.int ((Int32.ofNat q) + (1 : Int32))), .val (.int (Int32.ofNat i)), .val (.int w)] [(.int w), (.int (Int32.ofNat i))])) _
    refine stC _ ?_
    show Steps p.tables e below (TC.setTop (mkF m 86 #[.val (.ref x), .val (.int ((Int32.ofNat q) + (1 : Int32))), .val (.int (Int32.ofNat i)), .val (.int w)] [(.int (own_cc w)), (.int (Int32.ofNat i))])) _
    refine sg5 _ ?_
    exact kt
set_option maxRecDepth 65536 in
set_option maxHeartbeats 40000000 in
theorem own_kloop {p : Program} {l : Launch} {e : Env} {s : State} {m : MethodId} {args : Array Value} {below : List Frame} {meth : Method} {c : Code} {Z : State} {a0 : Array Value} {n0 : Nat} {cells slots : Nat} (x : Addr) (n : Nat) (f : Nat → Int32) (G : Int32) (h0 : Heap) (h1n : 1 ≤ n) (hn : n ≤ 256) (hf : ∀ j, j < n → own_c16 (f j)) (Sx : own_SX Z h0 x n f) (O : Sta Z h0 "java/lang/String" "COMPACT_STRINGS" "Z" (.int G)) (hG : ¬ G = 0) (F : Value) (rF : F.isRef = true) (Of : Sta Z h0 "jdk/internal/util/Preconditions" "SIOOBE_FORMATTER" "Ljava/util/function/BiFunction;" F) (Uu : own_U Z h0) (hc2 : cells = 2) (hs2 : slots = 28) (hx : p.tables.exec = Jvm.exec) (hZ : Z.Warmed39 s.vm) (hw : ∀ d ∈ tables_1, d.before a0 Z = true) (hby : c.code = prog_6_method_2_code) (hml : c.maxLocals = 4) (hown : s.vm.findClass "com/example/seize/seize/LockLimits" = some m.cls) :
    ∀ (k q i : Nat) (s3 : Slot) (T0 : State) (locs : List Loc), own_run f n k i → (s3 = .unset ∨ ∃ z : Int32, s3 = .val (.int z)) → Stand p l e ({ frames := 4, cells := 2, slots := 28, locals := 90 } : Room) s m args below meth c T0 locs cells slots → T0.heap = h0 → Fr n0 locs →
      ∃ (T' : State) (L' : List Loc) (t3 : Slot), Stand p l e ({ frames := 4, cells := 2, slots := 28, locals := 90 } : Room) s m args below meth c T' L' cells slots ∧ T'.heap = h0 ∧ Fr n0 L' ∧
        ∀ target, Steps p.tables e below (T'.setTop (mkF m 28 #[.val (.ref x), .val (.int (Int32.ofNat (q + k))), .val (.int (Int32.ofNat n)), t3] [])) target → Steps p.tables e below (T0.setTop (mkF m 28 #[.val (.ref x), .val (.int (Int32.ofNat q)), .val (.int (Int32.ofNat i)), s3] [])) target := by
  intro k
  induction k with
  | zero =>
    intro q i s3 T0 locs hk h3 X0 e0 N0
    obtain rfl : i = n := hk
    exact ⟨T0, locs, s3, X0, e0, N0, fun target kt => kt⟩
  | succ k ih =>
    intro q i s3 T0 locs hk h3 X0 e0 N0
    obtain ⟨w, hi, hw1, hj⟩ := hk
    obtain ⟨j, hj1, hj2⟩ : ∃ j, ((w < (55296 : Int32) ∧ j = i + 1) ∨ ((57343 : Int32) < w ∧ w < (65536 : Int32) ∧ j = i + 1) ∨ ((57343 : Int32) < w ∧ ¬ w < (65536 : Int32) ∧ j = i + 2)) ∧ own_run f n k j := by
      rcases hj with ⟨g1, g⟩ | ⟨g1, g2, g⟩ | ⟨g1, g2, g⟩
      · exact ⟨_, Or.inl ⟨g1, rfl⟩, g⟩
      · exact ⟨_, Or.inr (Or.inl ⟨g1, g2, rfl⟩), g⟩
      · exact ⟨_, Or.inr (Or.inr ⟨g1, g2, rfl⟩), g⟩
    obtain ⟨T1, L1, X1, e1, N1, st1⟩ := own_kturn (n0 := n0) x n f G h0 h1n hn hf Sx O hG F rF Of Uu hc2 hs2 q i j w s3 X0 hx hZ hw hby hml hown e0 N0 hi hw1 hj1 (by rcases h3 with rfl | ⟨w, rfl⟩ <;> exact fun _ => rfl)
    obtain ⟨T', L', t3, X', e', N', st'⟩ := ih (q + 1) j (.val (.int w)) T1 L1 hj2 (Or.inr ⟨_, rfl⟩) X1 e1 N1
    rw [show q + 1 + k = q + (k + 1) by omega] at st'
    exact ⟨T', L', t3, X', e', N', fun target kt => st1 target (st' target kt)⟩
theorem own_w {s t : State} {o : Outcome} {L : List Loc} {k n k' n' : Nat} (h : ReturnedEndW s o t L k n) (hk : k ≤ k') (hn : n ≤ n') : ReturnedEndW s o t L k' n' := ⟨h.1, h.2.1, h.2.2.1, h.2.2.2.mono hk hn⟩
def own_QY (n0 : Nat) (h0 : Heap) (v : Option Value) (h : Heap) (L : List Loc) : Prop := v = none ∧ Fr n0 L ∧ Ext h0 h
set_option maxRecDepth 65536 in
set_option maxHeartbeats 40000000 in
theorem rmY (l : Launch) (Z : State) (a0 : Array Value) (hw : ∀ d ∈ tables_1, d.before a0 Z = true) (EL : List (String × Nat)) (hEL : EW Z a0 EL) (x : Addr) (n : Nat) (f : Nat → Int32) (G : Int32) (h0 : Heap) (n0 : Nat) (h1n : 1 ≤ n) (hn : n ≤ 256) (hf : ∀ j, j < n → own_c16 (f j)) (Sx : own_SX Z h0 x n f) (O : Sta Z h0 "java/lang/String" "COMPACT_STRINGS" "Z" (.int G)) (hG : ¬ G = 0) (F : Value) (rF : F.isRef = true) (Of : Sta Z h0 "jdk/internal/util/Preconditions" "SIOOBE_FORMATTER" "Ljava/util/function/BiFunction;" F) (Uu : own_U Z h0) (k : Nat) (hk : own_run f n k 0) (hk5 : k ≤ 255) :
    MetFree l (⟨"com/example/seize/seize/LockLimits", "checkKey", "(Ljava/lang/String;)V"⟩ : MethodName) (head1 [Jvm.Cond.code (⟨"com/example/seize/seize/LockLimits", "checkKey", "(Ljava/lang/String;)V"⟩ : MethodName) prog_6_method_2_code 4 none] ({ frames := 4, cells := 2, slots := 28, locals := 90 } : Room)) (fun q_ U => q_ = #[(.ref x)] ∧ Z.Warmed39 U.vm ∧ U.heap = h0 ∧ CHv Z EL U.vm h0) (fun _ _ _ _ _ => True) (fun _ U o U' => ∃ v L, o = .returned v ∧ own_QY n0 h0 v U'.heap L ∧ CHr Z EL U.vm U.heap U'.vm U'.heap ∧ ReturnedEndW U o U' L ({ frames := 4, cells := 2, slots := 28, locals := 90 } : Room).cells ({ frames := 4, cells := 2, slots := 28, locals := 90 } : Room).slots) := by
  refine MetFree.of_bodySF (plainFor_of_name pn_K) hisR ?_
  intro p e s m args below meth c s₁ Bd hml0 hP hK
  obtain ⟨rfl, hZ, hh, H0⟩ := hP
  have hx := Bd.exec
  have hby := Bd.bytes
  have hml : c.maxLocals = 4 := hml0
  have hown : s.vm.findClass "com/example/seize/seize/LockLimits" = some m.cls := findClass_of_methodNamed Bd.named
  have hnm := (name_of_methodNamed Bd.named Bd.method).1
  have X0 : Stand p l e ({ frames := 4, cells := 2, slots := 28, locals := 90 } : Room) (s.setVm s.vm) m #[(.ref x)] below meth c s₁ [] 0 0 := Stand.of_body Bd
  have e0 : s₁.heap = h0 := by rw [← hh, Bd.state]; rfl
  have hS0 : s.Since s.vm s.heap.size := (State.WarmedH.refl s).since _
  have hwS : ∀ a ∈ Bundle.stringAtoms, a.before a0 Z = true := fun d hd => hw d ((by decide +kernel : ∀ d ∈ Bundle.stringAtoms, d ∈ tables_1) d hd)
  have sg1 : ∀ target, Steps p.tables e below (s₁.setTop (mkF m 1 #[.val (.ref x), .unset, .unset, .unset] [(.ref x)])) target → Steps p.tables e below (s₁.setTop (mkF m 0 #[.val (.ref x), .unset, .unset, .unset] [])) target := by
    intro target kt
    show Steps p.tables e below (s₁.setTop (mkF m 0 #[.val (.ref x), .unset, .unset, .unset] [])) _
    refine XS.aloadN X0.here hx rfl (hb hby dY_0) rfl rfl ?_
    show Steps p.tables e below (s₁.setTop (mkF m 1 #[.val (.ref x), .unset, .unset, .unset] [(.ref x)])) _
    exact kt
  obtain ⟨uQ, TQ, hQ, kQ, XQ, eQ, EQ, hSQ, hkQ, hZQ, hownQ, R0Q, -, stQ⟩ := ldcOH (vm0 := s.vm) (text := "key") X0 hx hZ hown (hw _ (List.mem_of_getElem? (i := 62) rfl)) hwS e0 hS0 (Nat.le_of_eq (by rw [hh])) hEL (CHr.refl H0).1 (g := (mkF m 1 #[.val (.ref x), .unset, .unset, .unset] [(.ref x)])) rfl (hb hby dY_1) (n := 24) (by decide) (by decide) (by decide) (by decide)
  have RQ := (CHr.refl H0).trans R0Q
  have Sx_Q := Sx.ext EQ
  have O_Q := O.ext EQ
  have Of_Q := Of.ext EQ
  have Uu_Q := Uu.ext EQ
  have En_Q := own_ext_trans (own_ext_refl h0) EQ
  obtain ⟨_, _, ⟨TA, LA, kA, nA⟩, -, XA, ⟨LcA, hQA, lA, yA, zA⟩, stA⟩ := Jvm.LawKit.callS XQ hx (y := (⟨"java/util/Objects", "requireNonNull", "(Ljava/lang/Object;Ljava/lang/String;)Ljava/lang/Object;"⟩ : MethodName)) hownQ (mvT hZQ (hw _ (List.mem_of_getElem? (i := 65) rfl))) (mvT hZQ (hw _ (List.mem_of_getElem? (i := 66) rfl))) (mvT hZQ (hw _ (List.mem_of_getElem? (i := 67) rfl))) (mvT hZQ (hw _ (List.mem_of_getElem? (i := 68) rfl))) (by decide) (backOf (W := 0) (rmNn l Z a0 hw x uQ hQ n0) hZQ (hw _ (List.mem_of_getElem? (i := 68) rfl)) (hw _ (List.mem_of_getElem? (i := 67) rfl)) (by decide) (by decide)) (g := (mkF m 3 #[.val (.ref x), .unset, .unset, .unset] [(.ref uQ), (.ref x)])) rfl (by rw [hml]; rfl) (argsL := [(.ref x), (.ref uQ)]) (rest := []) (lenOf pdNn rfl) rfl (by show 2 * 0 + _ ≤ _; exact Nat.le_of_eq rfl) (hb hby dY_3) (fun _ _ => ⟨rfl, eQ, Nat.le_of_ble_eq_true rfl, Nat.le_of_ble_eq_true rfl⟩)
  dsimp only [Pt.U, Pt.locs, Pt.cells, Pt.slots] at XA lA yA zA stA hQA
  subst lA yA zA
  obtain ⟨rfl, NA, eA⟩ := hQA
  have MA := Fr.app (Fr.nil n0) NA
  have sg2 : ∀ target, Steps p.tables e below (TA.setTop (mkF m 8 #[.val (.ref x), .unset, .unset, .unset] [(.ref x)])) target → Steps p.tables e below (TA.setTop (mkF m 6 #[.val (.ref x), .unset, .unset, .unset] [(.ref x)])) target := by
    intro target kt
    show Steps p.tables e below (TA.setTop (mkF m 6 #[.val (.ref x), .unset, .unset, .unset] [(.ref x)])) _
    refine XS.pop XA.here hx rfl (hb hby dY_6) rfl rfl ?_
    show Steps p.tables e below (TA.setTop (mkF m 7 #[.val (.ref x), .unset, .unset, .unset] [])) _
    refine XS.aloadN XA.here hx rfl (hb hby dY_7) rfl rfl ?_
    show Steps p.tables e below (TA.setTop (mkF m 8 #[.val (.ref x), .unset, .unset, .unset] [(.ref x)])) _
    exact kt
  obtain ⟨cqB, kqB, qaB, qbB, qcB⟩ := isOf hZQ eA Sx_Q.1
  obtain ⟨_, _, ⟨TB, LB, kB, nB⟩, -, XB, ⟨LcB, hQB, lB, yB, zB⟩, stB⟩ := XA.virtualBack hx (y := (⟨"java/lang/String", "isEmpty", "()Z"⟩ : MethodName)) (z := (⟨"java/lang/String", "isEmpty", "()Z"⟩ : MethodName)) hownQ (mvT hZQ (hw _ (List.mem_of_getElem? (i := 69) rfl))) (mvT hZQ (hw _ (List.mem_of_getElem? (i := 70) rfl))) (notFace_of_selects (args := #[]) (mvT hZQ (hw _ (List.mem_of_getElem? (i := 72) rfl)))) (mvT hZQ (hw _ (List.mem_of_getElem? (i := 72) rfl))) (mvT hZQ (hw _ (List.mem_of_getElem? (i := 71) rfl))) (by decide) (backOf (W := 0) (rmEm l Z a0 hw x n f G hQ n0 h1n hn hf Sx_Q O_Q hG) hZQ (hw _ (List.mem_of_getElem? (i := 73) rfl)) (hw _ (List.mem_of_getElem? (i := 12) rfl)) (by decide) (by decide)) qaB qcB (g := (mkF m 8 #[.val (.ref x), .unset, .unset, .unset] [(.ref x)])) rfl (by rw [hml]; rfl) (Steps.refl _) (argsL := []) (rest := []) (lenOf pd8 rfl) rfl (by show 2 * 0 + _ ≤ _; exact Nat.le_of_eq rfl) (hb hby dY_8) (fun _ _ => ⟨rfl, eA, Nat.le_of_ble_eq_true rfl, Nat.le_of_ble_eq_true rfl⟩)
  dsimp only [Pt.U, Pt.locs, Pt.cells, Pt.slots] at XB lB yB zB stB hQB
  subst lB yB zB
  obtain ⟨rfl, NB, eB⟩ := hQB
  have MB := Fr.app (MA) NB
  have sg3 : ∀ target, Steps p.tables e below (TB.setTop (mkF m 28 #[.val (.ref x), .val (.int (Int32.ofNat 0)), .val (.int (Int32.ofNat 0)), .unset] [])) target → Steps p.tables e below (TB.setTop (mkF m 11 #[.val (.ref x), .unset, .unset, .unset] [(.int (0 : Int32))])) target := by
    intro target kt
    show Steps p.tables e below (TB.setTop (mkF m 11 #[.val (.ref x), .unset, .unset, .unset] [(.int (0 : Int32))])) _
    refine XS.ifYes XB.here hx rfl (pc0 := 11) (pc' := 24) rfl (hb hby dY_11) rfl (by decide) (by decide) (by decide) ?_
    show Steps p.tables e below (TB.setTop (mkF m 24 #[.val (.ref x), .unset, .unset, .unset] [])) _
    refine XS.iconst XB.here hx rfl (hb hby dY_24) ?_
    show Steps p.tables e below (TB.setTop (mkF m 25 #[.val (.ref x), .unset, .unset, .unset] [(.int (0 : Int32))])) _
    refine XS.istoreN XB.here hx rfl (hb hby dY_25) rfl (l' := #[.val (.ref x), .val (.int (0 : Int32)), .unset, .unset]) rfl ?_
    show Steps p.tables e below (TB.setTop (mkF m 26 #[.val (.ref x), .val (.int (0 : Int32)), .unset, .unset] [])) _
    refine XS.iconst XB.here hx rfl (hb hby dY_26) ?_
    show Steps p.tables e below (TB.setTop (mkF m 27 #[.val (.ref x), .val (.int (0 : Int32)), .unset, .unset] [(.int (0 : Int32))])) _
    refine XS.istoreN XB.here hx rfl (hb hby dY_27) rfl (l' := #[.val (.ref x), .val (.int (0 : Int32)), .val (.int (0 : Int32)), .unset]) rfl ?_
    show Steps p.tables e below (TB.setTop (mkF m 28 #[.val (.ref x), .val (.int (0 : Int32)), .val (.int (0 : Int32)), .unset] [])) _
    show Steps p.tables e below (TB.setTop (mkF m 28 #[.val (.ref x), .val (.int (Int32.ofNat 0)), .val (.int (Int32.ofNat 0)), .unset] [])) _
    exact kt
  obtain ⟨T1, L1, t3, X1, e1, N1, st1⟩ := own_kloop (n0 := n0) x n f G hQ h1n hn hf Sx_Q O_Q hG F rF Of_Q Uu_Q rfl rfl hx hZQ hw hby hml hownQ k 0 0 .unset TB _ hk (Or.inl rfl) XB eB (MB)
  have sg4 : ∀ target, Steps p.tables e below (T1.setTop (mkF m 30 #[.val (.ref x), .val (.int (Int32.ofNat (0 + k))), .val (.int (Int32.ofNat n)), t3] [(.ref x), (.int (Int32.ofNat n))])) target → Steps p.tables e below (T1.setTop (mkF m 28 #[.val (.ref x), .val (.int (Int32.ofNat (0 + k))), .val (.int (Int32.ofNat n)), t3] [])) target := by
    intro target kt
    show Steps p.tables e below (T1.setTop (mkF m 28 #[.val (.ref x), .val (.int (Int32.ofNat (0 + k))), .val (.int (Int32.ofNat n)), t3] [])) _
    refine XS.iloadN X1.here hx rfl (hb hby dY_28) rfl ?_
    show Steps p.tables e below (T1.setTop (mkF m 29 #[.val (.ref x), .val (.int (Int32.ofNat (0 + k))), .val (.int (Int32.ofNat n)), t3] [(.int (Int32.ofNat n))])) _
    refine XS.aloadN X1.here hx rfl (hb hby dY_29) rfl rfl ?_
    show Steps p.tables e below (T1.setTop (mkF m 30 #[.val (.ref x), .val (.int (Int32.ofNat (0 + k))), .val (.int (Int32.ofNat n)), t3] [(.ref x), (.int (Int32.ofNat n))])) _
    exact kt
  obtain ⟨cqC, kqC, qaC, qbC, qcC⟩ := isOf hZQ e1 Sx_Q.1
  obtain ⟨_, _, ⟨TC, LC, kC, nC⟩, -, XC, ⟨LcC, hQC, lC, yC, zC⟩, stC⟩ := X1.virtualBack hx (y := (⟨"java/lang/String", "length", "()I"⟩ : MethodName)) (z := (⟨"java/lang/String", "length", "()I"⟩ : MethodName)) hownQ (mvT hZQ (hw _ (List.mem_of_getElem? (i := 74) rfl))) (mvT hZQ (hw _ (List.mem_of_getElem? (i := 75) rfl))) (notFace_of_selects (args := #[]) (mvT hZQ (hw _ (List.mem_of_getElem? (i := 77) rfl)))) (mvT hZQ (hw _ (List.mem_of_getElem? (i := 77) rfl))) (mvT hZQ (hw _ (List.mem_of_getElem? (i := 76) rfl))) (by decide) (backOf (W := 1) (rmLn l Z a0 hw x n f G hQ n0 h1n hn hf Sx_Q O_Q hG) hZQ (hw _ (List.mem_of_getElem? (i := 78) rfl)) (hw _ (List.mem_of_getElem? (i := 12) rfl)) (by decide) (by decide)) qaC qcC (g := (mkF m 30 #[.val (.ref x), .val (.int (Int32.ofNat (0 + k))), .val (.int (Int32.ofNat n)), t3] [(.ref x), (.int (Int32.ofNat n))])) rfl (by rw [hml]; rfl) (Steps.refl _) (argsL := []) (rest := [(.int (Int32.ofNat n))]) (lenOf pdLn rfl) rfl (by show 2 * 0 + _ ≤ _; exact Nat.le_of_eq rfl) (hb hby dY_30) (fun _ _ => ⟨rfl, e1, Nat.le_of_ble_eq_true rfl, Nat.le_of_ble_eq_true rfl⟩)
  dsimp only [Pt.U, Pt.locs, Pt.cells, Pt.slots] at XC lC yC zC stC hQC
  subst lC yC zC
  obtain ⟨rfl, NC, eC⟩ := hQC
  have MC := Fr.app (N1) NC
  have h5 : ¬ (255 : Int32) < Int32.ofNat (0 + k) := own_ge (i := 255) (n := 0 + k) (by omega) (by omega)
  have sg5 : ∀ target, Steps p.tables e below (TC.setTop (mkF m 131 #[.val (.ref x), .val (.int (Int32.ofNat (0 + k))), .val (.int (Int32.ofNat n)), t3] [])) target → Steps p.tables e below (TC.setTop (mkF m 33 #[.val (.ref x), .val (.int (Int32.ofNat (0 + k))), .val (.int (Int32.ofNat n)), t3] [(.int (Int32.ofNat n)), (.int (Int32.ofNat n))])) target := by
    intro target kt
    show Steps p.tables e below (TC.setTop (mkF m 33 #[.val (.ref x), .val (.int (Int32.ofNat (0 + k))), .val (.int (Int32.ofNat n)), t3] [(.int (Int32.ofNat n)), (.int (Int32.ofNat n))])) _
    refine XS.icmpYes XC.here hx rfl (pc0 := 33) (pc' := 91) rfl (hb hby dY_33) rfl (flt (own_ge (Nat.le_refl n) (by omega))).2.1 (by decide) (by decide) ?_
    show Steps p.tables e below (TC.setTop (mkF m 91 #[.val (.ref x), .val (.int (Int32.ofNat (0 + k))), .val (.int (Int32.ofNat n)), t3] [])) _
    refine XS.iloadN XC.here hx rfl (hb hby dY_91) rfl ?_
    show Steps p.tables e below (TC.setTop (mkF m 92 #[.val (.ref x), .val (.int (Int32.ofNat (0 + k))), .val (.int (Int32.ofNat n)), t3] [(.int (Int32.ofNat (0 + k)))])) _
    refine XS.sipush XC.here hx rfl (hb hby dY_92) ?_
    show Steps p.tables e below (TC.setTop (mkF m 95 #[.val (.ref x), .val (.int (Int32.ofNat (0 + k))), .val (.int (Int32.ofNat n)), t3] [(.int (255 : Int32)), (.int (Int32.ofNat (0 + k)))])) _
    refine XS.icmpYes XC.here hx rfl (pc0 := 95) (pc' := 131) rfl (hb hby dY_95) rfl (flt h5).2.2.2 (by decide) (by decide) ?_
    show Steps p.tables e below (TC.setTop (mkF m 131 #[.val (.ref x), .val (.int (Int32.ofNat (0 + k))), .val (.int (Int32.ofNat n)), t3] [])) _
    exact kt
  have RE := RQ.trans (CHv.at XC hZQ hEL RQ.1)
  obtain ⟨fs, hr, hrun, hended, hW⟩ := XC.leaveW hSQ (by rw [eC]; exact hkQ) (v := none) (fun _ => rfl)
  refine ⟨_, _, castTop (efY m x) ?_, hrun, hended, _, _, rfl, ?_, ?_, own_w hW (by decide) (by decide)⟩
  · show Steps p.tables e below (s₁.setTop (mkF m 0 #[.val (.ref x), .unset, .unset, .unset] [])) _
    refine sg1 _ ?_
    show Steps p.tables e below (s₁.setTop (mkF m 1 #[.val (.ref x), .unset, .unset, .unset] [(.ref x)])) _
    refine stQ _ ?_
    show Steps p.tables e below (TQ.setTop (mkF m 3 #[.val (.ref x), .unset, .unset, .unset] [(.ref uQ), (.ref x)])) _
    refine stA _ ?_
    show Steps p.tables e below (TA.setTop (mkF m 6 #[.val (.ref x), .unset, .unset, .unset] [(.ref x)])) _
    refine sg2 _ ?_
    show Steps p.tables e below (TA.setTop (mkF m 8 #[.val (.ref x), .unset, .unset, .unset] [(.ref x)])) _
    refine stB.trans ?_
    show Steps p.tables e below (TB.setTop (mkF m 11 #[.val (.ref x), .unset, .unset, .unset] [(.int (0 : Int32))])) _
    refine sg3 _ ?_
    show Steps p.tables e below (TB.setTop (mkF m 28 #[.val (.ref x), .val (.int (Int32.ofNat 0)), .val (.int (Int32.ofNat 0)), .unset] [])) _
    refine st1 _ ?_
    show Steps p.tables e below (T1.setTop (mkF m 28 #[.val (.ref x), .val (.int (Int32.ofNat (0 + k))), .val (.int (Int32.ofNat n)), t3] [])) _
    refine sg4 _ ?_
    show Steps p.tables e below (T1.setTop (mkF m 30 #[.val (.ref x), .val (.int (Int32.ofNat (0 + k))), .val (.int (Int32.ofNat n)), t3] [(.ref x), (.int (Int32.ofNat n))])) _
    refine stC.trans ?_
    show Steps p.tables e below (TC.setTop (mkF m 33 #[.val (.ref x), .val (.int (Int32.ofNat (0 + k))), .val (.int (Int32.ofNat n)), t3] [(.int (Int32.ofNat n)), (.int (Int32.ofNat n))])) _
    refine sg5 _ ?_
    show Steps p.tables e below (TC.setTop (mkF m 131 #[.val (.ref x), .val (.int (Int32.ofNat (0 + k))), .val (.int (Int32.ofNat n)), t3] [])) _
    exact XC.returnOut hx Bd.returns (hb hby dY_131) hr
  · show own_QY n0 h0 none TC.heap _
    rw [eC]
    exact ⟨rfl, MC, EQ⟩
  · show CHr Z EL s.vm s.heap TC.vm TC.heap
    rw [hh, eC]; exact RE
theorem dU_0 : decode method_2_code 0 = .ok (.iload_n 3, 1) := by decide +kernel
theorem dU_1 : decode method_2_code 1 = .ok (.ifCond .eq 39, 3) := by decide +kernel
theorem dU_4 : decode method_2_code 4 = .ok (.iload_n 2, 1) := by decide +kernel
theorem dU_5 : decode method_2_code 5 = .ok (.ldc 7, 2) := by decide +kernel
theorem dU_7 : decode method_2_code 7 = .ok (.iand, 1) := by decide +kernel
theorem dU_8 : decode method_2_code 8 = .ok (.istore 4, 2) := by decide +kernel
theorem dU_10 : decode method_2_code 10 = .ok (.aload_n 0, 1) := by decide +kernel
theorem dU_11 : decode method_2_code 11 = .ok (.iload_n 1, 1) := by decide +kernel
theorem dU_12 : decode method_2_code 12 = .ok (.ldc 8, 2) := by decide +kernel
theorem dU_14 : decode method_2_code 14 = .ok (.iload 4, 2) := by decide +kernel
theorem dU_16 : decode method_2_code 16 = .ok (.bipush 10, 2) := by decide +kernel
theorem dU_18 : decode method_2_code 18 = .ok (.ishr, 1) := by decide +kernel
theorem dU_19 : decode method_2_code 19 = .ok (.iadd, 1) := by decide +kernel
theorem dU_20 : decode method_2_code 20 = .ok (.i2c, 1) := by decide +kernel
theorem dU_21 : decode method_2_code 21 = .ok (.castore, 1) := by decide +kernel
theorem dU_22 : decode method_2_code 22 = .ok (.aload_n 0, 1) := by decide +kernel
theorem dU_23 : decode method_2_code 23 = .ok (.iload_n 1, 1) := by decide +kernel
theorem dU_24 : decode method_2_code 24 = .ok (.iconst 1, 1) := by decide +kernel
theorem dU_25 : decode method_2_code 25 = .ok (.iadd, 1) := by decide +kernel
theorem dU_26 : decode method_2_code 26 = .ok (.ldc 9, 2) := by decide +kernel
theorem dU_28 : decode method_2_code 28 = .ok (.iload 4, 2) := by decide +kernel
theorem dU_30 : decode method_2_code 30 = .ok (.sipush 1023, 3) := by decide +kernel
theorem dU_33 : decode method_2_code 33 = .ok (.iand, 1) := by decide +kernel
theorem dU_34 : decode method_2_code 34 = .ok (.iadd, 1) := by decide +kernel
theorem dU_35 : decode method_2_code 35 = .ok (.i2c, 1) := by decide +kernel
theorem dU_36 : decode method_2_code 36 = .ok (.castore, 1) := by decide +kernel
theorem dU_37 : decode method_2_code 37 = .ok (.goto 36, 3) := by decide +kernel
theorem dU_40 : decode method_2_code 40 = .ok (.iload_n 2, 1) := by decide +kernel
theorem dU_41 : decode method_2_code 41 = .ok (.ldc 10, 2) := by decide +kernel
theorem dU_43 : decode method_2_code 43 = .ok (.iand, 1) := by decide +kernel
theorem dU_44 : decode method_2_code 44 = .ok (.istore 4, 2) := by decide +kernel
theorem dU_46 : decode method_2_code 46 = .ok (.iload 4, 2) := by decide +kernel
theorem dU_48 : decode method_2_code 48 = .ok (.ldc 8, 2) := by decide +kernel
theorem dU_50 : decode method_2_code 50 = .ok (.if_icmp .lt 17, 3) := by decide +kernel
theorem dU_53 : decode method_2_code 53 = .ok (.iload 4, 2) := by decide +kernel
theorem dU_55 : decode method_2_code 55 = .ok (.ldc 11, 2) := by decide +kernel
theorem dU_57 : decode method_2_code 57 = .ok (.if_icmp .gt 10, 3) := by decide +kernel
theorem dU_60 : decode method_2_code 60 = .ok (.iload 4, 2) := by decide +kernel
theorem dU_62 : decode method_2_code 62 = .ok (.ldc 12, 2) := by decide +kernel
theorem dU_64 : decode method_2_code 64 = .ok (.ixor, 1) := by decide +kernel
theorem dU_65 : decode method_2_code 65 = .ok (.istore 4, 2) := by decide +kernel
theorem dU_67 : decode method_2_code 67 = .ok (.aload_n 0, 1) := by decide +kernel
theorem dU_68 : decode method_2_code 68 = .ok (.iload_n 1, 1) := by decide +kernel
theorem dU_69 : decode method_2_code 69 = .ok (.iload 4, 2) := by decide +kernel
theorem dU_71 : decode method_2_code 71 = .ok (.i2c, 1) := by decide +kernel
theorem dU_72 : decode method_2_code 72 = .ok (.castore, 1) := by decide +kernel
theorem dU_73 : decode method_2_code 73 = .ok (.return_, 1) := by decide +kernel
theorem efU (m : MethodId) (x0 : Addr) (x1 : Int32) (x2 : Int32) (x3 : Int32) : entryFrame m #[(.ref x0), (.int x1), (.int x2), (.int x3)] 5 = mkF m 0 #[.val (.ref x0), .val (.int x1), .val (.int x2), .val (.int x3), .unset] [] := by first | (simp [entryFrame, mkF, argsToLocals, Value.category, maxLocals]; done) | rfl
theorem pdU : parseMethodDescriptor "([CIIZ)V" = some ⟨[(.array .char), .int, .int, .boolean], none⟩ := by decide +kernel
theorem own_xorN {k : Nat} (h1 : 32768 ≤ k) (h2 : k < 65536) : k ^^^ 32768 < 32768 := by
  show k ^^^ 2 ^ 15 < 2 ^ 15
  apply Nat.lt_pow_two_of_testBit
  intro i hi
  rw [Nat.testBit_xor, Nat.testBit_two_pow]
  by_cases q : i = 15
  · subst q
    have : k.testBit 15 = true := by rw [Nat.testBit_eq_decide_div_mod_eq]; simp; omega
    simp [this]
  · have : k.testBit i = false := Nat.testBit_lt_two_pow (Nat.lt_of_lt_of_le h2 (show 2 ^ 16 ≤ 2 ^ i from Nat.pow_le_pow_right (by omega) (by omega)))
    simp [this]; omega
theorem own_xorI (k : Nat) : Int32.ofNat k ^^^ (32768 : Int32) = Int32.ofNat (k ^^^ 32768) := by
  apply Int32.toBitVec_inj.mp
  show BitVec.ofNat 32 k ^^^ BitVec.ofNat 32 32768 = BitVec.ofNat 32 (k ^^^ 32768)
  exact (BitVec.ofNat_xor ..).symm
theorem own_xor {x : Int32} (h1 : ¬ x < (55296 : Int32)) (h2 : ¬ (57343 : Int32) < x) : 0 ≤ (x ^^^ (32768 : Int32)).toInt ∧ (x ^^^ (32768 : Int32)).toInt < 55296 := by
  rw [Int32.lt_iff_toInt_lt] at h1 h2
  have e1 : (55296 : Int32).toInt = 55296 := rfl
  have e2 : (57343 : Int32).toInt = 57343 := rfl
  have e : x = Int32.ofNat x.toInt.toNat := by rw [← Int32.toInt_inj, own_n32 (by omega)]; omega
  have q := own_xorN (k := x.toInt.toNat) (by omega) (by omega)
  rw [e, own_xorI, own_n32 (by omega)]
  omega
theorem own_c2c {x : Int32} (h : own_c16 x) : x.toUInt32.toUInt16.toUInt32.toInt32 = x := own_narc h
theorem own_hiS (v : Int32) : own_c16 ((55296 : Int32) + ((v &&& (1048575 : Int32)) >>> ((10 : Int32) &&& 31))) ∧ own_isH ((55296 : Int32) + ((v &&& (1048575 : Int32)) >>> ((10 : Int32) &&& 31))) := by
  have a1 := c_mask v 1048575 20 (by decide) (by decide)
  have a2 := c_ishr (v &&& (1048575 : Int32)) 10 10 rfl
  have a3 := c_iadd (55296 : Int32) ((v &&& (1048575 : Int32)) >>> ((10 : Int32) &&& 31))
  have a4 := rng32 ((55296 : Int32) + ((v &&& (1048575 : Int32)) >>> ((10 : Int32) &&& 31)))
  have e1 : (55296 : Int32).toInt = 55296 := rfl
  have e2 : (56320 : Int32).toInt = 56320 := rfl
  unfold own_c16 own_isH
  rw [Int32.lt_iff_toInt_lt, Int32.lt_iff_toInt_lt]
  omega
theorem own_loS (v : Int32) : own_c16 ((56320 : Int32) + (v &&& (1048575 : Int32) &&& (1023 : Int32))) ∧ own_isL ((56320 : Int32) + (v &&& (1048575 : Int32) &&& (1023 : Int32))) := by
  have a2 := c_mask (v &&& (1048575 : Int32)) 1023 10 (by decide) (by decide)
  have a3 := c_iadd (56320 : Int32) (v &&& (1048575 : Int32) &&& (1023 : Int32))
  have a4 := rng32 ((56320 : Int32) + (v &&& (1048575 : Int32) &&& (1023 : Int32)))
  have e1 : (57344 : Int32).toInt = 57344 := rfl
  have e2 : (56320 : Int32).toInt = 56320 := rfl
  unfold own_c16 own_isL
  rw [Int32.lt_iff_toInt_lt, Int32.lt_iff_toInt_lt]
  omega
theorem own_cp_ge {x y : Int32} (hx : own_isH x) (hy : own_isL y) : (57343 : Int32) < own_cp x y ∧ ¬ own_cp x y < (65536 : Int32) := by
  obtain ⟨h1, h2⟩ := hx
  obtain ⟨h3, h4⟩ := hy
  have e1 : (55296 : Int32).toInt = 55296 := rfl
  have e2 : (56320 : Int32).toInt = 56320 := rfl
  have e3 : (57344 : Int32).toInt = 57344 := rfl
  have e4 : (57343 : Int32).toInt = 57343 := rfl
  have e5 : (65536 : Int32).toInt = 65536 := rfl
  have e6 : (-56613888 : Int32).toInt = -56613888 := rfl
  rw [Int32.lt_iff_toInt_lt] at h1 h2 h3 h4
  rw [e1] at h1
  rw [e2] at h2 h3
  rw [e3] at h4
  have b1 : (x <<< ((10 : Int32) &&& 31)).toInt = x.toInt * 1024 := by
    have a1 := c_ishl x 10 10 rfl
    have a2 := rng32 (x <<< ((10 : Int32) &&& 31))
    generalize (x <<< ((10 : Int32) &&& 31)).toInt = u at *
    clear h3 h4
    omega
  have b2 : (x <<< ((10 : Int32) &&& 31) + y).toInt = x.toInt * 1024 + y.toInt := by
    have a3 := c_iadd (x <<< ((10 : Int32) &&& 31)) y
    have a4 := rng32 (x <<< ((10 : Int32) &&& 31) + y)
    rw [b1] at a3
    generalize (x <<< ((10 : Int32) &&& 31) + y).toInt = u at *
    clear b1
    omega
  have b3 : (own_cp x y).toInt = x.toInt * 1024 + y.toInt - 56613888 := by
    have a5 := c_iadd (x <<< ((10 : Int32) &&& 31) + y) (-56613888)
    have a6 := rng32 (own_cp x y)
    rw [b2, e6] at a5
    have a7 : (own_cp x y).toInt = (x <<< ((10 : Int32) &&& 31) + y + (-56613888)).toInt := rfl
    rw [← a7] at a5
    generalize (own_cp x y).toInt = u at *
    clear b1 b2 a7
    omega
  rw [Int32.lt_iff_toInt_lt, Int32.lt_iff_toInt_lt, e4, e5, b3]
  clear b1 b2 b3
  omega
/-- what put writes at index i -/
def own_pr (f : Nat → Int32) (i : Nat) (g : Nat → Int32) : Prop := ∃ x y, own_c16 x ∧ own_c16 y ∧ own_isH x ∧ own_isL y ∧ g = own_up1 (own_up1 f i x) (i + 1) y
def own_sg (f : Nat → Int32) (i : Nat) (g : Nat → Int32) : Prop := ∃ x, own_c16 x ∧ (x < (55296 : Int32) ∨ (57343 : Int32) < x) ∧ g = own_up1 f i x
def own_QU (Z : State) (b : Addr) (n : Nat) (P : (Nat → Int32) → Prop) (n0 : Nat) (h0 : Heap) (v : Option Value) (h : Heap) (L : List Loc) : Prop := v = none ∧ Fr n0 L ∧ Keep h0 h [b] ∧ ∃ g, P g ∧ own_AF Z h b .char n g
set_option maxRecDepth 65536 in
set_option maxHeartbeats 40000000 in
theorem rmU1 (l : Launch) (Z : State) (a0 : Array Value) (hw : ∀ d ∈ tables_1, d.before a0 Z = true) (b : Addr) (n i : Nat) (v0 : Int32) (f : Nat → Int32) (h0 : Heap) (n0 : Nat) (ge : n0 ≤ b) (hn : n ≤ 256) (Fb : own_AF Z h0 b .char n f) (hi : i + 1 < n) :
    MetFree l (⟨"com/example/seize/seize/LockLimitsCheckKeyPinLaw", "put", "([CIIZ)V"⟩ : MethodName) (head1 [Jvm.Cond.code (⟨"com/example/seize/seize/LockLimitsCheckKeyPinLaw", "put", "([CIIZ)V"⟩ : MethodName) method_2_code 5 none] ({ frames := 0, cells := 0, slots := 0, locals := 0 } : Room)) (fun q_ U => q_ = #[(.ref b), (.int (Int32.ofNat i)), (.int v0), (.int (1 : Int32))] ∧ Z.Warmed39 U.vm ∧ U.heap = h0) (fun _ _ _ _ _ => True) (fun _ U o U' => ∃ v L, o = .returned v ∧ own_QU Z b n (own_pr f i) n0 h0 v U'.heap L ∧ FrameEnd U o U' L ({ frames := 0, cells := 0, slots := 0, locals := 0 } : Room).cells ({ frames := 0, cells := 0, slots := 0, locals := 0 } : Room).slots) := by
  refine MetFree.of_bodySF (plainFor_of_name pn_L) hisR ?_
  intro p e s m args below meth c s₁ Bd hml0 hP hK
  obtain ⟨rfl, hZ, hh⟩ := hP
  have hx := Bd.exec
  have hby := Bd.bytes
  have hml : c.maxLocals = 5 := hml0
  have hown : s.vm.findClass "com/example/seize/seize/LockLimitsCheckKeyPinLaw" = some m.cls := findClass_of_methodNamed Bd.named
  have hnm := (name_of_methodNamed Bd.named Bd.method).1
  have X0 : Stand p l e ({ frames := 0, cells := 0, slots := 0, locals := 0 } : Room) s m #[(.ref b), (.int (Int32.ofNat i)), (.int v0), (.int (1 : Int32))] below meth c s₁ [] 0 0 := Stand.of_body Bd
  have e0 : s₁.heap = h0 := by rw [← hh, Bd.state]; rfl
  obtain ⟨cb, Ab, Sb, Hb⟩ := id Fb
  have sg1 : ∀ target, Steps p.tables e below (s₁.setTop (mkF m 21 #[.val (.ref b), .val (.int (Int32.ofNat i)), .val (.int v0), .val (.int (1 : Int32)), .val (.int (v0 &&& (1048575 : Int32)))] [(.int ((55296 : Int32) + ((v0 &&& (1048575 : Int32)) >>> ((10 : Int32) &&& 31)))), (.int (Int32.ofNat i)), (.ref b)])) target → Steps p.tables e below (s₁.setTop (mkF m 0 #[.val (.ref b), .val (.int (Int32.ofNat i)), .val (.int v0), .val (.int (1 : Int32)), .unset] [])) target := by
    intro target kt
    show Steps p.tables e below (s₁.setTop (mkF m 0 #[.val (.ref b), .val (.int (Int32.ofNat i)), .val (.int v0), .val (.int (1 : Int32)), .unset] [])) _
    refine XS.iloadN X0.here hx rfl (hb hby dU_0) rfl ?_
    show Steps p.tables e below (s₁.setTop (mkF m 1 #[.val (.ref b), .val (.int (Int32.ofNat i)), .val (.int v0), .val (.int (1 : Int32)), .unset] [(.int (1 : Int32))])) _
    refine XS.ifNo X0.here hx rfl (hb hby dU_1) rfl (by decide) ?_
    show Steps p.tables e below (s₁.setTop (mkF m 4 #[.val (.ref b), .val (.int (Int32.ofNat i)), .val (.int v0), .val (.int (1 : Int32)), .unset] [])) _
    refine XS.iloadN X0.here hx rfl (hb hby dU_4) rfl ?_
    show Steps p.tables e below (s₁.setTop (mkF m 5 #[.val (.ref b), .val (.int (Int32.ofNat i)), .val (.int v0), .val (.int (1 : Int32)), .unset] [(.int v0)])) _
    refine X0.ldcInt hx hown (mvT hZ (hw _ (List.mem_of_getElem? (i := 8) rfl))) (g := (mkF m 5 #[.val (.ref b), .val (.int (Int32.ofNat i)), .val (.int v0), .val (.int (1 : Int32)), .unset] [(.int v0)])) rfl (hb hby dU_5) _ ?_
    show Steps p.tables e below (s₁.setTop (mkF m 7 #[.val (.ref b), .val (.int (Int32.ofNat i)), .val (.int v0), .val (.int (1 : Int32)), .unset] [(.int (1048575 : Int32)), (.int v0)])) _
    refine XS.iand X0.here hx rfl (hb hby dU_7) rfl ?_
    show Steps p.tables e below (s₁.setTop (mkF m 8 #[.val (.ref b), .val (.int (Int32.ofNat i)), .val (.int v0), .val (.int (1 : Int32)), .unset] [(.int (v0 &&& (1048575 : Int32)))])) _
    refine XS.istore X0.here hx rfl (hb hby dU_8) rfl (l' := #[.val (.ref b), .val (.int (Int32.ofNat i)), .val (.int v0), .val (.int (1 : Int32)), .val (.int (v0 &&& (1048575 : Int32)))]) rfl ?_
    show Steps p.tables e below (s₁.setTop (mkF m 10 #[.val (.ref b), .val (.int (Int32.ofNat i)), .val (.int v0), .val (.int (1 : Int32)), .val (.int (v0 &&& (1048575 : Int32)))] [])) _
    refine XS.aloadN X0.here hx rfl (hb hby dU_10) rfl rfl ?_
    show Steps p.tables e below (s₁.setTop (mkF m 11 #[.val (.ref b), .val (.int (Int32.ofNat i)), .val (.int v0), .val (.int (1 : Int32)), .val (.int (v0 &&& (1048575 : Int32)))] [(.ref b)])) _
    refine XS.iloadN X0.here hx rfl (hb hby dU_11) rfl ?_
    show Steps p.tables e below (s₁.setTop (mkF m 12 #[.val (.ref b), .val (.int (Int32.ofNat i)), .val (.int v0), .val (.int (1 : Int32)), .val (.int (v0 &&& (1048575 : Int32)))] [(.int (Int32.ofNat i)), (.ref b)])) _
    refine X0.ldcInt hx hown (mvT hZ (hw _ (List.mem_of_getElem? (i := 6) rfl))) (g := (mkF m 12 #[.val (.ref b), .val (.int (Int32.ofNat i)), .val (.int v0), .val (.int (1 : Int32)), .val (.int (v0 &&& (1048575 : Int32)))] [(.int (Int32.ofNat i)), (.ref b)])) rfl (hb hby dU_12) _ ?_
    show Steps p.tables e below (s₁.setTop (mkF m 14 #[.val (.ref b), .val (.int (Int32.ofNat i)), .val (.int v0), .val (.int (1 : Int32)), .val (.int (v0 &&& (1048575 : Int32)))] [(.int (55296 : Int32)), (.int (Int32.ofNat i)), (.ref b)])) _
    refine XS.iload X0.here hx rfl (hb hby dU_14) rfl ?_
    show Steps p.tables e below (s₁.setTop (mkF m 16 #[.val (.ref b), .val (.int (Int32.ofNat i)), .val (.int v0), .val (.int (1 : Int32)), .val (.int (v0 &&& (1048575 : Int32)))] [(.int (v0 &&& (1048575 : Int32))), (.int (55296 : Int32)), (.int (Int32.ofNat i)), (.ref b)])) _
    refine XS.bipush X0.here hx rfl (hb hby dU_16) ?_
    show Steps p.tables e below (s₁.setTop (mkF m 18 #[.val (.ref b), .val (.int (Int32.ofNat i)), .val (.int v0), .val (.int (1 : Int32)), .val (.int (v0 &&& (1048575 : Int32)))] [(.int (10 : Int32)), (.int (v0 &&& (1048575 : Int32))), (.int (55296 : Int32)), (.int (Int32.ofNat i)), (.ref b)])) _
    refine XS.ishr X0.here hx rfl (hb hby dU_18) rfl ?_
    show Steps p.tables e below (s₁.setTop (mkF m 19 #[.val (.ref b), .val (.int (Int32.ofNat i)), .val (.int v0), .val (.int (1 : Int32)), .val (.int (v0 &&& (1048575 : Int32)))] [(.int ((v0 &&& (1048575 : Int32)) >>> ((10 : Int32) &&& 31))), (.int (55296 : Int32)), (.int (Int32.ofNat i)), (.ref b)])) _
    refine XS.iadd X0.here hx rfl (hb hby dU_19) rfl ?_
    show Steps p.tables e below (s₁.setTop (mkF m 20 #[.val (.ref b), .val (.int (Int32.ofNat i)), .val (.int v0), .val (.int (1 : Int32)), .val (.int (v0 &&& (1048575 : Int32)))] [(.int ((55296 : Int32) + ((v0 &&& (1048575 : Int32)) >>> ((10 : Int32) &&& 31)))), (.int (Int32.ofNat i)), (.ref b)])) _
    refine XS.i2c X0.here hx rfl (hb hby dU_20) rfl ?_
    show Steps p.tables e below (s₁.setTop (mkF m 21 #[.val (.ref b), .val (.int (Int32.ofNat i)), .val (.int v0), .val (.int (1 : Int32)), .val (.int (v0 &&& (1048575 : Int32)))] [(.int ((((55296 : Int32) + ((v0 &&& (1048575 : Int32)) >>> ((10 : Int32) &&& 31)))).toUInt32.toUInt16.toUInt32.toInt32)), (.int (Int32.ofNat i)), (.ref b)])) _
    rw [(own_c2c (own_hiS v0).1)]
    show Steps p.tables e below (s₁.setTop (mkF m 21 #[.val (.ref b), .val (.int (Int32.ofNat i)), .val (.int v0), .val (.int (1 : Int32)), .val (.int (v0 &&& (1048575 : Int32)))] [(.int ((55296 : Int32) + ((v0 &&& (1048575 : Int32)) >>> ((10 : Int32) &&& 31)))), (.int (Int32.ofNat i)), (.ref b)])) _
    exact kt
  obtain ⟨T8, h8, X8, e8, W8, st8⟩ := stC X0 hx hZ e0 Ab (j := (Int32.ofNat (i))) (own_inb Sb (by omega) (by omega)) (g := (mkF m 21 #[.val (.ref b), .val (.int (Int32.ofNat i)), .val (.int v0), .val (.int (1 : Int32)), .val (.int (v0 &&& (1048575 : Int32)))] [(.int ((55296 : Int32) + ((v0 &&& (1048575 : Int32)) >>> ((10 : Int32) &&& 31)))), (.int (Int32.ofNat i)), (.ref b)])) rfl rfl (hb hby dU_21)
  rw [own_narc (own_hiS v0).1] at W8
  have N8 := Fr.snoc X8 (Fr.nil n0) ge
  have F1 := own_setAt Ab Sb Hb W8 i (own_cl (by omega))
  obtain ⟨cu, Au, Su, Hu⟩ := id F1
  have sg2 : ∀ target, Steps p.tables e below (T8.setTop (mkF m 36 #[.val (.ref b), .val (.int (Int32.ofNat i)), .val (.int v0), .val (.int (1 : Int32)), .val (.int (v0 &&& (1048575 : Int32)))] [(.int ((56320 : Int32) + ((v0 &&& (1048575 : Int32)) &&& (1023 : Int32)))), (.int (Int32.ofNat (i + 1))), (.ref b)])) target → Steps p.tables e below (T8.setTop (mkF m 22 #[.val (.ref b), .val (.int (Int32.ofNat i)), .val (.int v0), .val (.int (1 : Int32)), .val (.int (v0 &&& (1048575 : Int32)))] [])) target := by
    intro target kt
    show Steps p.tables e below (T8.setTop (mkF m 22 #[.val (.ref b), .val (.int (Int32.ofNat i)), .val (.int v0), .val (.int (1 : Int32)), .val (.int (v0 &&& (1048575 : Int32)))] [])) _
    refine XS.aloadN X8.here hx rfl (hb hby dU_22) rfl rfl ?_
    show Steps p.tables e below (T8.setTop (mkF m 23 #[.val (.ref b), .val (.int (Int32.ofNat i)), .val (.int v0), .val (.int (1 : Int32)), .val (.int (v0 &&& (1048575 : Int32)))] [(.ref b)])) _
    refine XS.iloadN X8.here hx rfl (hb hby dU_23) rfl ?_
    show Steps p.tables e below (T8.setTop (mkF m 24 #[.val (.ref b), .val (.int (Int32.ofNat i)), .val (.int v0), .val (.int (1 : Int32)), .val (.int (v0 &&& (1048575 : Int32)))] [(.int (Int32.ofNat i)), (.ref b)])) _
    refine XS.iconst X8.here hx rfl (hb hby dU_24) ?_
    show Steps p.tables e below (T8.setTop (mkF m 25 #[.val (.ref b), .val (.int (Int32.ofNat i)), .val (.int v0), .val (.int (1 : Int32)), .val (.int (v0 &&& (1048575 : Int32)))] [(.int (1 : Int32)), (.int (Int32.ofNat i)), (.ref b)])) _
    refine XS.iadd X8.here hx rfl (hb hby dU_25) rfl ?_
    show Steps p.tables e below (T8.setTop (mkF m 26 #[.val (.ref b), .val (.int (Int32.ofNat i)), .val (.int v0), .val (.int (1 : Int32)), .val (.int (v0 &&& (1048575 : Int32)))] [(.int ((Int32.ofNat i) + (1 : Int32))), (.ref b)])) _
    refine X8.ldcInt hx hown (mvT hZ (hw _ (List.mem_of_getElem? (i := 9) rfl))) (g := (mkF m 26 #[.val (.ref b), .val (.int (Int32.ofNat i)), .val (.int v0), .val (.int (1 : Int32)), .val (.int (v0 &&& (1048575 : Int32)))] [(.int ((Int32.ofNat i) + (1 : Int32))), (.ref b)])) rfl (hb hby dU_26) _ ?_
    show Steps p.tables e below (T8.setTop (mkF m 28 #[.val (.ref b), .val (.int (Int32.ofNat i)), .val (.int v0), .val (.int (1 : Int32)), .val (.int (v0 &&& (1048575 : Int32)))] [(.int (56320 : Int32)), (.int ((Int32.ofNat i) + (1 : Int32))), (.ref b)])) _
    refine XS.iload X8.here hx rfl (hb hby dU_28) rfl ?_
    show Steps p.tables e below (T8.setTop (mkF m 30 #[.val (.ref b), .val (.int (Int32.ofNat i)), .val (.int v0), .val (.int (1 : Int32)), .val (.int (v0 &&& (1048575 : Int32)))] [(.int (v0 &&& (1048575 : Int32))), (.int (56320 : Int32)), (.int ((Int32.ofNat i) + (1 : Int32))), (.ref b)])) _
    refine XS.sipush X8.here hx rfl (hb hby dU_30) ?_
    show Steps p.tables e below (T8.setTop (mkF m 33 #[.val (.ref b), .val (.int (Int32.ofNat i)), .val (.int v0), .val (.int (1 : Int32)), .val (.int (v0 &&& (1048575 : Int32)))] [(.int (1023 : Int32)), (.int (v0 &&& (1048575 : Int32))), (.int (56320 : Int32)), (.int ((Int32.ofNat i) + (1 : Int32))), (.ref b)])) _
    refine XS.iand X8.here hx rfl (hb hby dU_33) rfl ?_
    show Steps p.tables e below (T8.setTop (mkF m 34 #[.val (.ref b), .val (.int (Int32.ofNat i)), .val (.int v0), .val (.int (1 : Int32)), .val (.int (v0 &&& (1048575 : Int32)))] [(.int ((v0 &&& (1048575 : Int32)) &&& (1023 : Int32))), (.int (56320 : Int32)), (.int ((Int32.ofNat i) + (1 : Int32))), (.ref b)])) _
    refine XS.iadd X8.here hx rfl (hb hby dU_34) rfl ?_
    show Steps p.tables e below (T8.setTop (mkF m 35 #[.val (.ref b), .val (.int (Int32.ofNat i)), .val (.int v0), .val (.int (1 : Int32)), .val (.int (v0 &&& (1048575 : Int32)))] [(.int ((56320 : Int32) + ((v0 &&& (1048575 : Int32)) &&& (1023 : Int32)))), (.int ((Int32.ofNat i) + (1 : Int32))), (.ref b)])) _
    refine XS.i2c X8.here hx rfl (hb hby dU_35) rfl ?_
    show Steps p.tables e below (T8.setTop (mkF m 36 #[.val (.ref b), .val (.int (Int32.ofNat i)), .val (.int v0), .val (.int (1 : Int32)), .val (.int (v0 &&& (1048575 : Int32)))] [(.int ((((56320 : Int32) + ((v0 &&& (1048575 : Int32)) &&& (1023 : Int32)))).toUInt32.toUInt16.toUInt32.toInt32)), (.int ((Int32.ofNat i) + (1 : Int32))), (.ref b)])) _
    rw [(own_one i)]
    show Steps p.tables e below (T8.setTop (mkF m 36 #[.val (.ref b), .val (.int (Int32.ofNat i)), .val (.int v0), .val (.int (1 : Int32)), .val (.int (v0 &&& (1048575 : Int32)))] [(.int ((((56320 : Int32) + ((v0 &&& (1048575 : Int32)) &&& (1023 : Int32)))).toUInt32.toUInt16.toUInt32.toInt32)), (.int (Int32.ofNat (i + 1))), (.ref b)])) _
    rw [(own_c2c (own_loS v0).1)]
    show Steps p.tables e below (T8.setTop (mkF m 36 #[.val (.ref b), .val (.int (Int32.ofNat i)), .val (.int v0), .val (.int (1 : Int32)), .val (.int (v0 &&& (1048575 : Int32)))] [(.int ((56320 : Int32) + ((v0 &&& (1048575 : Int32)) &&& (1023 : Int32)))), (.int (Int32.ofNat (i + 1))), (.ref b)])) _
    exact kt
  obtain ⟨T9, h9, X9, e9, W9, st9⟩ := stC X8 hx hZ e8 Au (j := (Int32.ofNat (i + 1))) (own_inb Su (by omega) (by omega)) (g := (mkF m 36 #[.val (.ref b), .val (.int (Int32.ofNat i)), .val (.int v0), .val (.int (1 : Int32)), .val (.int (v0 &&& (1048575 : Int32)))] [(.int ((56320 : Int32) + ((v0 &&& (1048575 : Int32)) &&& (1023 : Int32)))), (.int (Int32.ofNat (i + 1))), (.ref b)])) rfl rfl (hb hby dU_36)
  rw [own_narc (own_loS v0).1] at W9
  have N9 := Fr.snoc X9 (N8) ge
  have F2 := own_setAt Au Su Hu W9 (i + 1) (own_cl (by omega))
  have sg3 : ∀ target, Steps p.tables e below (T9.setTop (mkF m 73 #[.val (.ref b), .val (.int (Int32.ofNat i)), .val (.int v0), .val (.int (1 : Int32)), .val (.int (v0 &&& (1048575 : Int32)))] [])) target → Steps p.tables e below (T9.setTop (mkF m 37 #[.val (.ref b), .val (.int (Int32.ofNat i)), .val (.int v0), .val (.int (1 : Int32)), .val (.int (v0 &&& (1048575 : Int32)))] [])) target := by
    intro target kt
    show Steps p.tables e below (T9.setTop (mkF m 37 #[.val (.ref b), .val (.int (Int32.ofNat i)), .val (.int v0), .val (.int (1 : Int32)), .val (.int (v0 &&& (1048575 : Int32)))] [])) _
    refine XS.goto X9.here hx rfl (pc0 := 37) (pc' := 73) rfl (hb hby dU_37) (by decide) (by decide) ?_
    show Steps p.tables e below (T9.setTop (mkF m 73 #[.val (.ref b), .val (.int (Int32.ofNat i)), .val (.int v0), .val (.int (1 : Int32)), .val (.int (v0 &&& (1048575 : Int32)))] [])) _
    exact kt
  obtain ⟨fs, hr, hrun, hended, hW, hsame⟩ := X9.leave (v := none) (fun _ => rfl)
  refine ⟨_, _, castTop (efU m b (Int32.ofNat i) v0 1) ?_, hrun, hended, _, _, rfl, ?_, ⟨_, rfl⟩, hW, hsame.mono (by decide) (by decide)⟩
  · show Steps p.tables e below (s₁.setTop (mkF m 0 #[.val (.ref b), .val (.int (Int32.ofNat i)), .val (.int v0), .val (.int (1 : Int32)), .unset] [])) _
    refine sg1 _ ?_
    show Steps p.tables e below (s₁.setTop (mkF m 21 #[.val (.ref b), .val (.int (Int32.ofNat i)), .val (.int v0), .val (.int (1 : Int32)), .val (.int (v0 &&& (1048575 : Int32)))] [(.int ((55296 : Int32) + ((v0 &&& (1048575 : Int32)) >>> ((10 : Int32) &&& 31)))), (.int (Int32.ofNat i)), (.ref b)])) _
    refine st8 _ ?_
    show Steps p.tables e below (T8.setTop (mkF m 22 #[.val (.ref b), .val (.int (Int32.ofNat i)), .val (.int v0), .val (.int (1 : Int32)), .val (.int (v0 &&& (1048575 : Int32)))] [])) _
    refine sg2 _ ?_
    show Steps p.tables e below (T8.setTop (mkF m 36 #[.val (.ref b), .val (.int (Int32.ofNat i)), .val (.int v0), .val (.int (1 : Int32)), .val (.int (v0 &&& (1048575 : Int32)))] [(.int ((56320 : Int32) + ((v0 &&& (1048575 : Int32)) &&& (1023 : Int32)))), (.int (Int32.ofNat (i + 1))), (.ref b)])) _
    refine st9 _ ?_
    show Steps p.tables e below (T9.setTop (mkF m 37 #[.val (.ref b), .val (.int (Int32.ofNat i)), .val (.int v0), .val (.int (1 : Int32)), .val (.int (v0 &&& (1048575 : Int32)))] [])) _
    refine sg3 _ ?_
    show Steps p.tables e below (T9.setTop (mkF m 73 #[.val (.ref b), .val (.int (Int32.ofNat i)), .val (.int v0), .val (.int (1 : Int32)), .val (.int (v0 &&& (1048575 : Int32)))] [])) _
    exact X9.returnOut hx Bd.returns (hb hby dU_73) hr
  · show _
    exact by show own_QU Z b n _ n0 h0 none T9.heap _; rw [e9]; exact ⟨rfl, N9, ((Keep.refl _ _).wr W8 (Or.inl (List.mem_cons_self ..))).wr W9 (Or.inl (List.mem_cons_self ..)), _, ⟨_, _, (own_hiS v0).1, (own_loS v0).1, (own_hiS v0).2, (own_loS v0).2, rfl⟩, F2⟩
set_option maxRecDepth 65536 in
set_option maxHeartbeats 40000000 in
theorem rmU0 (l : Launch) (Z : State) (a0 : Array Value) (hw : ∀ d ∈ tables_1, d.before a0 Z = true) (b : Addr) (n i : Nat) (v0 : Int32) (f : Nat → Int32) (h0 : Heap) (n0 : Nat) (ge : n0 ≤ b) (hn : n ≤ 256) (Fb : own_AF Z h0 b .char n f) (hi : i < n) :
    MetFree l (⟨"com/example/seize/seize/LockLimitsCheckKeyPinLaw", "put", "([CIIZ)V"⟩ : MethodName) (head1 [Jvm.Cond.code (⟨"com/example/seize/seize/LockLimitsCheckKeyPinLaw", "put", "([CIIZ)V"⟩ : MethodName) method_2_code 5 none] ({ frames := 0, cells := 0, slots := 0, locals := 0 } : Room)) (fun q_ U => q_ = #[(.ref b), (.int (Int32.ofNat i)), (.int v0), (.int (0 : Int32))] ∧ Z.Warmed39 U.vm ∧ U.heap = h0) (fun _ _ _ _ _ => True) (fun _ U o U' => ∃ v L, o = .returned v ∧ own_QU Z b n (own_sg f i) n0 h0 v U'.heap L ∧ FrameEnd U o U' L ({ frames := 0, cells := 0, slots := 0, locals := 0 } : Room).cells ({ frames := 0, cells := 0, slots := 0, locals := 0 } : Room).slots) := by
  refine MetFree.of_bodySF (plainFor_of_name pn_L) hisR ?_
  intro p e s m args below meth c s₁ Bd hml0 hP hK
  obtain ⟨rfl, hZ, hh⟩ := hP
  have hx := Bd.exec
  have hby := Bd.bytes
  have hml : c.maxLocals = 5 := hml0
  have hown : s.vm.findClass "com/example/seize/seize/LockLimitsCheckKeyPinLaw" = some m.cls := findClass_of_methodNamed Bd.named
  have hnm := (name_of_methodNamed Bd.named Bd.method).1
  have X0 : Stand p l e ({ frames := 0, cells := 0, slots := 0, locals := 0 } : Room) s m #[(.ref b), (.int (Int32.ofNat i)), (.int v0), (.int (0 : Int32))] below meth c s₁ [] 0 0 := Stand.of_body Bd
  have e0 : s₁.heap = h0 := by rw [← hh, Bd.state]; rfl
  have hc : own_c16 (v0 &&& (65535 : Int32)) := by
    have a1 := c_mask v0 65535 16 (by decide) (by decide)
    unfold own_c16
    omega
  by_cases h1 : (v0 &&& (65535 : Int32)) < (55296 : Int32)
  · obtain ⟨cb, Ab, Sb, Hb⟩ := id Fb
    have sg1 : ∀ target, Steps p.tables e below (s₁.setTop (mkF m 72 #[.val (.ref b), .val (.int (Int32.ofNat i)), .val (.int v0), .val (.int (0 : Int32)), .val (.int (v0 &&& (65535 : Int32)))] [(.int (v0 &&& (65535 : Int32))), (.int (Int32.ofNat i)), (.ref b)])) target → Steps p.tables e below (s₁.setTop (mkF m 0 #[.val (.ref b), .val (.int (Int32.ofNat i)), .val (.int v0), .val (.int (0 : Int32)), .unset] [])) target := by
      intro target kt
      show Steps p.tables e below (s₁.setTop (mkF m 0 #[.val (.ref b), .val (.int (Int32.ofNat i)), .val (.int v0), .val (.int (0 : Int32)), .unset] [])) _
      refine XS.iloadN X0.here hx rfl (hb hby dU_0) rfl ?_
      show Steps p.tables e below (s₁.setTop (mkF m 1 #[.val (.ref b), .val (.int (Int32.ofNat i)), .val (.int v0), .val (.int (0 : Int32)), .unset] [(.int (0 : Int32))])) _
      refine XS.ifYes X0.here hx rfl (pc0 := 1) (pc' := 40) rfl (hb hby dU_1) rfl (by decide) (by decide) (by decide) ?_
      show Steps p.tables e below (s₁.setTop (mkF m 40 #[.val (.ref b), .val (.int (Int32.ofNat i)), .val (.int v0), .val (.int (0 : Int32)), .unset] [])) _
      refine XS.iloadN X0.here hx rfl (hb hby dU_40) rfl ?_
      show Steps p.tables e below (s₁.setTop (mkF m 41 #[.val (.ref b), .val (.int (Int32.ofNat i)), .val (.int v0), .val (.int (0 : Int32)), .unset] [(.int v0)])) _
      refine X0.ldcInt hx hown (mvT hZ (hw _ (List.mem_of_getElem? (i := 5) rfl))) (g := (mkF m 41 #[.val (.ref b), .val (.int (Int32.ofNat i)), .val (.int v0), .val (.int (0 : Int32)), .unset] [(.int v0)])) rfl (hb hby dU_41) _ ?_
      show Steps p.tables e below (s₁.setTop (mkF m 43 #[.val (.ref b), .val (.int (Int32.ofNat i)), .val (.int v0), .val (.int (0 : Int32)), .unset] [(.int (65535 : Int32)), (.int v0)])) _
      refine XS.iand X0.here hx rfl (hb hby dU_43) rfl ?_
      show Steps p.tables e below (s₁.setTop (mkF m 44 #[.val (.ref b), .val (.int (Int32.ofNat i)), .val (.int v0), .val (.int (0 : Int32)), .unset] [(.int (v0 &&& (65535 : Int32)))])) _
      refine XS.istore X0.here hx rfl (hb hby dU_44) rfl (l' := #[.val (.ref b), .val (.int (Int32.ofNat i)), .val (.int v0), .val (.int (0 : Int32)), .val (.int (v0 &&& (65535 : Int32)))]) rfl ?_
      show Steps p.tables e below (s₁.setTop (mkF m 46 #[.val (.ref b), .val (.int (Int32.ofNat i)), .val (.int v0), .val (.int (0 : Int32)), .val (.int (v0 &&& (65535 : Int32)))] [])) _
      refine XS.iload X0.here hx rfl (hb hby dU_46) rfl ?_
      show Steps p.tables e below (s₁.setTop (mkF m 48 #[.val (.ref b), .val (.int (Int32.ofNat i)), .val (.int v0), .val (.int (0 : Int32)), .val (.int (v0 &&& (65535 : Int32)))] [(.int (v0 &&& (65535 : Int32)))])) _
      refine X0.ldcInt hx hown (mvT hZ (hw _ (List.mem_of_getElem? (i := 6) rfl))) (g := (mkF m 48 #[.val (.ref b), .val (.int (Int32.ofNat i)), .val (.int v0), .val (.int (0 : Int32)), .val (.int (v0 &&& (65535 : Int32)))] [(.int (v0 &&& (65535 : Int32)))])) rfl (hb hby dU_48) _ ?_
      show Steps p.tables e below (s₁.setTop (mkF m 50 #[.val (.ref b), .val (.int (Int32.ofNat i)), .val (.int v0), .val (.int (0 : Int32)), .val (.int (v0 &&& (65535 : Int32)))] [(.int (55296 : Int32)), (.int (v0 &&& (65535 : Int32)))])) _
      refine XS.icmpYes X0.here hx rfl (pc0 := 50) (pc' := 67) rfl (hb hby dU_50) rfl (tlt h1).1 (by decide) (by decide) ?_
      show Steps p.tables e below (s₁.setTop (mkF m 67 #[.val (.ref b), .val (.int (Int32.ofNat i)), .val (.int v0), .val (.int (0 : Int32)), .val (.int (v0 &&& (65535 : Int32)))] [])) _
      refine XS.aloadN X0.here hx rfl (hb hby dU_67) rfl rfl ?_
      show Steps p.tables e below (s₁.setTop (mkF m 68 #[.val (.ref b), .val (.int (Int32.ofNat i)), .val (.int v0), .val (.int (0 : Int32)), .val (.int (v0 &&& (65535 : Int32)))] [(.ref b)])) _
      refine XS.iloadN X0.here hx rfl (hb hby dU_68) rfl ?_
      show Steps p.tables e below (s₁.setTop (mkF m 69 #[.val (.ref b), .val (.int (Int32.ofNat i)), .val (.int v0), .val (.int (0 : Int32)), .val (.int (v0 &&& (65535 : Int32)))] [(.int (Int32.ofNat i)), (.ref b)])) _
      refine XS.iload X0.here hx rfl (hb hby dU_69) rfl ?_
      show Steps p.tables e below (s₁.setTop (mkF m 71 #[.val (.ref b), .val (.int (Int32.ofNat i)), .val (.int v0), .val (.int (0 : Int32)), .val (.int (v0 &&& (65535 : Int32)))] [(.int (v0 &&& (65535 : Int32))), (.int (Int32.ofNat i)), (.ref b)])) _
      refine XS.i2c X0.here hx rfl (hb hby dU_71) rfl ?_
      show Steps p.tables e below (s₁.setTop (mkF m 72 #[.val (.ref b), .val (.int (Int32.ofNat i)), .val (.int v0), .val (.int (0 : Int32)), .val (.int (v0 &&& (65535 : Int32)))] [(.int (((v0 &&& (65535 : Int32))).toUInt32.toUInt16.toUInt32.toInt32)), (.int (Int32.ofNat i)), (.ref b)])) _
      rw [(own_c2c hc)]
      show Steps p.tables e below (s₁.setTop (mkF m 72 #[.val (.ref b), .val (.int (Int32.ofNat i)), .val (.int v0), .val (.int (0 : Int32)), .val (.int (v0 &&& (65535 : Int32)))] [(.int (v0 &&& (65535 : Int32))), (.int (Int32.ofNat i)), (.ref b)])) _
      exact kt
    obtain ⟨T8, h8, X8, e8, W8, st8⟩ := stC X0 hx hZ e0 Ab (j := (Int32.ofNat (i))) (own_inb Sb (by omega) (by omega)) (g := (mkF m 72 #[.val (.ref b), .val (.int (Int32.ofNat i)), .val (.int v0), .val (.int (0 : Int32)), .val (.int (v0 &&& (65535 : Int32)))] [(.int (v0 &&& (65535 : Int32))), (.int (Int32.ofNat i)), (.ref b)])) rfl rfl (hb hby dU_72)
    rw [own_narc hc] at W8
    have N8 := Fr.snoc X8 (Fr.nil n0) ge
    have F1 := own_setAt Ab Sb Hb W8 i (own_cl (by omega))
    obtain ⟨fs, hr, hrun, hended, hW, hsame⟩ := X8.leave (v := none) (fun _ => rfl)
    refine ⟨_, _, castTop (efU m b (Int32.ofNat i) v0 0) ?_, hrun, hended, _, _, rfl, ?_, ⟨_, rfl⟩, hW, hsame.mono (by decide) (by decide)⟩
    · show Steps p.tables e below (s₁.setTop (mkF m 0 #[.val (.ref b), .val (.int (Int32.ofNat i)), .val (.int v0), .val (.int (0 : Int32)), .unset] [])) _
      refine sg1 _ ?_
      show Steps p.tables e below (s₁.setTop (mkF m 72 #[.val (.ref b), .val (.int (Int32.ofNat i)), .val (.int v0), .val (.int (0 : Int32)), .val (.int (v0 &&& (65535 : Int32)))] [(.int (v0 &&& (65535 : Int32))), (.int (Int32.ofNat i)), (.ref b)])) _
      refine st8 _ ?_
      show Steps p.tables e below (T8.setTop (mkF m 73 #[.val (.ref b), .val (.int (Int32.ofNat i)), .val (.int v0), .val (.int (0 : Int32)), .val (.int (v0 &&& (65535 : Int32)))] [])) _
      exact X8.returnOut hx Bd.returns (hb hby dU_73) hr
    · show _
      exact by show own_QU Z b n _ n0 h0 none T8.heap _; rw [e8]; exact ⟨rfl, N8, (Keep.refl _ _).wr W8 (Or.inl (List.mem_cons_self ..)), _, ⟨_, hc, Or.inl h1, rfl⟩, F1⟩
  by_cases h2 : (57343 : Int32) < (v0 &&& (65535 : Int32))
  · obtain ⟨cb, Ab, Sb, Hb⟩ := id Fb
    have sg1 : ∀ target, Steps p.tables e below (s₁.setTop (mkF m 72 #[.val (.ref b), .val (.int (Int32.ofNat i)), .val (.int v0), .val (.int (0 : Int32)), .val (.int (v0 &&& (65535 : Int32)))] [(.int (v0 &&& (65535 : Int32))), (.int (Int32.ofNat i)), (.ref b)])) target → Steps p.tables e below (s₁.setTop (mkF m 0 #[.val (.ref b), .val (.int (Int32.ofNat i)), .val (.int v0), .val (.int (0 : Int32)), .unset] [])) target := by
      intro target kt
      show Steps p.tables e below (s₁.setTop (mkF m 0 #[.val (.ref b), .val (.int (Int32.ofNat i)), .val (.int v0), .val (.int (0 : Int32)), .unset] [])) _
      refine XS.iloadN X0.here hx rfl (hb hby dU_0) rfl ?_
      show Steps p.tables e below (s₁.setTop (mkF m 1 #[.val (.ref b), .val (.int (Int32.ofNat i)), .val (.int v0), .val (.int (0 : Int32)), .unset] [(.int (0 : Int32))])) _
      refine XS.ifYes X0.here hx rfl (pc0 := 1) (pc' := 40) rfl (hb hby dU_1) rfl (by decide) (by decide) (by decide) ?_
      show Steps p.tables e below (s₁.setTop (mkF m 40 #[.val (.ref b), .val (.int (Int32.ofNat i)), .val (.int v0), .val (.int (0 : Int32)), .unset] [])) _
      refine XS.iloadN X0.here hx rfl (hb hby dU_40) rfl ?_
      show Steps p.tables e below (s₁.setTop (mkF m 41 #[.val (.ref b), .val (.int (Int32.ofNat i)), .val (.int v0), .val (.int (0 : Int32)), .unset] [(.int v0)])) _
      refine X0.ldcInt hx hown (mvT hZ (hw _ (List.mem_of_getElem? (i := 5) rfl))) (g := (mkF m 41 #[.val (.ref b), .val (.int (Int32.ofNat i)), .val (.int v0), .val (.int (0 : Int32)), .unset] [(.int v0)])) rfl (hb hby dU_41) _ ?_
      show Steps p.tables e below (s₁.setTop (mkF m 43 #[.val (.ref b), .val (.int (Int32.ofNat i)), .val (.int v0), .val (.int (0 : Int32)), .unset] [(.int (65535 : Int32)), (.int v0)])) _
      refine XS.iand X0.here hx rfl (hb hby dU_43) rfl ?_
      show Steps p.tables e below (s₁.setTop (mkF m 44 #[.val (.ref b), .val (.int (Int32.ofNat i)), .val (.int v0), .val (.int (0 : Int32)), .unset] [(.int (v0 &&& (65535 : Int32)))])) _
      refine XS.istore X0.here hx rfl (hb hby dU_44) rfl (l' := #[.val (.ref b), .val (.int (Int32.ofNat i)), .val (.int v0), .val (.int (0 : Int32)), .val (.int (v0 &&& (65535 : Int32)))]) rfl ?_
      show Steps p.tables e below (s₁.setTop (mkF m 46 #[.val (.ref b), .val (.int (Int32.ofNat i)), .val (.int v0), .val (.int (0 : Int32)), .val (.int (v0 &&& (65535 : Int32)))] [])) _
      refine XS.iload X0.here hx rfl (hb hby dU_46) rfl ?_
      show Steps p.tables e below (s₁.setTop (mkF m 48 #[.val (.ref b), .val (.int (Int32.ofNat i)), .val (.int v0), .val (.int (0 : Int32)), .val (.int (v0 &&& (65535 : Int32)))] [(.int (v0 &&& (65535 : Int32)))])) _
      refine X0.ldcInt hx hown (mvT hZ (hw _ (List.mem_of_getElem? (i := 6) rfl))) (g := (mkF m 48 #[.val (.ref b), .val (.int (Int32.ofNat i)), .val (.int v0), .val (.int (0 : Int32)), .val (.int (v0 &&& (65535 : Int32)))] [(.int (v0 &&& (65535 : Int32)))])) rfl (hb hby dU_48) _ ?_
      show Steps p.tables e below (s₁.setTop (mkF m 50 #[.val (.ref b), .val (.int (Int32.ofNat i)), .val (.int v0), .val (.int (0 : Int32)), .val (.int (v0 &&& (65535 : Int32)))] [(.int (55296 : Int32)), (.int (v0 &&& (65535 : Int32)))])) _
      refine XS.icmpNo X0.here hx rfl (hb hby dU_50) rfl (flt h1).1 ?_
      show Steps p.tables e below (s₁.setTop (mkF m 53 #[.val (.ref b), .val (.int (Int32.ofNat i)), .val (.int v0), .val (.int (0 : Int32)), .val (.int (v0 &&& (65535 : Int32)))] [])) _
      refine XS.iload X0.here hx rfl (hb hby dU_53) rfl ?_
      show Steps p.tables e below (s₁.setTop (mkF m 55 #[.val (.ref b), .val (.int (Int32.ofNat i)), .val (.int v0), .val (.int (0 : Int32)), .val (.int (v0 &&& (65535 : Int32)))] [(.int (v0 &&& (65535 : Int32)))])) _
      refine X0.ldcInt hx hown (mvT hZ (hw _ (List.mem_of_getElem? (i := 128) rfl))) (g := (mkF m 55 #[.val (.ref b), .val (.int (Int32.ofNat i)), .val (.int v0), .val (.int (0 : Int32)), .val (.int (v0 &&& (65535 : Int32)))] [(.int (v0 &&& (65535 : Int32)))])) rfl (hb hby dU_55) _ ?_
      show Steps p.tables e below (s₁.setTop (mkF m 57 #[.val (.ref b), .val (.int (Int32.ofNat i)), .val (.int v0), .val (.int (0 : Int32)), .val (.int (v0 &&& (65535 : Int32)))] [(.int (57343 : Int32)), (.int (v0 &&& (65535 : Int32)))])) _
      refine XS.icmpYes X0.here hx rfl (pc0 := 57) (pc' := 67) rfl (hb hby dU_57) rfl (tlt h2).2.2.1 (by decide) (by decide) ?_
      show Steps p.tables e below (s₁.setTop (mkF m 67 #[.val (.ref b), .val (.int (Int32.ofNat i)), .val (.int v0), .val (.int (0 : Int32)), .val (.int (v0 &&& (65535 : Int32)))] [])) _
      refine XS.aloadN X0.here hx rfl (hb hby dU_67) rfl rfl ?_
      show Steps p.tables e below (s₁.setTop (mkF m 68 #[.val (.ref b), .val (.int (Int32.ofNat i)), .val (.int v0), .val (.int (0 : Int32)), .val (.int (v0 &&& (65535 : Int32)))] [(.ref b)])) _
      refine XS.iloadN X0.here hx rfl (hb hby dU_68) rfl ?_
      show Steps p.tables e below (s₁.setTop (mkF m 69 #[.val (.ref b), .val (.int (Int32.ofNat i)), .val (.int v0), .val (.int (0 : Int32)), .val (.int (v0 &&& (65535 : Int32)))] [(.int (Int32.ofNat i)), (.ref b)])) _
      refine XS.iload X0.here hx rfl (hb hby dU_69) rfl ?_
      show Steps p.tables e below (s₁.setTop (mkF m 71 #[.val (.ref b), .val (.int (Int32.ofNat i)), .val (.int v0), .val (.int (0 : Int32)), .val (.int (v0 &&& (65535 : Int32)))] [(.int (v0 &&& (65535 : Int32))), (.int (Int32.ofNat i)), (.ref b)])) _
      refine XS.i2c X0.here hx rfl (hb hby dU_71) rfl ?_
      show Steps p.tables e below (s₁.setTop (mkF m 72 #[.val (.ref b), .val (.int (Int32.ofNat i)), .val (.int v0), .val (.int (0 : Int32)), .val (.int (v0 &&& (65535 : Int32)))] [(.int (((v0 &&& (65535 : Int32))).toUInt32.toUInt16.toUInt32.toInt32)), (.int (Int32.ofNat i)), (.ref b)])) _
      rw [(own_c2c hc)]
      show Steps p.tables e below (s₁.setTop (mkF m 72 #[.val (.ref b), .val (.int (Int32.ofNat i)), .val (.int v0), .val (.int (0 : Int32)), .val (.int (v0 &&& (65535 : Int32)))] [(.int (v0 &&& (65535 : Int32))), (.int (Int32.ofNat i)), (.ref b)])) _
      exact kt
    obtain ⟨T8, h8, X8, e8, W8, st8⟩ := stC X0 hx hZ e0 Ab (j := (Int32.ofNat (i))) (own_inb Sb (by omega) (by omega)) (g := (mkF m 72 #[.val (.ref b), .val (.int (Int32.ofNat i)), .val (.int v0), .val (.int (0 : Int32)), .val (.int (v0 &&& (65535 : Int32)))] [(.int (v0 &&& (65535 : Int32))), (.int (Int32.ofNat i)), (.ref b)])) rfl rfl (hb hby dU_72)
    rw [own_narc hc] at W8
    have N8 := Fr.snoc X8 (Fr.nil n0) ge
    have F1 := own_setAt Ab Sb Hb W8 i (own_cl (by omega))
    obtain ⟨fs, hr, hrun, hended, hW, hsame⟩ := X8.leave (v := none) (fun _ => rfl)
    refine ⟨_, _, castTop (efU m b (Int32.ofNat i) v0 0) ?_, hrun, hended, _, _, rfl, ?_, ⟨_, rfl⟩, hW, hsame.mono (by decide) (by decide)⟩
    · show Steps p.tables e below (s₁.setTop (mkF m 0 #[.val (.ref b), .val (.int (Int32.ofNat i)), .val (.int v0), .val (.int (0 : Int32)), .unset] [])) _
      refine sg1 _ ?_
      show Steps p.tables e below (s₁.setTop (mkF m 72 #[.val (.ref b), .val (.int (Int32.ofNat i)), .val (.int v0), .val (.int (0 : Int32)), .val (.int (v0 &&& (65535 : Int32)))] [(.int (v0 &&& (65535 : Int32))), (.int (Int32.ofNat i)), (.ref b)])) _
      refine st8 _ ?_
      show Steps p.tables e below (T8.setTop (mkF m 73 #[.val (.ref b), .val (.int (Int32.ofNat i)), .val (.int v0), .val (.int (0 : Int32)), .val (.int (v0 &&& (65535 : Int32)))] [])) _
      exact X8.returnOut hx Bd.returns (hb hby dU_73) hr
    · show _
      exact by show own_QU Z b n _ n0 h0 none T8.heap _; rw [e8]; exact ⟨rfl, N8, (Keep.refl _ _).wr W8 (Or.inl (List.mem_cons_self ..)), _, ⟨_, hc, Or.inr h2, rfl⟩, F1⟩
  · obtain ⟨cb, Ab, Sb, Hb⟩ := id Fb
    have hx1 := own_xor h1 h2
    have hc2 : own_c16 ((v0 &&& (65535 : Int32)) ^^^ (32768 : Int32)) := ⟨hx1.1, by omega⟩
    have sg1 : ∀ target, Steps p.tables e below (s₁.setTop (mkF m 72 #[.val (.ref b), .val (.int (Int32.ofNat i)), .val (.int v0), .val (.int (0 : Int32)), .val (.int ((v0 &&& (65535 : Int32)) ^^^ (32768 : Int32)))] [(.int ((v0 &&& (65535 : Int32)) ^^^ (32768 : Int32))), (.int (Int32.ofNat i)), (.ref b)])) target → Steps p.tables e below (s₁.setTop (mkF m 0 #[.val (.ref b), .val (.int (Int32.ofNat i)), .val (.int v0), .val (.int (0 : Int32)), .unset] [])) target := by
      intro target kt
      show Steps p.tables e below (s₁.setTop (mkF m 0 #[.val (.ref b), .val (.int (Int32.ofNat i)), .val (.int v0), .val (.int (0 : Int32)), .unset] [])) _
      refine XS.iloadN X0.here hx rfl (hb hby dU_0) rfl ?_
      show Steps p.tables e below (s₁.setTop (mkF m 1 #[.val (.ref b), .val (.int (Int32.ofNat i)), .val (.int v0), .val (.int (0 : Int32)), .unset] [(.int (0 : Int32))])) _
      refine XS.ifYes X0.here hx rfl (pc0 := 1) (pc' := 40) rfl (hb hby dU_1) rfl (by decide) (by decide) (by decide) ?_
      show Steps p.tables e below (s₁.setTop (mkF m 40 #[.val (.ref b), .val (.int (Int32.ofNat i)), .val (.int v0), .val (.int (0 : Int32)), .unset] [])) _
      refine XS.iloadN X0.here hx rfl (hb hby dU_40) rfl ?_
      show Steps p.tables e below (s₁.setTop (mkF m 41 #[.val (.ref b), .val (.int (Int32.ofNat i)), .val (.int v0), .val (.int (0 : Int32)), .unset] [(.int v0)])) _
      refine X0.ldcInt hx hown (mvT hZ (hw _ (List.mem_of_getElem? (i := 5) rfl))) (g := (mkF m 41 #[.val (.ref b), .val (.int (Int32.ofNat i)), .val (.int v0), .val (.int (0 : Int32)), .unset] [(.int v0)])) rfl (hb hby dU_41) _ ?_
      show Steps p.tables e below (s₁.setTop (mkF m 43 #[.val (.ref b), .val (.int (Int32.ofNat i)), .val (.int v0), .val (.int (0 : Int32)), .unset] [(.int (65535 : Int32)), (.int v0)])) _
      refine XS.iand X0.here hx rfl (hb hby dU_43) rfl ?_
      show Steps p.tables e below (s₁.setTop (mkF m 44 #[.val (.ref b), .val (.int (Int32.ofNat i)), .val (.int v0), .val (.int (0 : Int32)), .unset] [(.int (v0 &&& (65535 : Int32)))])) _
      refine XS.istore X0.here hx rfl (hb hby dU_44) rfl (l' := #[.val (.ref b), .val (.int (Int32.ofNat i)), .val (.int v0), .val (.int (0 : Int32)), .val (.int (v0 &&& (65535 : Int32)))]) rfl ?_
      show Steps p.tables e below (s₁.setTop (mkF m 46 #[.val (.ref b), .val (.int (Int32.ofNat i)), .val (.int v0), .val (.int (0 : Int32)), .val (.int (v0 &&& (65535 : Int32)))] [])) _
      refine XS.iload X0.here hx rfl (hb hby dU_46) rfl ?_
      show Steps p.tables e below (s₁.setTop (mkF m 48 #[.val (.ref b), .val (.int (Int32.ofNat i)), .val (.int v0), .val (.int (0 : Int32)), .val (.int (v0 &&& (65535 : Int32)))] [(.int (v0 &&& (65535 : Int32)))])) _
      refine X0.ldcInt hx hown (mvT hZ (hw _ (List.mem_of_getElem? (i := 6) rfl))) (g := (mkF m 48 #[.val (.ref b), .val (.int (Int32.ofNat i)), .val (.int v0), .val (.int (0 : Int32)), .val (.int (v0 &&& (65535 : Int32)))] [(.int (v0 &&& (65535 : Int32)))])) rfl (hb hby dU_48) _ ?_
      show Steps p.tables e below (s₁.setTop (mkF m 50 #[.val (.ref b), .val (.int (Int32.ofNat i)), .val (.int v0), .val (.int (0 : Int32)), .val (.int (v0 &&& (65535 : Int32)))] [(.int (55296 : Int32)), (.int (v0 &&& (65535 : Int32)))])) _
      refine XS.icmpNo X0.here hx rfl (hb hby dU_50) rfl (flt h1).1 ?_
      show Steps p.tables e below (s₁.setTop (mkF m 53 #[.val (.ref b), .val (.int (Int32.ofNat i)), .val (.int v0), .val (.int (0 : Int32)), .val (.int (v0 &&& (65535 : Int32)))] [])) _
      refine XS.iload X0.here hx rfl (hb hby dU_53) rfl ?_
      show Steps p.tables e below (s₁.setTop (mkF m 55 #[.val (.ref b), .val (.int (Int32.ofNat i)), .val (.int v0), .val (.int (0 : Int32)), .val (.int (v0 &&& (65535 : Int32)))] [(.int (v0 &&& (65535 : Int32)))])) _
      refine X0.ldcInt hx hown (mvT hZ (hw _ (List.mem_of_getElem? (i := 128) rfl))) (g := (mkF m 55 #[.val (.ref b), .val (.int (Int32.ofNat i)), .val (.int v0), .val (.int (0 : Int32)), .val (.int (v0 &&& (65535 : Int32)))] [(.int (v0 &&& (65535 : Int32)))])) rfl (hb hby dU_55) _ ?_
      show Steps p.tables e below (s₁.setTop (mkF m 57 #[.val (.ref b), .val (.int (Int32.ofNat i)), .val (.int v0), .val (.int (0 : Int32)), .val (.int (v0 &&& (65535 : Int32)))] [(.int (57343 : Int32)), (.int (v0 &&& (65535 : Int32)))])) _
      refine XS.icmpNo X0.here hx rfl (hb hby dU_57) rfl (flt h2).2.2.1 ?_
      show Steps p.tables e below (s₁.setTop (mkF m 60 #[.val (.ref b), .val (.int (Int32.ofNat i)), .val (.int v0), .val (.int (0 : Int32)), .val (.int (v0 &&& (65535 : Int32)))] [])) _
      refine XS.iload X0.here hx rfl (hb hby dU_60) rfl ?_
      show Steps p.tables e below (s₁.setTop (mkF m 62 #[.val (.ref b), .val (.int (Int32.ofNat i)), .val (.int v0), .val (.int (0 : Int32)), .val (.int (v0 &&& (65535 : Int32)))] [(.int (v0 &&& (65535 : Int32)))])) _
      refine X0.ldcInt hx hown (mvT hZ (hw _ (List.mem_of_getElem? (i := 129) rfl))) (g := (mkF m 62 #[.val (.ref b), .val (.int (Int32.ofNat i)), .val (.int v0), .val (.int (0 : Int32)), .val (.int (v0 &&& (65535 : Int32)))] [(.int (v0 &&& (65535 : Int32)))])) rfl (hb hby dU_62) _ ?_
      show Steps p.tables e below (s₁.setTop (mkF m 64 #[.val (.ref b), .val (.int (Int32.ofNat i)), .val (.int v0), .val (.int (0 : Int32)), .val (.int (v0 &&& (65535 : Int32)))] [(.int (32768 : Int32)), (.int (v0 &&& (65535 : Int32)))])) _
      refine XS.ixor X0.here hx rfl (hb hby dU_64) rfl ?_
      show Steps p.tables e below (s₁.setTop (mkF m 65 #[.val (.ref b), .val (.int (Int32.ofNat i)), .val (.int v0), .val (.int (0 : Int32)), .val (.int (v0 &&& (65535 : Int32)))] [(.int ((v0 &&& (65535 : Int32)) ^^^ (32768 : Int32)))])) _
      refine XS.istore X0.here hx rfl (hb hby dU_65) rfl (l' := #[.val (.ref b), .val (.int (Int32.ofNat i)), .val (.int v0), .val (.int (0 : Int32)), .val (.int ((v0 &&& (65535 : Int32)) ^^^ (32768 : Int32)))]) rfl ?_
      show Steps p.tables e below (s₁.setTop (mkF m 67 #[.val (.ref b), .val (.int (Int32.ofNat i)), .val (.int v0), .val (.int (0 : Int32)), .val (.int ((v0 &&& (65535 : Int32)) ^^^ (32768 : Int32)))] [])) _
      refine XS.aloadN X0.here hx rfl (hb hby dU_67) rfl rfl ?_
      show Steps p.tables e below (s₁.setTop (mkF m 68 #[.val (.ref b), .val (.int (Int32.ofNat i)), .val (.int v0), .val (.int (0 : Int32)), .val (.int ((v0 &&& (65535 : Int32)) ^^^ (32768 : Int32)))] [(.ref b)])) _
      refine XS.iloadN X0.here hx rfl (hb hby dU_68) rfl ?_
      show Steps p.tables e below (s₁.setTop (mkF m 69 #[.val (.ref b), .val (.int (Int32.ofNat i)), .val (.int v0), .val (.int (0 : Int32)), .val (.int ((v0 &&& (65535 : Int32)) ^^^ (32768 : Int32)))] [(.int (Int32.ofNat i)), (.ref b)])) _
      refine XS.iload X0.here hx rfl (hb hby dU_69) rfl ?_
      show Steps p.tables e below (s₁.setTop (mkF m 71 #[.val (.ref b), .val (.int (Int32.ofNat i)), .val (.int v0), .val (.int (0 : Int32)), .val (.int ((v0 &&& (65535 : Int32)) ^^^ (32768 : Int32)))] [(.int ((v0 &&& (65535 : Int32)) ^^^ (32768 : Int32))), (.int (Int32.ofNat i)), (.ref b)])) _
      refine XS.i2c X0.here hx rfl (hb hby dU_71) rfl ?_
      show Steps p.tables e below (s₁.setTop (mkF m 72 #[.val (.ref b), .val (.int (Int32.ofNat i)), .val (.int v0), .val (.int (0 : Int32)), .val (.int ((v0 &&& (65535 : Int32)) ^^^ (32768 : Int32)))] [(.int ((((v0 &&& (65535 : Int32)) ^^^ (32768 : Int32))).toUInt32.toUInt16.toUInt32.toInt32)), (.int (Int32.ofNat i)), (.ref b)])) _
      rw [(own_c2c hc2)]
      show Steps p.tables e below (s₁.setTop (mkF m 72 #[.val (.ref b), .val (.int (Int32.ofNat i)), .val (.int v0), .val (.int (0 : Int32)), .val (.int ((v0 &&& (65535 : Int32)) ^^^ (32768 : Int32)))] [(.int ((v0 &&& (65535 : Int32)) ^^^ (32768 : Int32))), (.int (Int32.ofNat i)), (.ref b)])) _
      exact kt
    obtain ⟨T8, h8, X8, e8, W8, st8⟩ := stC X0 hx hZ e0 Ab (j := (Int32.ofNat (i))) (own_inb Sb (by omega) (by omega)) (g := (mkF m 72 #[.val (.ref b), .val (.int (Int32.ofNat i)), .val (.int v0), .val (.int (0 : Int32)), .val (.int ((v0 &&& (65535 : Int32)) ^^^ (32768 : Int32)))] [(.int ((v0 &&& (65535 : Int32)) ^^^ (32768 : Int32))), (.int (Int32.ofNat i)), (.ref b)])) rfl rfl (hb hby dU_72)
    rw [own_narc hc2] at W8
    have N8 := Fr.snoc X8 (Fr.nil n0) ge
    have F1 := own_setAt Ab Sb Hb W8 i (own_cl (by omega))
    obtain ⟨fs, hr, hrun, hended, hW, hsame⟩ := X8.leave (v := none) (fun _ => rfl)
    refine ⟨_, _, castTop (efU m b (Int32.ofNat i) v0 0) ?_, hrun, hended, _, _, rfl, ?_, ⟨_, rfl⟩, hW, hsame.mono (by decide) (by decide)⟩
    · show Steps p.tables e below (s₁.setTop (mkF m 0 #[.val (.ref b), .val (.int (Int32.ofNat i)), .val (.int v0), .val (.int (0 : Int32)), .unset] [])) _
      refine sg1 _ ?_
      show Steps p.tables e below (s₁.setTop (mkF m 72 #[.val (.ref b), .val (.int (Int32.ofNat i)), .val (.int v0), .val (.int (0 : Int32)), .val (.int ((v0 &&& (65535 : Int32)) ^^^ (32768 : Int32)))] [(.int ((v0 &&& (65535 : Int32)) ^^^ (32768 : Int32))), (.int (Int32.ofNat i)), (.ref b)])) _
      refine st8 _ ?_
      show Steps p.tables e below (T8.setTop (mkF m 73 #[.val (.ref b), .val (.int (Int32.ofNat i)), .val (.int v0), .val (.int (0 : Int32)), .val (.int ((v0 &&& (65535 : Int32)) ^^^ (32768 : Int32)))] [])) _
      exact X8.returnOut hx Bd.returns (hb hby dU_73) hr
    · show _
      exact by show own_QU Z b n _ n0 h0 none T8.heap _; rw [e8]; exact ⟨rfl, N8, (Keep.refl _ _).wr W8 (Or.inl (List.mem_cons_self ..)), _, ⟨_, hc2, Or.inl (by rw [Int32.lt_iff_toInt_lt, show (55296 : Int32).toInt = 55296 from rfl]; exact hx1.2), rfl⟩, F1⟩
theorem ef_0 (m : MethodId) (x0 : Int32) (x1 : Int32) (x2 : Int32) (x3 : Int32) (x4 : Int32) : entryFrame m #[(.int x0), (.int x1), (.int x2), (.int x3), (.int x4)] maxLocals = mkF m 0 #[.val (.int x0), .val (.int x1), .val (.int x2), .val (.int x3), .val (.int x4), .unset, .unset, .unset, .unset, .unset, .unset, .unset, .unset, .unset, .unset, .unset] [] := by first | (simp [entryFrame, mkF, argsToLocals, Value.category, maxLocals]; done) | rfl
set_option maxRecDepth 65536 in
set_option maxHeartbeats 40000000 in
theorem own_P1 {p : Program} {l : Launch} {e : Env} {s : State} {m : MethodId} {args : Array Value} {below : List Frame} {meth : Method} {c : Code} {T0 : State} {locs : List Loc} {cells slots : Nat} {Z : State} {a0 : Array Value} (p1 p2 p3 p4 p5 : Int32) (X0 : Stand p l e room_1 s m args below meth c T0 locs cells slots) (hx : p.tables.exec = Jvm.exec) (hZ : Z.Warmed39 s.vm) (hw : ∀ d ∈ tables_1, d.before a0 Z = true) (hby : c.code = code) (hml : c.maxLocals = 16) (hown : s.vm.findClass "com/example/seize/seize/LockLimitsCheckKeyPinLaw" = some m.cls) :
    ∃ (b5 b6 b7 : Int32) (L0 L1 : Nat), ((b6 = 0 ∧ L0 = 1 ∨ b6 = 1 ∧ L0 = 2) ∧ (b5 = 0 ∧ L1 = 0 ∨ b5 = 1 ∧ b7 = 0 ∧ L1 = 1 ∨ b5 = 1 ∧ b7 = 1 ∧ L1 = 2)) ∧ ∀ target, Steps p.tables e below (T0.setTop (mkF m 75 #[.val (.int p1), .val (.int p2), .val (.int p3), .val (.int p4), .val (.int p5), .val (.int b5), .val (.int b6), .val (.int b7), .val (.int (Int32.ofNat L0)), .val (.int (Int32.ofNat L1)), .unset, .unset, .unset, .unset, .unset, .unset] [])) target → Steps p.tables e below (T0.setTop (mkF m 0 #[.val (.int p1), .val (.int p2), .val (.int p3), .val (.int p4), .val (.int p5), .unset, .unset, .unset, .unset, .unset, .unset, .unset, .unset, .unset, .unset, .unset] [])) target := by
  by_cases c5 : (p5 &&& (1 : Int32)) = 0 <;> by_cases c6 : (p5 &&& (2 : Int32)) = 0 <;> by_cases c7 : (p5 &&& (4 : Int32)) = 0
  · refine ⟨0, 0, 0, 1, 0, ⟨Or.inl ⟨rfl, rfl⟩, Or.inl ⟨rfl, rfl⟩⟩, fun target kt => ?_⟩
    show Steps p.tables e below (T0.setTop (mkF m 0 #[.val (.int p1), .val (.int p2), .val (.int p3), .val (.int p4), .val (.int p5), .unset, .unset, .unset, .unset, .unset, .unset, .unset, .unset, .unset, .unset, .unset] [])) _
    refine XS.iload X0.here hx rfl (hb hby at_0) rfl ?_
    show Steps p.tables e below (T0.setTop (mkF m 2 #[.val (.int p1), .val (.int p2), .val (.int p3), .val (.int p4), .val (.int p5), .unset, .unset, .unset, .unset, .unset, .unset, .unset, .unset, .unset, .unset, .unset] [(.int p5)])) _
    refine XS.iconst X0.here hx rfl (hb hby at_2) ?_
    show Steps p.tables e below (T0.setTop (mkF m 3 #[.val (.int p1), .val (.int p2), .val (.int p3), .val (.int p4), .val (.int p5), .unset, .unset, .unset, .unset, .unset, .unset, .unset, .unset, .unset, .unset, .unset] [(.int (1 : Int32)), (.int p5)])) _
    refine XS.iand X0.here hx rfl (hb hby at_3) rfl ?_
    show Steps p.tables e below (T0.setTop (mkF m 4 #[.val (.int p1), .val (.int p2), .val (.int p3), .val (.int p4), .val (.int p5), .unset, .unset, .unset, .unset, .unset, .unset, .unset, .unset, .unset, .unset, .unset] [(.int (p5 &&& (1 : Int32)))])) _
    refine XS.ifYes X0.here hx rfl (pc0 := 4) (pc' := 11) rfl (hb hby at_4) rfl (by rw [if0]; exact (teq c5).1) (by decide) (by decide) ?_
    show Steps p.tables e below (T0.setTop (mkF m 11 #[.val (.int p1), .val (.int p2), .val (.int p3), .val (.int p4), .val (.int p5), .unset, .unset, .unset, .unset, .unset, .unset, .unset, .unset, .unset, .unset, .unset] [])) _
    refine XS.iconst X0.here hx rfl (hb hby at_11) ?_
    show Steps p.tables e below (T0.setTop (mkF m 12 #[.val (.int p1), .val (.int p2), .val (.int p3), .val (.int p4), .val (.int p5), .unset, .unset, .unset, .unset, .unset, .unset, .unset, .unset, .unset, .unset, .unset] [(.int (0 : Int32))])) _
    refine XS.istore X0.here hx rfl (hb hby at_12) rfl (l' := #[.val (.int p1), .val (.int p2), .val (.int p3), .val (.int p4), .val (.int p5), .val (.int (0 : Int32)), .unset, .unset, .unset, .unset, .unset, .unset, .unset, .unset, .unset, .unset]) rfl ?_
    show Steps p.tables e below (T0.setTop (mkF m 14 #[.val (.int p1), .val (.int p2), .val (.int p3), .val (.int p4), .val (.int p5), .val (.int (0 : Int32)), .unset, .unset, .unset, .unset, .unset, .unset, .unset, .unset, .unset, .unset] [])) _
    refine XS.iload X0.here hx rfl (hb hby at_14) rfl ?_
    show Steps p.tables e below (T0.setTop (mkF m 16 #[.val (.int p1), .val (.int p2), .val (.int p3), .val (.int p4), .val (.int p5), .val (.int (0 : Int32)), .unset, .unset, .unset, .unset, .unset, .unset, .unset, .unset, .unset, .unset] [(.int p5)])) _
    refine XS.iconst X0.here hx rfl (hb hby at_16) ?_
    show Steps p.tables e below (T0.setTop (mkF m 17 #[.val (.int p1), .val (.int p2), .val (.int p3), .val (.int p4), .val (.int p5), .val (.int (0 : Int32)), .unset, .unset, .unset, .unset, .unset, .unset, .unset, .unset, .unset, .unset] [(.int (2 : Int32)), (.int p5)])) _
    refine XS.iand X0.here hx rfl (hb hby at_17) rfl ?_
    show Steps p.tables e below (T0.setTop (mkF m 18 #[.val (.int p1), .val (.int p2), .val (.int p3), .val (.int p4), .val (.int p5), .val (.int (0 : Int32)), .unset, .unset, .unset, .unset, .unset, .unset, .unset, .unset, .unset, .unset] [(.int (p5 &&& (2 : Int32)))])) _
    refine XS.ifYes X0.here hx rfl (pc0 := 18) (pc' := 25) rfl (hb hby at_18) rfl (by rw [if0]; exact (teq c6).1) (by decide) (by decide) ?_
    show Steps p.tables e below (T0.setTop (mkF m 25 #[.val (.int p1), .val (.int p2), .val (.int p3), .val (.int p4), .val (.int p5), .val (.int (0 : Int32)), .unset, .unset, .unset, .unset, .unset, .unset, .unset, .unset, .unset, .unset] [])) _
    refine XS.iconst X0.here hx rfl (hb hby at_25) ?_
    show Steps p.tables e below (T0.setTop (mkF m 26 #[.val (.int p1), .val (.int p2), .val (.int p3), .val (.int p4), .val (.int p5), .val (.int (0 : Int32)), .unset, .unset, .unset, .unset, .unset, .unset, .unset, .unset, .unset, .unset] [(.int (0 : Int32))])) _
    refine XS.istore X0.here hx rfl (hb hby at_26) rfl (l' := #[.val (.int p1), .val (.int p2), .val (.int p3), .val (.int p4), .val (.int p5), .val (.int (0 : Int32)), .val (.int (0 : Int32)), .unset, .unset, .unset, .unset, .unset, .unset, .unset, .unset, .unset]) rfl ?_
    show Steps p.tables e below (T0.setTop (mkF m 28 #[.val (.int p1), .val (.int p2), .val (.int p3), .val (.int p4), .val (.int p5), .val (.int (0 : Int32)), .val (.int (0 : Int32)), .unset, .unset, .unset, .unset, .unset, .unset, .unset, .unset, .unset] [])) _
    refine XS.iload X0.here hx rfl (hb hby at_28) rfl ?_
    show Steps p.tables e below (T0.setTop (mkF m 30 #[.val (.int p1), .val (.int p2), .val (.int p3), .val (.int p4), .val (.int p5), .val (.int (0 : Int32)), .val (.int (0 : Int32)), .unset, .unset, .unset, .unset, .unset, .unset, .unset, .unset, .unset] [(.int p5)])) _
    refine XS.iconst X0.here hx rfl (hb hby at_30) ?_
    show Steps p.tables e below (T0.setTop (mkF m 31 #[.val (.int p1), .val (.int p2), .val (.int p3), .val (.int p4), .val (.int p5), .val (.int (0 : Int32)), .val (.int (0 : Int32)), .unset, .unset, .unset, .unset, .unset, .unset, .unset, .unset, .unset] [(.int (4 : Int32)), (.int p5)])) _
    refine XS.iand X0.here hx rfl (hb hby at_31) rfl ?_
    show Steps p.tables e below (T0.setTop (mkF m 32 #[.val (.int p1), .val (.int p2), .val (.int p3), .val (.int p4), .val (.int p5), .val (.int (0 : Int32)), .val (.int (0 : Int32)), .unset, .unset, .unset, .unset, .unset, .unset, .unset, .unset, .unset] [(.int (p5 &&& (4 : Int32)))])) _
    refine XS.ifYes X0.here hx rfl (pc0 := 32) (pc' := 39) rfl (hb hby at_32) rfl (by rw [if0]; exact (teq c7).1) (by decide) (by decide) ?_
    show Steps p.tables e below (T0.setTop (mkF m 39 #[.val (.int p1), .val (.int p2), .val (.int p3), .val (.int p4), .val (.int p5), .val (.int (0 : Int32)), .val (.int (0 : Int32)), .unset, .unset, .unset, .unset, .unset, .unset, .unset, .unset, .unset] [])) _
    refine XS.iconst X0.here hx rfl (hb hby at_39) ?_
    show Steps p.tables e below (T0.setTop (mkF m 40 #[.val (.int p1), .val (.int p2), .val (.int p3), .val (.int p4), .val (.int p5), .val (.int (0 : Int32)), .val (.int (0 : Int32)), .unset, .unset, .unset, .unset, .unset, .unset, .unset, .unset, .unset] [(.int (0 : Int32))])) _
    refine XS.istore X0.here hx rfl (hb hby at_40) rfl (l' := #[.val (.int p1), .val (.int p2), .val (.int p3), .val (.int p4), .val (.int p5), .val (.int (0 : Int32)), .val (.int (0 : Int32)), .val (.int (0 : Int32)), .unset, .unset, .unset, .unset, .unset, .unset, .unset, .unset]) rfl ?_
    show Steps p.tables e below (T0.setTop (mkF m 42 #[.val (.int p1), .val (.int p2), .val (.int p3), .val (.int p4), .val (.int p5), .val (.int (0 : Int32)), .val (.int (0 : Int32)), .val (.int (0 : Int32)), .unset, .unset, .unset, .unset, .unset, .unset, .unset, .unset] [])) _
    refine XS.iload X0.here hx rfl (hb hby at_42) rfl ?_
    show Steps p.tables e below (T0.setTop (mkF m 44 #[.val (.int p1), .val (.int p2), .val (.int p3), .val (.int p4), .val (.int p5), .val (.int (0 : Int32)), .val (.int (0 : Int32)), .val (.int (0 : Int32)), .unset, .unset, .unset, .unset, .unset, .unset, .unset, .unset] [(.int (0 : Int32))])) _
    refine XS.ifYes X0.here hx rfl (pc0 := 44) (pc' := 51) rfl (hb hby at_44) rfl (by decide) (by decide) (by decide) ?_
    show Steps p.tables e below (T0.setTop (mkF m 51 #[.val (.int p1), .val (.int p2), .val (.int p3), .val (.int p4), .val (.int p5), .val (.int (0 : Int32)), .val (.int (0 : Int32)), .val (.int (0 : Int32)), .unset, .unset, .unset, .unset, .unset, .unset, .unset, .unset] [])) _
    refine XS.iconst X0.here hx rfl (hb hby at_51) ?_
    show Steps p.tables e below (T0.setTop (mkF m 52 #[.val (.int p1), .val (.int p2), .val (.int p3), .val (.int p4), .val (.int p5), .val (.int (0 : Int32)), .val (.int (0 : Int32)), .val (.int (0 : Int32)), .unset, .unset, .unset, .unset, .unset, .unset, .unset, .unset] [(.int (1 : Int32))])) _
    refine XS.istore X0.here hx rfl (hb hby at_52) rfl (l' := #[.val (.int p1), .val (.int p2), .val (.int p3), .val (.int p4), .val (.int p5), .val (.int (0 : Int32)), .val (.int (0 : Int32)), .val (.int (0 : Int32)), .val (.int (1 : Int32)), .unset, .unset, .unset, .unset, .unset, .unset, .unset]) rfl ?_
    show Steps p.tables e below (T0.setTop (mkF m 54 #[.val (.int p1), .val (.int p2), .val (.int p3), .val (.int p4), .val (.int p5), .val (.int (0 : Int32)), .val (.int (0 : Int32)), .val (.int (0 : Int32)), .val (.int (1 : Int32)), .unset, .unset, .unset, .unset, .unset, .unset, .unset] [])) _
    refine XS.iload X0.here hx rfl (hb hby at_54) rfl ?_
    show Steps p.tables e below (T0.setTop (mkF m 56 #[.val (.int p1), .val (.int p2), .val (.int p3), .val (.int p4), .val (.int p5), .val (.int (0 : Int32)), .val (.int (0 : Int32)), .val (.int (0 : Int32)), .val (.int (1 : Int32)), .unset, .unset, .unset, .unset, .unset, .unset, .unset] [(.int (0 : Int32))])) _
    refine XS.ifYes X0.here hx rfl (pc0 := 56) (pc' := 72) rfl (hb hby at_56) rfl (by decide) (by decide) (by decide) ?_
    show Steps p.tables e below (T0.setTop (mkF m 72 #[.val (.int p1), .val (.int p2), .val (.int p3), .val (.int p4), .val (.int p5), .val (.int (0 : Int32)), .val (.int (0 : Int32)), .val (.int (0 : Int32)), .val (.int (1 : Int32)), .unset, .unset, .unset, .unset, .unset, .unset, .unset] [])) _
    refine XS.iconst X0.here hx rfl (hb hby at_72) ?_
    show Steps p.tables e below (T0.setTop (mkF m 73 #[.val (.int p1), .val (.int p2), .val (.int p3), .val (.int p4), .val (.int p5), .val (.int (0 : Int32)), .val (.int (0 : Int32)), .val (.int (0 : Int32)), .val (.int (1 : Int32)), .unset, .unset, .unset, .unset, .unset, .unset, .unset] [(.int (0 : Int32))])) _
    refine XS.istore X0.here hx rfl (hb hby at_73) rfl (l' := #[.val (.int p1), .val (.int p2), .val (.int p3), .val (.int p4), .val (.int p5), .val (.int (0 : Int32)), .val (.int (0 : Int32)), .val (.int (0 : Int32)), .val (.int (1 : Int32)), .val (.int (0 : Int32)), .unset, .unset, .unset, .unset, .unset, .unset]) rfl ?_
    show Steps p.tables e below (T0.setTop (mkF m 75 #[.val (.int p1), .val (.int p2), .val (.int p3), .val (.int p4), .val (.int p5), .val (.int (0 : Int32)), .val (.int (0 : Int32)), .val (.int (0 : Int32)), .val (.int (1 : Int32)), .val (.int (0 : Int32)), .unset, .unset, .unset, .unset, .unset, .unset] [])) _
    exact kt
  · refine ⟨0, 0, 1, 1, 0, ⟨Or.inl ⟨rfl, rfl⟩, Or.inl ⟨rfl, rfl⟩⟩, fun target kt => ?_⟩
    show Steps p.tables e below (T0.setTop (mkF m 0 #[.val (.int p1), .val (.int p2), .val (.int p3), .val (.int p4), .val (.int p5), .unset, .unset, .unset, .unset, .unset, .unset, .unset, .unset, .unset, .unset, .unset] [])) _
    refine XS.iload X0.here hx rfl (hb hby at_0) rfl ?_
    show Steps p.tables e below (T0.setTop (mkF m 2 #[.val (.int p1), .val (.int p2), .val (.int p3), .val (.int p4), .val (.int p5), .unset, .unset, .unset, .unset, .unset, .unset, .unset, .unset, .unset, .unset, .unset] [(.int p5)])) _
    refine XS.iconst X0.here hx rfl (hb hby at_2) ?_
    show Steps p.tables e below (T0.setTop (mkF m 3 #[.val (.int p1), .val (.int p2), .val (.int p3), .val (.int p4), .val (.int p5), .unset, .unset, .unset, .unset, .unset, .unset, .unset, .unset, .unset, .unset, .unset] [(.int (1 : Int32)), (.int p5)])) _
    refine XS.iand X0.here hx rfl (hb hby at_3) rfl ?_
    show Steps p.tables e below (T0.setTop (mkF m 4 #[.val (.int p1), .val (.int p2), .val (.int p3), .val (.int p4), .val (.int p5), .unset, .unset, .unset, .unset, .unset, .unset, .unset, .unset, .unset, .unset, .unset] [(.int (p5 &&& (1 : Int32)))])) _
    refine XS.ifYes X0.here hx rfl (pc0 := 4) (pc' := 11) rfl (hb hby at_4) rfl (by rw [if0]; exact (teq c5).1) (by decide) (by decide) ?_
    show Steps p.tables e below (T0.setTop (mkF m 11 #[.val (.int p1), .val (.int p2), .val (.int p3), .val (.int p4), .val (.int p5), .unset, .unset, .unset, .unset, .unset, .unset, .unset, .unset, .unset, .unset, .unset] [])) _
    refine XS.iconst X0.here hx rfl (hb hby at_11) ?_
    show Steps p.tables e below (T0.setTop (mkF m 12 #[.val (.int p1), .val (.int p2), .val (.int p3), .val (.int p4), .val (.int p5), .unset, .unset, .unset, .unset, .unset, .unset, .unset, .unset, .unset, .unset, .unset] [(.int (0 : Int32))])) _
    refine XS.istore X0.here hx rfl (hb hby at_12) rfl (l' := #[.val (.int p1), .val (.int p2), .val (.int p3), .val (.int p4), .val (.int p5), .val (.int (0 : Int32)), .unset, .unset, .unset, .unset, .unset, .unset, .unset, .unset, .unset, .unset]) rfl ?_
    show Steps p.tables e below (T0.setTop (mkF m 14 #[.val (.int p1), .val (.int p2), .val (.int p3), .val (.int p4), .val (.int p5), .val (.int (0 : Int32)), .unset, .unset, .unset, .unset, .unset, .unset, .unset, .unset, .unset, .unset] [])) _
    refine XS.iload X0.here hx rfl (hb hby at_14) rfl ?_
    show Steps p.tables e below (T0.setTop (mkF m 16 #[.val (.int p1), .val (.int p2), .val (.int p3), .val (.int p4), .val (.int p5), .val (.int (0 : Int32)), .unset, .unset, .unset, .unset, .unset, .unset, .unset, .unset, .unset, .unset] [(.int p5)])) _
    refine XS.iconst X0.here hx rfl (hb hby at_16) ?_
    show Steps p.tables e below (T0.setTop (mkF m 17 #[.val (.int p1), .val (.int p2), .val (.int p3), .val (.int p4), .val (.int p5), .val (.int (0 : Int32)), .unset, .unset, .unset, .unset, .unset, .unset, .unset, .unset, .unset, .unset] [(.int (2 : Int32)), (.int p5)])) _
    refine XS.iand X0.here hx rfl (hb hby at_17) rfl ?_
    show Steps p.tables e below (T0.setTop (mkF m 18 #[.val (.int p1), .val (.int p2), .val (.int p3), .val (.int p4), .val (.int p5), .val (.int (0 : Int32)), .unset, .unset, .unset, .unset, .unset, .unset, .unset, .unset, .unset, .unset] [(.int (p5 &&& (2 : Int32)))])) _
    refine XS.ifYes X0.here hx rfl (pc0 := 18) (pc' := 25) rfl (hb hby at_18) rfl (by rw [if0]; exact (teq c6).1) (by decide) (by decide) ?_
    show Steps p.tables e below (T0.setTop (mkF m 25 #[.val (.int p1), .val (.int p2), .val (.int p3), .val (.int p4), .val (.int p5), .val (.int (0 : Int32)), .unset, .unset, .unset, .unset, .unset, .unset, .unset, .unset, .unset, .unset] [])) _
    refine XS.iconst X0.here hx rfl (hb hby at_25) ?_
    show Steps p.tables e below (T0.setTop (mkF m 26 #[.val (.int p1), .val (.int p2), .val (.int p3), .val (.int p4), .val (.int p5), .val (.int (0 : Int32)), .unset, .unset, .unset, .unset, .unset, .unset, .unset, .unset, .unset, .unset] [(.int (0 : Int32))])) _
    refine XS.istore X0.here hx rfl (hb hby at_26) rfl (l' := #[.val (.int p1), .val (.int p2), .val (.int p3), .val (.int p4), .val (.int p5), .val (.int (0 : Int32)), .val (.int (0 : Int32)), .unset, .unset, .unset, .unset, .unset, .unset, .unset, .unset, .unset]) rfl ?_
    show Steps p.tables e below (T0.setTop (mkF m 28 #[.val (.int p1), .val (.int p2), .val (.int p3), .val (.int p4), .val (.int p5), .val (.int (0 : Int32)), .val (.int (0 : Int32)), .unset, .unset, .unset, .unset, .unset, .unset, .unset, .unset, .unset] [])) _
    refine XS.iload X0.here hx rfl (hb hby at_28) rfl ?_
    show Steps p.tables e below (T0.setTop (mkF m 30 #[.val (.int p1), .val (.int p2), .val (.int p3), .val (.int p4), .val (.int p5), .val (.int (0 : Int32)), .val (.int (0 : Int32)), .unset, .unset, .unset, .unset, .unset, .unset, .unset, .unset, .unset] [(.int p5)])) _
    refine XS.iconst X0.here hx rfl (hb hby at_30) ?_
    show Steps p.tables e below (T0.setTop (mkF m 31 #[.val (.int p1), .val (.int p2), .val (.int p3), .val (.int p4), .val (.int p5), .val (.int (0 : Int32)), .val (.int (0 : Int32)), .unset, .unset, .unset, .unset, .unset, .unset, .unset, .unset, .unset] [(.int (4 : Int32)), (.int p5)])) _
    refine XS.iand X0.here hx rfl (hb hby at_31) rfl ?_
    show Steps p.tables e below (T0.setTop (mkF m 32 #[.val (.int p1), .val (.int p2), .val (.int p3), .val (.int p4), .val (.int p5), .val (.int (0 : Int32)), .val (.int (0 : Int32)), .unset, .unset, .unset, .unset, .unset, .unset, .unset, .unset, .unset] [(.int (p5 &&& (4 : Int32)))])) _
    refine XS.ifNo X0.here hx rfl (hb hby at_32) rfl (by rw [if0]; exact (feq c7).1) ?_
    show Steps p.tables e below (T0.setTop (mkF m 35 #[.val (.int p1), .val (.int p2), .val (.int p3), .val (.int p4), .val (.int p5), .val (.int (0 : Int32)), .val (.int (0 : Int32)), .unset, .unset, .unset, .unset, .unset, .unset, .unset, .unset, .unset] [])) _
    refine XS.iconst X0.here hx rfl (hb hby at_35) ?_
    show Steps p.tables e below (T0.setTop (mkF m 36 #[.val (.int p1), .val (.int p2), .val (.int p3), .val (.int p4), .val (.int p5), .val (.int (0 : Int32)), .val (.int (0 : Int32)), .unset, .unset, .unset, .unset, .unset, .unset, .unset, .unset, .unset] [(.int (1 : Int32))])) _
    refine XS.goto X0.here hx rfl (pc0 := 36) (pc' := 40) rfl (hb hby at_36) (by decide) (by decide) ?_
    show Steps p.tables e below (T0.setTop (mkF m 40 #[.val (.int p1), .val (.int p2), .val (.int p3), .val (.int p4), .val (.int p5), .val (.int (0 : Int32)), .val (.int (0 : Int32)), .unset, .unset, .unset, .unset, .unset, .unset, .unset, .unset, .unset] [(.int (1 : Int32))])) _
    refine XS.istore X0.here hx rfl (hb hby at_40) rfl (l' := #[.val (.int p1), .val (.int p2), .val (.int p3), .val (.int p4), .val (.int p5), .val (.int (0 : Int32)), .val (.int (0 : Int32)), .val (.int (1 : Int32)), .unset, .unset, .unset, .unset, .unset, .unset, .unset, .unset]) rfl ?_
    show Steps p.tables e below (T0.setTop (mkF m 42 #[.val (.int p1), .val (.int p2), .val (.int p3), .val (.int p4), .val (.int p5), .val (.int (0 : Int32)), .val (.int (0 : Int32)), .val (.int (1 : Int32)), .unset, .unset, .unset, .unset, .unset, .unset, .unset, .unset] [])) _
    refine XS.iload X0.here hx rfl (hb hby at_42) rfl ?_
    show Steps p.tables e below (T0.setTop (mkF m 44 #[.val (.int p1), .val (.int p2), .val (.int p3), .val (.int p4), .val (.int p5), .val (.int (0 : Int32)), .val (.int (0 : Int32)), .val (.int (1 : Int32)), .unset, .unset, .unset, .unset, .unset, .unset, .unset, .unset] [(.int (0 : Int32))])) _
    refine XS.ifYes X0.here hx rfl (pc0 := 44) (pc' := 51) rfl (hb hby at_44) rfl (by decide) (by decide) (by decide) ?_
    show Steps p.tables e below (T0.setTop (mkF m 51 #[.val (.int p1), .val (.int p2), .val (.int p3), .val (.int p4), .val (.int p5), .val (.int (0 : Int32)), .val (.int (0 : Int32)), .val (.int (1 : Int32)), .unset, .unset, .unset, .unset, .unset, .unset, .unset, .unset] [])) _
    refine XS.iconst X0.here hx rfl (hb hby at_51) ?_
    show Steps p.tables e below (T0.setTop (mkF m 52 #[.val (.int p1), .val (.int p2), .val (.int p3), .val (.int p4), .val (.int p5), .val (.int (0 : Int32)), .val (.int (0 : Int32)), .val (.int (1 : Int32)), .unset, .unset, .unset, .unset, .unset, .unset, .unset, .unset] [(.int (1 : Int32))])) _
    refine XS.istore X0.here hx rfl (hb hby at_52) rfl (l' := #[.val (.int p1), .val (.int p2), .val (.int p3), .val (.int p4), .val (.int p5), .val (.int (0 : Int32)), .val (.int (0 : Int32)), .val (.int (1 : Int32)), .val (.int (1 : Int32)), .unset, .unset, .unset, .unset, .unset, .unset, .unset]) rfl ?_
    show Steps p.tables e below (T0.setTop (mkF m 54 #[.val (.int p1), .val (.int p2), .val (.int p3), .val (.int p4), .val (.int p5), .val (.int (0 : Int32)), .val (.int (0 : Int32)), .val (.int (1 : Int32)), .val (.int (1 : Int32)), .unset, .unset, .unset, .unset, .unset, .unset, .unset] [])) _
    refine XS.iload X0.here hx rfl (hb hby at_54) rfl ?_
    show Steps p.tables e below (T0.setTop (mkF m 56 #[.val (.int p1), .val (.int p2), .val (.int p3), .val (.int p4), .val (.int p5), .val (.int (0 : Int32)), .val (.int (0 : Int32)), .val (.int (1 : Int32)), .val (.int (1 : Int32)), .unset, .unset, .unset, .unset, .unset, .unset, .unset] [(.int (0 : Int32))])) _
    refine XS.ifYes X0.here hx rfl (pc0 := 56) (pc' := 72) rfl (hb hby at_56) rfl (by decide) (by decide) (by decide) ?_
    show Steps p.tables e below (T0.setTop (mkF m 72 #[.val (.int p1), .val (.int p2), .val (.int p3), .val (.int p4), .val (.int p5), .val (.int (0 : Int32)), .val (.int (0 : Int32)), .val (.int (1 : Int32)), .val (.int (1 : Int32)), .unset, .unset, .unset, .unset, .unset, .unset, .unset] [])) _
    refine XS.iconst X0.here hx rfl (hb hby at_72) ?_
    show Steps p.tables e below (T0.setTop (mkF m 73 #[.val (.int p1), .val (.int p2), .val (.int p3), .val (.int p4), .val (.int p5), .val (.int (0 : Int32)), .val (.int (0 : Int32)), .val (.int (1 : Int32)), .val (.int (1 : Int32)), .unset, .unset, .unset, .unset, .unset, .unset, .unset] [(.int (0 : Int32))])) _
    refine XS.istore X0.here hx rfl (hb hby at_73) rfl (l' := #[.val (.int p1), .val (.int p2), .val (.int p3), .val (.int p4), .val (.int p5), .val (.int (0 : Int32)), .val (.int (0 : Int32)), .val (.int (1 : Int32)), .val (.int (1 : Int32)), .val (.int (0 : Int32)), .unset, .unset, .unset, .unset, .unset, .unset]) rfl ?_
    show Steps p.tables e below (T0.setTop (mkF m 75 #[.val (.int p1), .val (.int p2), .val (.int p3), .val (.int p4), .val (.int p5), .val (.int (0 : Int32)), .val (.int (0 : Int32)), .val (.int (1 : Int32)), .val (.int (1 : Int32)), .val (.int (0 : Int32)), .unset, .unset, .unset, .unset, .unset, .unset] [])) _
    exact kt
  · refine ⟨0, 1, 0, 2, 0, ⟨Or.inr ⟨rfl, rfl⟩, Or.inl ⟨rfl, rfl⟩⟩, fun target kt => ?_⟩
    show Steps p.tables e below (T0.setTop (mkF m 0 #[.val (.int p1), .val (.int p2), .val (.int p3), .val (.int p4), .val (.int p5), .unset, .unset, .unset, .unset, .unset, .unset, .unset, .unset, .unset, .unset, .unset] [])) _
    refine XS.iload X0.here hx rfl (hb hby at_0) rfl ?_
    show Steps p.tables e below (T0.setTop (mkF m 2 #[.val (.int p1), .val (.int p2), .val (.int p3), .val (.int p4), .val (.int p5), .unset, .unset, .unset, .unset, .unset, .unset, .unset, .unset, .unset, .unset, .unset] [(.int p5)])) _
    refine XS.iconst X0.here hx rfl (hb hby at_2) ?_
    show Steps p.tables e below (T0.setTop (mkF m 3 #[.val (.int p1), .val (.int p2), .val (.int p3), .val (.int p4), .val (.int p5), .unset, .unset, .unset, .unset, .unset, .unset, .unset, .unset, .unset, .unset, .unset] [(.int (1 : Int32)), (.int p5)])) _
    refine XS.iand X0.here hx rfl (hb hby at_3) rfl ?_
    show Steps p.tables e below (T0.setTop (mkF m 4 #[.val (.int p1), .val (.int p2), .val (.int p3), .val (.int p4), .val (.int p5), .unset, .unset, .unset, .unset, .unset, .unset, .unset, .unset, .unset, .unset, .unset] [(.int (p5 &&& (1 : Int32)))])) _
    refine XS.ifYes X0.here hx rfl (pc0 := 4) (pc' := 11) rfl (hb hby at_4) rfl (by rw [if0]; exact (teq c5).1) (by decide) (by decide) ?_
    show Steps p.tables e below (T0.setTop (mkF m 11 #[.val (.int p1), .val (.int p2), .val (.int p3), .val (.int p4), .val (.int p5), .unset, .unset, .unset, .unset, .unset, .unset, .unset, .unset, .unset, .unset, .unset] [])) _
    refine XS.iconst X0.here hx rfl (hb hby at_11) ?_
    show Steps p.tables e below (T0.setTop (mkF m 12 #[.val (.int p1), .val (.int p2), .val (.int p3), .val (.int p4), .val (.int p5), .unset, .unset, .unset, .unset, .unset, .unset, .unset, .unset, .unset, .unset, .unset] [(.int (0 : Int32))])) _
    refine XS.istore X0.here hx rfl (hb hby at_12) rfl (l' := #[.val (.int p1), .val (.int p2), .val (.int p3), .val (.int p4), .val (.int p5), .val (.int (0 : Int32)), .unset, .unset, .unset, .unset, .unset, .unset, .unset, .unset, .unset, .unset]) rfl ?_
    show Steps p.tables e below (T0.setTop (mkF m 14 #[.val (.int p1), .val (.int p2), .val (.int p3), .val (.int p4), .val (.int p5), .val (.int (0 : Int32)), .unset, .unset, .unset, .unset, .unset, .unset, .unset, .unset, .unset, .unset] [])) _
    refine XS.iload X0.here hx rfl (hb hby at_14) rfl ?_
    show Steps p.tables e below (T0.setTop (mkF m 16 #[.val (.int p1), .val (.int p2), .val (.int p3), .val (.int p4), .val (.int p5), .val (.int (0 : Int32)), .unset, .unset, .unset, .unset, .unset, .unset, .unset, .unset, .unset, .unset] [(.int p5)])) _
    refine XS.iconst X0.here hx rfl (hb hby at_16) ?_
    show Steps p.tables e below (T0.setTop (mkF m 17 #[.val (.int p1), .val (.int p2), .val (.int p3), .val (.int p4), .val (.int p5), .val (.int (0 : Int32)), .unset, .unset, .unset, .unset, .unset, .unset, .unset, .unset, .unset, .unset] [(.int (2 : Int32)), (.int p5)])) _
    refine XS.iand X0.here hx rfl (hb hby at_17) rfl ?_
    show Steps p.tables e below (T0.setTop (mkF m 18 #[.val (.int p1), .val (.int p2), .val (.int p3), .val (.int p4), .val (.int p5), .val (.int (0 : Int32)), .unset, .unset, .unset, .unset, .unset, .unset, .unset, .unset, .unset, .unset] [(.int (p5 &&& (2 : Int32)))])) _
    refine XS.ifNo X0.here hx rfl (hb hby at_18) rfl (by rw [if0]; exact (feq c6).1) ?_
    show Steps p.tables e below (T0.setTop (mkF m 21 #[.val (.int p1), .val (.int p2), .val (.int p3), .val (.int p4), .val (.int p5), .val (.int (0 : Int32)), .unset, .unset, .unset, .unset, .unset, .unset, .unset, .unset, .unset, .unset] [])) _
    refine XS.iconst X0.here hx rfl (hb hby at_21) ?_
    show Steps p.tables e below (T0.setTop (mkF m 22 #[.val (.int p1), .val (.int p2), .val (.int p3), .val (.int p4), .val (.int p5), .val (.int (0 : Int32)), .unset, .unset, .unset, .unset, .unset, .unset, .unset, .unset, .unset, .unset] [(.int (1 : Int32))])) _
    refine XS.goto X0.here hx rfl (pc0 := 22) (pc' := 26) rfl (hb hby at_22) (by decide) (by decide) ?_
    show Steps p.tables e below (T0.setTop (mkF m 26 #[.val (.int p1), .val (.int p2), .val (.int p3), .val (.int p4), .val (.int p5), .val (.int (0 : Int32)), .unset, .unset, .unset, .unset, .unset, .unset, .unset, .unset, .unset, .unset] [(.int (1 : Int32))])) _
    refine XS.istore X0.here hx rfl (hb hby at_26) rfl (l' := #[.val (.int p1), .val (.int p2), .val (.int p3), .val (.int p4), .val (.int p5), .val (.int (0 : Int32)), .val (.int (1 : Int32)), .unset, .unset, .unset, .unset, .unset, .unset, .unset, .unset, .unset]) rfl ?_
    show Steps p.tables e below (T0.setTop (mkF m 28 #[.val (.int p1), .val (.int p2), .val (.int p3), .val (.int p4), .val (.int p5), .val (.int (0 : Int32)), .val (.int (1 : Int32)), .unset, .unset, .unset, .unset, .unset, .unset, .unset, .unset, .unset] [])) _
    refine XS.iload X0.here hx rfl (hb hby at_28) rfl ?_
    show Steps p.tables e below (T0.setTop (mkF m 30 #[.val (.int p1), .val (.int p2), .val (.int p3), .val (.int p4), .val (.int p5), .val (.int (0 : Int32)), .val (.int (1 : Int32)), .unset, .unset, .unset, .unset, .unset, .unset, .unset, .unset, .unset] [(.int p5)])) _
    refine XS.iconst X0.here hx rfl (hb hby at_30) ?_
    show Steps p.tables e below (T0.setTop (mkF m 31 #[.val (.int p1), .val (.int p2), .val (.int p3), .val (.int p4), .val (.int p5), .val (.int (0 : Int32)), .val (.int (1 : Int32)), .unset, .unset, .unset, .unset, .unset, .unset, .unset, .unset, .unset] [(.int (4 : Int32)), (.int p5)])) _
    refine XS.iand X0.here hx rfl (hb hby at_31) rfl ?_
    show Steps p.tables e below (T0.setTop (mkF m 32 #[.val (.int p1), .val (.int p2), .val (.int p3), .val (.int p4), .val (.int p5), .val (.int (0 : Int32)), .val (.int (1 : Int32)), .unset, .unset, .unset, .unset, .unset, .unset, .unset, .unset, .unset] [(.int (p5 &&& (4 : Int32)))])) _
    refine XS.ifYes X0.here hx rfl (pc0 := 32) (pc' := 39) rfl (hb hby at_32) rfl (by rw [if0]; exact (teq c7).1) (by decide) (by decide) ?_
    show Steps p.tables e below (T0.setTop (mkF m 39 #[.val (.int p1), .val (.int p2), .val (.int p3), .val (.int p4), .val (.int p5), .val (.int (0 : Int32)), .val (.int (1 : Int32)), .unset, .unset, .unset, .unset, .unset, .unset, .unset, .unset, .unset] [])) _
    refine XS.iconst X0.here hx rfl (hb hby at_39) ?_
    show Steps p.tables e below (T0.setTop (mkF m 40 #[.val (.int p1), .val (.int p2), .val (.int p3), .val (.int p4), .val (.int p5), .val (.int (0 : Int32)), .val (.int (1 : Int32)), .unset, .unset, .unset, .unset, .unset, .unset, .unset, .unset, .unset] [(.int (0 : Int32))])) _
    refine XS.istore X0.here hx rfl (hb hby at_40) rfl (l' := #[.val (.int p1), .val (.int p2), .val (.int p3), .val (.int p4), .val (.int p5), .val (.int (0 : Int32)), .val (.int (1 : Int32)), .val (.int (0 : Int32)), .unset, .unset, .unset, .unset, .unset, .unset, .unset, .unset]) rfl ?_
    show Steps p.tables e below (T0.setTop (mkF m 42 #[.val (.int p1), .val (.int p2), .val (.int p3), .val (.int p4), .val (.int p5), .val (.int (0 : Int32)), .val (.int (1 : Int32)), .val (.int (0 : Int32)), .unset, .unset, .unset, .unset, .unset, .unset, .unset, .unset] [])) _
    refine XS.iload X0.here hx rfl (hb hby at_42) rfl ?_
    show Steps p.tables e below (T0.setTop (mkF m 44 #[.val (.int p1), .val (.int p2), .val (.int p3), .val (.int p4), .val (.int p5), .val (.int (0 : Int32)), .val (.int (1 : Int32)), .val (.int (0 : Int32)), .unset, .unset, .unset, .unset, .unset, .unset, .unset, .unset] [(.int (1 : Int32))])) _
    refine XS.ifNo X0.here hx rfl (hb hby at_44) rfl (by decide) ?_
    show Steps p.tables e below (T0.setTop (mkF m 47 #[.val (.int p1), .val (.int p2), .val (.int p3), .val (.int p4), .val (.int p5), .val (.int (0 : Int32)), .val (.int (1 : Int32)), .val (.int (0 : Int32)), .unset, .unset, .unset, .unset, .unset, .unset, .unset, .unset] [])) _
    refine XS.iconst X0.here hx rfl (hb hby at_47) ?_
    show Steps p.tables e below (T0.setTop (mkF m 48 #[.val (.int p1), .val (.int p2), .val (.int p3), .val (.int p4), .val (.int p5), .val (.int (0 : Int32)), .val (.int (1 : Int32)), .val (.int (0 : Int32)), .unset, .unset, .unset, .unset, .unset, .unset, .unset, .unset] [(.int (2 : Int32))])) _
    refine XS.goto X0.here hx rfl (pc0 := 48) (pc' := 52) rfl (hb hby at_48) (by decide) (by decide) ?_
    show Steps p.tables e below (T0.setTop (mkF m 52 #[.val (.int p1), .val (.int p2), .val (.int p3), .val (.int p4), .val (.int p5), .val (.int (0 : Int32)), .val (.int (1 : Int32)), .val (.int (0 : Int32)), .unset, .unset, .unset, .unset, .unset, .unset, .unset, .unset] [(.int (2 : Int32))])) _
    refine XS.istore X0.here hx rfl (hb hby at_52) rfl (l' := #[.val (.int p1), .val (.int p2), .val (.int p3), .val (.int p4), .val (.int p5), .val (.int (0 : Int32)), .val (.int (1 : Int32)), .val (.int (0 : Int32)), .val (.int (2 : Int32)), .unset, .unset, .unset, .unset, .unset, .unset, .unset]) rfl ?_
    show Steps p.tables e below (T0.setTop (mkF m 54 #[.val (.int p1), .val (.int p2), .val (.int p3), .val (.int p4), .val (.int p5), .val (.int (0 : Int32)), .val (.int (1 : Int32)), .val (.int (0 : Int32)), .val (.int (2 : Int32)), .unset, .unset, .unset, .unset, .unset, .unset, .unset] [])) _
    refine XS.iload X0.here hx rfl (hb hby at_54) rfl ?_
    show Steps p.tables e below (T0.setTop (mkF m 56 #[.val (.int p1), .val (.int p2), .val (.int p3), .val (.int p4), .val (.int p5), .val (.int (0 : Int32)), .val (.int (1 : Int32)), .val (.int (0 : Int32)), .val (.int (2 : Int32)), .unset, .unset, .unset, .unset, .unset, .unset, .unset] [(.int (0 : Int32))])) _
    refine XS.ifYes X0.here hx rfl (pc0 := 56) (pc' := 72) rfl (hb hby at_56) rfl (by decide) (by decide) (by decide) ?_
    show Steps p.tables e below (T0.setTop (mkF m 72 #[.val (.int p1), .val (.int p2), .val (.int p3), .val (.int p4), .val (.int p5), .val (.int (0 : Int32)), .val (.int (1 : Int32)), .val (.int (0 : Int32)), .val (.int (2 : Int32)), .unset, .unset, .unset, .unset, .unset, .unset, .unset] [])) _
    refine XS.iconst X0.here hx rfl (hb hby at_72) ?_
    show Steps p.tables e below (T0.setTop (mkF m 73 #[.val (.int p1), .val (.int p2), .val (.int p3), .val (.int p4), .val (.int p5), .val (.int (0 : Int32)), .val (.int (1 : Int32)), .val (.int (0 : Int32)), .val (.int (2 : Int32)), .unset, .unset, .unset, .unset, .unset, .unset, .unset] [(.int (0 : Int32))])) _
    refine XS.istore X0.here hx rfl (hb hby at_73) rfl (l' := #[.val (.int p1), .val (.int p2), .val (.int p3), .val (.int p4), .val (.int p5), .val (.int (0 : Int32)), .val (.int (1 : Int32)), .val (.int (0 : Int32)), .val (.int (2 : Int32)), .val (.int (0 : Int32)), .unset, .unset, .unset, .unset, .unset, .unset]) rfl ?_
    show Steps p.tables e below (T0.setTop (mkF m 75 #[.val (.int p1), .val (.int p2), .val (.int p3), .val (.int p4), .val (.int p5), .val (.int (0 : Int32)), .val (.int (1 : Int32)), .val (.int (0 : Int32)), .val (.int (2 : Int32)), .val (.int (0 : Int32)), .unset, .unset, .unset, .unset, .unset, .unset] [])) _
    exact kt
  · refine ⟨0, 1, 1, 2, 0, ⟨Or.inr ⟨rfl, rfl⟩, Or.inl ⟨rfl, rfl⟩⟩, fun target kt => ?_⟩
    show Steps p.tables e below (T0.setTop (mkF m 0 #[.val (.int p1), .val (.int p2), .val (.int p3), .val (.int p4), .val (.int p5), .unset, .unset, .unset, .unset, .unset, .unset, .unset, .unset, .unset, .unset, .unset] [])) _
    refine XS.iload X0.here hx rfl (hb hby at_0) rfl ?_
    show Steps p.tables e below (T0.setTop (mkF m 2 #[.val (.int p1), .val (.int p2), .val (.int p3), .val (.int p4), .val (.int p5), .unset, .unset, .unset, .unset, .unset, .unset, .unset, .unset, .unset, .unset, .unset] [(.int p5)])) _
    refine XS.iconst X0.here hx rfl (hb hby at_2) ?_
    show Steps p.tables e below (T0.setTop (mkF m 3 #[.val (.int p1), .val (.int p2), .val (.int p3), .val (.int p4), .val (.int p5), .unset, .unset, .unset, .unset, .unset, .unset, .unset, .unset, .unset, .unset, .unset] [(.int (1 : Int32)), (.int p5)])) _
    refine XS.iand X0.here hx rfl (hb hby at_3) rfl ?_
    show Steps p.tables e below (T0.setTop (mkF m 4 #[.val (.int p1), .val (.int p2), .val (.int p3), .val (.int p4), .val (.int p5), .unset, .unset, .unset, .unset, .unset, .unset, .unset, .unset, .unset, .unset, .unset] [(.int (p5 &&& (1 : Int32)))])) _
    refine XS.ifYes X0.here hx rfl (pc0 := 4) (pc' := 11) rfl (hb hby at_4) rfl (by rw [if0]; exact (teq c5).1) (by decide) (by decide) ?_
    show Steps p.tables e below (T0.setTop (mkF m 11 #[.val (.int p1), .val (.int p2), .val (.int p3), .val (.int p4), .val (.int p5), .unset, .unset, .unset, .unset, .unset, .unset, .unset, .unset, .unset, .unset, .unset] [])) _
    refine XS.iconst X0.here hx rfl (hb hby at_11) ?_
    show Steps p.tables e below (T0.setTop (mkF m 12 #[.val (.int p1), .val (.int p2), .val (.int p3), .val (.int p4), .val (.int p5), .unset, .unset, .unset, .unset, .unset, .unset, .unset, .unset, .unset, .unset, .unset] [(.int (0 : Int32))])) _
    refine XS.istore X0.here hx rfl (hb hby at_12) rfl (l' := #[.val (.int p1), .val (.int p2), .val (.int p3), .val (.int p4), .val (.int p5), .val (.int (0 : Int32)), .unset, .unset, .unset, .unset, .unset, .unset, .unset, .unset, .unset, .unset]) rfl ?_
    show Steps p.tables e below (T0.setTop (mkF m 14 #[.val (.int p1), .val (.int p2), .val (.int p3), .val (.int p4), .val (.int p5), .val (.int (0 : Int32)), .unset, .unset, .unset, .unset, .unset, .unset, .unset, .unset, .unset, .unset] [])) _
    refine XS.iload X0.here hx rfl (hb hby at_14) rfl ?_
    show Steps p.tables e below (T0.setTop (mkF m 16 #[.val (.int p1), .val (.int p2), .val (.int p3), .val (.int p4), .val (.int p5), .val (.int (0 : Int32)), .unset, .unset, .unset, .unset, .unset, .unset, .unset, .unset, .unset, .unset] [(.int p5)])) _
    refine XS.iconst X0.here hx rfl (hb hby at_16) ?_
    show Steps p.tables e below (T0.setTop (mkF m 17 #[.val (.int p1), .val (.int p2), .val (.int p3), .val (.int p4), .val (.int p5), .val (.int (0 : Int32)), .unset, .unset, .unset, .unset, .unset, .unset, .unset, .unset, .unset, .unset] [(.int (2 : Int32)), (.int p5)])) _
    refine XS.iand X0.here hx rfl (hb hby at_17) rfl ?_
    show Steps p.tables e below (T0.setTop (mkF m 18 #[.val (.int p1), .val (.int p2), .val (.int p3), .val (.int p4), .val (.int p5), .val (.int (0 : Int32)), .unset, .unset, .unset, .unset, .unset, .unset, .unset, .unset, .unset, .unset] [(.int (p5 &&& (2 : Int32)))])) _
    refine XS.ifNo X0.here hx rfl (hb hby at_18) rfl (by rw [if0]; exact (feq c6).1) ?_
    show Steps p.tables e below (T0.setTop (mkF m 21 #[.val (.int p1), .val (.int p2), .val (.int p3), .val (.int p4), .val (.int p5), .val (.int (0 : Int32)), .unset, .unset, .unset, .unset, .unset, .unset, .unset, .unset, .unset, .unset] [])) _
    refine XS.iconst X0.here hx rfl (hb hby at_21) ?_
    show Steps p.tables e below (T0.setTop (mkF m 22 #[.val (.int p1), .val (.int p2), .val (.int p3), .val (.int p4), .val (.int p5), .val (.int (0 : Int32)), .unset, .unset, .unset, .unset, .unset, .unset, .unset, .unset, .unset, .unset] [(.int (1 : Int32))])) _
    refine XS.goto X0.here hx rfl (pc0 := 22) (pc' := 26) rfl (hb hby at_22) (by decide) (by decide) ?_
    show Steps p.tables e below (T0.setTop (mkF m 26 #[.val (.int p1), .val (.int p2), .val (.int p3), .val (.int p4), .val (.int p5), .val (.int (0 : Int32)), .unset, .unset, .unset, .unset, .unset, .unset, .unset, .unset, .unset, .unset] [(.int (1 : Int32))])) _
    refine XS.istore X0.here hx rfl (hb hby at_26) rfl (l' := #[.val (.int p1), .val (.int p2), .val (.int p3), .val (.int p4), .val (.int p5), .val (.int (0 : Int32)), .val (.int (1 : Int32)), .unset, .unset, .unset, .unset, .unset, .unset, .unset, .unset, .unset]) rfl ?_
    show Steps p.tables e below (T0.setTop (mkF m 28 #[.val (.int p1), .val (.int p2), .val (.int p3), .val (.int p4), .val (.int p5), .val (.int (0 : Int32)), .val (.int (1 : Int32)), .unset, .unset, .unset, .unset, .unset, .unset, .unset, .unset, .unset] [])) _
    refine XS.iload X0.here hx rfl (hb hby at_28) rfl ?_
    show Steps p.tables e below (T0.setTop (mkF m 30 #[.val (.int p1), .val (.int p2), .val (.int p3), .val (.int p4), .val (.int p5), .val (.int (0 : Int32)), .val (.int (1 : Int32)), .unset, .unset, .unset, .unset, .unset, .unset, .unset, .unset, .unset] [(.int p5)])) _
    refine XS.iconst X0.here hx rfl (hb hby at_30) ?_
    show Steps p.tables e below (T0.setTop (mkF m 31 #[.val (.int p1), .val (.int p2), .val (.int p3), .val (.int p4), .val (.int p5), .val (.int (0 : Int32)), .val (.int (1 : Int32)), .unset, .unset, .unset, .unset, .unset, .unset, .unset, .unset, .unset] [(.int (4 : Int32)), (.int p5)])) _
    refine XS.iand X0.here hx rfl (hb hby at_31) rfl ?_
    show Steps p.tables e below (T0.setTop (mkF m 32 #[.val (.int p1), .val (.int p2), .val (.int p3), .val (.int p4), .val (.int p5), .val (.int (0 : Int32)), .val (.int (1 : Int32)), .unset, .unset, .unset, .unset, .unset, .unset, .unset, .unset, .unset] [(.int (p5 &&& (4 : Int32)))])) _
    refine XS.ifNo X0.here hx rfl (hb hby at_32) rfl (by rw [if0]; exact (feq c7).1) ?_
    show Steps p.tables e below (T0.setTop (mkF m 35 #[.val (.int p1), .val (.int p2), .val (.int p3), .val (.int p4), .val (.int p5), .val (.int (0 : Int32)), .val (.int (1 : Int32)), .unset, .unset, .unset, .unset, .unset, .unset, .unset, .unset, .unset] [])) _
    refine XS.iconst X0.here hx rfl (hb hby at_35) ?_
    show Steps p.tables e below (T0.setTop (mkF m 36 #[.val (.int p1), .val (.int p2), .val (.int p3), .val (.int p4), .val (.int p5), .val (.int (0 : Int32)), .val (.int (1 : Int32)), .unset, .unset, .unset, .unset, .unset, .unset, .unset, .unset, .unset] [(.int (1 : Int32))])) _
    refine XS.goto X0.here hx rfl (pc0 := 36) (pc' := 40) rfl (hb hby at_36) (by decide) (by decide) ?_
    show Steps p.tables e below (T0.setTop (mkF m 40 #[.val (.int p1), .val (.int p2), .val (.int p3), .val (.int p4), .val (.int p5), .val (.int (0 : Int32)), .val (.int (1 : Int32)), .unset, .unset, .unset, .unset, .unset, .unset, .unset, .unset, .unset] [(.int (1 : Int32))])) _
    refine XS.istore X0.here hx rfl (hb hby at_40) rfl (l' := #[.val (.int p1), .val (.int p2), .val (.int p3), .val (.int p4), .val (.int p5), .val (.int (0 : Int32)), .val (.int (1 : Int32)), .val (.int (1 : Int32)), .unset, .unset, .unset, .unset, .unset, .unset, .unset, .unset]) rfl ?_
    show Steps p.tables e below (T0.setTop (mkF m 42 #[.val (.int p1), .val (.int p2), .val (.int p3), .val (.int p4), .val (.int p5), .val (.int (0 : Int32)), .val (.int (1 : Int32)), .val (.int (1 : Int32)), .unset, .unset, .unset, .unset, .unset, .unset, .unset, .unset] [])) _
    refine XS.iload X0.here hx rfl (hb hby at_42) rfl ?_
    show Steps p.tables e below (T0.setTop (mkF m 44 #[.val (.int p1), .val (.int p2), .val (.int p3), .val (.int p4), .val (.int p5), .val (.int (0 : Int32)), .val (.int (1 : Int32)), .val (.int (1 : Int32)), .unset, .unset, .unset, .unset, .unset, .unset, .unset, .unset] [(.int (1 : Int32))])) _
    refine XS.ifNo X0.here hx rfl (hb hby at_44) rfl (by decide) ?_
    show Steps p.tables e below (T0.setTop (mkF m 47 #[.val (.int p1), .val (.int p2), .val (.int p3), .val (.int p4), .val (.int p5), .val (.int (0 : Int32)), .val (.int (1 : Int32)), .val (.int (1 : Int32)), .unset, .unset, .unset, .unset, .unset, .unset, .unset, .unset] [])) _
    refine XS.iconst X0.here hx rfl (hb hby at_47) ?_
    show Steps p.tables e below (T0.setTop (mkF m 48 #[.val (.int p1), .val (.int p2), .val (.int p3), .val (.int p4), .val (.int p5), .val (.int (0 : Int32)), .val (.int (1 : Int32)), .val (.int (1 : Int32)), .unset, .unset, .unset, .unset, .unset, .unset, .unset, .unset] [(.int (2 : Int32))])) _
    refine XS.goto X0.here hx rfl (pc0 := 48) (pc' := 52) rfl (hb hby at_48) (by decide) (by decide) ?_
    show Steps p.tables e below (T0.setTop (mkF m 52 #[.val (.int p1), .val (.int p2), .val (.int p3), .val (.int p4), .val (.int p5), .val (.int (0 : Int32)), .val (.int (1 : Int32)), .val (.int (1 : Int32)), .unset, .unset, .unset, .unset, .unset, .unset, .unset, .unset] [(.int (2 : Int32))])) _
    refine XS.istore X0.here hx rfl (hb hby at_52) rfl (l' := #[.val (.int p1), .val (.int p2), .val (.int p3), .val (.int p4), .val (.int p5), .val (.int (0 : Int32)), .val (.int (1 : Int32)), .val (.int (1 : Int32)), .val (.int (2 : Int32)), .unset, .unset, .unset, .unset, .unset, .unset, .unset]) rfl ?_
    show Steps p.tables e below (T0.setTop (mkF m 54 #[.val (.int p1), .val (.int p2), .val (.int p3), .val (.int p4), .val (.int p5), .val (.int (0 : Int32)), .val (.int (1 : Int32)), .val (.int (1 : Int32)), .val (.int (2 : Int32)), .unset, .unset, .unset, .unset, .unset, .unset, .unset] [])) _
    refine XS.iload X0.here hx rfl (hb hby at_54) rfl ?_
    show Steps p.tables e below (T0.setTop (mkF m 56 #[.val (.int p1), .val (.int p2), .val (.int p3), .val (.int p4), .val (.int p5), .val (.int (0 : Int32)), .val (.int (1 : Int32)), .val (.int (1 : Int32)), .val (.int (2 : Int32)), .unset, .unset, .unset, .unset, .unset, .unset, .unset] [(.int (0 : Int32))])) _
    refine XS.ifYes X0.here hx rfl (pc0 := 56) (pc' := 72) rfl (hb hby at_56) rfl (by decide) (by decide) (by decide) ?_
    show Steps p.tables e below (T0.setTop (mkF m 72 #[.val (.int p1), .val (.int p2), .val (.int p3), .val (.int p4), .val (.int p5), .val (.int (0 : Int32)), .val (.int (1 : Int32)), .val (.int (1 : Int32)), .val (.int (2 : Int32)), .unset, .unset, .unset, .unset, .unset, .unset, .unset] [])) _
    refine XS.iconst X0.here hx rfl (hb hby at_72) ?_
    show Steps p.tables e below (T0.setTop (mkF m 73 #[.val (.int p1), .val (.int p2), .val (.int p3), .val (.int p4), .val (.int p5), .val (.int (0 : Int32)), .val (.int (1 : Int32)), .val (.int (1 : Int32)), .val (.int (2 : Int32)), .unset, .unset, .unset, .unset, .unset, .unset, .unset] [(.int (0 : Int32))])) _
    refine XS.istore X0.here hx rfl (hb hby at_73) rfl (l' := #[.val (.int p1), .val (.int p2), .val (.int p3), .val (.int p4), .val (.int p5), .val (.int (0 : Int32)), .val (.int (1 : Int32)), .val (.int (1 : Int32)), .val (.int (2 : Int32)), .val (.int (0 : Int32)), .unset, .unset, .unset, .unset, .unset, .unset]) rfl ?_
    show Steps p.tables e below (T0.setTop (mkF m 75 #[.val (.int p1), .val (.int p2), .val (.int p3), .val (.int p4), .val (.int p5), .val (.int (0 : Int32)), .val (.int (1 : Int32)), .val (.int (1 : Int32)), .val (.int (2 : Int32)), .val (.int (0 : Int32)), .unset, .unset, .unset, .unset, .unset, .unset] [])) _
    exact kt
  · refine ⟨1, 0, 0, 1, 1, ⟨Or.inl ⟨rfl, rfl⟩, Or.inr (Or.inl ⟨rfl, rfl, rfl⟩)⟩, fun target kt => ?_⟩
    show Steps p.tables e below (T0.setTop (mkF m 0 #[.val (.int p1), .val (.int p2), .val (.int p3), .val (.int p4), .val (.int p5), .unset, .unset, .unset, .unset, .unset, .unset, .unset, .unset, .unset, .unset, .unset] [])) _
    refine XS.iload X0.here hx rfl (hb hby at_0) rfl ?_
    show Steps p.tables e below (T0.setTop (mkF m 2 #[.val (.int p1), .val (.int p2), .val (.int p3), .val (.int p4), .val (.int p5), .unset, .unset, .unset, .unset, .unset, .unset, .unset, .unset, .unset, .unset, .unset] [(.int p5)])) _
    refine XS.iconst X0.here hx rfl (hb hby at_2) ?_
    show Steps p.tables e below (T0.setTop (mkF m 3 #[.val (.int p1), .val (.int p2), .val (.int p3), .val (.int p4), .val (.int p5), .unset, .unset, .unset, .unset, .unset, .unset, .unset, .unset, .unset, .unset, .unset] [(.int (1 : Int32)), (.int p5)])) _
    refine XS.iand X0.here hx rfl (hb hby at_3) rfl ?_
    show Steps p.tables e below (T0.setTop (mkF m 4 #[.val (.int p1), .val (.int p2), .val (.int p3), .val (.int p4), .val (.int p5), .unset, .unset, .unset, .unset, .unset, .unset, .unset, .unset, .unset, .unset, .unset] [(.int (p5 &&& (1 : Int32)))])) _
    refine XS.ifNo X0.here hx rfl (hb hby at_4) rfl (by rw [if0]; exact (feq c5).1) ?_
    show Steps p.tables e below (T0.setTop (mkF m 7 #[.val (.int p1), .val (.int p2), .val (.int p3), .val (.int p4), .val (.int p5), .unset, .unset, .unset, .unset, .unset, .unset, .unset, .unset, .unset, .unset, .unset] [])) _
    refine XS.iconst X0.here hx rfl (hb hby at_7) ?_
    show Steps p.tables e below (T0.setTop (mkF m 8 #[.val (.int p1), .val (.int p2), .val (.int p3), .val (.int p4), .val (.int p5), .unset, .unset, .unset, .unset, .unset, .unset, .unset, .unset, .unset, .unset, .unset] [(.int (1 : Int32))])) _
    refine XS.goto X0.here hx rfl (pc0 := 8) (pc' := 12) rfl (hb hby at_8) (by decide) (by decide) ?_
    show Steps p.tables e below (T0.setTop (mkF m 12 #[.val (.int p1), .val (.int p2), .val (.int p3), .val (.int p4), .val (.int p5), .unset, .unset, .unset, .unset, .unset, .unset, .unset, .unset, .unset, .unset, .unset] [(.int (1 : Int32))])) _
    refine XS.istore X0.here hx rfl (hb hby at_12) rfl (l' := #[.val (.int p1), .val (.int p2), .val (.int p3), .val (.int p4), .val (.int p5), .val (.int (1 : Int32)), .unset, .unset, .unset, .unset, .unset, .unset, .unset, .unset, .unset, .unset]) rfl ?_
    show Steps p.tables e below (T0.setTop (mkF m 14 #[.val (.int p1), .val (.int p2), .val (.int p3), .val (.int p4), .val (.int p5), .val (.int (1 : Int32)), .unset, .unset, .unset, .unset, .unset, .unset, .unset, .unset, .unset, .unset] [])) _
    refine XS.iload X0.here hx rfl (hb hby at_14) rfl ?_
    show Steps p.tables e below (T0.setTop (mkF m 16 #[.val (.int p1), .val (.int p2), .val (.int p3), .val (.int p4), .val (.int p5), .val (.int (1 : Int32)), .unset, .unset, .unset, .unset, .unset, .unset, .unset, .unset, .unset, .unset] [(.int p5)])) _
    refine XS.iconst X0.here hx rfl (hb hby at_16) ?_
    show Steps p.tables e below (T0.setTop (mkF m 17 #[.val (.int p1), .val (.int p2), .val (.int p3), .val (.int p4), .val (.int p5), .val (.int (1 : Int32)), .unset, .unset, .unset, .unset, .unset, .unset, .unset, .unset, .unset, .unset] [(.int (2 : Int32)), (.int p5)])) _
    refine XS.iand X0.here hx rfl (hb hby at_17) rfl ?_
    show Steps p.tables e below (T0.setTop (mkF m 18 #[.val (.int p1), .val (.int p2), .val (.int p3), .val (.int p4), .val (.int p5), .val (.int (1 : Int32)), .unset, .unset, .unset, .unset, .unset, .unset, .unset, .unset, .unset, .unset] [(.int (p5 &&& (2 : Int32)))])) _
    refine XS.ifYes X0.here hx rfl (pc0 := 18) (pc' := 25) rfl (hb hby at_18) rfl (by rw [if0]; exact (teq c6).1) (by decide) (by decide) ?_
    show Steps p.tables e below (T0.setTop (mkF m 25 #[.val (.int p1), .val (.int p2), .val (.int p3), .val (.int p4), .val (.int p5), .val (.int (1 : Int32)), .unset, .unset, .unset, .unset, .unset, .unset, .unset, .unset, .unset, .unset] [])) _
    refine XS.iconst X0.here hx rfl (hb hby at_25) ?_
    show Steps p.tables e below (T0.setTop (mkF m 26 #[.val (.int p1), .val (.int p2), .val (.int p3), .val (.int p4), .val (.int p5), .val (.int (1 : Int32)), .unset, .unset, .unset, .unset, .unset, .unset, .unset, .unset, .unset, .unset] [(.int (0 : Int32))])) _
    refine XS.istore X0.here hx rfl (hb hby at_26) rfl (l' := #[.val (.int p1), .val (.int p2), .val (.int p3), .val (.int p4), .val (.int p5), .val (.int (1 : Int32)), .val (.int (0 : Int32)), .unset, .unset, .unset, .unset, .unset, .unset, .unset, .unset, .unset]) rfl ?_
    show Steps p.tables e below (T0.setTop (mkF m 28 #[.val (.int p1), .val (.int p2), .val (.int p3), .val (.int p4), .val (.int p5), .val (.int (1 : Int32)), .val (.int (0 : Int32)), .unset, .unset, .unset, .unset, .unset, .unset, .unset, .unset, .unset] [])) _
    refine XS.iload X0.here hx rfl (hb hby at_28) rfl ?_
    show Steps p.tables e below (T0.setTop (mkF m 30 #[.val (.int p1), .val (.int p2), .val (.int p3), .val (.int p4), .val (.int p5), .val (.int (1 : Int32)), .val (.int (0 : Int32)), .unset, .unset, .unset, .unset, .unset, .unset, .unset, .unset, .unset] [(.int p5)])) _
    refine XS.iconst X0.here hx rfl (hb hby at_30) ?_
    show Steps p.tables e below (T0.setTop (mkF m 31 #[.val (.int p1), .val (.int p2), .val (.int p3), .val (.int p4), .val (.int p5), .val (.int (1 : Int32)), .val (.int (0 : Int32)), .unset, .unset, .unset, .unset, .unset, .unset, .unset, .unset, .unset] [(.int (4 : Int32)), (.int p5)])) _
    refine XS.iand X0.here hx rfl (hb hby at_31) rfl ?_
    show Steps p.tables e below (T0.setTop (mkF m 32 #[.val (.int p1), .val (.int p2), .val (.int p3), .val (.int p4), .val (.int p5), .val (.int (1 : Int32)), .val (.int (0 : Int32)), .unset, .unset, .unset, .unset, .unset, .unset, .unset, .unset, .unset] [(.int (p5 &&& (4 : Int32)))])) _
    refine XS.ifYes X0.here hx rfl (pc0 := 32) (pc' := 39) rfl (hb hby at_32) rfl (by rw [if0]; exact (teq c7).1) (by decide) (by decide) ?_
    show Steps p.tables e below (T0.setTop (mkF m 39 #[.val (.int p1), .val (.int p2), .val (.int p3), .val (.int p4), .val (.int p5), .val (.int (1 : Int32)), .val (.int (0 : Int32)), .unset, .unset, .unset, .unset, .unset, .unset, .unset, .unset, .unset] [])) _
    refine XS.iconst X0.here hx rfl (hb hby at_39) ?_
    show Steps p.tables e below (T0.setTop (mkF m 40 #[.val (.int p1), .val (.int p2), .val (.int p3), .val (.int p4), .val (.int p5), .val (.int (1 : Int32)), .val (.int (0 : Int32)), .unset, .unset, .unset, .unset, .unset, .unset, .unset, .unset, .unset] [(.int (0 : Int32))])) _
    refine XS.istore X0.here hx rfl (hb hby at_40) rfl (l' := #[.val (.int p1), .val (.int p2), .val (.int p3), .val (.int p4), .val (.int p5), .val (.int (1 : Int32)), .val (.int (0 : Int32)), .val (.int (0 : Int32)), .unset, .unset, .unset, .unset, .unset, .unset, .unset, .unset]) rfl ?_
    show Steps p.tables e below (T0.setTop (mkF m 42 #[.val (.int p1), .val (.int p2), .val (.int p3), .val (.int p4), .val (.int p5), .val (.int (1 : Int32)), .val (.int (0 : Int32)), .val (.int (0 : Int32)), .unset, .unset, .unset, .unset, .unset, .unset, .unset, .unset] [])) _
    refine XS.iload X0.here hx rfl (hb hby at_42) rfl ?_
    show Steps p.tables e below (T0.setTop (mkF m 44 #[.val (.int p1), .val (.int p2), .val (.int p3), .val (.int p4), .val (.int p5), .val (.int (1 : Int32)), .val (.int (0 : Int32)), .val (.int (0 : Int32)), .unset, .unset, .unset, .unset, .unset, .unset, .unset, .unset] [(.int (0 : Int32))])) _
    refine XS.ifYes X0.here hx rfl (pc0 := 44) (pc' := 51) rfl (hb hby at_44) rfl (by decide) (by decide) (by decide) ?_
    show Steps p.tables e below (T0.setTop (mkF m 51 #[.val (.int p1), .val (.int p2), .val (.int p3), .val (.int p4), .val (.int p5), .val (.int (1 : Int32)), .val (.int (0 : Int32)), .val (.int (0 : Int32)), .unset, .unset, .unset, .unset, .unset, .unset, .unset, .unset] [])) _
    refine XS.iconst X0.here hx rfl (hb hby at_51) ?_
    show Steps p.tables e below (T0.setTop (mkF m 52 #[.val (.int p1), .val (.int p2), .val (.int p3), .val (.int p4), .val (.int p5), .val (.int (1 : Int32)), .val (.int (0 : Int32)), .val (.int (0 : Int32)), .unset, .unset, .unset, .unset, .unset, .unset, .unset, .unset] [(.int (1 : Int32))])) _
    refine XS.istore X0.here hx rfl (hb hby at_52) rfl (l' := #[.val (.int p1), .val (.int p2), .val (.int p3), .val (.int p4), .val (.int p5), .val (.int (1 : Int32)), .val (.int (0 : Int32)), .val (.int (0 : Int32)), .val (.int (1 : Int32)), .unset, .unset, .unset, .unset, .unset, .unset, .unset]) rfl ?_
    show Steps p.tables e below (T0.setTop (mkF m 54 #[.val (.int p1), .val (.int p2), .val (.int p3), .val (.int p4), .val (.int p5), .val (.int (1 : Int32)), .val (.int (0 : Int32)), .val (.int (0 : Int32)), .val (.int (1 : Int32)), .unset, .unset, .unset, .unset, .unset, .unset, .unset] [])) _
    refine XS.iload X0.here hx rfl (hb hby at_54) rfl ?_
    show Steps p.tables e below (T0.setTop (mkF m 56 #[.val (.int p1), .val (.int p2), .val (.int p3), .val (.int p4), .val (.int p5), .val (.int (1 : Int32)), .val (.int (0 : Int32)), .val (.int (0 : Int32)), .val (.int (1 : Int32)), .unset, .unset, .unset, .unset, .unset, .unset, .unset] [(.int (1 : Int32))])) _
    refine XS.ifNo X0.here hx rfl (hb hby at_56) rfl (by decide) ?_
    show Steps p.tables e below (T0.setTop (mkF m 59 #[.val (.int p1), .val (.int p2), .val (.int p3), .val (.int p4), .val (.int p5), .val (.int (1 : Int32)), .val (.int (0 : Int32)), .val (.int (0 : Int32)), .val (.int (1 : Int32)), .unset, .unset, .unset, .unset, .unset, .unset, .unset] [])) _
    refine XS.iload X0.here hx rfl (hb hby at_59) rfl ?_
    show Steps p.tables e below (T0.setTop (mkF m 61 #[.val (.int p1), .val (.int p2), .val (.int p3), .val (.int p4), .val (.int p5), .val (.int (1 : Int32)), .val (.int (0 : Int32)), .val (.int (0 : Int32)), .val (.int (1 : Int32)), .unset, .unset, .unset, .unset, .unset, .unset, .unset] [(.int (0 : Int32))])) _
    refine XS.ifYes X0.here hx rfl (pc0 := 61) (pc' := 68) rfl (hb hby at_61) rfl (by decide) (by decide) (by decide) ?_
    show Steps p.tables e below (T0.setTop (mkF m 68 #[.val (.int p1), .val (.int p2), .val (.int p3), .val (.int p4), .val (.int p5), .val (.int (1 : Int32)), .val (.int (0 : Int32)), .val (.int (0 : Int32)), .val (.int (1 : Int32)), .unset, .unset, .unset, .unset, .unset, .unset, .unset] [])) _
    refine XS.iconst X0.here hx rfl (hb hby at_68) ?_
    show Steps p.tables e below (T0.setTop (mkF m 69 #[.val (.int p1), .val (.int p2), .val (.int p3), .val (.int p4), .val (.int p5), .val (.int (1 : Int32)), .val (.int (0 : Int32)), .val (.int (0 : Int32)), .val (.int (1 : Int32)), .unset, .unset, .unset, .unset, .unset, .unset, .unset] [(.int (1 : Int32))])) _
    refine XS.goto X0.here hx rfl (pc0 := 69) (pc' := 73) rfl (hb hby at_69) (by decide) (by decide) ?_
    show Steps p.tables e below (T0.setTop (mkF m 73 #[.val (.int p1), .val (.int p2), .val (.int p3), .val (.int p4), .val (.int p5), .val (.int (1 : Int32)), .val (.int (0 : Int32)), .val (.int (0 : Int32)), .val (.int (1 : Int32)), .unset, .unset, .unset, .unset, .unset, .unset, .unset] [(.int (1 : Int32))])) _
    refine XS.istore X0.here hx rfl (hb hby at_73) rfl (l' := #[.val (.int p1), .val (.int p2), .val (.int p3), .val (.int p4), .val (.int p5), .val (.int (1 : Int32)), .val (.int (0 : Int32)), .val (.int (0 : Int32)), .val (.int (1 : Int32)), .val (.int (1 : Int32)), .unset, .unset, .unset, .unset, .unset, .unset]) rfl ?_
    show Steps p.tables e below (T0.setTop (mkF m 75 #[.val (.int p1), .val (.int p2), .val (.int p3), .val (.int p4), .val (.int p5), .val (.int (1 : Int32)), .val (.int (0 : Int32)), .val (.int (0 : Int32)), .val (.int (1 : Int32)), .val (.int (1 : Int32)), .unset, .unset, .unset, .unset, .unset, .unset] [])) _
    exact kt
  · refine ⟨1, 0, 1, 1, 2, ⟨Or.inl ⟨rfl, rfl⟩, Or.inr (Or.inr ⟨rfl, rfl, rfl⟩)⟩, fun target kt => ?_⟩
    show Steps p.tables e below (T0.setTop (mkF m 0 #[.val (.int p1), .val (.int p2), .val (.int p3), .val (.int p4), .val (.int p5), .unset, .unset, .unset, .unset, .unset, .unset, .unset, .unset, .unset, .unset, .unset] [])) _
    refine XS.iload X0.here hx rfl (hb hby at_0) rfl ?_
    show Steps p.tables e below (T0.setTop (mkF m 2 #[.val (.int p1), .val (.int p2), .val (.int p3), .val (.int p4), .val (.int p5), .unset, .unset, .unset, .unset, .unset, .unset, .unset, .unset, .unset, .unset, .unset] [(.int p5)])) _
    refine XS.iconst X0.here hx rfl (hb hby at_2) ?_
    show Steps p.tables e below (T0.setTop (mkF m 3 #[.val (.int p1), .val (.int p2), .val (.int p3), .val (.int p4), .val (.int p5), .unset, .unset, .unset, .unset, .unset, .unset, .unset, .unset, .unset, .unset, .unset] [(.int (1 : Int32)), (.int p5)])) _
    refine XS.iand X0.here hx rfl (hb hby at_3) rfl ?_
    show Steps p.tables e below (T0.setTop (mkF m 4 #[.val (.int p1), .val (.int p2), .val (.int p3), .val (.int p4), .val (.int p5), .unset, .unset, .unset, .unset, .unset, .unset, .unset, .unset, .unset, .unset, .unset] [(.int (p5 &&& (1 : Int32)))])) _
    refine XS.ifNo X0.here hx rfl (hb hby at_4) rfl (by rw [if0]; exact (feq c5).1) ?_
    show Steps p.tables e below (T0.setTop (mkF m 7 #[.val (.int p1), .val (.int p2), .val (.int p3), .val (.int p4), .val (.int p5), .unset, .unset, .unset, .unset, .unset, .unset, .unset, .unset, .unset, .unset, .unset] [])) _
    refine XS.iconst X0.here hx rfl (hb hby at_7) ?_
    show Steps p.tables e below (T0.setTop (mkF m 8 #[.val (.int p1), .val (.int p2), .val (.int p3), .val (.int p4), .val (.int p5), .unset, .unset, .unset, .unset, .unset, .unset, .unset, .unset, .unset, .unset, .unset] [(.int (1 : Int32))])) _
    refine XS.goto X0.here hx rfl (pc0 := 8) (pc' := 12) rfl (hb hby at_8) (by decide) (by decide) ?_
    show Steps p.tables e below (T0.setTop (mkF m 12 #[.val (.int p1), .val (.int p2), .val (.int p3), .val (.int p4), .val (.int p5), .unset, .unset, .unset, .unset, .unset, .unset, .unset, .unset, .unset, .unset, .unset] [(.int (1 : Int32))])) _
    refine XS.istore X0.here hx rfl (hb hby at_12) rfl (l' := #[.val (.int p1), .val (.int p2), .val (.int p3), .val (.int p4), .val (.int p5), .val (.int (1 : Int32)), .unset, .unset, .unset, .unset, .unset, .unset, .unset, .unset, .unset, .unset]) rfl ?_
    show Steps p.tables e below (T0.setTop (mkF m 14 #[.val (.int p1), .val (.int p2), .val (.int p3), .val (.int p4), .val (.int p5), .val (.int (1 : Int32)), .unset, .unset, .unset, .unset, .unset, .unset, .unset, .unset, .unset, .unset] [])) _
    refine XS.iload X0.here hx rfl (hb hby at_14) rfl ?_
    show Steps p.tables e below (T0.setTop (mkF m 16 #[.val (.int p1), .val (.int p2), .val (.int p3), .val (.int p4), .val (.int p5), .val (.int (1 : Int32)), .unset, .unset, .unset, .unset, .unset, .unset, .unset, .unset, .unset, .unset] [(.int p5)])) _
    refine XS.iconst X0.here hx rfl (hb hby at_16) ?_
    show Steps p.tables e below (T0.setTop (mkF m 17 #[.val (.int p1), .val (.int p2), .val (.int p3), .val (.int p4), .val (.int p5), .val (.int (1 : Int32)), .unset, .unset, .unset, .unset, .unset, .unset, .unset, .unset, .unset, .unset] [(.int (2 : Int32)), (.int p5)])) _
    refine XS.iand X0.here hx rfl (hb hby at_17) rfl ?_
    show Steps p.tables e below (T0.setTop (mkF m 18 #[.val (.int p1), .val (.int p2), .val (.int p3), .val (.int p4), .val (.int p5), .val (.int (1 : Int32)), .unset, .unset, .unset, .unset, .unset, .unset, .unset, .unset, .unset, .unset] [(.int (p5 &&& (2 : Int32)))])) _
    refine XS.ifYes X0.here hx rfl (pc0 := 18) (pc' := 25) rfl (hb hby at_18) rfl (by rw [if0]; exact (teq c6).1) (by decide) (by decide) ?_
    show Steps p.tables e below (T0.setTop (mkF m 25 #[.val (.int p1), .val (.int p2), .val (.int p3), .val (.int p4), .val (.int p5), .val (.int (1 : Int32)), .unset, .unset, .unset, .unset, .unset, .unset, .unset, .unset, .unset, .unset] [])) _
    refine XS.iconst X0.here hx rfl (hb hby at_25) ?_
    show Steps p.tables e below (T0.setTop (mkF m 26 #[.val (.int p1), .val (.int p2), .val (.int p3), .val (.int p4), .val (.int p5), .val (.int (1 : Int32)), .unset, .unset, .unset, .unset, .unset, .unset, .unset, .unset, .unset, .unset] [(.int (0 : Int32))])) _
    refine XS.istore X0.here hx rfl (hb hby at_26) rfl (l' := #[.val (.int p1), .val (.int p2), .val (.int p3), .val (.int p4), .val (.int p5), .val (.int (1 : Int32)), .val (.int (0 : Int32)), .unset, .unset, .unset, .unset, .unset, .unset, .unset, .unset, .unset]) rfl ?_
    show Steps p.tables e below (T0.setTop (mkF m 28 #[.val (.int p1), .val (.int p2), .val (.int p3), .val (.int p4), .val (.int p5), .val (.int (1 : Int32)), .val (.int (0 : Int32)), .unset, .unset, .unset, .unset, .unset, .unset, .unset, .unset, .unset] [])) _
    refine XS.iload X0.here hx rfl (hb hby at_28) rfl ?_
    show Steps p.tables e below (T0.setTop (mkF m 30 #[.val (.int p1), .val (.int p2), .val (.int p3), .val (.int p4), .val (.int p5), .val (.int (1 : Int32)), .val (.int (0 : Int32)), .unset, .unset, .unset, .unset, .unset, .unset, .unset, .unset, .unset] [(.int p5)])) _
    refine XS.iconst X0.here hx rfl (hb hby at_30) ?_
    show Steps p.tables e below (T0.setTop (mkF m 31 #[.val (.int p1), .val (.int p2), .val (.int p3), .val (.int p4), .val (.int p5), .val (.int (1 : Int32)), .val (.int (0 : Int32)), .unset, .unset, .unset, .unset, .unset, .unset, .unset, .unset, .unset] [(.int (4 : Int32)), (.int p5)])) _
    refine XS.iand X0.here hx rfl (hb hby at_31) rfl ?_
    show Steps p.tables e below (T0.setTop (mkF m 32 #[.val (.int p1), .val (.int p2), .val (.int p3), .val (.int p4), .val (.int p5), .val (.int (1 : Int32)), .val (.int (0 : Int32)), .unset, .unset, .unset, .unset, .unset, .unset, .unset, .unset, .unset] [(.int (p5 &&& (4 : Int32)))])) _
    refine XS.ifNo X0.here hx rfl (hb hby at_32) rfl (by rw [if0]; exact (feq c7).1) ?_
    show Steps p.tables e below (T0.setTop (mkF m 35 #[.val (.int p1), .val (.int p2), .val (.int p3), .val (.int p4), .val (.int p5), .val (.int (1 : Int32)), .val (.int (0 : Int32)), .unset, .unset, .unset, .unset, .unset, .unset, .unset, .unset, .unset] [])) _
    refine XS.iconst X0.here hx rfl (hb hby at_35) ?_
    show Steps p.tables e below (T0.setTop (mkF m 36 #[.val (.int p1), .val (.int p2), .val (.int p3), .val (.int p4), .val (.int p5), .val (.int (1 : Int32)), .val (.int (0 : Int32)), .unset, .unset, .unset, .unset, .unset, .unset, .unset, .unset, .unset] [(.int (1 : Int32))])) _
    refine XS.goto X0.here hx rfl (pc0 := 36) (pc' := 40) rfl (hb hby at_36) (by decide) (by decide) ?_
    show Steps p.tables e below (T0.setTop (mkF m 40 #[.val (.int p1), .val (.int p2), .val (.int p3), .val (.int p4), .val (.int p5), .val (.int (1 : Int32)), .val (.int (0 : Int32)), .unset, .unset, .unset, .unset, .unset, .unset, .unset, .unset, .unset] [(.int (1 : Int32))])) _
    refine XS.istore X0.here hx rfl (hb hby at_40) rfl (l' := #[.val (.int p1), .val (.int p2), .val (.int p3), .val (.int p4), .val (.int p5), .val (.int (1 : Int32)), .val (.int (0 : Int32)), .val (.int (1 : Int32)), .unset, .unset, .unset, .unset, .unset, .unset, .unset, .unset]) rfl ?_
    show Steps p.tables e below (T0.setTop (mkF m 42 #[.val (.int p1), .val (.int p2), .val (.int p3), .val (.int p4), .val (.int p5), .val (.int (1 : Int32)), .val (.int (0 : Int32)), .val (.int (1 : Int32)), .unset, .unset, .unset, .unset, .unset, .unset, .unset, .unset] [])) _
    refine XS.iload X0.here hx rfl (hb hby at_42) rfl ?_
    show Steps p.tables e below (T0.setTop (mkF m 44 #[.val (.int p1), .val (.int p2), .val (.int p3), .val (.int p4), .val (.int p5), .val (.int (1 : Int32)), .val (.int (0 : Int32)), .val (.int (1 : Int32)), .unset, .unset, .unset, .unset, .unset, .unset, .unset, .unset] [(.int (0 : Int32))])) _
    refine XS.ifYes X0.here hx rfl (pc0 := 44) (pc' := 51) rfl (hb hby at_44) rfl (by decide) (by decide) (by decide) ?_
    show Steps p.tables e below (T0.setTop (mkF m 51 #[.val (.int p1), .val (.int p2), .val (.int p3), .val (.int p4), .val (.int p5), .val (.int (1 : Int32)), .val (.int (0 : Int32)), .val (.int (1 : Int32)), .unset, .unset, .unset, .unset, .unset, .unset, .unset, .unset] [])) _
    refine XS.iconst X0.here hx rfl (hb hby at_51) ?_
    show Steps p.tables e below (T0.setTop (mkF m 52 #[.val (.int p1), .val (.int p2), .val (.int p3), .val (.int p4), .val (.int p5), .val (.int (1 : Int32)), .val (.int (0 : Int32)), .val (.int (1 : Int32)), .unset, .unset, .unset, .unset, .unset, .unset, .unset, .unset] [(.int (1 : Int32))])) _
    refine XS.istore X0.here hx rfl (hb hby at_52) rfl (l' := #[.val (.int p1), .val (.int p2), .val (.int p3), .val (.int p4), .val (.int p5), .val (.int (1 : Int32)), .val (.int (0 : Int32)), .val (.int (1 : Int32)), .val (.int (1 : Int32)), .unset, .unset, .unset, .unset, .unset, .unset, .unset]) rfl ?_
    show Steps p.tables e below (T0.setTop (mkF m 54 #[.val (.int p1), .val (.int p2), .val (.int p3), .val (.int p4), .val (.int p5), .val (.int (1 : Int32)), .val (.int (0 : Int32)), .val (.int (1 : Int32)), .val (.int (1 : Int32)), .unset, .unset, .unset, .unset, .unset, .unset, .unset] [])) _
    refine XS.iload X0.here hx rfl (hb hby at_54) rfl ?_
    show Steps p.tables e below (T0.setTop (mkF m 56 #[.val (.int p1), .val (.int p2), .val (.int p3), .val (.int p4), .val (.int p5), .val (.int (1 : Int32)), .val (.int (0 : Int32)), .val (.int (1 : Int32)), .val (.int (1 : Int32)), .unset, .unset, .unset, .unset, .unset, .unset, .unset] [(.int (1 : Int32))])) _
    refine XS.ifNo X0.here hx rfl (hb hby at_56) rfl (by decide) ?_
    show Steps p.tables e below (T0.setTop (mkF m 59 #[.val (.int p1), .val (.int p2), .val (.int p3), .val (.int p4), .val (.int p5), .val (.int (1 : Int32)), .val (.int (0 : Int32)), .val (.int (1 : Int32)), .val (.int (1 : Int32)), .unset, .unset, .unset, .unset, .unset, .unset, .unset] [])) _
    refine XS.iload X0.here hx rfl (hb hby at_59) rfl ?_
    show Steps p.tables e below (T0.setTop (mkF m 61 #[.val (.int p1), .val (.int p2), .val (.int p3), .val (.int p4), .val (.int p5), .val (.int (1 : Int32)), .val (.int (0 : Int32)), .val (.int (1 : Int32)), .val (.int (1 : Int32)), .unset, .unset, .unset, .unset, .unset, .unset, .unset] [(.int (1 : Int32))])) _
    refine XS.ifNo X0.here hx rfl (hb hby at_61) rfl (by decide) ?_
    show Steps p.tables e below (T0.setTop (mkF m 64 #[.val (.int p1), .val (.int p2), .val (.int p3), .val (.int p4), .val (.int p5), .val (.int (1 : Int32)), .val (.int (0 : Int32)), .val (.int (1 : Int32)), .val (.int (1 : Int32)), .unset, .unset, .unset, .unset, .unset, .unset, .unset] [])) _
    refine XS.iconst X0.here hx rfl (hb hby at_64) ?_
    show Steps p.tables e below (T0.setTop (mkF m 65 #[.val (.int p1), .val (.int p2), .val (.int p3), .val (.int p4), .val (.int p5), .val (.int (1 : Int32)), .val (.int (0 : Int32)), .val (.int (1 : Int32)), .val (.int (1 : Int32)), .unset, .unset, .unset, .unset, .unset, .unset, .unset] [(.int (2 : Int32))])) _
    refine XS.goto X0.here hx rfl (pc0 := 65) (pc' := 73) rfl (hb hby at_65) (by decide) (by decide) ?_
    show Steps p.tables e below (T0.setTop (mkF m 73 #[.val (.int p1), .val (.int p2), .val (.int p3), .val (.int p4), .val (.int p5), .val (.int (1 : Int32)), .val (.int (0 : Int32)), .val (.int (1 : Int32)), .val (.int (1 : Int32)), .unset, .unset, .unset, .unset, .unset, .unset, .unset] [(.int (2 : Int32))])) _
    refine XS.istore X0.here hx rfl (hb hby at_73) rfl (l' := #[.val (.int p1), .val (.int p2), .val (.int p3), .val (.int p4), .val (.int p5), .val (.int (1 : Int32)), .val (.int (0 : Int32)), .val (.int (1 : Int32)), .val (.int (1 : Int32)), .val (.int (2 : Int32)), .unset, .unset, .unset, .unset, .unset, .unset]) rfl ?_
    show Steps p.tables e below (T0.setTop (mkF m 75 #[.val (.int p1), .val (.int p2), .val (.int p3), .val (.int p4), .val (.int p5), .val (.int (1 : Int32)), .val (.int (0 : Int32)), .val (.int (1 : Int32)), .val (.int (1 : Int32)), .val (.int (2 : Int32)), .unset, .unset, .unset, .unset, .unset, .unset] [])) _
    exact kt
  · refine ⟨1, 1, 0, 2, 1, ⟨Or.inr ⟨rfl, rfl⟩, Or.inr (Or.inl ⟨rfl, rfl, rfl⟩)⟩, fun target kt => ?_⟩
    show Steps p.tables e below (T0.setTop (mkF m 0 #[.val (.int p1), .val (.int p2), .val (.int p3), .val (.int p4), .val (.int p5), .unset, .unset, .unset, .unset, .unset, .unset, .unset, .unset, .unset, .unset, .unset] [])) _
    refine XS.iload X0.here hx rfl (hb hby at_0) rfl ?_
    show Steps p.tables e below (T0.setTop (mkF m 2 #[.val (.int p1), .val (.int p2), .val (.int p3), .val (.int p4), .val (.int p5), .unset, .unset, .unset, .unset, .unset, .unset, .unset, .unset, .unset, .unset, .unset] [(.int p5)])) _
    refine XS.iconst X0.here hx rfl (hb hby at_2) ?_
    show Steps p.tables e below (T0.setTop (mkF m 3 #[.val (.int p1), .val (.int p2), .val (.int p3), .val (.int p4), .val (.int p5), .unset, .unset, .unset, .unset, .unset, .unset, .unset, .unset, .unset, .unset, .unset] [(.int (1 : Int32)), (.int p5)])) _
    refine XS.iand X0.here hx rfl (hb hby at_3) rfl ?_
    show Steps p.tables e below (T0.setTop (mkF m 4 #[.val (.int p1), .val (.int p2), .val (.int p3), .val (.int p4), .val (.int p5), .unset, .unset, .unset, .unset, .unset, .unset, .unset, .unset, .unset, .unset, .unset] [(.int (p5 &&& (1 : Int32)))])) _
    refine XS.ifNo X0.here hx rfl (hb hby at_4) rfl (by rw [if0]; exact (feq c5).1) ?_
    show Steps p.tables e below (T0.setTop (mkF m 7 #[.val (.int p1), .val (.int p2), .val (.int p3), .val (.int p4), .val (.int p5), .unset, .unset, .unset, .unset, .unset, .unset, .unset, .unset, .unset, .unset, .unset] [])) _
    refine XS.iconst X0.here hx rfl (hb hby at_7) ?_
    show Steps p.tables e below (T0.setTop (mkF m 8 #[.val (.int p1), .val (.int p2), .val (.int p3), .val (.int p4), .val (.int p5), .unset, .unset, .unset, .unset, .unset, .unset, .unset, .unset, .unset, .unset, .unset] [(.int (1 : Int32))])) _
    refine XS.goto X0.here hx rfl (pc0 := 8) (pc' := 12) rfl (hb hby at_8) (by decide) (by decide) ?_
    show Steps p.tables e below (T0.setTop (mkF m 12 #[.val (.int p1), .val (.int p2), .val (.int p3), .val (.int p4), .val (.int p5), .unset, .unset, .unset, .unset, .unset, .unset, .unset, .unset, .unset, .unset, .unset] [(.int (1 : Int32))])) _
    refine XS.istore X0.here hx rfl (hb hby at_12) rfl (l' := #[.val (.int p1), .val (.int p2), .val (.int p3), .val (.int p4), .val (.int p5), .val (.int (1 : Int32)), .unset, .unset, .unset, .unset, .unset, .unset, .unset, .unset, .unset, .unset]) rfl ?_
    show Steps p.tables e below (T0.setTop (mkF m 14 #[.val (.int p1), .val (.int p2), .val (.int p3), .val (.int p4), .val (.int p5), .val (.int (1 : Int32)), .unset, .unset, .unset, .unset, .unset, .unset, .unset, .unset, .unset, .unset] [])) _
    refine XS.iload X0.here hx rfl (hb hby at_14) rfl ?_
    show Steps p.tables e below (T0.setTop (mkF m 16 #[.val (.int p1), .val (.int p2), .val (.int p3), .val (.int p4), .val (.int p5), .val (.int (1 : Int32)), .unset, .unset, .unset, .unset, .unset, .unset, .unset, .unset, .unset, .unset] [(.int p5)])) _
    refine XS.iconst X0.here hx rfl (hb hby at_16) ?_
    show Steps p.tables e below (T0.setTop (mkF m 17 #[.val (.int p1), .val (.int p2), .val (.int p3), .val (.int p4), .val (.int p5), .val (.int (1 : Int32)), .unset, .unset, .unset, .unset, .unset, .unset, .unset, .unset, .unset, .unset] [(.int (2 : Int32)), (.int p5)])) _
    refine XS.iand X0.here hx rfl (hb hby at_17) rfl ?_
    show Steps p.tables e below (T0.setTop (mkF m 18 #[.val (.int p1), .val (.int p2), .val (.int p3), .val (.int p4), .val (.int p5), .val (.int (1 : Int32)), .unset, .unset, .unset, .unset, .unset, .unset, .unset, .unset, .unset, .unset] [(.int (p5 &&& (2 : Int32)))])) _
    refine XS.ifNo X0.here hx rfl (hb hby at_18) rfl (by rw [if0]; exact (feq c6).1) ?_
    show Steps p.tables e below (T0.setTop (mkF m 21 #[.val (.int p1), .val (.int p2), .val (.int p3), .val (.int p4), .val (.int p5), .val (.int (1 : Int32)), .unset, .unset, .unset, .unset, .unset, .unset, .unset, .unset, .unset, .unset] [])) _
    refine XS.iconst X0.here hx rfl (hb hby at_21) ?_
    show Steps p.tables e below (T0.setTop (mkF m 22 #[.val (.int p1), .val (.int p2), .val (.int p3), .val (.int p4), .val (.int p5), .val (.int (1 : Int32)), .unset, .unset, .unset, .unset, .unset, .unset, .unset, .unset, .unset, .unset] [(.int (1 : Int32))])) _
    refine XS.goto X0.here hx rfl (pc0 := 22) (pc' := 26) rfl (hb hby at_22) (by decide) (by decide) ?_
    show Steps p.tables e below (T0.setTop (mkF m 26 #[.val (.int p1), .val (.int p2), .val (.int p3), .val (.int p4), .val (.int p5), .val (.int (1 : Int32)), .unset, .unset, .unset, .unset, .unset, .unset, .unset, .unset, .unset, .unset] [(.int (1 : Int32))])) _
    refine XS.istore X0.here hx rfl (hb hby at_26) rfl (l' := #[.val (.int p1), .val (.int p2), .val (.int p3), .val (.int p4), .val (.int p5), .val (.int (1 : Int32)), .val (.int (1 : Int32)), .unset, .unset, .unset, .unset, .unset, .unset, .unset, .unset, .unset]) rfl ?_
    show Steps p.tables e below (T0.setTop (mkF m 28 #[.val (.int p1), .val (.int p2), .val (.int p3), .val (.int p4), .val (.int p5), .val (.int (1 : Int32)), .val (.int (1 : Int32)), .unset, .unset, .unset, .unset, .unset, .unset, .unset, .unset, .unset] [])) _
    refine XS.iload X0.here hx rfl (hb hby at_28) rfl ?_
    show Steps p.tables e below (T0.setTop (mkF m 30 #[.val (.int p1), .val (.int p2), .val (.int p3), .val (.int p4), .val (.int p5), .val (.int (1 : Int32)), .val (.int (1 : Int32)), .unset, .unset, .unset, .unset, .unset, .unset, .unset, .unset, .unset] [(.int p5)])) _
    refine XS.iconst X0.here hx rfl (hb hby at_30) ?_
    show Steps p.tables e below (T0.setTop (mkF m 31 #[.val (.int p1), .val (.int p2), .val (.int p3), .val (.int p4), .val (.int p5), .val (.int (1 : Int32)), .val (.int (1 : Int32)), .unset, .unset, .unset, .unset, .unset, .unset, .unset, .unset, .unset] [(.int (4 : Int32)), (.int p5)])) _
    refine XS.iand X0.here hx rfl (hb hby at_31) rfl ?_
    show Steps p.tables e below (T0.setTop (mkF m 32 #[.val (.int p1), .val (.int p2), .val (.int p3), .val (.int p4), .val (.int p5), .val (.int (1 : Int32)), .val (.int (1 : Int32)), .unset, .unset, .unset, .unset, .unset, .unset, .unset, .unset, .unset] [(.int (p5 &&& (4 : Int32)))])) _
    refine XS.ifYes X0.here hx rfl (pc0 := 32) (pc' := 39) rfl (hb hby at_32) rfl (by rw [if0]; exact (teq c7).1) (by decide) (by decide) ?_
    show Steps p.tables e below (T0.setTop (mkF m 39 #[.val (.int p1), .val (.int p2), .val (.int p3), .val (.int p4), .val (.int p5), .val (.int (1 : Int32)), .val (.int (1 : Int32)), .unset, .unset, .unset, .unset, .unset, .unset, .unset, .unset, .unset] [])) _
    refine XS.iconst X0.here hx rfl (hb hby at_39) ?_
    show Steps p.tables e below (T0.setTop (mkF m 40 #[.val (.int p1), .val (.int p2), .val (.int p3), .val (.int p4), .val (.int p5), .val (.int (1 : Int32)), .val (.int (1 : Int32)), .unset, .unset, .unset, .unset, .unset, .unset, .unset, .unset, .unset] [(.int (0 : Int32))])) _
    refine XS.istore X0.here hx rfl (hb hby at_40) rfl (l' := #[.val (.int p1), .val (.int p2), .val (.int p3), .val (.int p4), .val (.int p5), .val (.int (1 : Int32)), .val (.int (1 : Int32)), .val (.int (0 : Int32)), .unset, .unset, .unset, .unset, .unset, .unset, .unset, .unset]) rfl ?_
    show Steps p.tables e below (T0.setTop (mkF m 42 #[.val (.int p1), .val (.int p2), .val (.int p3), .val (.int p4), .val (.int p5), .val (.int (1 : Int32)), .val (.int (1 : Int32)), .val (.int (0 : Int32)), .unset, .unset, .unset, .unset, .unset, .unset, .unset, .unset] [])) _
    refine XS.iload X0.here hx rfl (hb hby at_42) rfl ?_
    show Steps p.tables e below (T0.setTop (mkF m 44 #[.val (.int p1), .val (.int p2), .val (.int p3), .val (.int p4), .val (.int p5), .val (.int (1 : Int32)), .val (.int (1 : Int32)), .val (.int (0 : Int32)), .unset, .unset, .unset, .unset, .unset, .unset, .unset, .unset] [(.int (1 : Int32))])) _
    refine XS.ifNo X0.here hx rfl (hb hby at_44) rfl (by decide) ?_
    show Steps p.tables e below (T0.setTop (mkF m 47 #[.val (.int p1), .val (.int p2), .val (.int p3), .val (.int p4), .val (.int p5), .val (.int (1 : Int32)), .val (.int (1 : Int32)), .val (.int (0 : Int32)), .unset, .unset, .unset, .unset, .unset, .unset, .unset, .unset] [])) _
    refine XS.iconst X0.here hx rfl (hb hby at_47) ?_
    show Steps p.tables e below (T0.setTop (mkF m 48 #[.val (.int p1), .val (.int p2), .val (.int p3), .val (.int p4), .val (.int p5), .val (.int (1 : Int32)), .val (.int (1 : Int32)), .val (.int (0 : Int32)), .unset, .unset, .unset, .unset, .unset, .unset, .unset, .unset] [(.int (2 : Int32))])) _
    refine XS.goto X0.here hx rfl (pc0 := 48) (pc' := 52) rfl (hb hby at_48) (by decide) (by decide) ?_
    show Steps p.tables e below (T0.setTop (mkF m 52 #[.val (.int p1), .val (.int p2), .val (.int p3), .val (.int p4), .val (.int p5), .val (.int (1 : Int32)), .val (.int (1 : Int32)), .val (.int (0 : Int32)), .unset, .unset, .unset, .unset, .unset, .unset, .unset, .unset] [(.int (2 : Int32))])) _
    refine XS.istore X0.here hx rfl (hb hby at_52) rfl (l' := #[.val (.int p1), .val (.int p2), .val (.int p3), .val (.int p4), .val (.int p5), .val (.int (1 : Int32)), .val (.int (1 : Int32)), .val (.int (0 : Int32)), .val (.int (2 : Int32)), .unset, .unset, .unset, .unset, .unset, .unset, .unset]) rfl ?_
    show Steps p.tables e below (T0.setTop (mkF m 54 #[.val (.int p1), .val (.int p2), .val (.int p3), .val (.int p4), .val (.int p5), .val (.int (1 : Int32)), .val (.int (1 : Int32)), .val (.int (0 : Int32)), .val (.int (2 : Int32)), .unset, .unset, .unset, .unset, .unset, .unset, .unset] [])) _
    refine XS.iload X0.here hx rfl (hb hby at_54) rfl ?_
    show Steps p.tables e below (T0.setTop (mkF m 56 #[.val (.int p1), .val (.int p2), .val (.int p3), .val (.int p4), .val (.int p5), .val (.int (1 : Int32)), .val (.int (1 : Int32)), .val (.int (0 : Int32)), .val (.int (2 : Int32)), .unset, .unset, .unset, .unset, .unset, .unset, .unset] [(.int (1 : Int32))])) _
    refine XS.ifNo X0.here hx rfl (hb hby at_56) rfl (by decide) ?_
    show Steps p.tables e below (T0.setTop (mkF m 59 #[.val (.int p1), .val (.int p2), .val (.int p3), .val (.int p4), .val (.int p5), .val (.int (1 : Int32)), .val (.int (1 : Int32)), .val (.int (0 : Int32)), .val (.int (2 : Int32)), .unset, .unset, .unset, .unset, .unset, .unset, .unset] [])) _
    refine XS.iload X0.here hx rfl (hb hby at_59) rfl ?_
    show Steps p.tables e below (T0.setTop (mkF m 61 #[.val (.int p1), .val (.int p2), .val (.int p3), .val (.int p4), .val (.int p5), .val (.int (1 : Int32)), .val (.int (1 : Int32)), .val (.int (0 : Int32)), .val (.int (2 : Int32)), .unset, .unset, .unset, .unset, .unset, .unset, .unset] [(.int (0 : Int32))])) _
    refine XS.ifYes X0.here hx rfl (pc0 := 61) (pc' := 68) rfl (hb hby at_61) rfl (by decide) (by decide) (by decide) ?_
    show Steps p.tables e below (T0.setTop (mkF m 68 #[.val (.int p1), .val (.int p2), .val (.int p3), .val (.int p4), .val (.int p5), .val (.int (1 : Int32)), .val (.int (1 : Int32)), .val (.int (0 : Int32)), .val (.int (2 : Int32)), .unset, .unset, .unset, .unset, .unset, .unset, .unset] [])) _
    refine XS.iconst X0.here hx rfl (hb hby at_68) ?_
    show Steps p.tables e below (T0.setTop (mkF m 69 #[.val (.int p1), .val (.int p2), .val (.int p3), .val (.int p4), .val (.int p5), .val (.int (1 : Int32)), .val (.int (1 : Int32)), .val (.int (0 : Int32)), .val (.int (2 : Int32)), .unset, .unset, .unset, .unset, .unset, .unset, .unset] [(.int (1 : Int32))])) _
    refine XS.goto X0.here hx rfl (pc0 := 69) (pc' := 73) rfl (hb hby at_69) (by decide) (by decide) ?_
    show Steps p.tables e below (T0.setTop (mkF m 73 #[.val (.int p1), .val (.int p2), .val (.int p3), .val (.int p4), .val (.int p5), .val (.int (1 : Int32)), .val (.int (1 : Int32)), .val (.int (0 : Int32)), .val (.int (2 : Int32)), .unset, .unset, .unset, .unset, .unset, .unset, .unset] [(.int (1 : Int32))])) _
    refine XS.istore X0.here hx rfl (hb hby at_73) rfl (l' := #[.val (.int p1), .val (.int p2), .val (.int p3), .val (.int p4), .val (.int p5), .val (.int (1 : Int32)), .val (.int (1 : Int32)), .val (.int (0 : Int32)), .val (.int (2 : Int32)), .val (.int (1 : Int32)), .unset, .unset, .unset, .unset, .unset, .unset]) rfl ?_
    show Steps p.tables e below (T0.setTop (mkF m 75 #[.val (.int p1), .val (.int p2), .val (.int p3), .val (.int p4), .val (.int p5), .val (.int (1 : Int32)), .val (.int (1 : Int32)), .val (.int (0 : Int32)), .val (.int (2 : Int32)), .val (.int (1 : Int32)), .unset, .unset, .unset, .unset, .unset, .unset] [])) _
    exact kt
  · refine ⟨1, 1, 1, 2, 2, ⟨Or.inr ⟨rfl, rfl⟩, Or.inr (Or.inr ⟨rfl, rfl, rfl⟩)⟩, fun target kt => ?_⟩
    show Steps p.tables e below (T0.setTop (mkF m 0 #[.val (.int p1), .val (.int p2), .val (.int p3), .val (.int p4), .val (.int p5), .unset, .unset, .unset, .unset, .unset, .unset, .unset, .unset, .unset, .unset, .unset] [])) _
    refine XS.iload X0.here hx rfl (hb hby at_0) rfl ?_
    show Steps p.tables e below (T0.setTop (mkF m 2 #[.val (.int p1), .val (.int p2), .val (.int p3), .val (.int p4), .val (.int p5), .unset, .unset, .unset, .unset, .unset, .unset, .unset, .unset, .unset, .unset, .unset] [(.int p5)])) _
    refine XS.iconst X0.here hx rfl (hb hby at_2) ?_
    show Steps p.tables e below (T0.setTop (mkF m 3 #[.val (.int p1), .val (.int p2), .val (.int p3), .val (.int p4), .val (.int p5), .unset, .unset, .unset, .unset, .unset, .unset, .unset, .unset, .unset, .unset, .unset] [(.int (1 : Int32)), (.int p5)])) _
    refine XS.iand X0.here hx rfl (hb hby at_3) rfl ?_
    show Steps p.tables e below (T0.setTop (mkF m 4 #[.val (.int p1), .val (.int p2), .val (.int p3), .val (.int p4), .val (.int p5), .unset, .unset, .unset, .unset, .unset, .unset, .unset, .unset, .unset, .unset, .unset] [(.int (p5 &&& (1 : Int32)))])) _
    refine XS.ifNo X0.here hx rfl (hb hby at_4) rfl (by rw [if0]; exact (feq c5).1) ?_
    show Steps p.tables e below (T0.setTop (mkF m 7 #[.val (.int p1), .val (.int p2), .val (.int p3), .val (.int p4), .val (.int p5), .unset, .unset, .unset, .unset, .unset, .unset, .unset, .unset, .unset, .unset, .unset] [])) _
    refine XS.iconst X0.here hx rfl (hb hby at_7) ?_
    show Steps p.tables e below (T0.setTop (mkF m 8 #[.val (.int p1), .val (.int p2), .val (.int p3), .val (.int p4), .val (.int p5), .unset, .unset, .unset, .unset, .unset, .unset, .unset, .unset, .unset, .unset, .unset] [(.int (1 : Int32))])) _
    refine XS.goto X0.here hx rfl (pc0 := 8) (pc' := 12) rfl (hb hby at_8) (by decide) (by decide) ?_
    show Steps p.tables e below (T0.setTop (mkF m 12 #[.val (.int p1), .val (.int p2), .val (.int p3), .val (.int p4), .val (.int p5), .unset, .unset, .unset, .unset, .unset, .unset, .unset, .unset, .unset, .unset, .unset] [(.int (1 : Int32))])) _
    refine XS.istore X0.here hx rfl (hb hby at_12) rfl (l' := #[.val (.int p1), .val (.int p2), .val (.int p3), .val (.int p4), .val (.int p5), .val (.int (1 : Int32)), .unset, .unset, .unset, .unset, .unset, .unset, .unset, .unset, .unset, .unset]) rfl ?_
    show Steps p.tables e below (T0.setTop (mkF m 14 #[.val (.int p1), .val (.int p2), .val (.int p3), .val (.int p4), .val (.int p5), .val (.int (1 : Int32)), .unset, .unset, .unset, .unset, .unset, .unset, .unset, .unset, .unset, .unset] [])) _
    refine XS.iload X0.here hx rfl (hb hby at_14) rfl ?_
    show Steps p.tables e below (T0.setTop (mkF m 16 #[.val (.int p1), .val (.int p2), .val (.int p3), .val (.int p4), .val (.int p5), .val (.int (1 : Int32)), .unset, .unset, .unset, .unset, .unset, .unset, .unset, .unset, .unset, .unset] [(.int p5)])) _
    refine XS.iconst X0.here hx rfl (hb hby at_16) ?_
    show Steps p.tables e below (T0.setTop (mkF m 17 #[.val (.int p1), .val (.int p2), .val (.int p3), .val (.int p4), .val (.int p5), .val (.int (1 : Int32)), .unset, .unset, .unset, .unset, .unset, .unset, .unset, .unset, .unset, .unset] [(.int (2 : Int32)), (.int p5)])) _
    refine XS.iand X0.here hx rfl (hb hby at_17) rfl ?_
    show Steps p.tables e below (T0.setTop (mkF m 18 #[.val (.int p1), .val (.int p2), .val (.int p3), .val (.int p4), .val (.int p5), .val (.int (1 : Int32)), .unset, .unset, .unset, .unset, .unset, .unset, .unset, .unset, .unset, .unset] [(.int (p5 &&& (2 : Int32)))])) _
    refine XS.ifNo X0.here hx rfl (hb hby at_18) rfl (by rw [if0]; exact (feq c6).1) ?_
    show Steps p.tables e below (T0.setTop (mkF m 21 #[.val (.int p1), .val (.int p2), .val (.int p3), .val (.int p4), .val (.int p5), .val (.int (1 : Int32)), .unset, .unset, .unset, .unset, .unset, .unset, .unset, .unset, .unset, .unset] [])) _
    refine XS.iconst X0.here hx rfl (hb hby at_21) ?_
    show Steps p.tables e below (T0.setTop (mkF m 22 #[.val (.int p1), .val (.int p2), .val (.int p3), .val (.int p4), .val (.int p5), .val (.int (1 : Int32)), .unset, .unset, .unset, .unset, .unset, .unset, .unset, .unset, .unset, .unset] [(.int (1 : Int32))])) _
    refine XS.goto X0.here hx rfl (pc0 := 22) (pc' := 26) rfl (hb hby at_22) (by decide) (by decide) ?_
    show Steps p.tables e below (T0.setTop (mkF m 26 #[.val (.int p1), .val (.int p2), .val (.int p3), .val (.int p4), .val (.int p5), .val (.int (1 : Int32)), .unset, .unset, .unset, .unset, .unset, .unset, .unset, .unset, .unset, .unset] [(.int (1 : Int32))])) _
    refine XS.istore X0.here hx rfl (hb hby at_26) rfl (l' := #[.val (.int p1), .val (.int p2), .val (.int p3), .val (.int p4), .val (.int p5), .val (.int (1 : Int32)), .val (.int (1 : Int32)), .unset, .unset, .unset, .unset, .unset, .unset, .unset, .unset, .unset]) rfl ?_
    show Steps p.tables e below (T0.setTop (mkF m 28 #[.val (.int p1), .val (.int p2), .val (.int p3), .val (.int p4), .val (.int p5), .val (.int (1 : Int32)), .val (.int (1 : Int32)), .unset, .unset, .unset, .unset, .unset, .unset, .unset, .unset, .unset] [])) _
    refine XS.iload X0.here hx rfl (hb hby at_28) rfl ?_
    show Steps p.tables e below (T0.setTop (mkF m 30 #[.val (.int p1), .val (.int p2), .val (.int p3), .val (.int p4), .val (.int p5), .val (.int (1 : Int32)), .val (.int (1 : Int32)), .unset, .unset, .unset, .unset, .unset, .unset, .unset, .unset, .unset] [(.int p5)])) _
    refine XS.iconst X0.here hx rfl (hb hby at_30) ?_
    show Steps p.tables e below (T0.setTop (mkF m 31 #[.val (.int p1), .val (.int p2), .val (.int p3), .val (.int p4), .val (.int p5), .val (.int (1 : Int32)), .val (.int (1 : Int32)), .unset, .unset, .unset, .unset, .unset, .unset, .unset, .unset, .unset] [(.int (4 : Int32)), (.int p5)])) _
    refine XS.iand X0.here hx rfl (hb hby at_31) rfl ?_
    show Steps p.tables e below (T0.setTop (mkF m 32 #[.val (.int p1), .val (.int p2), .val (.int p3), .val (.int p4), .val (.int p5), .val (.int (1 : Int32)), .val (.int (1 : Int32)), .unset, .unset, .unset, .unset, .unset, .unset, .unset, .unset, .unset] [(.int (p5 &&& (4 : Int32)))])) _
    refine XS.ifNo X0.here hx rfl (hb hby at_32) rfl (by rw [if0]; exact (feq c7).1) ?_
    show Steps p.tables e below (T0.setTop (mkF m 35 #[.val (.int p1), .val (.int p2), .val (.int p3), .val (.int p4), .val (.int p5), .val (.int (1 : Int32)), .val (.int (1 : Int32)), .unset, .unset, .unset, .unset, .unset, .unset, .unset, .unset, .unset] [])) _
    refine XS.iconst X0.here hx rfl (hb hby at_35) ?_
    show Steps p.tables e below (T0.setTop (mkF m 36 #[.val (.int p1), .val (.int p2), .val (.int p3), .val (.int p4), .val (.int p5), .val (.int (1 : Int32)), .val (.int (1 : Int32)), .unset, .unset, .unset, .unset, .unset, .unset, .unset, .unset, .unset] [(.int (1 : Int32))])) _
    refine XS.goto X0.here hx rfl (pc0 := 36) (pc' := 40) rfl (hb hby at_36) (by decide) (by decide) ?_
    show Steps p.tables e below (T0.setTop (mkF m 40 #[.val (.int p1), .val (.int p2), .val (.int p3), .val (.int p4), .val (.int p5), .val (.int (1 : Int32)), .val (.int (1 : Int32)), .unset, .unset, .unset, .unset, .unset, .unset, .unset, .unset, .unset] [(.int (1 : Int32))])) _
    refine XS.istore X0.here hx rfl (hb hby at_40) rfl (l' := #[.val (.int p1), .val (.int p2), .val (.int p3), .val (.int p4), .val (.int p5), .val (.int (1 : Int32)), .val (.int (1 : Int32)), .val (.int (1 : Int32)), .unset, .unset, .unset, .unset, .unset, .unset, .unset, .unset]) rfl ?_
    show Steps p.tables e below (T0.setTop (mkF m 42 #[.val (.int p1), .val (.int p2), .val (.int p3), .val (.int p4), .val (.int p5), .val (.int (1 : Int32)), .val (.int (1 : Int32)), .val (.int (1 : Int32)), .unset, .unset, .unset, .unset, .unset, .unset, .unset, .unset] [])) _
    refine XS.iload X0.here hx rfl (hb hby at_42) rfl ?_
    show Steps p.tables e below (T0.setTop (mkF m 44 #[.val (.int p1), .val (.int p2), .val (.int p3), .val (.int p4), .val (.int p5), .val (.int (1 : Int32)), .val (.int (1 : Int32)), .val (.int (1 : Int32)), .unset, .unset, .unset, .unset, .unset, .unset, .unset, .unset] [(.int (1 : Int32))])) _
    refine XS.ifNo X0.here hx rfl (hb hby at_44) rfl (by decide) ?_
    show Steps p.tables e below (T0.setTop (mkF m 47 #[.val (.int p1), .val (.int p2), .val (.int p3), .val (.int p4), .val (.int p5), .val (.int (1 : Int32)), .val (.int (1 : Int32)), .val (.int (1 : Int32)), .unset, .unset, .unset, .unset, .unset, .unset, .unset, .unset] [])) _
    refine XS.iconst X0.here hx rfl (hb hby at_47) ?_
    show Steps p.tables e below (T0.setTop (mkF m 48 #[.val (.int p1), .val (.int p2), .val (.int p3), .val (.int p4), .val (.int p5), .val (.int (1 : Int32)), .val (.int (1 : Int32)), .val (.int (1 : Int32)), .unset, .unset, .unset, .unset, .unset, .unset, .unset, .unset] [(.int (2 : Int32))])) _
    refine XS.goto X0.here hx rfl (pc0 := 48) (pc' := 52) rfl (hb hby at_48) (by decide) (by decide) ?_
    show Steps p.tables e below (T0.setTop (mkF m 52 #[.val (.int p1), .val (.int p2), .val (.int p3), .val (.int p4), .val (.int p5), .val (.int (1 : Int32)), .val (.int (1 : Int32)), .val (.int (1 : Int32)), .unset, .unset, .unset, .unset, .unset, .unset, .unset, .unset] [(.int (2 : Int32))])) _
    refine XS.istore X0.here hx rfl (hb hby at_52) rfl (l' := #[.val (.int p1), .val (.int p2), .val (.int p3), .val (.int p4), .val (.int p5), .val (.int (1 : Int32)), .val (.int (1 : Int32)), .val (.int (1 : Int32)), .val (.int (2 : Int32)), .unset, .unset, .unset, .unset, .unset, .unset, .unset]) rfl ?_
    show Steps p.tables e below (T0.setTop (mkF m 54 #[.val (.int p1), .val (.int p2), .val (.int p3), .val (.int p4), .val (.int p5), .val (.int (1 : Int32)), .val (.int (1 : Int32)), .val (.int (1 : Int32)), .val (.int (2 : Int32)), .unset, .unset, .unset, .unset, .unset, .unset, .unset] [])) _
    refine XS.iload X0.here hx rfl (hb hby at_54) rfl ?_
    show Steps p.tables e below (T0.setTop (mkF m 56 #[.val (.int p1), .val (.int p2), .val (.int p3), .val (.int p4), .val (.int p5), .val (.int (1 : Int32)), .val (.int (1 : Int32)), .val (.int (1 : Int32)), .val (.int (2 : Int32)), .unset, .unset, .unset, .unset, .unset, .unset, .unset] [(.int (1 : Int32))])) _
    refine XS.ifNo X0.here hx rfl (hb hby at_56) rfl (by decide) ?_
    show Steps p.tables e below (T0.setTop (mkF m 59 #[.val (.int p1), .val (.int p2), .val (.int p3), .val (.int p4), .val (.int p5), .val (.int (1 : Int32)), .val (.int (1 : Int32)), .val (.int (1 : Int32)), .val (.int (2 : Int32)), .unset, .unset, .unset, .unset, .unset, .unset, .unset] [])) _
    refine XS.iload X0.here hx rfl (hb hby at_59) rfl ?_
    show Steps p.tables e below (T0.setTop (mkF m 61 #[.val (.int p1), .val (.int p2), .val (.int p3), .val (.int p4), .val (.int p5), .val (.int (1 : Int32)), .val (.int (1 : Int32)), .val (.int (1 : Int32)), .val (.int (2 : Int32)), .unset, .unset, .unset, .unset, .unset, .unset, .unset] [(.int (1 : Int32))])) _
    refine XS.ifNo X0.here hx rfl (hb hby at_61) rfl (by decide) ?_
    show Steps p.tables e below (T0.setTop (mkF m 64 #[.val (.int p1), .val (.int p2), .val (.int p3), .val (.int p4), .val (.int p5), .val (.int (1 : Int32)), .val (.int (1 : Int32)), .val (.int (1 : Int32)), .val (.int (2 : Int32)), .unset, .unset, .unset, .unset, .unset, .unset, .unset] [])) _
    refine XS.iconst X0.here hx rfl (hb hby at_64) ?_
    show Steps p.tables e below (T0.setTop (mkF m 65 #[.val (.int p1), .val (.int p2), .val (.int p3), .val (.int p4), .val (.int p5), .val (.int (1 : Int32)), .val (.int (1 : Int32)), .val (.int (1 : Int32)), .val (.int (2 : Int32)), .unset, .unset, .unset, .unset, .unset, .unset, .unset] [(.int (2 : Int32))])) _
    refine XS.goto X0.here hx rfl (pc0 := 65) (pc' := 73) rfl (hb hby at_65) (by decide) (by decide) ?_
    show Steps p.tables e below (T0.setTop (mkF m 73 #[.val (.int p1), .val (.int p2), .val (.int p3), .val (.int p4), .val (.int p5), .val (.int (1 : Int32)), .val (.int (1 : Int32)), .val (.int (1 : Int32)), .val (.int (2 : Int32)), .unset, .unset, .unset, .unset, .unset, .unset, .unset] [(.int (2 : Int32))])) _
    refine XS.istore X0.here hx rfl (hb hby at_73) rfl (l' := #[.val (.int p1), .val (.int p2), .val (.int p3), .val (.int p4), .val (.int p5), .val (.int (1 : Int32)), .val (.int (1 : Int32)), .val (.int (1 : Int32)), .val (.int (2 : Int32)), .val (.int (2 : Int32)), .unset, .unset, .unset, .unset, .unset, .unset]) rfl ?_
    show Steps p.tables e below (T0.setTop (mkF m 75 #[.val (.int p1), .val (.int p2), .val (.int p3), .val (.int p4), .val (.int p5), .val (.int (1 : Int32)), .val (.int (1 : Int32)), .val (.int (1 : Int32)), .val (.int (2 : Int32)), .val (.int (2 : Int32)), .unset, .unset, .unset, .unset, .unset, .unset] [])) _
    exact kt
theorem own_r1 {f : Nat → Int32} {n k i : Nat} (hi : i < n) (hc : f i < (55296 : Int32) ∨ (57343 : Int32) < f i) (h16 : own_c16 (f i)) (h : own_run f n k (i + 1)) : own_run f n (k + 1) i := by
  have e1 : (55296 : Int32).toInt = 55296 := rfl
  have e2 : (56320 : Int32).toInt = 56320 := rfl
  have e4 : (57343 : Int32).toInt = 57343 := rfl
  have e5 : (65536 : Int32).toInt = 65536 := rfl
  have q : ¬ own_isH (f i) := fun z => by
    obtain ⟨z1, z2⟩ := z
    rcases hc with g | g
    · exact z1 g
    · rw [Int32.lt_iff_toInt_lt] at g z2; omega
  refine ⟨f i, hi, Or.inl ⟨q, rfl⟩, ?_⟩
  rcases hc with g | g
  · exact Or.inl ⟨g, h⟩
  · exact Or.inr (Or.inl ⟨g, by rw [Int32.lt_iff_toInt_lt]; have := h16.2; omega, h⟩)
theorem own_r2 {f : Nat → Int32} {n k i : Nat} (hi : i + 1 < n) (hx : own_isH (f i)) (hy : own_isL (f (i + 1))) (h : own_run f n k (i + 2)) : own_run f n (k + 1) i :=
  ⟨own_cp (f i) (f (i + 1)), by omega, Or.inr ⟨hx, hi, hy, rfl⟩, Or.inr (Or.inr ⟨(own_cp_ge hx hy).1, (own_cp_ge hx hy).2, h⟩)⟩
theorem own_r256 {g : Nat → Int32} {p : Nat} (hp : p ≤ 254) (hH : own_isH (g p)) (hL : own_isL (g (p + 1))) (hz : ∀ j, j < 256 → j ≠ p → j ≠ p + 1 → own_c16 (g j) ∧ (g j < (55296 : Int32) ∨ (57343 : Int32) < g j)) : own_run g 256 255 0 := by
  have key : ∀ m i, i + m = 256 → i ≠ p + 1 → own_run g 256 (if i ≤ p then m - 1 else m) i := by
    intro m
    induction m using Nat.strongRecOn with
    | ind m ih =>
      intro i him hip
      by_cases h0 : m = 0
      · subst h0
        rw [if_neg (by omega)]
        show i = 256
        omega
      · by_cases h1 : i = p
        · subst h1
          have q := ih (m - 2) (by omega) (i + 2) (by omega) (by omega)
          rw [if_neg (by omega)] at q
          rw [if_pos (Nat.le_refl _), show m - 1 = (m - 2) + 1 by omega]
          exact own_r2 (by omega) hH hL q
        · have q := ih (m - 1) (by omega) (i + 1) (by omega) (by omega)
          have z := hz i (by omega) h1 hip
          by_cases h2 : i ≤ p
          · rw [if_pos (by omega)] at q
            rw [if_pos h2, show m - 1 = (m - 1 - 1) + 1 by omega]
            exact own_r1 (by omega) z.2 z.1 q
          · rw [if_neg (by omega)] at q
            rw [if_neg h2, show m = (m - 1) + 1 by omega]
            exact own_r1 (by omega) z.2 z.1 q
  have q := key 256 0 rfl (by omega)
  rw [if_pos (Nat.zero_le _)] at q
  exact q
theorem own_fst (f : Nat → Int32) : ∀ n, (∃ j, j < n ∧ (255 : Int32) < f j) → ∃ r, r < n ∧ (∀ j, j < r → ¬ (255 : Int32) < f j) ∧ (255 : Int32) < f r
  | 0, ⟨j, hj, _⟩ => absurd hj (Nat.not_lt_zero _)
  | n + 1, ⟨j, hj, hg⟩ => by
    by_cases q : ∃ j, j < n ∧ (255 : Int32) < f j
    · obtain ⟨r, h1, h2, h3⟩ := own_fst f n q
      exact ⟨r, by omega, h2, h3⟩
    · have e : j = n := Nat.le_antisymm (by omega) (Nat.le_of_not_lt fun z => q ⟨j, z, hg⟩)
      subst e
      exact ⟨j, hj, fun i hi z => q ⟨i, hi, z⟩, hg⟩
def own_ok (f : Nat → Int32) (n : Nat) : Prop := (∃ k, k ≤ 2 ∧ own_run f n k 0) ∧ ∀ j, j < n → own_c16 (f j)
theorem own_s1 {z f : Nat → Int32} (h : own_sg z 0 f) : own_ok f 1 := by
  obtain ⟨x, h1, h2, rfl⟩ := h
  refine ⟨⟨1, by omega, own_r1 (by omega) h2 h1 rfl⟩, fun j hj => ?_⟩
  obtain rfl : j = 0 := by omega
  exact h1
theorem own_s2 {z f : Nat → Int32} (h : own_pr z 0 f) : own_ok f 2 := by
  obtain ⟨x, y, h1, h2, h3, h4, rfl⟩ := h
  refine ⟨⟨1, by omega, own_r2 (by omega) h3 h4 rfl⟩, fun j hj => ?_⟩
  obtain rfl | rfl : j = 0 ∨ j = 1 := by omega
  · exact h1
  · exact h2
theorem own_s11 {z f g : Nat → Int32} (h : own_sg z 0 f) (q : own_sg f 1 g) : own_ok g 2 := by
  obtain ⟨x, h1, h2, rfl⟩ := h
  obtain ⟨y, q1, q2, rfl⟩ := q
  refine ⟨⟨2, by omega, own_r1 (by omega) h2 h1 (own_r1 (by omega) q2 q1 rfl)⟩, fun j hj => ?_⟩
  obtain rfl | rfl : j = 0 ∨ j = 1 := by omega
  · exact h1
  · exact q1
theorem own_s12 {z f g : Nat → Int32} (h : own_sg z 0 f) (q : own_pr f 1 g) : own_ok g 3 := by
  obtain ⟨x, h1, h2, rfl⟩ := h
  obtain ⟨y, w, q1, q2, q3, q4, rfl⟩ := q
  refine ⟨⟨2, by omega, own_r1 (by omega) h2 h1 (own_r2 (by omega) q3 q4 rfl)⟩, fun j hj => ?_⟩
  obtain rfl | rfl | rfl : j = 0 ∨ j = 1 ∨ j = 2 := by omega
  · exact h1
  · exact q1
  · exact q2
theorem own_s21 {z f g : Nat → Int32} (h : own_pr z 0 f) (q : own_sg f 2 g) : own_ok g 3 := by
  obtain ⟨x, y, h1, h2, h3, h4, rfl⟩ := h
  obtain ⟨w, q1, q2, rfl⟩ := q
  refine ⟨⟨2, by omega, own_r2 (by omega) h3 h4 (own_r1 (by omega) q2 q1 rfl)⟩, fun j hj => ?_⟩
  obtain rfl | rfl | rfl : j = 0 ∨ j = 1 ∨ j = 2 := by omega
  · exact h1
  · exact h2
  · exact q1
theorem own_s22 {z f g : Nat → Int32} (h : own_pr z 0 f) (q : own_pr f 2 g) : own_ok g 4 := by
  obtain ⟨x, y, h1, h2, h3, h4, rfl⟩ := h
  obtain ⟨w, v, q1, q2, q3, q4, rfl⟩ := q
  refine ⟨⟨2, by omega, own_r2 (by omega) h3 h4 (own_r2 (by omega) q3 q4 rfl)⟩, fun j hj => ?_⟩
  obtain rfl | rfl | rfl | rfl : j = 0 ∨ j = 1 ∨ j = 2 ∨ j = 3 := by omega
  · exact h1
  · exact h2
  · exact q1
  · exact q2
theorem own_long {g1 g : Nat → Int32} {p q : Nat} (hp : p ≤ 254) (hq : q < 256) (n1 : ¬ q = p) (n2 : ¬ q = p + 1) (h : own_pr (fun _ => 0) p g1) (k : own_sg g1 q g) :
    own_run g 256 255 0 ∧ (∃ j, j < 256 ∧ (255 : Int32) < g j) ∧ ∀ j, j < 256 → own_c16 (g j) := by
  obtain ⟨x, y, h1, h2, h3, h4, rfl⟩ := h
  obtain ⟨w, k1, k2, rfl⟩ := k
  have ep : own_up1 (own_up1 (own_up1 (fun _ => 0) p x) (p + 1) y) q w p = x := by
    unfold own_up1; rw [if_neg (Ne.symm n1), if_neg (by omega), if_pos rfl]
  have ep1 : own_up1 (own_up1 (own_up1 (fun _ => 0) p x) (p + 1) y) q w (p + 1) = y := by
    unfold own_up1; rw [if_neg (Ne.symm n2), if_pos rfl]
  have ez : ∀ j, j ≠ p → j ≠ p + 1 → own_c16 (own_up1 (own_up1 (own_up1 (fun _ => 0) p x) (p + 1) y) q w j) ∧ (own_up1 (own_up1 (own_up1 (fun _ => 0) p x) (p + 1) y) q w j < (55296 : Int32) ∨ (57343 : Int32) < own_up1 (own_up1 (own_up1 (fun _ => 0) p x) (p + 1) y) q w j) := by
    intro j a1 a2
    by_cases e : j = q
    · subst e
      have : own_up1 (own_up1 (own_up1 (fun _ => 0) p x) (p + 1) y) j w j = w := by unfold own_up1; rw [if_pos rfl]
      rw [this]; exact ⟨k1, k2⟩
    · have : own_up1 (own_up1 (own_up1 (fun _ => 0) p x) (p + 1) y) q w j = 0 := by unfold own_up1; rw [if_neg e, if_neg a2, if_neg a1]
      rw [this]; exact ⟨⟨by decide, by decide⟩, Or.inl (by decide)⟩
  refine ⟨own_r256 hp (by rw [ep]; exact h3) (by rw [ep1]; exact h4) (fun j _ a1 a2 => ez j a1 a2), ⟨p, by omega, ?_⟩, fun j hj => ?_⟩
  · rw [ep]
    have z := h3.1
    rw [Int32.lt_iff_toInt_lt] at z ⊢
    have e1 : (55296 : Int32).toInt = 55296 := rfl
    have e2 : (255 : Int32).toInt = 255 := rfl
    omega
  · by_cases a1 : j = p
    · subst a1; rw [ep]; exact h1
    · by_cases a2 : j = p + 1
      · subst a2; rw [ep1]; exact h2
      · exact (ez j a1 a2).1
theorem own_md (x : Int32) (d : Nat) (h1 : 0 < d) (hd : d ≤ 255) : ∃ r, r < d ∧ (x &&& (2147483647 : Int32)) % Int32.ofNat d = Int32.ofNat r := by
  have a1 := c_mask x 2147483647 31 (by decide) (by decide)
  have a2 := (c_irem (x &&& (2147483647 : Int32)) (Int32.ofNat d) d (own_n32 (by omega))).1
  have a3 : 0 ≤ (x &&& (2147483647 : Int32)).toInt := by rw [a1]; exact Int.emod_nonneg _ (by decide)
  have a4 := a2 a3
  have a5 : 0 ≤ (x &&& (2147483647 : Int32)).toInt % (d : Int) := Int.emod_nonneg _ (by omega)
  have a6 : (x &&& (2147483647 : Int32)).toInt % (d : Int) < d := Int.emod_lt_of_pos _ (by omega)
  refine ⟨((x &&& (2147483647 : Int32)).toInt % (d : Int)).toNat, by omega, ?_⟩
  rw [← Int32.toInt_inj, own_n32 (by omega), a4]
  omega
theorem own_tw2 (i : Nat) : Int32.ofNat i + (2 : Int32) = Int32.ofNat (i + 2) := (Int32.ofNat_add i 2).symm
set_option maxRecDepth 65536 in
set_option maxHeartbeats 40000000 in
theorem own_P2 {p : Program} {l : Launch} {e : Env} {s : State} {m : MethodId} {args : Array Value} {below : List Frame} {meth : Method} {c : Code} {T0 : State} {Z : State} {a0 : Array Value} {h0 : Heap} {n0 : Nat} (p1 p2 p3 p4 p5 : Int32) (b5 b6 b7 : Int32) (L0 L1 : Nat) (hFL : (b6 = 0 ∧ L0 = 1 ∨ b6 = 1 ∧ L0 = 2) ∧ (b5 = 0 ∧ L1 = 0 ∨ b5 = 1 ∧ b7 = 0 ∧ L1 = 1 ∨ b5 = 1 ∧ b7 = 1 ∧ L1 = 2)) (X0 : Stand p l e room_1 s m args below meth c T0 [] 0 0) (hx : p.tables.exec = Jvm.exec) (hZ : Z.Warmed39 s.vm) (hw : ∀ d ∈ tables_1, d.before a0 Z = true) (hby : c.code = code) (hml : c.maxLocals = 16) (hown : s.vm.findClass "com/example/seize/seize/LockLimitsCheckKeyPinLaw" = some m.cls) (e0 : T0.heap = h0) (hn0 : n0 ≤ h0.size) :
    ∃ (T' : State) (h' : Heap) (a : Addr) (L' : List Loc) (n : Nat) (f : Nat → Int32), Stand p l e room_1 s m args below meth c T' L' 1 4 ∧ T'.heap = h' ∧ Fr n0 L' ∧ Ext h0 h' ∧ h0.size ≤ a ∧ own_AF Z h' a .char n f ∧ 1 ≤ n ∧ n ≤ 4 ∧ own_ok f n ∧
      ∀ target, Steps p.tables e below (T'.setTop (mkF m 108 #[.val (.int p1), .val (.int p2), .val (.int p3), .val (.int p4), .val (.int p5), .val (.int b5), .val (.int b6), .val (.int b7), .val (.int (Int32.ofNat L0)), .val (.int (Int32.ofNat L1)), .val (.ref a), .unset, .unset, .unset, .unset, .unset] [])) target → Steps p.tables e below (T0.setTop (mkF m 75 #[.val (.int p1), .val (.int p2), .val (.int p3), .val (.int p4), .val (.int p5), .val (.int b5), .val (.int b6), .val (.int b7), .val (.int (Int32.ofNat L0)), .val (.int (Int32.ofNat L1)), .unset, .unset, .unset, .unset, .unset, .unset] [])) target := by
  obtain ⟨⟨rfl, rfl⟩ | ⟨rfl, rfl⟩, ⟨rfl, rfl⟩ | ⟨rfl, rfl, rfl⟩ | ⟨rfl, rfl, rfl⟩⟩ := hFL
  · have sg1 : ∀ target, Steps p.tables e below (T0.setTop (mkF m 80 #[.val (.int p1), .val (.int p2), .val (.int p3), .val (.int p4), .val (.int p5), .val (.int (0 : Int32)), .val (.int (0 : Int32)), .val (.int b7), .val (.int (Int32.ofNat 1)), .val (.int (Int32.ofNat 0)), .unset, .unset, .unset, .unset, .unset, .unset] [(.int (Int32.ofNat 1))])) target → Steps p.tables e below (T0.setTop (mkF m 75 #[.val (.int p1), .val (.int p2), .val (.int p3), .val (.int p4), .val (.int p5), .val (.int (0 : Int32)), .val (.int (0 : Int32)), .val (.int b7), .val (.int (Int32.ofNat 1)), .val (.int (Int32.ofNat 0)), .unset, .unset, .unset, .unset, .unset, .unset] [])) target := by
      intro target kt
      show Steps p.tables e below (T0.setTop (mkF m 75 #[.val (.int p1), .val (.int p2), .val (.int p3), .val (.int p4), .val (.int p5), .val (.int (0 : Int32)), .val (.int (0 : Int32)), .val (.int b7), .val (.int (Int32.ofNat 1)), .val (.int (Int32.ofNat 0)), .unset, .unset, .unset, .unset, .unset, .unset] [])) _
      refine XS.iload X0.here hx rfl (hb hby at_75) rfl ?_
      show Steps p.tables e below (T0.setTop (mkF m 77 #[.val (.int p1), .val (.int p2), .val (.int p3), .val (.int p4), .val (.int p5), .val (.int (0 : Int32)), .val (.int (0 : Int32)), .val (.int b7), .val (.int (Int32.ofNat 1)), .val (.int (Int32.ofNat 0)), .unset, .unset, .unset, .unset, .unset, .unset] [(.int (Int32.ofNat 1))])) _
      refine XS.iload X0.here hx rfl (hb hby at_77) rfl ?_
      show Steps p.tables e below (T0.setTop (mkF m 79 #[.val (.int p1), .val (.int p2), .val (.int p3), .val (.int p4), .val (.int p5), .val (.int (0 : Int32)), .val (.int (0 : Int32)), .val (.int b7), .val (.int (Int32.ofNat 1)), .val (.int (Int32.ofNat 0)), .unset, .unset, .unset, .unset, .unset, .unset] [(.int (Int32.ofNat 0)), (.int (Int32.ofNat 1))])) _
      refine XS.iadd X0.here hx rfl (hb hby at_79) rfl ?_
      show Steps p.tables e below (T0.setTop (mkF m 80 #[.val (.int p1), .val (.int p2), .val (.int p3), .val (.int p4), .val (.int p5), .val (.int (0 : Int32)), .val (.int (0 : Int32)), .val (.int b7), .val (.int (Int32.ofNat 1)), .val (.int (Int32.ofNat 0)), .unset, .unset, .unset, .unset, .unset, .unset] [(.int ((Int32.ofNat 1) + (Int32.ofNat 0)))])) _
      rw [(show Int32.ofNat 1 + Int32.ofNat 0 = Int32.ofNat 1 by decide)]
      show Steps p.tables e below (T0.setTop (mkF m 80 #[.val (.int p1), .val (.int p2), .val (.int p3), .val (.int p4), .val (.int p5), .val (.int (0 : Int32)), .val (.int (0 : Int32)), .val (.int b7), .val (.int (Int32.ofNat 1)), .val (.int (Int32.ofNat 0)), .unset, .unset, .unset, .unset, .unset, .unset] [(.int (Int32.ofNat 1))])) _
      exact kt
    obtain ⟨T1, h1, k1, X1, e1, E1, A1, st1⟩ := newP X0 hx hZ (hw _ (List.mem_of_getElem? (i := 0) rfl)) e0 (g := (mkF m 80 #[.val (.int p1), .val (.int p2), .val (.int p3), .val (.int p4), .val (.int p5), .val (.int (0 : Int32)), .val (.int (0 : Int32)), .val (.int b7), .val (.int (Int32.ofNat 1)), .val (.int (Int32.ofNat 0)), .unset, .unset, .unset, .unset, .unset, .unset] [(.int (Int32.ofNat 1))])) rfl (hb hby at_80) rfl (own_nn (n := 1) (by omega)) (cap := 4) (by rw [own_cl (by omega)]; omega) (by decide) (by decide) (by decide)
    obtain ⟨a, ga⟩ : ∃ z, z = h0.size := ⟨_, rfl⟩
    rw [← ga] at A1 st1
    have ga1 : h0.size ≤ a := by rw [ga]; exact Nat.le_refl _
    have ge : n0 ≤ a := Nat.le_trans hn0 ga1
    have F1 : own_AF Z h1 a .char 1 (fun _ => 0) := by
      obtain ⟨cc, B1, -, S1, -, H1, -⟩ := Arv.new A1 (own_nn (n := 1) (by omega))
      rw [own_cl (by omega)] at S1
      exact ⟨cc, B1, S1, fun i hi => H1 i (by rw [S1]; exact hi)⟩
    have sg2 : ∀ target, Steps p.tables e below (T1.setTop (mkF m 90 #[.val (.int p1), .val (.int p2), .val (.int p3), .val (.int p4), .val (.int p5), .val (.int (0 : Int32)), .val (.int (0 : Int32)), .val (.int b7), .val (.int (Int32.ofNat 1)), .val (.int (Int32.ofNat 0)), .val (.ref a), .unset, .unset, .unset, .unset, .unset] [(.int (0 : Int32)), (.int p1), (.int (0 : Int32)), (.ref a)])) target → Steps p.tables e below (T1.setTop (mkF m 82 #[.val (.int p1), .val (.int p2), .val (.int p3), .val (.int p4), .val (.int p5), .val (.int (0 : Int32)), .val (.int (0 : Int32)), .val (.int b7), .val (.int (Int32.ofNat 1)), .val (.int (Int32.ofNat 0)), .unset, .unset, .unset, .unset, .unset, .unset] [(.ref a)])) target := by
      intro target kt
      show Steps p.tables e below (T1.setTop (mkF m 82 #[.val (.int p1), .val (.int p2), .val (.int p3), .val (.int p4), .val (.int p5), .val (.int (0 : Int32)), .val (.int (0 : Int32)), .val (.int b7), .val (.int (Int32.ofNat 1)), .val (.int (Int32.ofNat 0)), .unset, .unset, .unset, .unset, .unset, .unset] [(.ref a)])) _
      refine XS.astore X1.here hx rfl (hb hby at_82) rfl rfl (l' := #[.val (.int p1), .val (.int p2), .val (.int p3), .val (.int p4), .val (.int p5), .val (.int (0 : Int32)), .val (.int (0 : Int32)), .val (.int b7), .val (.int (Int32.ofNat 1)), .val (.int (Int32.ofNat 0)), .val (.ref a), .unset, .unset, .unset, .unset, .unset]) rfl ?_
      show Steps p.tables e below (T1.setTop (mkF m 84 #[.val (.int p1), .val (.int p2), .val (.int p3), .val (.int p4), .val (.int p5), .val (.int (0 : Int32)), .val (.int (0 : Int32)), .val (.int b7), .val (.int (Int32.ofNat 1)), .val (.int (Int32.ofNat 0)), .val (.ref a), .unset, .unset, .unset, .unset, .unset] [])) _
      refine XS.aload X1.here hx rfl (hb hby at_84) rfl rfl ?_
      show Steps p.tables e below (T1.setTop (mkF m 86 #[.val (.int p1), .val (.int p2), .val (.int p3), .val (.int p4), .val (.int p5), .val (.int (0 : Int32)), .val (.int (0 : Int32)), .val (.int b7), .val (.int (Int32.ofNat 1)), .val (.int (Int32.ofNat 0)), .val (.ref a), .unset, .unset, .unset, .unset, .unset] [(.ref a)])) _
      refine XS.iconst X1.here hx rfl (hb hby at_86) ?_
      show Steps p.tables e below (T1.setTop (mkF m 87 #[.val (.int p1), .val (.int p2), .val (.int p3), .val (.int p4), .val (.int p5), .val (.int (0 : Int32)), .val (.int (0 : Int32)), .val (.int b7), .val (.int (Int32.ofNat 1)), .val (.int (Int32.ofNat 0)), .val (.ref a), .unset, .unset, .unset, .unset, .unset] [(.int (0 : Int32)), (.ref a)])) _
      refine XS.iloadN X1.here hx rfl (hb hby at_87) rfl ?_
      show Steps p.tables e below (T1.setTop (mkF m 88 #[.val (.int p1), .val (.int p2), .val (.int p3), .val (.int p4), .val (.int p5), .val (.int (0 : Int32)), .val (.int (0 : Int32)), .val (.int b7), .val (.int (Int32.ofNat 1)), .val (.int (Int32.ofNat 0)), .val (.ref a), .unset, .unset, .unset, .unset, .unset] [(.int p1), (.int (0 : Int32)), (.ref a)])) _
      refine XS.iload X1.here hx rfl (hb hby at_88) rfl ?_
      show Steps p.tables e below (T1.setTop (mkF m 90 #[.val (.int p1), .val (.int p2), .val (.int p3), .val (.int p4), .val (.int p5), .val (.int (0 : Int32)), .val (.int (0 : Int32)), .val (.int b7), .val (.int (Int32.ofNat 1)), .val (.int (Int32.ofNat 0)), .val (.ref a), .unset, .unset, .unset, .unset, .unset] [(.int (0 : Int32)), (.int p1), (.int (0 : Int32)), (.ref a)])) _
      exact kt
    obtain ⟨_, _, ⟨TA, LA, kA, nA⟩, -, XA, ⟨LcA, hQA, lA, yA, zA⟩, stA⟩ := Jvm.LawKit.callS X1 hx (y := (⟨"com/example/seize/seize/LockLimitsCheckKeyPinLaw", "put", "([CIIZ)V"⟩ : MethodName)) hown (mvT hZ (hw _ (List.mem_of_getElem? (i := 1) rfl))) (mvT hZ (hw _ (List.mem_of_getElem? (i := 2) rfl))) (mvT hZ (hw _ (List.mem_of_getElem? (i := 3) rfl))) (mvT hZ (hw _ (List.mem_of_getElem? (i := 4) rfl))) (by decide) (backOf (W := 0) (rmU0 l Z a0 hw a 1 0 p1 (fun _ => 0) h1 n0 ge (by omega) F1 (by omega)) hZ (hw _ (List.mem_of_getElem? (i := 4) rfl)) (hw _ (List.mem_of_getElem? (i := 3) rfl)) (by decide) (by decide)) (g := (mkF m 90 #[.val (.int p1), .val (.int p2), .val (.int p3), .val (.int p4), .val (.int p5), .val (.int (0 : Int32)), .val (.int (0 : Int32)), .val (.int b7), .val (.int (Int32.ofNat 1)), .val (.int (Int32.ofNat 0)), .val (.ref a), .unset, .unset, .unset, .unset, .unset] [(.int (0 : Int32)), (.int p1), (.int (0 : Int32)), (.ref a)])) rfl (by rw [hml]; rfl) (argsL := [(.ref a), (.int (0 : Int32)), (.int p1), (.int (0 : Int32))]) (rest := []) (lenOf pdU rfl) rfl (by show 2 * 0 + _ ≤ _; exact Nat.le_of_eq rfl) (hb hby at_90) (fun _ _ => ⟨rfl, e1, Nat.le_of_ble_eq_true rfl, Nat.le_of_ble_eq_true rfl⟩)
    dsimp only [Pt.U, Pt.locs, Pt.cells, Pt.slots] at XA lA yA zA stA hQA
    subst lA yA zA
    obtain ⟨rfl, NA, KA, gA, PA, FA⟩ := hQA
    have MA := Fr.app (Fr.nil n0) NA
    have EA := own_ext_keep E1 KA (allS ga1 all0)
    have sg3 : ∀ target, Steps p.tables e below (TA.setTop (mkF m 108 #[.val (.int p1), .val (.int p2), .val (.int p3), .val (.int p4), .val (.int p5), .val (.int (0 : Int32)), .val (.int (0 : Int32)), .val (.int b7), .val (.int (Int32.ofNat 1)), .val (.int (Int32.ofNat 0)), .val (.ref a), .unset, .unset, .unset, .unset, .unset] [])) target → Steps p.tables e below (TA.setTop (mkF m 93 #[.val (.int p1), .val (.int p2), .val (.int p3), .val (.int p4), .val (.int p5), .val (.int (0 : Int32)), .val (.int (0 : Int32)), .val (.int b7), .val (.int (Int32.ofNat 1)), .val (.int (Int32.ofNat 0)), .val (.ref a), .unset, .unset, .unset, .unset, .unset] [])) target := by
      intro target kt
      show Steps p.tables e below (TA.setTop (mkF m 93 #[.val (.int p1), .val (.int p2), .val (.int p3), .val (.int p4), .val (.int p5), .val (.int (0 : Int32)), .val (.int (0 : Int32)), .val (.int b7), .val (.int (Int32.ofNat 1)), .val (.int (Int32.ofNat 0)), .val (.ref a), .unset, .unset, .unset, .unset, .unset] [])) _
      refine XS.iload XA.here hx rfl (hb hby at_93) rfl ?_
      show Steps p.tables e below (TA.setTop (mkF m 95 #[.val (.int p1), .val (.int p2), .val (.int p3), .val (.int p4), .val (.int p5), .val (.int (0 : Int32)), .val (.int (0 : Int32)), .val (.int b7), .val (.int (Int32.ofNat 1)), .val (.int (Int32.ofNat 0)), .val (.ref a), .unset, .unset, .unset, .unset, .unset] [(.int (0 : Int32))])) _
      refine XS.ifYes XA.here hx rfl (pc0 := 95) (pc' := 108) rfl (hb hby at_95) rfl (by decide) (by decide) (by decide) ?_
      show Steps p.tables e below (TA.setTop (mkF m 108 #[.val (.int p1), .val (.int p2), .val (.int p3), .val (.int p4), .val (.int p5), .val (.int (0 : Int32)), .val (.int (0 : Int32)), .val (.int b7), .val (.int (Int32.ofNat 1)), .val (.int (Int32.ofNat 0)), .val (.ref a), .unset, .unset, .unset, .unset, .unset] [])) _
      exact kt
    refine ⟨TA, _, a, _, 1, _, XA, rfl, MA, EA, ga1, FA, by omega, by omega, own_s1 PA, fun target kt => ?_⟩
    show Steps p.tables e below (T0.setTop (mkF m 75 #[.val (.int p1), .val (.int p2), .val (.int p3), .val (.int p4), .val (.int p5), .val (.int (0 : Int32)), .val (.int (0 : Int32)), .val (.int b7), .val (.int (Int32.ofNat 1)), .val (.int (Int32.ofNat 0)), .unset, .unset, .unset, .unset, .unset, .unset] [])) _
    refine sg1 _ ?_
    show Steps p.tables e below (T0.setTop (mkF m 80 #[.val (.int p1), .val (.int p2), .val (.int p3), .val (.int p4), .val (.int p5), .val (.int (0 : Int32)), .val (.int (0 : Int32)), .val (.int b7), .val (.int (Int32.ofNat 1)), .val (.int (Int32.ofNat 0)), .unset, .unset, .unset, .unset, .unset, .unset] [(.int (Int32.ofNat 1))])) _
    refine st1 _ ?_
    show Steps p.tables e below (T1.setTop (mkF m 82 #[.val (.int p1), .val (.int p2), .val (.int p3), .val (.int p4), .val (.int p5), .val (.int (0 : Int32)), .val (.int (0 : Int32)), .val (.int b7), .val (.int (Int32.ofNat 1)), .val (.int (Int32.ofNat 0)), .unset, .unset, .unset, .unset, .unset, .unset] [(.ref a)])) _
    refine sg2 _ ?_
    show Steps p.tables e below (T1.setTop (mkF m 90 #[.val (.int p1), .val (.int p2), .val (.int p3), .val (.int p4), .val (.int p5), .val (.int (0 : Int32)), .val (.int (0 : Int32)), .val (.int b7), .val (.int (Int32.ofNat 1)), .val (.int (Int32.ofNat 0)), .val (.ref a), .unset, .unset, .unset, .unset, .unset] [(.int (0 : Int32)), (.int p1), (.int (0 : Int32)), (.ref a)])) _
    refine stA _ ?_
    show Steps p.tables e below (TA.setTop (mkF m 93 #[.val (.int p1), .val (.int p2), .val (.int p3), .val (.int p4), .val (.int p5), .val (.int (0 : Int32)), .val (.int (0 : Int32)), .val (.int b7), .val (.int (Int32.ofNat 1)), .val (.int (Int32.ofNat 0)), .val (.ref a), .unset, .unset, .unset, .unset, .unset] [])) _
    refine sg3 _ ?_
    exact kt
  · have sg1 : ∀ target, Steps p.tables e below (T0.setTop (mkF m 80 #[.val (.int p1), .val (.int p2), .val (.int p3), .val (.int p4), .val (.int p5), .val (.int (1 : Int32)), .val (.int (0 : Int32)), .val (.int (0 : Int32)), .val (.int (Int32.ofNat 1)), .val (.int (Int32.ofNat 1)), .unset, .unset, .unset, .unset, .unset, .unset] [(.int (Int32.ofNat 2))])) target → Steps p.tables e below (T0.setTop (mkF m 75 #[.val (.int p1), .val (.int p2), .val (.int p3), .val (.int p4), .val (.int p5), .val (.int (1 : Int32)), .val (.int (0 : Int32)), .val (.int (0 : Int32)), .val (.int (Int32.ofNat 1)), .val (.int (Int32.ofNat 1)), .unset, .unset, .unset, .unset, .unset, .unset] [])) target := by
      intro target kt
      show Steps p.tables e below (T0.setTop (mkF m 75 #[.val (.int p1), .val (.int p2), .val (.int p3), .val (.int p4), .val (.int p5), .val (.int (1 : Int32)), .val (.int (0 : Int32)), .val (.int (0 : Int32)), .val (.int (Int32.ofNat 1)), .val (.int (Int32.ofNat 1)), .unset, .unset, .unset, .unset, .unset, .unset] [])) _
      refine XS.iload X0.here hx rfl (hb hby at_75) rfl ?_
      show Steps p.tables e below (T0.setTop (mkF m 77 #[.val (.int p1), .val (.int p2), .val (.int p3), .val (.int p4), .val (.int p5), .val (.int (1 : Int32)), .val (.int (0 : Int32)), .val (.int (0 : Int32)), .val (.int (Int32.ofNat 1)), .val (.int (Int32.ofNat 1)), .unset, .unset, .unset, .unset, .unset, .unset] [(.int (Int32.ofNat 1))])) _
      refine XS.iload X0.here hx rfl (hb hby at_77) rfl ?_
      show Steps p.tables e below (T0.setTop (mkF m 79 #[.val (.int p1), .val (.int p2), .val (.int p3), .val (.int p4), .val (.int p5), .val (.int (1 : Int32)), .val (.int (0 : Int32)), .val (.int (0 : Int32)), .val (.int (Int32.ofNat 1)), .val (.int (Int32.ofNat 1)), .unset, .unset, .unset, .unset, .unset, .unset] [(.int (Int32.ofNat 1)), (.int (Int32.ofNat 1))])) _
      refine XS.iadd X0.here hx rfl (hb hby at_79) rfl ?_
      show Steps p.tables e below (T0.setTop (mkF m 80 #[.val (.int p1), .val (.int p2), .val (.int p3), .val (.int p4), .val (.int p5), .val (.int (1 : Int32)), .val (.int (0 : Int32)), .val (.int (0 : Int32)), .val (.int (Int32.ofNat 1)), .val (.int (Int32.ofNat 1)), .unset, .unset, .unset, .unset, .unset, .unset] [(.int ((Int32.ofNat 1) + (Int32.ofNat 1)))])) _
      rw [(show Int32.ofNat 1 + Int32.ofNat 1 = Int32.ofNat 2 by decide)]
      show Steps p.tables e below (T0.setTop (mkF m 80 #[.val (.int p1), .val (.int p2), .val (.int p3), .val (.int p4), .val (.int p5), .val (.int (1 : Int32)), .val (.int (0 : Int32)), .val (.int (0 : Int32)), .val (.int (Int32.ofNat 1)), .val (.int (Int32.ofNat 1)), .unset, .unset, .unset, .unset, .unset, .unset] [(.int (Int32.ofNat 2))])) _
      exact kt
    obtain ⟨T1, h1, k1, X1, e1, E1, A1, st1⟩ := newP X0 hx hZ (hw _ (List.mem_of_getElem? (i := 0) rfl)) e0 (g := (mkF m 80 #[.val (.int p1), .val (.int p2), .val (.int p3), .val (.int p4), .val (.int p5), .val (.int (1 : Int32)), .val (.int (0 : Int32)), .val (.int (0 : Int32)), .val (.int (Int32.ofNat 1)), .val (.int (Int32.ofNat 1)), .unset, .unset, .unset, .unset, .unset, .unset] [(.int (Int32.ofNat 2))])) rfl (hb hby at_80) rfl (own_nn (n := 2) (by omega)) (cap := 4) (by rw [own_cl (by omega)]; omega) (by decide) (by decide) (by decide)
    obtain ⟨a, ga⟩ : ∃ z, z = h0.size := ⟨_, rfl⟩
    rw [← ga] at A1 st1
    have ga1 : h0.size ≤ a := by rw [ga]; exact Nat.le_refl _
    have ge : n0 ≤ a := Nat.le_trans hn0 ga1
    have F1 : own_AF Z h1 a .char 2 (fun _ => 0) := by
      obtain ⟨cc, B1, -, S1, -, H1, -⟩ := Arv.new A1 (own_nn (n := 2) (by omega))
      rw [own_cl (by omega)] at S1
      exact ⟨cc, B1, S1, fun i hi => H1 i (by rw [S1]; exact hi)⟩
    have sg2 : ∀ target, Steps p.tables e below (T1.setTop (mkF m 90 #[.val (.int p1), .val (.int p2), .val (.int p3), .val (.int p4), .val (.int p5), .val (.int (1 : Int32)), .val (.int (0 : Int32)), .val (.int (0 : Int32)), .val (.int (Int32.ofNat 1)), .val (.int (Int32.ofNat 1)), .val (.ref a), .unset, .unset, .unset, .unset, .unset] [(.int (0 : Int32)), (.int p1), (.int (0 : Int32)), (.ref a)])) target → Steps p.tables e below (T1.setTop (mkF m 82 #[.val (.int p1), .val (.int p2), .val (.int p3), .val (.int p4), .val (.int p5), .val (.int (1 : Int32)), .val (.int (0 : Int32)), .val (.int (0 : Int32)), .val (.int (Int32.ofNat 1)), .val (.int (Int32.ofNat 1)), .unset, .unset, .unset, .unset, .unset, .unset] [(.ref a)])) target := by
      intro target kt
      show Steps p.tables e below (T1.setTop (mkF m 82 #[.val (.int p1), .val (.int p2), .val (.int p3), .val (.int p4), .val (.int p5), .val (.int (1 : Int32)), .val (.int (0 : Int32)), .val (.int (0 : Int32)), .val (.int (Int32.ofNat 1)), .val (.int (Int32.ofNat 1)), .unset, .unset, .unset, .unset, .unset, .unset] [(.ref a)])) _
      refine XS.astore X1.here hx rfl (hb hby at_82) rfl rfl (l' := #[.val (.int p1), .val (.int p2), .val (.int p3), .val (.int p4), .val (.int p5), .val (.int (1 : Int32)), .val (.int (0 : Int32)), .val (.int (0 : Int32)), .val (.int (Int32.ofNat 1)), .val (.int (Int32.ofNat 1)), .val (.ref a), .unset, .unset, .unset, .unset, .unset]) rfl ?_
      show Steps p.tables e below (T1.setTop (mkF m 84 #[.val (.int p1), .val (.int p2), .val (.int p3), .val (.int p4), .val (.int p5), .val (.int (1 : Int32)), .val (.int (0 : Int32)), .val (.int (0 : Int32)), .val (.int (Int32.ofNat 1)), .val (.int (Int32.ofNat 1)), .val (.ref a), .unset, .unset, .unset, .unset, .unset] [])) _
      refine XS.aload X1.here hx rfl (hb hby at_84) rfl rfl ?_
      show Steps p.tables e below (T1.setTop (mkF m 86 #[.val (.int p1), .val (.int p2), .val (.int p3), .val (.int p4), .val (.int p5), .val (.int (1 : Int32)), .val (.int (0 : Int32)), .val (.int (0 : Int32)), .val (.int (Int32.ofNat 1)), .val (.int (Int32.ofNat 1)), .val (.ref a), .unset, .unset, .unset, .unset, .unset] [(.ref a)])) _
      refine XS.iconst X1.here hx rfl (hb hby at_86) ?_
      show Steps p.tables e below (T1.setTop (mkF m 87 #[.val (.int p1), .val (.int p2), .val (.int p3), .val (.int p4), .val (.int p5), .val (.int (1 : Int32)), .val (.int (0 : Int32)), .val (.int (0 : Int32)), .val (.int (Int32.ofNat 1)), .val (.int (Int32.ofNat 1)), .val (.ref a), .unset, .unset, .unset, .unset, .unset] [(.int (0 : Int32)), (.ref a)])) _
      refine XS.iloadN X1.here hx rfl (hb hby at_87) rfl ?_
      show Steps p.tables e below (T1.setTop (mkF m 88 #[.val (.int p1), .val (.int p2), .val (.int p3), .val (.int p4), .val (.int p5), .val (.int (1 : Int32)), .val (.int (0 : Int32)), .val (.int (0 : Int32)), .val (.int (Int32.ofNat 1)), .val (.int (Int32.ofNat 1)), .val (.ref a), .unset, .unset, .unset, .unset, .unset] [(.int p1), (.int (0 : Int32)), (.ref a)])) _
      refine XS.iload X1.here hx rfl (hb hby at_88) rfl ?_
      show Steps p.tables e below (T1.setTop (mkF m 90 #[.val (.int p1), .val (.int p2), .val (.int p3), .val (.int p4), .val (.int p5), .val (.int (1 : Int32)), .val (.int (0 : Int32)), .val (.int (0 : Int32)), .val (.int (Int32.ofNat 1)), .val (.int (Int32.ofNat 1)), .val (.ref a), .unset, .unset, .unset, .unset, .unset] [(.int (0 : Int32)), (.int p1), (.int (0 : Int32)), (.ref a)])) _
      exact kt
    obtain ⟨_, _, ⟨TA, LA, kA, nA⟩, -, XA, ⟨LcA, hQA, lA, yA, zA⟩, stA⟩ := Jvm.LawKit.callS X1 hx (y := (⟨"com/example/seize/seize/LockLimitsCheckKeyPinLaw", "put", "([CIIZ)V"⟩ : MethodName)) hown (mvT hZ (hw _ (List.mem_of_getElem? (i := 1) rfl))) (mvT hZ (hw _ (List.mem_of_getElem? (i := 2) rfl))) (mvT hZ (hw _ (List.mem_of_getElem? (i := 3) rfl))) (mvT hZ (hw _ (List.mem_of_getElem? (i := 4) rfl))) (by decide) (backOf (W := 0) (rmU0 l Z a0 hw a 2 0 p1 (fun _ => 0) h1 n0 ge (by omega) F1 (by omega)) hZ (hw _ (List.mem_of_getElem? (i := 4) rfl)) (hw _ (List.mem_of_getElem? (i := 3) rfl)) (by decide) (by decide)) (g := (mkF m 90 #[.val (.int p1), .val (.int p2), .val (.int p3), .val (.int p4), .val (.int p5), .val (.int (1 : Int32)), .val (.int (0 : Int32)), .val (.int (0 : Int32)), .val (.int (Int32.ofNat 1)), .val (.int (Int32.ofNat 1)), .val (.ref a), .unset, .unset, .unset, .unset, .unset] [(.int (0 : Int32)), (.int p1), (.int (0 : Int32)), (.ref a)])) rfl (by rw [hml]; rfl) (argsL := [(.ref a), (.int (0 : Int32)), (.int p1), (.int (0 : Int32))]) (rest := []) (lenOf pdU rfl) rfl (by show 2 * 0 + _ ≤ _; exact Nat.le_of_eq rfl) (hb hby at_90) (fun _ _ => ⟨rfl, e1, Nat.le_of_ble_eq_true rfl, Nat.le_of_ble_eq_true rfl⟩)
    dsimp only [Pt.U, Pt.locs, Pt.cells, Pt.slots] at XA lA yA zA stA hQA
    subst lA yA zA
    obtain ⟨rfl, NA, KA, gA, PA, FA⟩ := hQA
    have MA := Fr.app (Fr.nil n0) NA
    have EA := own_ext_keep E1 KA (allS ga1 all0)
    have sg3 : ∀ target, Steps p.tables e below (TA.setTop (mkF m 105 #[.val (.int p1), .val (.int p2), .val (.int p3), .val (.int p4), .val (.int p5), .val (.int (1 : Int32)), .val (.int (0 : Int32)), .val (.int (0 : Int32)), .val (.int (Int32.ofNat 1)), .val (.int (Int32.ofNat 1)), .val (.ref a), .unset, .unset, .unset, .unset, .unset] [(.int (0 : Int32)), (.int p2), (.int (Int32.ofNat 1)), (.ref a)])) target → Steps p.tables e below (TA.setTop (mkF m 93 #[.val (.int p1), .val (.int p2), .val (.int p3), .val (.int p4), .val (.int p5), .val (.int (1 : Int32)), .val (.int (0 : Int32)), .val (.int (0 : Int32)), .val (.int (Int32.ofNat 1)), .val (.int (Int32.ofNat 1)), .val (.ref a), .unset, .unset, .unset, .unset, .unset] [])) target := by
      intro target kt
      show Steps p.tables e below (TA.setTop (mkF m 93 #[.val (.int p1), .val (.int p2), .val (.int p3), .val (.int p4), .val (.int p5), .val (.int (1 : Int32)), .val (.int (0 : Int32)), .val (.int (0 : Int32)), .val (.int (Int32.ofNat 1)), .val (.int (Int32.ofNat 1)), .val (.ref a), .unset, .unset, .unset, .unset, .unset] [])) _
      refine XS.iload XA.here hx rfl (hb hby at_93) rfl ?_
      show Steps p.tables e below (TA.setTop (mkF m 95 #[.val (.int p1), .val (.int p2), .val (.int p3), .val (.int p4), .val (.int p5), .val (.int (1 : Int32)), .val (.int (0 : Int32)), .val (.int (0 : Int32)), .val (.int (Int32.ofNat 1)), .val (.int (Int32.ofNat 1)), .val (.ref a), .unset, .unset, .unset, .unset, .unset] [(.int (1 : Int32))])) _
      refine XS.ifNo XA.here hx rfl (hb hby at_95) rfl (by decide) ?_
      show Steps p.tables e below (TA.setTop (mkF m 98 #[.val (.int p1), .val (.int p2), .val (.int p3), .val (.int p4), .val (.int p5), .val (.int (1 : Int32)), .val (.int (0 : Int32)), .val (.int (0 : Int32)), .val (.int (Int32.ofNat 1)), .val (.int (Int32.ofNat 1)), .val (.ref a), .unset, .unset, .unset, .unset, .unset] [])) _
      refine XS.aload XA.here hx rfl (hb hby at_98) rfl rfl ?_
      show Steps p.tables e below (TA.setTop (mkF m 100 #[.val (.int p1), .val (.int p2), .val (.int p3), .val (.int p4), .val (.int p5), .val (.int (1 : Int32)), .val (.int (0 : Int32)), .val (.int (0 : Int32)), .val (.int (Int32.ofNat 1)), .val (.int (Int32.ofNat 1)), .val (.ref a), .unset, .unset, .unset, .unset, .unset] [(.ref a)])) _
      refine XS.iload XA.here hx rfl (hb hby at_100) rfl ?_
      show Steps p.tables e below (TA.setTop (mkF m 102 #[.val (.int p1), .val (.int p2), .val (.int p3), .val (.int p4), .val (.int p5), .val (.int (1 : Int32)), .val (.int (0 : Int32)), .val (.int (0 : Int32)), .val (.int (Int32.ofNat 1)), .val (.int (Int32.ofNat 1)), .val (.ref a), .unset, .unset, .unset, .unset, .unset] [(.int (Int32.ofNat 1)), (.ref a)])) _
      refine XS.iloadN XA.here hx rfl (hb hby at_102) rfl ?_
      show Steps p.tables e below (TA.setTop (mkF m 103 #[.val (.int p1), .val (.int p2), .val (.int p3), .val (.int p4), .val (.int p5), .val (.int (1 : Int32)), .val (.int (0 : Int32)), .val (.int (0 : Int32)), .val (.int (Int32.ofNat 1)), .val (.int (Int32.ofNat 1)), .val (.ref a), .unset, .unset, .unset, .unset, .unset] [(.int p2), (.int (Int32.ofNat 1)), (.ref a)])) _
      refine XS.iload XA.here hx rfl (hb hby at_103) rfl ?_
      show Steps p.tables e below (TA.setTop (mkF m 105 #[.val (.int p1), .val (.int p2), .val (.int p3), .val (.int p4), .val (.int p5), .val (.int (1 : Int32)), .val (.int (0 : Int32)), .val (.int (0 : Int32)), .val (.int (Int32.ofNat 1)), .val (.int (Int32.ofNat 1)), .val (.ref a), .unset, .unset, .unset, .unset, .unset] [(.int (0 : Int32)), (.int p2), (.int (Int32.ofNat 1)), (.ref a)])) _
      exact kt
    obtain ⟨_, _, ⟨TB, LB, kB, nB⟩, -, XB, ⟨LcB, hQB, lB, yB, zB⟩, stB⟩ := Jvm.LawKit.callS XA hx (y := (⟨"com/example/seize/seize/LockLimitsCheckKeyPinLaw", "put", "([CIIZ)V"⟩ : MethodName)) hown (mvT hZ (hw _ (List.mem_of_getElem? (i := 1) rfl))) (mvT hZ (hw _ (List.mem_of_getElem? (i := 2) rfl))) (mvT hZ (hw _ (List.mem_of_getElem? (i := 3) rfl))) (mvT hZ (hw _ (List.mem_of_getElem? (i := 4) rfl))) (by decide) (backOf (W := 0) (rmU0 l Z a0 hw a 2 1 p2 gA TA.heap n0 ge (by omega) FA (by omega)) hZ (hw _ (List.mem_of_getElem? (i := 4) rfl)) (hw _ (List.mem_of_getElem? (i := 3) rfl)) (by decide) (by decide)) (g := (mkF m 105 #[.val (.int p1), .val (.int p2), .val (.int p3), .val (.int p4), .val (.int p5), .val (.int (1 : Int32)), .val (.int (0 : Int32)), .val (.int (0 : Int32)), .val (.int (Int32.ofNat 1)), .val (.int (Int32.ofNat 1)), .val (.ref a), .unset, .unset, .unset, .unset, .unset] [(.int (0 : Int32)), (.int p2), (.int (Int32.ofNat 1)), (.ref a)])) rfl (by rw [hml]; rfl) (argsL := [(.ref a), (.int (Int32.ofNat 1)), (.int p2), (.int (0 : Int32))]) (rest := []) (lenOf pdU rfl) rfl (by show 2 * 0 + _ ≤ _; exact Nat.le_of_eq rfl) (hb hby at_105) (fun _ _ => ⟨rfl, rfl, Nat.le_of_ble_eq_true rfl, Nat.le_of_ble_eq_true rfl⟩)
    dsimp only [Pt.U, Pt.locs, Pt.cells, Pt.slots] at XB lB yB zB stB hQB
    subst lB yB zB
    obtain ⟨rfl, NB, KB, gB, PB, FB⟩ := hQB
    have MB := Fr.app (MA) NB
    have EB := own_ext_keep EA KB (allS ga1 all0)
    refine ⟨TB, _, a, _, 2, _, XB, rfl, MB, EB, ga1, FB, by omega, by omega, own_s11 PA PB, fun target kt => ?_⟩
    show Steps p.tables e below (T0.setTop (mkF m 75 #[.val (.int p1), .val (.int p2), .val (.int p3), .val (.int p4), .val (.int p5), .val (.int (1 : Int32)), .val (.int (0 : Int32)), .val (.int (0 : Int32)), .val (.int (Int32.ofNat 1)), .val (.int (Int32.ofNat 1)), .unset, .unset, .unset, .unset, .unset, .unset] [])) _
    refine sg1 _ ?_
    show Steps p.tables e below (T0.setTop (mkF m 80 #[.val (.int p1), .val (.int p2), .val (.int p3), .val (.int p4), .val (.int p5), .val (.int (1 : Int32)), .val (.int (0 : Int32)), .val (.int (0 : Int32)), .val (.int (Int32.ofNat 1)), .val (.int (Int32.ofNat 1)), .unset, .unset, .unset, .unset, .unset, .unset] [(.int (Int32.ofNat 2))])) _
    refine st1 _ ?_
    show Steps p.tables e below (T1.setTop (mkF m 82 #[.val (.int p1), .val (.int p2), .val (.int p3), .val (.int p4), .val (.int p5), .val (.int (1 : Int32)), .val (.int (0 : Int32)), .val (.int (0 : Int32)), .val (.int (Int32.ofNat 1)), .val (.int (Int32.ofNat 1)), .unset, .unset, .unset, .unset, .unset, .unset] [(.ref a)])) _
    refine sg2 _ ?_
    show Steps p.tables e below (T1.setTop (mkF m 90 #[.val (.int p1), .val (.int p2), .val (.int p3), .val (.int p4), .val (.int p5), .val (.int (1 : Int32)), .val (.int (0 : Int32)), .val (.int (0 : Int32)), .val (.int (Int32.ofNat 1)), .val (.int (Int32.ofNat 1)), .val (.ref a), .unset, .unset, .unset, .unset, .unset] [(.int (0 : Int32)), (.int p1), (.int (0 : Int32)), (.ref a)])) _
    refine stA _ ?_
    show Steps p.tables e below (TA.setTop (mkF m 93 #[.val (.int p1), .val (.int p2), .val (.int p3), .val (.int p4), .val (.int p5), .val (.int (1 : Int32)), .val (.int (0 : Int32)), .val (.int (0 : Int32)), .val (.int (Int32.ofNat 1)), .val (.int (Int32.ofNat 1)), .val (.ref a), .unset, .unset, .unset, .unset, .unset] [])) _
    refine sg3 _ ?_
    show Steps p.tables e below (TA.setTop (mkF m 105 #[.val (.int p1), .val (.int p2), .val (.int p3), .val (.int p4), .val (.int p5), .val (.int (1 : Int32)), .val (.int (0 : Int32)), .val (.int (0 : Int32)), .val (.int (Int32.ofNat 1)), .val (.int (Int32.ofNat 1)), .val (.ref a), .unset, .unset, .unset, .unset, .unset] [(.int (0 : Int32)), (.int p2), (.int (Int32.ofNat 1)), (.ref a)])) _
    refine stB _ ?_
    exact kt
  · have sg1 : ∀ target, Steps p.tables e below (T0.setTop (mkF m 80 #[.val (.int p1), .val (.int p2), .val (.int p3), .val (.int p4), .val (.int p5), .val (.int (1 : Int32)), .val (.int (0 : Int32)), .val (.int (1 : Int32)), .val (.int (Int32.ofNat 1)), .val (.int (Int32.ofNat 2)), .unset, .unset, .unset, .unset, .unset, .unset] [(.int (Int32.ofNat 3))])) target → Steps p.tables e below (T0.setTop (mkF m 75 #[.val (.int p1), .val (.int p2), .val (.int p3), .val (.int p4), .val (.int p5), .val (.int (1 : Int32)), .val (.int (0 : Int32)), .val (.int (1 : Int32)), .val (.int (Int32.ofNat 1)), .val (.int (Int32.ofNat 2)), .unset, .unset, .unset, .unset, .unset, .unset] [])) target := by
      intro target kt
      show Steps p.tables e below (T0.setTop (mkF m 75 #[.val (.int p1), .val (.int p2), .val (.int p3), .val (.int p4), .val (.int p5), .val (.int (1 : Int32)), .val (.int (0 : Int32)), .val (.int (1 : Int32)), .val (.int (Int32.ofNat 1)), .val (.int (Int32.ofNat 2)), .unset, .unset, .unset, .unset, .unset, .unset] [])) _
      refine XS.iload X0.here hx rfl (hb hby at_75) rfl ?_
      show Steps p.tables e below (T0.setTop (mkF m 77 #[.val (.int p1), .val (.int p2), .val (.int p3), .val (.int p4), .val (.int p5), .val (.int (1 : Int32)), .val (.int (0 : Int32)), .val (.int (1 : Int32)), .val (.int (Int32.ofNat 1)), .val (.int (Int32.ofNat 2)), .unset, .unset, .unset, .unset, .unset, .unset] [(.int (Int32.ofNat 1))])) _
      refine XS.iload X0.here hx rfl (hb hby at_77) rfl ?_
      show Steps p.tables e below (T0.setTop (mkF m 79 #[.val (.int p1), .val (.int p2), .val (.int p3), .val (.int p4), .val (.int p5), .val (.int (1 : Int32)), .val (.int (0 : Int32)), .val (.int (1 : Int32)), .val (.int (Int32.ofNat 1)), .val (.int (Int32.ofNat 2)), .unset, .unset, .unset, .unset, .unset, .unset] [(.int (Int32.ofNat 2)), (.int (Int32.ofNat 1))])) _
      refine XS.iadd X0.here hx rfl (hb hby at_79) rfl ?_
      show Steps p.tables e below (T0.setTop (mkF m 80 #[.val (.int p1), .val (.int p2), .val (.int p3), .val (.int p4), .val (.int p5), .val (.int (1 : Int32)), .val (.int (0 : Int32)), .val (.int (1 : Int32)), .val (.int (Int32.ofNat 1)), .val (.int (Int32.ofNat 2)), .unset, .unset, .unset, .unset, .unset, .unset] [(.int ((Int32.ofNat 1) + (Int32.ofNat 2)))])) _
      rw [(show Int32.ofNat 1 + Int32.ofNat 2 = Int32.ofNat 3 by decide)]
      show Steps p.tables e below (T0.setTop (mkF m 80 #[.val (.int p1), .val (.int p2), .val (.int p3), .val (.int p4), .val (.int p5), .val (.int (1 : Int32)), .val (.int (0 : Int32)), .val (.int (1 : Int32)), .val (.int (Int32.ofNat 1)), .val (.int (Int32.ofNat 2)), .unset, .unset, .unset, .unset, .unset, .unset] [(.int (Int32.ofNat 3))])) _
      exact kt
    obtain ⟨T1, h1, k1, X1, e1, E1, A1, st1⟩ := newP X0 hx hZ (hw _ (List.mem_of_getElem? (i := 0) rfl)) e0 (g := (mkF m 80 #[.val (.int p1), .val (.int p2), .val (.int p3), .val (.int p4), .val (.int p5), .val (.int (1 : Int32)), .val (.int (0 : Int32)), .val (.int (1 : Int32)), .val (.int (Int32.ofNat 1)), .val (.int (Int32.ofNat 2)), .unset, .unset, .unset, .unset, .unset, .unset] [(.int (Int32.ofNat 3))])) rfl (hb hby at_80) rfl (own_nn (n := 3) (by omega)) (cap := 4) (by rw [own_cl (by omega)]; omega) (by decide) (by decide) (by decide)
    obtain ⟨a, ga⟩ : ∃ z, z = h0.size := ⟨_, rfl⟩
    rw [← ga] at A1 st1
    have ga1 : h0.size ≤ a := by rw [ga]; exact Nat.le_refl _
    have ge : n0 ≤ a := Nat.le_trans hn0 ga1
    have F1 : own_AF Z h1 a .char 3 (fun _ => 0) := by
      obtain ⟨cc, B1, -, S1, -, H1, -⟩ := Arv.new A1 (own_nn (n := 3) (by omega))
      rw [own_cl (by omega)] at S1
      exact ⟨cc, B1, S1, fun i hi => H1 i (by rw [S1]; exact hi)⟩
    have sg2 : ∀ target, Steps p.tables e below (T1.setTop (mkF m 90 #[.val (.int p1), .val (.int p2), .val (.int p3), .val (.int p4), .val (.int p5), .val (.int (1 : Int32)), .val (.int (0 : Int32)), .val (.int (1 : Int32)), .val (.int (Int32.ofNat 1)), .val (.int (Int32.ofNat 2)), .val (.ref a), .unset, .unset, .unset, .unset, .unset] [(.int (0 : Int32)), (.int p1), (.int (0 : Int32)), (.ref a)])) target → Steps p.tables e below (T1.setTop (mkF m 82 #[.val (.int p1), .val (.int p2), .val (.int p3), .val (.int p4), .val (.int p5), .val (.int (1 : Int32)), .val (.int (0 : Int32)), .val (.int (1 : Int32)), .val (.int (Int32.ofNat 1)), .val (.int (Int32.ofNat 2)), .unset, .unset, .unset, .unset, .unset, .unset] [(.ref a)])) target := by
      intro target kt
      show Steps p.tables e below (T1.setTop (mkF m 82 #[.val (.int p1), .val (.int p2), .val (.int p3), .val (.int p4), .val (.int p5), .val (.int (1 : Int32)), .val (.int (0 : Int32)), .val (.int (1 : Int32)), .val (.int (Int32.ofNat 1)), .val (.int (Int32.ofNat 2)), .unset, .unset, .unset, .unset, .unset, .unset] [(.ref a)])) _
      refine XS.astore X1.here hx rfl (hb hby at_82) rfl rfl (l' := #[.val (.int p1), .val (.int p2), .val (.int p3), .val (.int p4), .val (.int p5), .val (.int (1 : Int32)), .val (.int (0 : Int32)), .val (.int (1 : Int32)), .val (.int (Int32.ofNat 1)), .val (.int (Int32.ofNat 2)), .val (.ref a), .unset, .unset, .unset, .unset, .unset]) rfl ?_
      show Steps p.tables e below (T1.setTop (mkF m 84 #[.val (.int p1), .val (.int p2), .val (.int p3), .val (.int p4), .val (.int p5), .val (.int (1 : Int32)), .val (.int (0 : Int32)), .val (.int (1 : Int32)), .val (.int (Int32.ofNat 1)), .val (.int (Int32.ofNat 2)), .val (.ref a), .unset, .unset, .unset, .unset, .unset] [])) _
      refine XS.aload X1.here hx rfl (hb hby at_84) rfl rfl ?_
      show Steps p.tables e below (T1.setTop (mkF m 86 #[.val (.int p1), .val (.int p2), .val (.int p3), .val (.int p4), .val (.int p5), .val (.int (1 : Int32)), .val (.int (0 : Int32)), .val (.int (1 : Int32)), .val (.int (Int32.ofNat 1)), .val (.int (Int32.ofNat 2)), .val (.ref a), .unset, .unset, .unset, .unset, .unset] [(.ref a)])) _
      refine XS.iconst X1.here hx rfl (hb hby at_86) ?_
      show Steps p.tables e below (T1.setTop (mkF m 87 #[.val (.int p1), .val (.int p2), .val (.int p3), .val (.int p4), .val (.int p5), .val (.int (1 : Int32)), .val (.int (0 : Int32)), .val (.int (1 : Int32)), .val (.int (Int32.ofNat 1)), .val (.int (Int32.ofNat 2)), .val (.ref a), .unset, .unset, .unset, .unset, .unset] [(.int (0 : Int32)), (.ref a)])) _
      refine XS.iloadN X1.here hx rfl (hb hby at_87) rfl ?_
      show Steps p.tables e below (T1.setTop (mkF m 88 #[.val (.int p1), .val (.int p2), .val (.int p3), .val (.int p4), .val (.int p5), .val (.int (1 : Int32)), .val (.int (0 : Int32)), .val (.int (1 : Int32)), .val (.int (Int32.ofNat 1)), .val (.int (Int32.ofNat 2)), .val (.ref a), .unset, .unset, .unset, .unset, .unset] [(.int p1), (.int (0 : Int32)), (.ref a)])) _
      refine XS.iload X1.here hx rfl (hb hby at_88) rfl ?_
      show Steps p.tables e below (T1.setTop (mkF m 90 #[.val (.int p1), .val (.int p2), .val (.int p3), .val (.int p4), .val (.int p5), .val (.int (1 : Int32)), .val (.int (0 : Int32)), .val (.int (1 : Int32)), .val (.int (Int32.ofNat 1)), .val (.int (Int32.ofNat 2)), .val (.ref a), .unset, .unset, .unset, .unset, .unset] [(.int (0 : Int32)), (.int p1), (.int (0 : Int32)), (.ref a)])) _
      exact kt
    obtain ⟨_, _, ⟨TA, LA, kA, nA⟩, -, XA, ⟨LcA, hQA, lA, yA, zA⟩, stA⟩ := Jvm.LawKit.callS X1 hx (y := (⟨"com/example/seize/seize/LockLimitsCheckKeyPinLaw", "put", "([CIIZ)V"⟩ : MethodName)) hown (mvT hZ (hw _ (List.mem_of_getElem? (i := 1) rfl))) (mvT hZ (hw _ (List.mem_of_getElem? (i := 2) rfl))) (mvT hZ (hw _ (List.mem_of_getElem? (i := 3) rfl))) (mvT hZ (hw _ (List.mem_of_getElem? (i := 4) rfl))) (by decide) (backOf (W := 0) (rmU0 l Z a0 hw a 3 0 p1 (fun _ => 0) h1 n0 ge (by omega) F1 (by omega)) hZ (hw _ (List.mem_of_getElem? (i := 4) rfl)) (hw _ (List.mem_of_getElem? (i := 3) rfl)) (by decide) (by decide)) (g := (mkF m 90 #[.val (.int p1), .val (.int p2), .val (.int p3), .val (.int p4), .val (.int p5), .val (.int (1 : Int32)), .val (.int (0 : Int32)), .val (.int (1 : Int32)), .val (.int (Int32.ofNat 1)), .val (.int (Int32.ofNat 2)), .val (.ref a), .unset, .unset, .unset, .unset, .unset] [(.int (0 : Int32)), (.int p1), (.int (0 : Int32)), (.ref a)])) rfl (by rw [hml]; rfl) (argsL := [(.ref a), (.int (0 : Int32)), (.int p1), (.int (0 : Int32))]) (rest := []) (lenOf pdU rfl) rfl (by show 2 * 0 + _ ≤ _; exact Nat.le_of_eq rfl) (hb hby at_90) (fun _ _ => ⟨rfl, e1, Nat.le_of_ble_eq_true rfl, Nat.le_of_ble_eq_true rfl⟩)
    dsimp only [Pt.U, Pt.locs, Pt.cells, Pt.slots] at XA lA yA zA stA hQA
    subst lA yA zA
    obtain ⟨rfl, NA, KA, gA, PA, FA⟩ := hQA
    have MA := Fr.app (Fr.nil n0) NA
    have EA := own_ext_keep E1 KA (allS ga1 all0)
    have sg3 : ∀ target, Steps p.tables e below (TA.setTop (mkF m 105 #[.val (.int p1), .val (.int p2), .val (.int p3), .val (.int p4), .val (.int p5), .val (.int (1 : Int32)), .val (.int (0 : Int32)), .val (.int (1 : Int32)), .val (.int (Int32.ofNat 1)), .val (.int (Int32.ofNat 2)), .val (.ref a), .unset, .unset, .unset, .unset, .unset] [(.int (1 : Int32)), (.int p2), (.int (Int32.ofNat 1)), (.ref a)])) target → Steps p.tables e below (TA.setTop (mkF m 93 #[.val (.int p1), .val (.int p2), .val (.int p3), .val (.int p4), .val (.int p5), .val (.int (1 : Int32)), .val (.int (0 : Int32)), .val (.int (1 : Int32)), .val (.int (Int32.ofNat 1)), .val (.int (Int32.ofNat 2)), .val (.ref a), .unset, .unset, .unset, .unset, .unset] [])) target := by
      intro target kt
      show Steps p.tables e below (TA.setTop (mkF m 93 #[.val (.int p1), .val (.int p2), .val (.int p3), .val (.int p4), .val (.int p5), .val (.int (1 : Int32)), .val (.int (0 : Int32)), .val (.int (1 : Int32)), .val (.int (Int32.ofNat 1)), .val (.int (Int32.ofNat 2)), .val (.ref a), .unset, .unset, .unset, .unset, .unset] [])) _
      refine XS.iload XA.here hx rfl (hb hby at_93) rfl ?_
      show Steps p.tables e below (TA.setTop (mkF m 95 #[.val (.int p1), .val (.int p2), .val (.int p3), .val (.int p4), .val (.int p5), .val (.int (1 : Int32)), .val (.int (0 : Int32)), .val (.int (1 : Int32)), .val (.int (Int32.ofNat 1)), .val (.int (Int32.ofNat 2)), .val (.ref a), .unset, .unset, .unset, .unset, .unset] [(.int (1 : Int32))])) _
      refine XS.ifNo XA.here hx rfl (hb hby at_95) rfl (by decide) ?_
      show Steps p.tables e below (TA.setTop (mkF m 98 #[.val (.int p1), .val (.int p2), .val (.int p3), .val (.int p4), .val (.int p5), .val (.int (1 : Int32)), .val (.int (0 : Int32)), .val (.int (1 : Int32)), .val (.int (Int32.ofNat 1)), .val (.int (Int32.ofNat 2)), .val (.ref a), .unset, .unset, .unset, .unset, .unset] [])) _
      refine XS.aload XA.here hx rfl (hb hby at_98) rfl rfl ?_
      show Steps p.tables e below (TA.setTop (mkF m 100 #[.val (.int p1), .val (.int p2), .val (.int p3), .val (.int p4), .val (.int p5), .val (.int (1 : Int32)), .val (.int (0 : Int32)), .val (.int (1 : Int32)), .val (.int (Int32.ofNat 1)), .val (.int (Int32.ofNat 2)), .val (.ref a), .unset, .unset, .unset, .unset, .unset] [(.ref a)])) _
      refine XS.iload XA.here hx rfl (hb hby at_100) rfl ?_
      show Steps p.tables e below (TA.setTop (mkF m 102 #[.val (.int p1), .val (.int p2), .val (.int p3), .val (.int p4), .val (.int p5), .val (.int (1 : Int32)), .val (.int (0 : Int32)), .val (.int (1 : Int32)), .val (.int (Int32.ofNat 1)), .val (.int (Int32.ofNat 2)), .val (.ref a), .unset, .unset, .unset, .unset, .unset] [(.int (Int32.ofNat 1)), (.ref a)])) _
      refine XS.iloadN XA.here hx rfl (hb hby at_102) rfl ?_
      show Steps p.tables e below (TA.setTop (mkF m 103 #[.val (.int p1), .val (.int p2), .val (.int p3), .val (.int p4), .val (.int p5), .val (.int (1 : Int32)), .val (.int (0 : Int32)), .val (.int (1 : Int32)), .val (.int (Int32.ofNat 1)), .val (.int (Int32.ofNat 2)), .val (.ref a), .unset, .unset, .unset, .unset, .unset] [(.int p2), (.int (Int32.ofNat 1)), (.ref a)])) _
      refine XS.iload XA.here hx rfl (hb hby at_103) rfl ?_
      show Steps p.tables e below (TA.setTop (mkF m 105 #[.val (.int p1), .val (.int p2), .val (.int p3), .val (.int p4), .val (.int p5), .val (.int (1 : Int32)), .val (.int (0 : Int32)), .val (.int (1 : Int32)), .val (.int (Int32.ofNat 1)), .val (.int (Int32.ofNat 2)), .val (.ref a), .unset, .unset, .unset, .unset, .unset] [(.int (1 : Int32)), (.int p2), (.int (Int32.ofNat 1)), (.ref a)])) _
      exact kt
    obtain ⟨_, _, ⟨TB, LB, kB, nB⟩, -, XB, ⟨LcB, hQB, lB, yB, zB⟩, stB⟩ := Jvm.LawKit.callS XA hx (y := (⟨"com/example/seize/seize/LockLimitsCheckKeyPinLaw", "put", "([CIIZ)V"⟩ : MethodName)) hown (mvT hZ (hw _ (List.mem_of_getElem? (i := 1) rfl))) (mvT hZ (hw _ (List.mem_of_getElem? (i := 2) rfl))) (mvT hZ (hw _ (List.mem_of_getElem? (i := 3) rfl))) (mvT hZ (hw _ (List.mem_of_getElem? (i := 4) rfl))) (by decide) (backOf (W := 0) (rmU1 l Z a0 hw a 3 1 p2 gA TA.heap n0 ge (by omega) FA (by omega)) hZ (hw _ (List.mem_of_getElem? (i := 4) rfl)) (hw _ (List.mem_of_getElem? (i := 3) rfl)) (by decide) (by decide)) (g := (mkF m 105 #[.val (.int p1), .val (.int p2), .val (.int p3), .val (.int p4), .val (.int p5), .val (.int (1 : Int32)), .val (.int (0 : Int32)), .val (.int (1 : Int32)), .val (.int (Int32.ofNat 1)), .val (.int (Int32.ofNat 2)), .val (.ref a), .unset, .unset, .unset, .unset, .unset] [(.int (1 : Int32)), (.int p2), (.int (Int32.ofNat 1)), (.ref a)])) rfl (by rw [hml]; rfl) (argsL := [(.ref a), (.int (Int32.ofNat 1)), (.int p2), (.int (1 : Int32))]) (rest := []) (lenOf pdU rfl) rfl (by show 2 * 0 + _ ≤ _; exact Nat.le_of_eq rfl) (hb hby at_105) (fun _ _ => ⟨rfl, rfl, Nat.le_of_ble_eq_true rfl, Nat.le_of_ble_eq_true rfl⟩)
    dsimp only [Pt.U, Pt.locs, Pt.cells, Pt.slots] at XB lB yB zB stB hQB
    subst lB yB zB
    obtain ⟨rfl, NB, KB, gB, PB, FB⟩ := hQB
    have MB := Fr.app (MA) NB
    have EB := own_ext_keep EA KB (allS ga1 all0)
    refine ⟨TB, _, a, _, 3, _, XB, rfl, MB, EB, ga1, FB, by omega, by omega, own_s12 PA PB, fun target kt => ?_⟩
    show Steps p.tables e below (T0.setTop (mkF m 75 #[.val (.int p1), .val (.int p2), .val (.int p3), .val (.int p4), .val (.int p5), .val (.int (1 : Int32)), .val (.int (0 : Int32)), .val (.int (1 : Int32)), .val (.int (Int32.ofNat 1)), .val (.int (Int32.ofNat 2)), .unset, .unset, .unset, .unset, .unset, .unset] [])) _
    refine sg1 _ ?_
    show Steps p.tables e below (T0.setTop (mkF m 80 #[.val (.int p1), .val (.int p2), .val (.int p3), .val (.int p4), .val (.int p5), .val (.int (1 : Int32)), .val (.int (0 : Int32)), .val (.int (1 : Int32)), .val (.int (Int32.ofNat 1)), .val (.int (Int32.ofNat 2)), .unset, .unset, .unset, .unset, .unset, .unset] [(.int (Int32.ofNat 3))])) _
    refine st1 _ ?_
    show Steps p.tables e below (T1.setTop (mkF m 82 #[.val (.int p1), .val (.int p2), .val (.int p3), .val (.int p4), .val (.int p5), .val (.int (1 : Int32)), .val (.int (0 : Int32)), .val (.int (1 : Int32)), .val (.int (Int32.ofNat 1)), .val (.int (Int32.ofNat 2)), .unset, .unset, .unset, .unset, .unset, .unset] [(.ref a)])) _
    refine sg2 _ ?_
    show Steps p.tables e below (T1.setTop (mkF m 90 #[.val (.int p1), .val (.int p2), .val (.int p3), .val (.int p4), .val (.int p5), .val (.int (1 : Int32)), .val (.int (0 : Int32)), .val (.int (1 : Int32)), .val (.int (Int32.ofNat 1)), .val (.int (Int32.ofNat 2)), .val (.ref a), .unset, .unset, .unset, .unset, .unset] [(.int (0 : Int32)), (.int p1), (.int (0 : Int32)), (.ref a)])) _
    refine stA _ ?_
    show Steps p.tables e below (TA.setTop (mkF m 93 #[.val (.int p1), .val (.int p2), .val (.int p3), .val (.int p4), .val (.int p5), .val (.int (1 : Int32)), .val (.int (0 : Int32)), .val (.int (1 : Int32)), .val (.int (Int32.ofNat 1)), .val (.int (Int32.ofNat 2)), .val (.ref a), .unset, .unset, .unset, .unset, .unset] [])) _
    refine sg3 _ ?_
    show Steps p.tables e below (TA.setTop (mkF m 105 #[.val (.int p1), .val (.int p2), .val (.int p3), .val (.int p4), .val (.int p5), .val (.int (1 : Int32)), .val (.int (0 : Int32)), .val (.int (1 : Int32)), .val (.int (Int32.ofNat 1)), .val (.int (Int32.ofNat 2)), .val (.ref a), .unset, .unset, .unset, .unset, .unset] [(.int (1 : Int32)), (.int p2), (.int (Int32.ofNat 1)), (.ref a)])) _
    refine stB _ ?_
    exact kt
  · have sg1 : ∀ target, Steps p.tables e below (T0.setTop (mkF m 80 #[.val (.int p1), .val (.int p2), .val (.int p3), .val (.int p4), .val (.int p5), .val (.int (0 : Int32)), .val (.int (1 : Int32)), .val (.int b7), .val (.int (Int32.ofNat 2)), .val (.int (Int32.ofNat 0)), .unset, .unset, .unset, .unset, .unset, .unset] [(.int (Int32.ofNat 2))])) target → Steps p.tables e below (T0.setTop (mkF m 75 #[.val (.int p1), .val (.int p2), .val (.int p3), .val (.int p4), .val (.int p5), .val (.int (0 : Int32)), .val (.int (1 : Int32)), .val (.int b7), .val (.int (Int32.ofNat 2)), .val (.int (Int32.ofNat 0)), .unset, .unset, .unset, .unset, .unset, .unset] [])) target := by
      intro target kt
      show Steps p.tables e below (T0.setTop (mkF m 75 #[.val (.int p1), .val (.int p2), .val (.int p3), .val (.int p4), .val (.int p5), .val (.int (0 : Int32)), .val (.int (1 : Int32)), .val (.int b7), .val (.int (Int32.ofNat 2)), .val (.int (Int32.ofNat 0)), .unset, .unset, .unset, .unset, .unset, .unset] [])) _
      refine XS.iload X0.here hx rfl (hb hby at_75) rfl ?_
      show Steps p.tables e below (T0.setTop (mkF m 77 #[.val (.int p1), .val (.int p2), .val (.int p3), .val (.int p4), .val (.int p5), .val (.int (0 : Int32)), .val (.int (1 : Int32)), .val (.int b7), .val (.int (Int32.ofNat 2)), .val (.int (Int32.ofNat 0)), .unset, .unset, .unset, .unset, .unset, .unset] [(.int (Int32.ofNat 2))])) _
      refine XS.iload X0.here hx rfl (hb hby at_77) rfl ?_
      show Steps p.tables e below (T0.setTop (mkF m 79 #[.val (.int p1), .val (.int p2), .val (.int p3), .val (.int p4), .val (.int p5), .val (.int (0 : Int32)), .val (.int (1 : Int32)), .val (.int b7), .val (.int (Int32.ofNat 2)), .val (.int (Int32.ofNat 0)), .unset, .unset, .unset, .unset, .unset, .unset] [(.int (Int32.ofNat 0)), (.int (Int32.ofNat 2))])) _
      refine XS.iadd X0.here hx rfl (hb hby at_79) rfl ?_
      show Steps p.tables e below (T0.setTop (mkF m 80 #[.val (.int p1), .val (.int p2), .val (.int p3), .val (.int p4), .val (.int p5), .val (.int (0 : Int32)), .val (.int (1 : Int32)), .val (.int b7), .val (.int (Int32.ofNat 2)), .val (.int (Int32.ofNat 0)), .unset, .unset, .unset, .unset, .unset, .unset] [(.int ((Int32.ofNat 2) + (Int32.ofNat 0)))])) _
      rw [(show Int32.ofNat 2 + Int32.ofNat 0 = Int32.ofNat 2 by decide)]
      show Steps p.tables e below (T0.setTop (mkF m 80 #[.val (.int p1), .val (.int p2), .val (.int p3), .val (.int p4), .val (.int p5), .val (.int (0 : Int32)), .val (.int (1 : Int32)), .val (.int b7), .val (.int (Int32.ofNat 2)), .val (.int (Int32.ofNat 0)), .unset, .unset, .unset, .unset, .unset, .unset] [(.int (Int32.ofNat 2))])) _
      exact kt
    obtain ⟨T1, h1, k1, X1, e1, E1, A1, st1⟩ := newP X0 hx hZ (hw _ (List.mem_of_getElem? (i := 0) rfl)) e0 (g := (mkF m 80 #[.val (.int p1), .val (.int p2), .val (.int p3), .val (.int p4), .val (.int p5), .val (.int (0 : Int32)), .val (.int (1 : Int32)), .val (.int b7), .val (.int (Int32.ofNat 2)), .val (.int (Int32.ofNat 0)), .unset, .unset, .unset, .unset, .unset, .unset] [(.int (Int32.ofNat 2))])) rfl (hb hby at_80) rfl (own_nn (n := 2) (by omega)) (cap := 4) (by rw [own_cl (by omega)]; omega) (by decide) (by decide) (by decide)
    obtain ⟨a, ga⟩ : ∃ z, z = h0.size := ⟨_, rfl⟩
    rw [← ga] at A1 st1
    have ga1 : h0.size ≤ a := by rw [ga]; exact Nat.le_refl _
    have ge : n0 ≤ a := Nat.le_trans hn0 ga1
    have F1 : own_AF Z h1 a .char 2 (fun _ => 0) := by
      obtain ⟨cc, B1, -, S1, -, H1, -⟩ := Arv.new A1 (own_nn (n := 2) (by omega))
      rw [own_cl (by omega)] at S1
      exact ⟨cc, B1, S1, fun i hi => H1 i (by rw [S1]; exact hi)⟩
    have sg2 : ∀ target, Steps p.tables e below (T1.setTop (mkF m 90 #[.val (.int p1), .val (.int p2), .val (.int p3), .val (.int p4), .val (.int p5), .val (.int (0 : Int32)), .val (.int (1 : Int32)), .val (.int b7), .val (.int (Int32.ofNat 2)), .val (.int (Int32.ofNat 0)), .val (.ref a), .unset, .unset, .unset, .unset, .unset] [(.int (1 : Int32)), (.int p1), (.int (0 : Int32)), (.ref a)])) target → Steps p.tables e below (T1.setTop (mkF m 82 #[.val (.int p1), .val (.int p2), .val (.int p3), .val (.int p4), .val (.int p5), .val (.int (0 : Int32)), .val (.int (1 : Int32)), .val (.int b7), .val (.int (Int32.ofNat 2)), .val (.int (Int32.ofNat 0)), .unset, .unset, .unset, .unset, .unset, .unset] [(.ref a)])) target := by
      intro target kt
      show Steps p.tables e below (T1.setTop (mkF m 82 #[.val (.int p1), .val (.int p2), .val (.int p3), .val (.int p4), .val (.int p5), .val (.int (0 : Int32)), .val (.int (1 : Int32)), .val (.int b7), .val (.int (Int32.ofNat 2)), .val (.int (Int32.ofNat 0)), .unset, .unset, .unset, .unset, .unset, .unset] [(.ref a)])) _
      refine XS.astore X1.here hx rfl (hb hby at_82) rfl rfl (l' := #[.val (.int p1), .val (.int p2), .val (.int p3), .val (.int p4), .val (.int p5), .val (.int (0 : Int32)), .val (.int (1 : Int32)), .val (.int b7), .val (.int (Int32.ofNat 2)), .val (.int (Int32.ofNat 0)), .val (.ref a), .unset, .unset, .unset, .unset, .unset]) rfl ?_
      show Steps p.tables e below (T1.setTop (mkF m 84 #[.val (.int p1), .val (.int p2), .val (.int p3), .val (.int p4), .val (.int p5), .val (.int (0 : Int32)), .val (.int (1 : Int32)), .val (.int b7), .val (.int (Int32.ofNat 2)), .val (.int (Int32.ofNat 0)), .val (.ref a), .unset, .unset, .unset, .unset, .unset] [])) _
      refine XS.aload X1.here hx rfl (hb hby at_84) rfl rfl ?_
      show Steps p.tables e below (T1.setTop (mkF m 86 #[.val (.int p1), .val (.int p2), .val (.int p3), .val (.int p4), .val (.int p5), .val (.int (0 : Int32)), .val (.int (1 : Int32)), .val (.int b7), .val (.int (Int32.ofNat 2)), .val (.int (Int32.ofNat 0)), .val (.ref a), .unset, .unset, .unset, .unset, .unset] [(.ref a)])) _
      refine XS.iconst X1.here hx rfl (hb hby at_86) ?_
      show Steps p.tables e below (T1.setTop (mkF m 87 #[.val (.int p1), .val (.int p2), .val (.int p3), .val (.int p4), .val (.int p5), .val (.int (0 : Int32)), .val (.int (1 : Int32)), .val (.int b7), .val (.int (Int32.ofNat 2)), .val (.int (Int32.ofNat 0)), .val (.ref a), .unset, .unset, .unset, .unset, .unset] [(.int (0 : Int32)), (.ref a)])) _
      refine XS.iloadN X1.here hx rfl (hb hby at_87) rfl ?_
      show Steps p.tables e below (T1.setTop (mkF m 88 #[.val (.int p1), .val (.int p2), .val (.int p3), .val (.int p4), .val (.int p5), .val (.int (0 : Int32)), .val (.int (1 : Int32)), .val (.int b7), .val (.int (Int32.ofNat 2)), .val (.int (Int32.ofNat 0)), .val (.ref a), .unset, .unset, .unset, .unset, .unset] [(.int p1), (.int (0 : Int32)), (.ref a)])) _
      refine XS.iload X1.here hx rfl (hb hby at_88) rfl ?_
      show Steps p.tables e below (T1.setTop (mkF m 90 #[.val (.int p1), .val (.int p2), .val (.int p3), .val (.int p4), .val (.int p5), .val (.int (0 : Int32)), .val (.int (1 : Int32)), .val (.int b7), .val (.int (Int32.ofNat 2)), .val (.int (Int32.ofNat 0)), .val (.ref a), .unset, .unset, .unset, .unset, .unset] [(.int (1 : Int32)), (.int p1), (.int (0 : Int32)), (.ref a)])) _
      exact kt
    obtain ⟨_, _, ⟨TA, LA, kA, nA⟩, -, XA, ⟨LcA, hQA, lA, yA, zA⟩, stA⟩ := Jvm.LawKit.callS X1 hx (y := (⟨"com/example/seize/seize/LockLimitsCheckKeyPinLaw", "put", "([CIIZ)V"⟩ : MethodName)) hown (mvT hZ (hw _ (List.mem_of_getElem? (i := 1) rfl))) (mvT hZ (hw _ (List.mem_of_getElem? (i := 2) rfl))) (mvT hZ (hw _ (List.mem_of_getElem? (i := 3) rfl))) (mvT hZ (hw _ (List.mem_of_getElem? (i := 4) rfl))) (by decide) (backOf (W := 0) (rmU1 l Z a0 hw a 2 0 p1 (fun _ => 0) h1 n0 ge (by omega) F1 (by omega)) hZ (hw _ (List.mem_of_getElem? (i := 4) rfl)) (hw _ (List.mem_of_getElem? (i := 3) rfl)) (by decide) (by decide)) (g := (mkF m 90 #[.val (.int p1), .val (.int p2), .val (.int p3), .val (.int p4), .val (.int p5), .val (.int (0 : Int32)), .val (.int (1 : Int32)), .val (.int b7), .val (.int (Int32.ofNat 2)), .val (.int (Int32.ofNat 0)), .val (.ref a), .unset, .unset, .unset, .unset, .unset] [(.int (1 : Int32)), (.int p1), (.int (0 : Int32)), (.ref a)])) rfl (by rw [hml]; rfl) (argsL := [(.ref a), (.int (0 : Int32)), (.int p1), (.int (1 : Int32))]) (rest := []) (lenOf pdU rfl) rfl (by show 2 * 0 + _ ≤ _; exact Nat.le_of_eq rfl) (hb hby at_90) (fun _ _ => ⟨rfl, e1, Nat.le_of_ble_eq_true rfl, Nat.le_of_ble_eq_true rfl⟩)
    dsimp only [Pt.U, Pt.locs, Pt.cells, Pt.slots] at XA lA yA zA stA hQA
    subst lA yA zA
    obtain ⟨rfl, NA, KA, gA, PA, FA⟩ := hQA
    have MA := Fr.app (Fr.nil n0) NA
    have EA := own_ext_keep E1 KA (allS ga1 all0)
    have sg3 : ∀ target, Steps p.tables e below (TA.setTop (mkF m 108 #[.val (.int p1), .val (.int p2), .val (.int p3), .val (.int p4), .val (.int p5), .val (.int (0 : Int32)), .val (.int (1 : Int32)), .val (.int b7), .val (.int (Int32.ofNat 2)), .val (.int (Int32.ofNat 0)), .val (.ref a), .unset, .unset, .unset, .unset, .unset] [])) target → Steps p.tables e below (TA.setTop (mkF m 93 #[.val (.int p1), .val (.int p2), .val (.int p3), .val (.int p4), .val (.int p5), .val (.int (0 : Int32)), .val (.int (1 : Int32)), .val (.int b7), .val (.int (Int32.ofNat 2)), .val (.int (Int32.ofNat 0)), .val (.ref a), .unset, .unset, .unset, .unset, .unset] [])) target := by
      intro target kt
      show Steps p.tables e below (TA.setTop (mkF m 93 #[.val (.int p1), .val (.int p2), .val (.int p3), .val (.int p4), .val (.int p5), .val (.int (0 : Int32)), .val (.int (1 : Int32)), .val (.int b7), .val (.int (Int32.ofNat 2)), .val (.int (Int32.ofNat 0)), .val (.ref a), .unset, .unset, .unset, .unset, .unset] [])) _
      refine XS.iload XA.here hx rfl (hb hby at_93) rfl ?_
      show Steps p.tables e below (TA.setTop (mkF m 95 #[.val (.int p1), .val (.int p2), .val (.int p3), .val (.int p4), .val (.int p5), .val (.int (0 : Int32)), .val (.int (1 : Int32)), .val (.int b7), .val (.int (Int32.ofNat 2)), .val (.int (Int32.ofNat 0)), .val (.ref a), .unset, .unset, .unset, .unset, .unset] [(.int (0 : Int32))])) _
      refine XS.ifYes XA.here hx rfl (pc0 := 95) (pc' := 108) rfl (hb hby at_95) rfl (by decide) (by decide) (by decide) ?_
      show Steps p.tables e below (TA.setTop (mkF m 108 #[.val (.int p1), .val (.int p2), .val (.int p3), .val (.int p4), .val (.int p5), .val (.int (0 : Int32)), .val (.int (1 : Int32)), .val (.int b7), .val (.int (Int32.ofNat 2)), .val (.int (Int32.ofNat 0)), .val (.ref a), .unset, .unset, .unset, .unset, .unset] [])) _
      exact kt
    refine ⟨TA, _, a, _, 2, _, XA, rfl, MA, EA, ga1, FA, by omega, by omega, own_s2 PA, fun target kt => ?_⟩
    show Steps p.tables e below (T0.setTop (mkF m 75 #[.val (.int p1), .val (.int p2), .val (.int p3), .val (.int p4), .val (.int p5), .val (.int (0 : Int32)), .val (.int (1 : Int32)), .val (.int b7), .val (.int (Int32.ofNat 2)), .val (.int (Int32.ofNat 0)), .unset, .unset, .unset, .unset, .unset, .unset] [])) _
    refine sg1 _ ?_
    show Steps p.tables e below (T0.setTop (mkF m 80 #[.val (.int p1), .val (.int p2), .val (.int p3), .val (.int p4), .val (.int p5), .val (.int (0 : Int32)), .val (.int (1 : Int32)), .val (.int b7), .val (.int (Int32.ofNat 2)), .val (.int (Int32.ofNat 0)), .unset, .unset, .unset, .unset, .unset, .unset] [(.int (Int32.ofNat 2))])) _
    refine st1 _ ?_
    show Steps p.tables e below (T1.setTop (mkF m 82 #[.val (.int p1), .val (.int p2), .val (.int p3), .val (.int p4), .val (.int p5), .val (.int (0 : Int32)), .val (.int (1 : Int32)), .val (.int b7), .val (.int (Int32.ofNat 2)), .val (.int (Int32.ofNat 0)), .unset, .unset, .unset, .unset, .unset, .unset] [(.ref a)])) _
    refine sg2 _ ?_
    show Steps p.tables e below (T1.setTop (mkF m 90 #[.val (.int p1), .val (.int p2), .val (.int p3), .val (.int p4), .val (.int p5), .val (.int (0 : Int32)), .val (.int (1 : Int32)), .val (.int b7), .val (.int (Int32.ofNat 2)), .val (.int (Int32.ofNat 0)), .val (.ref a), .unset, .unset, .unset, .unset, .unset] [(.int (1 : Int32)), (.int p1), (.int (0 : Int32)), (.ref a)])) _
    refine stA _ ?_
    show Steps p.tables e below (TA.setTop (mkF m 93 #[.val (.int p1), .val (.int p2), .val (.int p3), .val (.int p4), .val (.int p5), .val (.int (0 : Int32)), .val (.int (1 : Int32)), .val (.int b7), .val (.int (Int32.ofNat 2)), .val (.int (Int32.ofNat 0)), .val (.ref a), .unset, .unset, .unset, .unset, .unset] [])) _
    refine sg3 _ ?_
    exact kt
  · have sg1 : ∀ target, Steps p.tables e below (T0.setTop (mkF m 80 #[.val (.int p1), .val (.int p2), .val (.int p3), .val (.int p4), .val (.int p5), .val (.int (1 : Int32)), .val (.int (1 : Int32)), .val (.int (0 : Int32)), .val (.int (Int32.ofNat 2)), .val (.int (Int32.ofNat 1)), .unset, .unset, .unset, .unset, .unset, .unset] [(.int (Int32.ofNat 3))])) target → Steps p.tables e below (T0.setTop (mkF m 75 #[.val (.int p1), .val (.int p2), .val (.int p3), .val (.int p4), .val (.int p5), .val (.int (1 : Int32)), .val (.int (1 : Int32)), .val (.int (0 : Int32)), .val (.int (Int32.ofNat 2)), .val (.int (Int32.ofNat 1)), .unset, .unset, .unset, .unset, .unset, .unset] [])) target := by
      intro target kt
      show Steps p.tables e below (T0.setTop (mkF m 75 #[.val (.int p1), .val (.int p2), .val (.int p3), .val (.int p4), .val (.int p5), .val (.int (1 : Int32)), .val (.int (1 : Int32)), .val (.int (0 : Int32)), .val (.int (Int32.ofNat 2)), .val (.int (Int32.ofNat 1)), .unset, .unset, .unset, .unset, .unset, .unset] [])) _
      refine XS.iload X0.here hx rfl (hb hby at_75) rfl ?_
      show Steps p.tables e below (T0.setTop (mkF m 77 #[.val (.int p1), .val (.int p2), .val (.int p3), .val (.int p4), .val (.int p5), .val (.int (1 : Int32)), .val (.int (1 : Int32)), .val (.int (0 : Int32)), .val (.int (Int32.ofNat 2)), .val (.int (Int32.ofNat 1)), .unset, .unset, .unset, .unset, .unset, .unset] [(.int (Int32.ofNat 2))])) _
      refine XS.iload X0.here hx rfl (hb hby at_77) rfl ?_
      show Steps p.tables e below (T0.setTop (mkF m 79 #[.val (.int p1), .val (.int p2), .val (.int p3), .val (.int p4), .val (.int p5), .val (.int (1 : Int32)), .val (.int (1 : Int32)), .val (.int (0 : Int32)), .val (.int (Int32.ofNat 2)), .val (.int (Int32.ofNat 1)), .unset, .unset, .unset, .unset, .unset, .unset] [(.int (Int32.ofNat 1)), (.int (Int32.ofNat 2))])) _
      refine XS.iadd X0.here hx rfl (hb hby at_79) rfl ?_
      show Steps p.tables e below (T0.setTop (mkF m 80 #[.val (.int p1), .val (.int p2), .val (.int p3), .val (.int p4), .val (.int p5), .val (.int (1 : Int32)), .val (.int (1 : Int32)), .val (.int (0 : Int32)), .val (.int (Int32.ofNat 2)), .val (.int (Int32.ofNat 1)), .unset, .unset, .unset, .unset, .unset, .unset] [(.int ((Int32.ofNat 2) + (Int32.ofNat 1)))])) _
      rw [(show Int32.ofNat 2 + Int32.ofNat 1 = Int32.ofNat 3 by decide)]
      show Steps p.tables e below (T0.setTop (mkF m 80 #[.val (.int p1), .val (.int p2), .val (.int p3), .val (.int p4), .val (.int p5), .val (.int (1 : Int32)), .val (.int (1 : Int32)), .val (.int (0 : Int32)), .val (.int (Int32.ofNat 2)), .val (.int (Int32.ofNat 1)), .unset, .unset, .unset, .unset, .unset, .unset] [(.int (Int32.ofNat 3))])) _
      exact kt
    obtain ⟨T1, h1, k1, X1, e1, E1, A1, st1⟩ := newP X0 hx hZ (hw _ (List.mem_of_getElem? (i := 0) rfl)) e0 (g := (mkF m 80 #[.val (.int p1), .val (.int p2), .val (.int p3), .val (.int p4), .val (.int p5), .val (.int (1 : Int32)), .val (.int (1 : Int32)), .val (.int (0 : Int32)), .val (.int (Int32.ofNat 2)), .val (.int (Int32.ofNat 1)), .unset, .unset, .unset, .unset, .unset, .unset] [(.int (Int32.ofNat 3))])) rfl (hb hby at_80) rfl (own_nn (n := 3) (by omega)) (cap := 4) (by rw [own_cl (by omega)]; omega) (by decide) (by decide) (by decide)
    obtain ⟨a, ga⟩ : ∃ z, z = h0.size := ⟨_, rfl⟩
    rw [← ga] at A1 st1
    have ga1 : h0.size ≤ a := by rw [ga]; exact Nat.le_refl _
    have ge : n0 ≤ a := Nat.le_trans hn0 ga1
    have F1 : own_AF Z h1 a .char 3 (fun _ => 0) := by
      obtain ⟨cc, B1, -, S1, -, H1, -⟩ := Arv.new A1 (own_nn (n := 3) (by omega))
      rw [own_cl (by omega)] at S1
      exact ⟨cc, B1, S1, fun i hi => H1 i (by rw [S1]; exact hi)⟩
    have sg2 : ∀ target, Steps p.tables e below (T1.setTop (mkF m 90 #[.val (.int p1), .val (.int p2), .val (.int p3), .val (.int p4), .val (.int p5), .val (.int (1 : Int32)), .val (.int (1 : Int32)), .val (.int (0 : Int32)), .val (.int (Int32.ofNat 2)), .val (.int (Int32.ofNat 1)), .val (.ref a), .unset, .unset, .unset, .unset, .unset] [(.int (1 : Int32)), (.int p1), (.int (0 : Int32)), (.ref a)])) target → Steps p.tables e below (T1.setTop (mkF m 82 #[.val (.int p1), .val (.int p2), .val (.int p3), .val (.int p4), .val (.int p5), .val (.int (1 : Int32)), .val (.int (1 : Int32)), .val (.int (0 : Int32)), .val (.int (Int32.ofNat 2)), .val (.int (Int32.ofNat 1)), .unset, .unset, .unset, .unset, .unset, .unset] [(.ref a)])) target := by
      intro target kt
      show Steps p.tables e below (T1.setTop (mkF m 82 #[.val (.int p1), .val (.int p2), .val (.int p3), .val (.int p4), .val (.int p5), .val (.int (1 : Int32)), .val (.int (1 : Int32)), .val (.int (0 : Int32)), .val (.int (Int32.ofNat 2)), .val (.int (Int32.ofNat 1)), .unset, .unset, .unset, .unset, .unset, .unset] [(.ref a)])) _
      refine XS.astore X1.here hx rfl (hb hby at_82) rfl rfl (l' := #[.val (.int p1), .val (.int p2), .val (.int p3), .val (.int p4), .val (.int p5), .val (.int (1 : Int32)), .val (.int (1 : Int32)), .val (.int (0 : Int32)), .val (.int (Int32.ofNat 2)), .val (.int (Int32.ofNat 1)), .val (.ref a), .unset, .unset, .unset, .unset, .unset]) rfl ?_
      show Steps p.tables e below (T1.setTop (mkF m 84 #[.val (.int p1), .val (.int p2), .val (.int p3), .val (.int p4), .val (.int p5), .val (.int (1 : Int32)), .val (.int (1 : Int32)), .val (.int (0 : Int32)), .val (.int (Int32.ofNat 2)), .val (.int (Int32.ofNat 1)), .val (.ref a), .unset, .unset, .unset, .unset, .unset] [])) _
      refine XS.aload X1.here hx rfl (hb hby at_84) rfl rfl ?_
      show Steps p.tables e below (T1.setTop (mkF m 86 #[.val (.int p1), .val (.int p2), .val (.int p3), .val (.int p4), .val (.int p5), .val (.int (1 : Int32)), .val (.int (1 : Int32)), .val (.int (0 : Int32)), .val (.int (Int32.ofNat 2)), .val (.int (Int32.ofNat 1)), .val (.ref a), .unset, .unset, .unset, .unset, .unset] [(.ref a)])) _
      refine XS.iconst X1.here hx rfl (hb hby at_86) ?_
      show Steps p.tables e below (T1.setTop (mkF m 87 #[.val (.int p1), .val (.int p2), .val (.int p3), .val (.int p4), .val (.int p5), .val (.int (1 : Int32)), .val (.int (1 : Int32)), .val (.int (0 : Int32)), .val (.int (Int32.ofNat 2)), .val (.int (Int32.ofNat 1)), .val (.ref a), .unset, .unset, .unset, .unset, .unset] [(.int (0 : Int32)), (.ref a)])) _
      refine XS.iloadN X1.here hx rfl (hb hby at_87) rfl ?_
      show Steps p.tables e below (T1.setTop (mkF m 88 #[.val (.int p1), .val (.int p2), .val (.int p3), .val (.int p4), .val (.int p5), .val (.int (1 : Int32)), .val (.int (1 : Int32)), .val (.int (0 : Int32)), .val (.int (Int32.ofNat 2)), .val (.int (Int32.ofNat 1)), .val (.ref a), .unset, .unset, .unset, .unset, .unset] [(.int p1), (.int (0 : Int32)), (.ref a)])) _
      refine XS.iload X1.here hx rfl (hb hby at_88) rfl ?_
      show Steps p.tables e below (T1.setTop (mkF m 90 #[.val (.int p1), .val (.int p2), .val (.int p3), .val (.int p4), .val (.int p5), .val (.int (1 : Int32)), .val (.int (1 : Int32)), .val (.int (0 : Int32)), .val (.int (Int32.ofNat 2)), .val (.int (Int32.ofNat 1)), .val (.ref a), .unset, .unset, .unset, .unset, .unset] [(.int (1 : Int32)), (.int p1), (.int (0 : Int32)), (.ref a)])) _
      exact kt
    obtain ⟨_, _, ⟨TA, LA, kA, nA⟩, -, XA, ⟨LcA, hQA, lA, yA, zA⟩, stA⟩ := Jvm.LawKit.callS X1 hx (y := (⟨"com/example/seize/seize/LockLimitsCheckKeyPinLaw", "put", "([CIIZ)V"⟩ : MethodName)) hown (mvT hZ (hw _ (List.mem_of_getElem? (i := 1) rfl))) (mvT hZ (hw _ (List.mem_of_getElem? (i := 2) rfl))) (mvT hZ (hw _ (List.mem_of_getElem? (i := 3) rfl))) (mvT hZ (hw _ (List.mem_of_getElem? (i := 4) rfl))) (by decide) (backOf (W := 0) (rmU1 l Z a0 hw a 3 0 p1 (fun _ => 0) h1 n0 ge (by omega) F1 (by omega)) hZ (hw _ (List.mem_of_getElem? (i := 4) rfl)) (hw _ (List.mem_of_getElem? (i := 3) rfl)) (by decide) (by decide)) (g := (mkF m 90 #[.val (.int p1), .val (.int p2), .val (.int p3), .val (.int p4), .val (.int p5), .val (.int (1 : Int32)), .val (.int (1 : Int32)), .val (.int (0 : Int32)), .val (.int (Int32.ofNat 2)), .val (.int (Int32.ofNat 1)), .val (.ref a), .unset, .unset, .unset, .unset, .unset] [(.int (1 : Int32)), (.int p1), (.int (0 : Int32)), (.ref a)])) rfl (by rw [hml]; rfl) (argsL := [(.ref a), (.int (0 : Int32)), (.int p1), (.int (1 : Int32))]) (rest := []) (lenOf pdU rfl) rfl (by show 2 * 0 + _ ≤ _; exact Nat.le_of_eq rfl) (hb hby at_90) (fun _ _ => ⟨rfl, e1, Nat.le_of_ble_eq_true rfl, Nat.le_of_ble_eq_true rfl⟩)
    dsimp only [Pt.U, Pt.locs, Pt.cells, Pt.slots] at XA lA yA zA stA hQA
    subst lA yA zA
    obtain ⟨rfl, NA, KA, gA, PA, FA⟩ := hQA
    have MA := Fr.app (Fr.nil n0) NA
    have EA := own_ext_keep E1 KA (allS ga1 all0)
    have sg3 : ∀ target, Steps p.tables e below (TA.setTop (mkF m 105 #[.val (.int p1), .val (.int p2), .val (.int p3), .val (.int p4), .val (.int p5), .val (.int (1 : Int32)), .val (.int (1 : Int32)), .val (.int (0 : Int32)), .val (.int (Int32.ofNat 2)), .val (.int (Int32.ofNat 1)), .val (.ref a), .unset, .unset, .unset, .unset, .unset] [(.int (0 : Int32)), (.int p2), (.int (Int32.ofNat 2)), (.ref a)])) target → Steps p.tables e below (TA.setTop (mkF m 93 #[.val (.int p1), .val (.int p2), .val (.int p3), .val (.int p4), .val (.int p5), .val (.int (1 : Int32)), .val (.int (1 : Int32)), .val (.int (0 : Int32)), .val (.int (Int32.ofNat 2)), .val (.int (Int32.ofNat 1)), .val (.ref a), .unset, .unset, .unset, .unset, .unset] [])) target := by
      intro target kt
      show Steps p.tables e below (TA.setTop (mkF m 93 #[.val (.int p1), .val (.int p2), .val (.int p3), .val (.int p4), .val (.int p5), .val (.int (1 : Int32)), .val (.int (1 : Int32)), .val (.int (0 : Int32)), .val (.int (Int32.ofNat 2)), .val (.int (Int32.ofNat 1)), .val (.ref a), .unset, .unset, .unset, .unset, .unset] [])) _
      refine XS.iload XA.here hx rfl (hb hby at_93) rfl ?_
      show Steps p.tables e below (TA.setTop (mkF m 95 #[.val (.int p1), .val (.int p2), .val (.int p3), .val (.int p4), .val (.int p5), .val (.int (1 : Int32)), .val (.int (1 : Int32)), .val (.int (0 : Int32)), .val (.int (Int32.ofNat 2)), .val (.int (Int32.ofNat 1)), .val (.ref a), .unset, .unset, .unset, .unset, .unset] [(.int (1 : Int32))])) _
      refine XS.ifNo XA.here hx rfl (hb hby at_95) rfl (by decide) ?_
      show Steps p.tables e below (TA.setTop (mkF m 98 #[.val (.int p1), .val (.int p2), .val (.int p3), .val (.int p4), .val (.int p5), .val (.int (1 : Int32)), .val (.int (1 : Int32)), .val (.int (0 : Int32)), .val (.int (Int32.ofNat 2)), .val (.int (Int32.ofNat 1)), .val (.ref a), .unset, .unset, .unset, .unset, .unset] [])) _
      refine XS.aload XA.here hx rfl (hb hby at_98) rfl rfl ?_
      show Steps p.tables e below (TA.setTop (mkF m 100 #[.val (.int p1), .val (.int p2), .val (.int p3), .val (.int p4), .val (.int p5), .val (.int (1 : Int32)), .val (.int (1 : Int32)), .val (.int (0 : Int32)), .val (.int (Int32.ofNat 2)), .val (.int (Int32.ofNat 1)), .val (.ref a), .unset, .unset, .unset, .unset, .unset] [(.ref a)])) _
      refine XS.iload XA.here hx rfl (hb hby at_100) rfl ?_
      show Steps p.tables e below (TA.setTop (mkF m 102 #[.val (.int p1), .val (.int p2), .val (.int p3), .val (.int p4), .val (.int p5), .val (.int (1 : Int32)), .val (.int (1 : Int32)), .val (.int (0 : Int32)), .val (.int (Int32.ofNat 2)), .val (.int (Int32.ofNat 1)), .val (.ref a), .unset, .unset, .unset, .unset, .unset] [(.int (Int32.ofNat 2)), (.ref a)])) _
      refine XS.iloadN XA.here hx rfl (hb hby at_102) rfl ?_
      show Steps p.tables e below (TA.setTop (mkF m 103 #[.val (.int p1), .val (.int p2), .val (.int p3), .val (.int p4), .val (.int p5), .val (.int (1 : Int32)), .val (.int (1 : Int32)), .val (.int (0 : Int32)), .val (.int (Int32.ofNat 2)), .val (.int (Int32.ofNat 1)), .val (.ref a), .unset, .unset, .unset, .unset, .unset] [(.int p2), (.int (Int32.ofNat 2)), (.ref a)])) _
      refine XS.iload XA.here hx rfl (hb hby at_103) rfl ?_
      show Steps p.tables e below (TA.setTop (mkF m 105 #[.val (.int p1), .val (.int p2), .val (.int p3), .val (.int p4), .val (.int p5), .val (.int (1 : Int32)), .val (.int (1 : Int32)), .val (.int (0 : Int32)), .val (.int (Int32.ofNat 2)), .val (.int (Int32.ofNat 1)), .val (.ref a), .unset, .unset, .unset, .unset, .unset] [(.int (0 : Int32)), (.int p2), (.int (Int32.ofNat 2)), (.ref a)])) _
      exact kt
    obtain ⟨_, _, ⟨TB, LB, kB, nB⟩, -, XB, ⟨LcB, hQB, lB, yB, zB⟩, stB⟩ := Jvm.LawKit.callS XA hx (y := (⟨"com/example/seize/seize/LockLimitsCheckKeyPinLaw", "put", "([CIIZ)V"⟩ : MethodName)) hown (mvT hZ (hw _ (List.mem_of_getElem? (i := 1) rfl))) (mvT hZ (hw _ (List.mem_of_getElem? (i := 2) rfl))) (mvT hZ (hw _ (List.mem_of_getElem? (i := 3) rfl))) (mvT hZ (hw _ (List.mem_of_getElem? (i := 4) rfl))) (by decide) (backOf (W := 0) (rmU0 l Z a0 hw a 3 2 p2 gA TA.heap n0 ge (by omega) FA (by omega)) hZ (hw _ (List.mem_of_getElem? (i := 4) rfl)) (hw _ (List.mem_of_getElem? (i := 3) rfl)) (by decide) (by decide)) (g := (mkF m 105 #[.val (.int p1), .val (.int p2), .val (.int p3), .val (.int p4), .val (.int p5), .val (.int (1 : Int32)), .val (.int (1 : Int32)), .val (.int (0 : Int32)), .val (.int (Int32.ofNat 2)), .val (.int (Int32.ofNat 1)), .val (.ref a), .unset, .unset, .unset, .unset, .unset] [(.int (0 : Int32)), (.int p2), (.int (Int32.ofNat 2)), (.ref a)])) rfl (by rw [hml]; rfl) (argsL := [(.ref a), (.int (Int32.ofNat 2)), (.int p2), (.int (0 : Int32))]) (rest := []) (lenOf pdU rfl) rfl (by show 2 * 0 + _ ≤ _; exact Nat.le_of_eq rfl) (hb hby at_105) (fun _ _ => ⟨rfl, rfl, Nat.le_of_ble_eq_true rfl, Nat.le_of_ble_eq_true rfl⟩)
    dsimp only [Pt.U, Pt.locs, Pt.cells, Pt.slots] at XB lB yB zB stB hQB
    subst lB yB zB
    obtain ⟨rfl, NB, KB, gB, PB, FB⟩ := hQB
    have MB := Fr.app (MA) NB
    have EB := own_ext_keep EA KB (allS ga1 all0)
    refine ⟨TB, _, a, _, 3, _, XB, rfl, MB, EB, ga1, FB, by omega, by omega, own_s21 PA PB, fun target kt => ?_⟩
    show Steps p.tables e below (T0.setTop (mkF m 75 #[.val (.int p1), .val (.int p2), .val (.int p3), .val (.int p4), .val (.int p5), .val (.int (1 : Int32)), .val (.int (1 : Int32)), .val (.int (0 : Int32)), .val (.int (Int32.ofNat 2)), .val (.int (Int32.ofNat 1)), .unset, .unset, .unset, .unset, .unset, .unset] [])) _
    refine sg1 _ ?_
    show Steps p.tables e below (T0.setTop (mkF m 80 #[.val (.int p1), .val (.int p2), .val (.int p3), .val (.int p4), .val (.int p5), .val (.int (1 : Int32)), .val (.int (1 : Int32)), .val (.int (0 : Int32)), .val (.int (Int32.ofNat 2)), .val (.int (Int32.ofNat 1)), .unset, .unset, .unset, .unset, .unset, .unset] [(.int (Int32.ofNat 3))])) _
    refine st1 _ ?_
    show Steps p.tables e below (T1.setTop (mkF m 82 #[.val (.int p1), .val (.int p2), .val (.int p3), .val (.int p4), .val (.int p5), .val (.int (1 : Int32)), .val (.int (1 : Int32)), .val (.int (0 : Int32)), .val (.int (Int32.ofNat 2)), .val (.int (Int32.ofNat 1)), .unset, .unset, .unset, .unset, .unset, .unset] [(.ref a)])) _
    refine sg2 _ ?_
    show Steps p.tables e below (T1.setTop (mkF m 90 #[.val (.int p1), .val (.int p2), .val (.int p3), .val (.int p4), .val (.int p5), .val (.int (1 : Int32)), .val (.int (1 : Int32)), .val (.int (0 : Int32)), .val (.int (Int32.ofNat 2)), .val (.int (Int32.ofNat 1)), .val (.ref a), .unset, .unset, .unset, .unset, .unset] [(.int (1 : Int32)), (.int p1), (.int (0 : Int32)), (.ref a)])) _
    refine stA _ ?_
    show Steps p.tables e below (TA.setTop (mkF m 93 #[.val (.int p1), .val (.int p2), .val (.int p3), .val (.int p4), .val (.int p5), .val (.int (1 : Int32)), .val (.int (1 : Int32)), .val (.int (0 : Int32)), .val (.int (Int32.ofNat 2)), .val (.int (Int32.ofNat 1)), .val (.ref a), .unset, .unset, .unset, .unset, .unset] [])) _
    refine sg3 _ ?_
    show Steps p.tables e below (TA.setTop (mkF m 105 #[.val (.int p1), .val (.int p2), .val (.int p3), .val (.int p4), .val (.int p5), .val (.int (1 : Int32)), .val (.int (1 : Int32)), .val (.int (0 : Int32)), .val (.int (Int32.ofNat 2)), .val (.int (Int32.ofNat 1)), .val (.ref a), .unset, .unset, .unset, .unset, .unset] [(.int (0 : Int32)), (.int p2), (.int (Int32.ofNat 2)), (.ref a)])) _
    refine stB _ ?_
    exact kt
  · have sg1 : ∀ target, Steps p.tables e below (T0.setTop (mkF m 80 #[.val (.int p1), .val (.int p2), .val (.int p3), .val (.int p4), .val (.int p5), .val (.int (1 : Int32)), .val (.int (1 : Int32)), .val (.int (1 : Int32)), .val (.int (Int32.ofNat 2)), .val (.int (Int32.ofNat 2)), .unset, .unset, .unset, .unset, .unset, .unset] [(.int (Int32.ofNat 4))])) target → Steps p.tables e below (T0.setTop (mkF m 75 #[.val (.int p1), .val (.int p2), .val (.int p3), .val (.int p4), .val (.int p5), .val (.int (1 : Int32)), .val (.int (1 : Int32)), .val (.int (1 : Int32)), .val (.int (Int32.ofNat 2)), .val (.int (Int32.ofNat 2)), .unset, .unset, .unset, .unset, .unset, .unset] [])) target := by
      intro target kt
      show Steps p.tables e below (T0.setTop (mkF m 75 #[.val (.int p1), .val (.int p2), .val (.int p3), .val (.int p4), .val (.int p5), .val (.int (1 : Int32)), .val (.int (1 : Int32)), .val (.int (1 : Int32)), .val (.int (Int32.ofNat 2)), .val (.int (Int32.ofNat 2)), .unset, .unset, .unset, .unset, .unset, .unset] [])) _
      refine XS.iload X0.here hx rfl (hb hby at_75) rfl ?_
      show Steps p.tables e below (T0.setTop (mkF m 77 #[.val (.int p1), .val (.int p2), .val (.int p3), .val (.int p4), .val (.int p5), .val (.int (1 : Int32)), .val (.int (1 : Int32)), .val (.int (1 : Int32)), .val (.int (Int32.ofNat 2)), .val (.int (Int32.ofNat 2)), .unset, .unset, .unset, .unset, .unset, .unset] [(.int (Int32.ofNat 2))])) _
      refine XS.iload X0.here hx rfl (hb hby at_77) rfl ?_
      show Steps p.tables e below (T0.setTop (mkF m 79 #[.val (.int p1), .val (.int p2), .val (.int p3), .val (.int p4), .val (.int p5), .val (.int (1 : Int32)), .val (.int (1 : Int32)), .val (.int (1 : Int32)), .val (.int (Int32.ofNat 2)), .val (.int (Int32.ofNat 2)), .unset, .unset, .unset, .unset, .unset, .unset] [(.int (Int32.ofNat 2)), (.int (Int32.ofNat 2))])) _
      refine XS.iadd X0.here hx rfl (hb hby at_79) rfl ?_
      show Steps p.tables e below (T0.setTop (mkF m 80 #[.val (.int p1), .val (.int p2), .val (.int p3), .val (.int p4), .val (.int p5), .val (.int (1 : Int32)), .val (.int (1 : Int32)), .val (.int (1 : Int32)), .val (.int (Int32.ofNat 2)), .val (.int (Int32.ofNat 2)), .unset, .unset, .unset, .unset, .unset, .unset] [(.int ((Int32.ofNat 2) + (Int32.ofNat 2)))])) _
      rw [(show Int32.ofNat 2 + Int32.ofNat 2 = Int32.ofNat 4 by decide)]
      show Steps p.tables e below (T0.setTop (mkF m 80 #[.val (.int p1), .val (.int p2), .val (.int p3), .val (.int p4), .val (.int p5), .val (.int (1 : Int32)), .val (.int (1 : Int32)), .val (.int (1 : Int32)), .val (.int (Int32.ofNat 2)), .val (.int (Int32.ofNat 2)), .unset, .unset, .unset, .unset, .unset, .unset] [(.int (Int32.ofNat 4))])) _
      exact kt
    obtain ⟨T1, h1, k1, X1, e1, E1, A1, st1⟩ := newP X0 hx hZ (hw _ (List.mem_of_getElem? (i := 0) rfl)) e0 (g := (mkF m 80 #[.val (.int p1), .val (.int p2), .val (.int p3), .val (.int p4), .val (.int p5), .val (.int (1 : Int32)), .val (.int (1 : Int32)), .val (.int (1 : Int32)), .val (.int (Int32.ofNat 2)), .val (.int (Int32.ofNat 2)), .unset, .unset, .unset, .unset, .unset, .unset] [(.int (Int32.ofNat 4))])) rfl (hb hby at_80) rfl (own_nn (n := 4) (by omega)) (cap := 4) (by rw [own_cl (by omega)]; omega) (by decide) (by decide) (by decide)
    obtain ⟨a, ga⟩ : ∃ z, z = h0.size := ⟨_, rfl⟩
    rw [← ga] at A1 st1
    have ga1 : h0.size ≤ a := by rw [ga]; exact Nat.le_refl _
    have ge : n0 ≤ a := Nat.le_trans hn0 ga1
    have F1 : own_AF Z h1 a .char 4 (fun _ => 0) := by
      obtain ⟨cc, B1, -, S1, -, H1, -⟩ := Arv.new A1 (own_nn (n := 4) (by omega))
      rw [own_cl (by omega)] at S1
      exact ⟨cc, B1, S1, fun i hi => H1 i (by rw [S1]; exact hi)⟩
    have sg2 : ∀ target, Steps p.tables e below (T1.setTop (mkF m 90 #[.val (.int p1), .val (.int p2), .val (.int p3), .val (.int p4), .val (.int p5), .val (.int (1 : Int32)), .val (.int (1 : Int32)), .val (.int (1 : Int32)), .val (.int (Int32.ofNat 2)), .val (.int (Int32.ofNat 2)), .val (.ref a), .unset, .unset, .unset, .unset, .unset] [(.int (1 : Int32)), (.int p1), (.int (0 : Int32)), (.ref a)])) target → Steps p.tables e below (T1.setTop (mkF m 82 #[.val (.int p1), .val (.int p2), .val (.int p3), .val (.int p4), .val (.int p5), .val (.int (1 : Int32)), .val (.int (1 : Int32)), .val (.int (1 : Int32)), .val (.int (Int32.ofNat 2)), .val (.int (Int32.ofNat 2)), .unset, .unset, .unset, .unset, .unset, .unset] [(.ref a)])) target := by
      intro target kt
      show Steps p.tables e below (T1.setTop (mkF m 82 #[.val (.int p1), .val (.int p2), .val (.int p3), .val (.int p4), .val (.int p5), .val (.int (1 : Int32)), .val (.int (1 : Int32)), .val (.int (1 : Int32)), .val (.int (Int32.ofNat 2)), .val (.int (Int32.ofNat 2)), .unset, .unset, .unset, .unset, .unset, .unset] [(.ref a)])) _
      refine XS.astore X1.here hx rfl (hb hby at_82) rfl rfl (l' := #[.val (.int p1), .val (.int p2), .val (.int p3), .val (.int p4), .val (.int p5), .val (.int (1 : Int32)), .val (.int (1 : Int32)), .val (.int (1 : Int32)), .val (.int (Int32.ofNat 2)), .val (.int (Int32.ofNat 2)), .val (.ref a), .unset, .unset, .unset, .unset, .unset]) rfl ?_
      show Steps p.tables e below (T1.setTop (mkF m 84 #[.val (.int p1), .val (.int p2), .val (.int p3), .val (.int p4), .val (.int p5), .val (.int (1 : Int32)), .val (.int (1 : Int32)), .val (.int (1 : Int32)), .val (.int (Int32.ofNat 2)), .val (.int (Int32.ofNat 2)), .val (.ref a), .unset, .unset, .unset, .unset, .unset] [])) _
      refine XS.aload X1.here hx rfl (hb hby at_84) rfl rfl ?_
      show Steps p.tables e below (T1.setTop (mkF m 86 #[.val (.int p1), .val (.int p2), .val (.int p3), .val (.int p4), .val (.int p5), .val (.int (1 : Int32)), .val (.int (1 : Int32)), .val (.int (1 : Int32)), .val (.int (Int32.ofNat 2)), .val (.int (Int32.ofNat 2)), .val (.ref a), .unset, .unset, .unset, .unset, .unset] [(.ref a)])) _
      refine XS.iconst X1.here hx rfl (hb hby at_86) ?_
      show Steps p.tables e below (T1.setTop (mkF m 87 #[.val (.int p1), .val (.int p2), .val (.int p3), .val (.int p4), .val (.int p5), .val (.int (1 : Int32)), .val (.int (1 : Int32)), .val (.int (1 : Int32)), .val (.int (Int32.ofNat 2)), .val (.int (Int32.ofNat 2)), .val (.ref a), .unset, .unset, .unset, .unset, .unset] [(.int (0 : Int32)), (.ref a)])) _
      refine XS.iloadN X1.here hx rfl (hb hby at_87) rfl ?_
      show Steps p.tables e below (T1.setTop (mkF m 88 #[.val (.int p1), .val (.int p2), .val (.int p3), .val (.int p4), .val (.int p5), .val (.int (1 : Int32)), .val (.int (1 : Int32)), .val (.int (1 : Int32)), .val (.int (Int32.ofNat 2)), .val (.int (Int32.ofNat 2)), .val (.ref a), .unset, .unset, .unset, .unset, .unset] [(.int p1), (.int (0 : Int32)), (.ref a)])) _
      refine XS.iload X1.here hx rfl (hb hby at_88) rfl ?_
      show Steps p.tables e below (T1.setTop (mkF m 90 #[.val (.int p1), .val (.int p2), .val (.int p3), .val (.int p4), .val (.int p5), .val (.int (1 : Int32)), .val (.int (1 : Int32)), .val (.int (1 : Int32)), .val (.int (Int32.ofNat 2)), .val (.int (Int32.ofNat 2)), .val (.ref a), .unset, .unset, .unset, .unset, .unset] [(.int (1 : Int32)), (.int p1), (.int (0 : Int32)), (.ref a)])) _
      exact kt
    obtain ⟨_, _, ⟨TA, LA, kA, nA⟩, -, XA, ⟨LcA, hQA, lA, yA, zA⟩, stA⟩ := Jvm.LawKit.callS X1 hx (y := (⟨"com/example/seize/seize/LockLimitsCheckKeyPinLaw", "put", "([CIIZ)V"⟩ : MethodName)) hown (mvT hZ (hw _ (List.mem_of_getElem? (i := 1) rfl))) (mvT hZ (hw _ (List.mem_of_getElem? (i := 2) rfl))) (mvT hZ (hw _ (List.mem_of_getElem? (i := 3) rfl))) (mvT hZ (hw _ (List.mem_of_getElem? (i := 4) rfl))) (by decide) (backOf (W := 0) (rmU1 l Z a0 hw a 4 0 p1 (fun _ => 0) h1 n0 ge (by omega) F1 (by omega)) hZ (hw _ (List.mem_of_getElem? (i := 4) rfl)) (hw _ (List.mem_of_getElem? (i := 3) rfl)) (by decide) (by decide)) (g := (mkF m 90 #[.val (.int p1), .val (.int p2), .val (.int p3), .val (.int p4), .val (.int p5), .val (.int (1 : Int32)), .val (.int (1 : Int32)), .val (.int (1 : Int32)), .val (.int (Int32.ofNat 2)), .val (.int (Int32.ofNat 2)), .val (.ref a), .unset, .unset, .unset, .unset, .unset] [(.int (1 : Int32)), (.int p1), (.int (0 : Int32)), (.ref a)])) rfl (by rw [hml]; rfl) (argsL := [(.ref a), (.int (0 : Int32)), (.int p1), (.int (1 : Int32))]) (rest := []) (lenOf pdU rfl) rfl (by show 2 * 0 + _ ≤ _; exact Nat.le_of_eq rfl) (hb hby at_90) (fun _ _ => ⟨rfl, e1, Nat.le_of_ble_eq_true rfl, Nat.le_of_ble_eq_true rfl⟩)
    dsimp only [Pt.U, Pt.locs, Pt.cells, Pt.slots] at XA lA yA zA stA hQA
    subst lA yA zA
    obtain ⟨rfl, NA, KA, gA, PA, FA⟩ := hQA
    have MA := Fr.app (Fr.nil n0) NA
    have EA := own_ext_keep E1 KA (allS ga1 all0)
    have sg3 : ∀ target, Steps p.tables e below (TA.setTop (mkF m 105 #[.val (.int p1), .val (.int p2), .val (.int p3), .val (.int p4), .val (.int p5), .val (.int (1 : Int32)), .val (.int (1 : Int32)), .val (.int (1 : Int32)), .val (.int (Int32.ofNat 2)), .val (.int (Int32.ofNat 2)), .val (.ref a), .unset, .unset, .unset, .unset, .unset] [(.int (1 : Int32)), (.int p2), (.int (Int32.ofNat 2)), (.ref a)])) target → Steps p.tables e below (TA.setTop (mkF m 93 #[.val (.int p1), .val (.int p2), .val (.int p3), .val (.int p4), .val (.int p5), .val (.int (1 : Int32)), .val (.int (1 : Int32)), .val (.int (1 : Int32)), .val (.int (Int32.ofNat 2)), .val (.int (Int32.ofNat 2)), .val (.ref a), .unset, .unset, .unset, .unset, .unset] [])) target := by
      intro target kt
      show Steps p.tables e below (TA.setTop (mkF m 93 #[.val (.int p1), .val (.int p2), .val (.int p3), .val (.int p4), .val (.int p5), .val (.int (1 : Int32)), .val (.int (1 : Int32)), .val (.int (1 : Int32)), .val (.int (Int32.ofNat 2)), .val (.int (Int32.ofNat 2)), .val (.ref a), .unset, .unset, .unset, .unset, .unset] [])) _
      refine XS.iload XA.here hx rfl (hb hby at_93) rfl ?_
      show Steps p.tables e below (TA.setTop (mkF m 95 #[.val (.int p1), .val (.int p2), .val (.int p3), .val (.int p4), .val (.int p5), .val (.int (1 : Int32)), .val (.int (1 : Int32)), .val (.int (1 : Int32)), .val (.int (Int32.ofNat 2)), .val (.int (Int32.ofNat 2)), .val (.ref a), .unset, .unset, .unset, .unset, .unset] [(.int (1 : Int32))])) _
      refine XS.ifNo XA.here hx rfl (hb hby at_95) rfl (by decide) ?_
      show Steps p.tables e below (TA.setTop (mkF m 98 #[.val (.int p1), .val (.int p2), .val (.int p3), .val (.int p4), .val (.int p5), .val (.int (1 : Int32)), .val (.int (1 : Int32)), .val (.int (1 : Int32)), .val (.int (Int32.ofNat 2)), .val (.int (Int32.ofNat 2)), .val (.ref a), .unset, .unset, .unset, .unset, .unset] [])) _
      refine XS.aload XA.here hx rfl (hb hby at_98) rfl rfl ?_
      show Steps p.tables e below (TA.setTop (mkF m 100 #[.val (.int p1), .val (.int p2), .val (.int p3), .val (.int p4), .val (.int p5), .val (.int (1 : Int32)), .val (.int (1 : Int32)), .val (.int (1 : Int32)), .val (.int (Int32.ofNat 2)), .val (.int (Int32.ofNat 2)), .val (.ref a), .unset, .unset, .unset, .unset, .unset] [(.ref a)])) _
      refine XS.iload XA.here hx rfl (hb hby at_100) rfl ?_
      show Steps p.tables e below (TA.setTop (mkF m 102 #[.val (.int p1), .val (.int p2), .val (.int p3), .val (.int p4), .val (.int p5), .val (.int (1 : Int32)), .val (.int (1 : Int32)), .val (.int (1 : Int32)), .val (.int (Int32.ofNat 2)), .val (.int (Int32.ofNat 2)), .val (.ref a), .unset, .unset, .unset, .unset, .unset] [(.int (Int32.ofNat 2)), (.ref a)])) _
      refine XS.iloadN XA.here hx rfl (hb hby at_102) rfl ?_
      show Steps p.tables e below (TA.setTop (mkF m 103 #[.val (.int p1), .val (.int p2), .val (.int p3), .val (.int p4), .val (.int p5), .val (.int (1 : Int32)), .val (.int (1 : Int32)), .val (.int (1 : Int32)), .val (.int (Int32.ofNat 2)), .val (.int (Int32.ofNat 2)), .val (.ref a), .unset, .unset, .unset, .unset, .unset] [(.int p2), (.int (Int32.ofNat 2)), (.ref a)])) _
      refine XS.iload XA.here hx rfl (hb hby at_103) rfl ?_
      show Steps p.tables e below (TA.setTop (mkF m 105 #[.val (.int p1), .val (.int p2), .val (.int p3), .val (.int p4), .val (.int p5), .val (.int (1 : Int32)), .val (.int (1 : Int32)), .val (.int (1 : Int32)), .val (.int (Int32.ofNat 2)), .val (.int (Int32.ofNat 2)), .val (.ref a), .unset, .unset, .unset, .unset, .unset] [(.int (1 : Int32)), (.int p2), (.int (Int32.ofNat 2)), (.ref a)])) _
      exact kt
    obtain ⟨_, _, ⟨TB, LB, kB, nB⟩, -, XB, ⟨LcB, hQB, lB, yB, zB⟩, stB⟩ := Jvm.LawKit.callS XA hx (y := (⟨"com/example/seize/seize/LockLimitsCheckKeyPinLaw", "put", "([CIIZ)V"⟩ : MethodName)) hown (mvT hZ (hw _ (List.mem_of_getElem? (i := 1) rfl))) (mvT hZ (hw _ (List.mem_of_getElem? (i := 2) rfl))) (mvT hZ (hw _ (List.mem_of_getElem? (i := 3) rfl))) (mvT hZ (hw _ (List.mem_of_getElem? (i := 4) rfl))) (by decide) (backOf (W := 0) (rmU1 l Z a0 hw a 4 2 p2 gA TA.heap n0 ge (by omega) FA (by omega)) hZ (hw _ (List.mem_of_getElem? (i := 4) rfl)) (hw _ (List.mem_of_getElem? (i := 3) rfl)) (by decide) (by decide)) (g := (mkF m 105 #[.val (.int p1), .val (.int p2), .val (.int p3), .val (.int p4), .val (.int p5), .val (.int (1 : Int32)), .val (.int (1 : Int32)), .val (.int (1 : Int32)), .val (.int (Int32.ofNat 2)), .val (.int (Int32.ofNat 2)), .val (.ref a), .unset, .unset, .unset, .unset, .unset] [(.int (1 : Int32)), (.int p2), (.int (Int32.ofNat 2)), (.ref a)])) rfl (by rw [hml]; rfl) (argsL := [(.ref a), (.int (Int32.ofNat 2)), (.int p2), (.int (1 : Int32))]) (rest := []) (lenOf pdU rfl) rfl (by show 2 * 0 + _ ≤ _; exact Nat.le_of_eq rfl) (hb hby at_105) (fun _ _ => ⟨rfl, rfl, Nat.le_of_ble_eq_true rfl, Nat.le_of_ble_eq_true rfl⟩)
    dsimp only [Pt.U, Pt.locs, Pt.cells, Pt.slots] at XB lB yB zB stB hQB
    subst lB yB zB
    obtain ⟨rfl, NB, KB, gB, PB, FB⟩ := hQB
    have MB := Fr.app (MA) NB
    have EB := own_ext_keep EA KB (allS ga1 all0)
    refine ⟨TB, _, a, _, 4, _, XB, rfl, MB, EB, ga1, FB, by omega, by omega, own_s22 PA PB, fun target kt => ?_⟩
    show Steps p.tables e below (T0.setTop (mkF m 75 #[.val (.int p1), .val (.int p2), .val (.int p3), .val (.int p4), .val (.int p5), .val (.int (1 : Int32)), .val (.int (1 : Int32)), .val (.int (1 : Int32)), .val (.int (Int32.ofNat 2)), .val (.int (Int32.ofNat 2)), .unset, .unset, .unset, .unset, .unset, .unset] [])) _
    refine sg1 _ ?_
    show Steps p.tables e below (T0.setTop (mkF m 80 #[.val (.int p1), .val (.int p2), .val (.int p3), .val (.int p4), .val (.int p5), .val (.int (1 : Int32)), .val (.int (1 : Int32)), .val (.int (1 : Int32)), .val (.int (Int32.ofNat 2)), .val (.int (Int32.ofNat 2)), .unset, .unset, .unset, .unset, .unset, .unset] [(.int (Int32.ofNat 4))])) _
    refine st1 _ ?_
    show Steps p.tables e below (T1.setTop (mkF m 82 #[.val (.int p1), .val (.int p2), .val (.int p3), .val (.int p4), .val (.int p5), .val (.int (1 : Int32)), .val (.int (1 : Int32)), .val (.int (1 : Int32)), .val (.int (Int32.ofNat 2)), .val (.int (Int32.ofNat 2)), .unset, .unset, .unset, .unset, .unset, .unset] [(.ref a)])) _
    refine sg2 _ ?_
    show Steps p.tables e below (T1.setTop (mkF m 90 #[.val (.int p1), .val (.int p2), .val (.int p3), .val (.int p4), .val (.int p5), .val (.int (1 : Int32)), .val (.int (1 : Int32)), .val (.int (1 : Int32)), .val (.int (Int32.ofNat 2)), .val (.int (Int32.ofNat 2)), .val (.ref a), .unset, .unset, .unset, .unset, .unset] [(.int (1 : Int32)), (.int p1), (.int (0 : Int32)), (.ref a)])) _
    refine stA _ ?_
    show Steps p.tables e below (TA.setTop (mkF m 93 #[.val (.int p1), .val (.int p2), .val (.int p3), .val (.int p4), .val (.int p5), .val (.int (1 : Int32)), .val (.int (1 : Int32)), .val (.int (1 : Int32)), .val (.int (Int32.ofNat 2)), .val (.int (Int32.ofNat 2)), .val (.ref a), .unset, .unset, .unset, .unset, .unset] [])) _
    refine sg3 _ ?_
    show Steps p.tables e below (TA.setTop (mkF m 105 #[.val (.int p1), .val (.int p2), .val (.int p3), .val (.int p4), .val (.int p5), .val (.int (1 : Int32)), .val (.int (1 : Int32)), .val (.int (1 : Int32)), .val (.int (Int32.ofNat 2)), .val (.int (Int32.ofNat 2)), .val (.ref a), .unset, .unset, .unset, .unset, .unset] [(.int (1 : Int32)), (.int p2), (.int (Int32.ofNat 2)), (.ref a)])) _
    refine stB _ ?_
    exact kt
set_option maxRecDepth 65536 in
set_option maxHeartbeats 40000000 in
theorem own_P3 {p : Program} {l : Launch} {e : Env} {s : State} {m : MethodId} {args : Array Value} {below : List Frame} {meth : Method} {c : Code} {T0 : State} {locs : List Loc} {Z : State} {a0 : Array Value} {h0 : Heap} {n0 : Nat} (p1 p2 p3 p4 p5 : Int32) (b5 b6 b7 : Int32) (L0 L1 : Nat) (a0_ : Addr) (X0 : Stand p l e room_1 s m args below meth c T0 locs 1 4) (N0 : Fr n0 locs) (hx : p.tables.exec = Jvm.exec) (hZ : Z.Warmed39 s.vm) (hw : ∀ d ∈ tables_1, d.before a0 Z = true) (hby : c.code = code) (hml : c.maxLocals = 16) (hown : s.vm.findClass "com/example/seize/seize/LockLimitsCheckKeyPinLaw" = some m.cls) (e0 : T0.heap = h0) (hn0 : n0 ≤ h0.size) :
    ∃ (T' : State) (h' : Heap) (a : Addr) (L' : List Loc) (g : Nat → Int32) (y12 y13 : Int32), Stand p l e room_1 s m args below meth c T' L' 2 260 ∧ T'.heap = h' ∧ Fr n0 L' ∧ Ext h0 h' ∧ h0.size ≤ a ∧ own_AF Z h' a .char 256 g ∧ (own_run g 256 255 0 ∧ (∃ j, j < 256 ∧ (255 : Int32) < g j) ∧ ∀ j, j < 256 → own_c16 (g j)) ∧
      ∀ target, Steps p.tables e below (T'.setTop (mkF m 169 #[.val (.int p1), .val (.int p2), .val (.int p3), .val (.int p4), .val (.int p5), .val (.int b5), .val (.int b6), .val (.int b7), .val (.int (Int32.ofNat L0)), .val (.int (Int32.ofNat L1)), .val (.ref a0_), .val (.ref a), .val (.int y12), .val (.int y13), .unset, .unset] [])) target → Steps p.tables e below (T0.setTop (mkF m 108 #[.val (.int p1), .val (.int p2), .val (.int p3), .val (.int p4), .val (.int p5), .val (.int b5), .val (.int b6), .val (.int b7), .val (.int (Int32.ofNat L0)), .val (.int (Int32.ofNat L1)), .val (.ref a0_), .unset, .unset, .unset, .unset, .unset] [])) target := by
  obtain ⟨P, hP, eP⟩ := own_md p3 255 (by omega) (by omega)
  obtain ⟨q, hq, eq⟩ := own_md p4 254 (by omega) (by omega)
  have sg1 : ∀ target, Steps p.tables e below (T0.setTop (mkF m 111 #[.val (.int p1), .val (.int p2), .val (.int p3), .val (.int p4), .val (.int p5), .val (.int b5), .val (.int b6), .val (.int b7), .val (.int (Int32.ofNat L0)), .val (.int (Int32.ofNat L1)), .val (.ref a0_), .unset, .unset, .unset, .unset, .unset] [(.int (Int32.ofNat 256))])) target → Steps p.tables e below (T0.setTop (mkF m 108 #[.val (.int p1), .val (.int p2), .val (.int p3), .val (.int p4), .val (.int p5), .val (.int b5), .val (.int b6), .val (.int b7), .val (.int (Int32.ofNat L0)), .val (.int (Int32.ofNat L1)), .val (.ref a0_), .unset, .unset, .unset, .unset, .unset] [])) target := by
    intro target kt
    show Steps p.tables e below (T0.setTop (mkF m 108 #[.val (.int p1), .val (.int p2), .val (.int p3), .val (.int p4), .val (.int p5), .val (.int b5), .val (.int b6), .val (.int b7), .val (.int (Int32.ofNat L0)), .val (.int (Int32.ofNat L1)), .val (.ref a0_), .unset, .unset, .unset, .unset, .unset] [])) _
    refine XS.sipush X0.here hx rfl (hb hby at_108) ?_
    show Steps p.tables e below (T0.setTop (mkF m 111 #[.val (.int p1), .val (.int p2), .val (.int p3), .val (.int p4), .val (.int p5), .val (.int b5), .val (.int b6), .val (.int b7), .val (.int (Int32.ofNat L0)), .val (.int (Int32.ofNat L1)), .val (.ref a0_), .unset, .unset, .unset, .unset, .unset] [(.int (256 : Int32))])) _
    show Steps p.tables e below (T0.setTop (mkF m 111 #[.val (.int p1), .val (.int p2), .val (.int p3), .val (.int p4), .val (.int p5), .val (.int b5), .val (.int b6), .val (.int b7), .val (.int (Int32.ofNat L0)), .val (.int (Int32.ofNat L1)), .val (.ref a0_), .unset, .unset, .unset, .unset, .unset] [(.int (Int32.ofNat 256))])) _
    exact kt
  obtain ⟨T1, h1, k1, X1, e1, E1, A1, st1⟩ := newP X0 hx hZ (hw _ (List.mem_of_getElem? (i := 0) rfl)) e0 (g := (mkF m 111 #[.val (.int p1), .val (.int p2), .val (.int p3), .val (.int p4), .val (.int p5), .val (.int b5), .val (.int b6), .val (.int b7), .val (.int (Int32.ofNat L0)), .val (.int (Int32.ofNat L1)), .val (.ref a0_), .unset, .unset, .unset, .unset, .unset] [(.int (Int32.ofNat 256))])) rfl (hb hby at_111) rfl (own_nn (n := 256) (by omega)) (cap := 256) (by rw [own_cl (by omega)]; omega) (by decide) (by decide) (by decide)
  obtain ⟨a, ga⟩ : ∃ z, z = h0.size := ⟨_, rfl⟩
  rw [← ga] at A1 st1
  have ga1 : h0.size ≤ a := by rw [ga]; exact Nat.le_refl _
  have ge : n0 ≤ a := Nat.le_trans hn0 ga1
  have F1 : own_AF Z h1 a .char 256 (fun _ => 0) := by
    obtain ⟨cc, B1, -, S1, -, H1, -⟩ := Arv.new A1 (own_nn (n := 256) (by omega))
    rw [own_cl (by omega)] at S1
    exact ⟨cc, B1, S1, fun i hi => H1 i (by rw [S1]; exact hi)⟩
  have sg2 : ∀ target, Steps p.tables e below (T1.setTop (mkF m 139 #[.val (.int p1), .val (.int p2), .val (.int p3), .val (.int p4), .val (.int p5), .val (.int b5), .val (.int b6), .val (.int b7), .val (.int (Int32.ofNat L0)), .val (.int (Int32.ofNat L1)), .val (.ref a0_), .val (.ref a), .val (.int (Int32.ofNat P)), .val (.int (Int32.ofNat q)), .unset, .unset] [(.int (Int32.ofNat P)), (.int (Int32.ofNat q))])) target → Steps p.tables e below (T1.setTop (mkF m 113 #[.val (.int p1), .val (.int p2), .val (.int p3), .val (.int p4), .val (.int p5), .val (.int b5), .val (.int b6), .val (.int b7), .val (.int (Int32.ofNat L0)), .val (.int (Int32.ofNat L1)), .val (.ref a0_), .unset, .unset, .unset, .unset, .unset] [(.ref a)])) target := by
    intro target kt
    show Steps p.tables e below (T1.setTop (mkF m 113 #[.val (.int p1), .val (.int p2), .val (.int p3), .val (.int p4), .val (.int p5), .val (.int b5), .val (.int b6), .val (.int b7), .val (.int (Int32.ofNat L0)), .val (.int (Int32.ofNat L1)), .val (.ref a0_), .unset, .unset, .unset, .unset, .unset] [(.ref a)])) _
    refine XS.astore X1.here hx rfl (hb hby at_113) rfl rfl (l' := #[.val (.int p1), .val (.int p2), .val (.int p3), .val (.int p4), .val (.int p5), .val (.int b5), .val (.int b6), .val (.int b7), .val (.int (Int32.ofNat L0)), .val (.int (Int32.ofNat L1)), .val (.ref a0_), .val (.ref a), .unset, .unset, .unset, .unset]) rfl ?_
    show Steps p.tables e below (T1.setTop (mkF m 115 #[.val (.int p1), .val (.int p2), .val (.int p3), .val (.int p4), .val (.int p5), .val (.int b5), .val (.int b6), .val (.int b7), .val (.int (Int32.ofNat L0)), .val (.int (Int32.ofNat L1)), .val (.ref a0_), .val (.ref a), .unset, .unset, .unset, .unset] [])) _
    refine XS.iloadN X1.here hx rfl (hb hby at_115) rfl ?_
    show Steps p.tables e below (T1.setTop (mkF m 116 #[.val (.int p1), .val (.int p2), .val (.int p3), .val (.int p4), .val (.int p5), .val (.int b5), .val (.int b6), .val (.int b7), .val (.int (Int32.ofNat L0)), .val (.int (Int32.ofNat L1)), .val (.ref a0_), .val (.ref a), .unset, .unset, .unset, .unset] [(.int p3)])) _
    refine X1.ldcInt hx hown (mvT hZ (hw _ (List.mem_of_getElem? (i := 7) rfl))) (g := (mkF m 116 #[.val (.int p1), .val (.int p2), .val (.int p3), .val (.int p4), .val (.int p5), .val (.int b5), .val (.int b6), .val (.int b7), .val (.int (Int32.ofNat L0)), .val (.int (Int32.ofNat L1)), .val (.ref a0_), .val (.ref a), .unset, .unset, .unset, .unset] [(.int p3)])) rfl (hb hby at_116) _ ?_
    show Steps p.tables e below (T1.setTop (mkF m 118 #[.val (.int p1), .val (.int p2), .val (.int p3), .val (.int p4), .val (.int p5), .val (.int b5), .val (.int b6), .val (.int b7), .val (.int (Int32.ofNat L0)), .val (.int (Int32.ofNat L1)), .val (.ref a0_), .val (.ref a), .unset, .unset, .unset, .unset] [(.int (2147483647 : Int32)), (.int p3)])) _
    refine XS.iand X1.here hx rfl (hb hby at_118) rfl ?_
    show Steps p.tables e below (T1.setTop (mkF m 119 #[.val (.int p1), .val (.int p2), .val (.int p3), .val (.int p4), .val (.int p5), .val (.int b5), .val (.int b6), .val (.int b7), .val (.int (Int32.ofNat L0)), .val (.int (Int32.ofNat L1)), .val (.ref a0_), .val (.ref a), .unset, .unset, .unset, .unset] [(.int (p3 &&& (2147483647 : Int32)))])) _
    refine XS.sipush X1.here hx rfl (hb hby at_119) ?_
    show Steps p.tables e below (T1.setTop (mkF m 122 #[.val (.int p1), .val (.int p2), .val (.int p3), .val (.int p4), .val (.int p5), .val (.int b5), .val (.int b6), .val (.int b7), .val (.int (Int32.ofNat L0)), .val (.int (Int32.ofNat L1)), .val (.ref a0_), .val (.ref a), .unset, .unset, .unset, .unset] [(.int (255 : Int32)), (.int (p3 &&& (2147483647 : Int32)))])) _
    refine iremM X1 hx rfl (hb hby at_122) rfl (by decide) ?_
    show Steps p.tables e below (T1.setTop (mkF m 123 #[.val (.int p1), .val (.int p2), .val (.int p3), .val (.int p4), .val (.int p5), .val (.int b5), .val (.int b6), .val (.int b7), .val (.int (Int32.ofNat L0)), .val (.int (Int32.ofNat L1)), .val (.ref a0_), .val (.ref a), .unset, .unset, .unset, .unset] [(.int ((p3 &&& (2147483647 : Int32)) % (255 : Int32)))])) _
    rw [(show (p3 &&& (2147483647 : Int32)) % (255 : Int32) = Int32.ofNat P from eP)]
    show Steps p.tables e below (T1.setTop (mkF m 123 #[.val (.int p1), .val (.int p2), .val (.int p3), .val (.int p4), .val (.int p5), .val (.int b5), .val (.int b6), .val (.int b7), .val (.int (Int32.ofNat L0)), .val (.int (Int32.ofNat L1)), .val (.ref a0_), .val (.ref a), .unset, .unset, .unset, .unset] [(.int (Int32.ofNat P))])) _
    refine XS.istore X1.here hx rfl (hb hby at_123) rfl (l' := #[.val (.int p1), .val (.int p2), .val (.int p3), .val (.int p4), .val (.int p5), .val (.int b5), .val (.int b6), .val (.int b7), .val (.int (Int32.ofNat L0)), .val (.int (Int32.ofNat L1)), .val (.ref a0_), .val (.ref a), .val (.int (Int32.ofNat P)), .unset, .unset, .unset]) rfl ?_
    show Steps p.tables e below (T1.setTop (mkF m 125 #[.val (.int p1), .val (.int p2), .val (.int p3), .val (.int p4), .val (.int p5), .val (.int b5), .val (.int b6), .val (.int b7), .val (.int (Int32.ofNat L0)), .val (.int (Int32.ofNat L1)), .val (.ref a0_), .val (.ref a), .val (.int (Int32.ofNat P)), .unset, .unset, .unset] [])) _
    refine XS.iloadN X1.here hx rfl (hb hby at_125) rfl ?_
    show Steps p.tables e below (T1.setTop (mkF m 126 #[.val (.int p1), .val (.int p2), .val (.int p3), .val (.int p4), .val (.int p5), .val (.int b5), .val (.int b6), .val (.int b7), .val (.int (Int32.ofNat L0)), .val (.int (Int32.ofNat L1)), .val (.ref a0_), .val (.ref a), .val (.int (Int32.ofNat P)), .unset, .unset, .unset] [(.int p4)])) _
    refine X1.ldcInt hx hown (mvT hZ (hw _ (List.mem_of_getElem? (i := 7) rfl))) (g := (mkF m 126 #[.val (.int p1), .val (.int p2), .val (.int p3), .val (.int p4), .val (.int p5), .val (.int b5), .val (.int b6), .val (.int b7), .val (.int (Int32.ofNat L0)), .val (.int (Int32.ofNat L1)), .val (.ref a0_), .val (.ref a), .val (.int (Int32.ofNat P)), .unset, .unset, .unset] [(.int p4)])) rfl (hb hby at_126) _ ?_
    show Steps p.tables e below (T1.setTop (mkF m 128 #[.val (.int p1), .val (.int p2), .val (.int p3), .val (.int p4), .val (.int p5), .val (.int b5), .val (.int b6), .val (.int b7), .val (.int (Int32.ofNat L0)), .val (.int (Int32.ofNat L1)), .val (.ref a0_), .val (.ref a), .val (.int (Int32.ofNat P)), .unset, .unset, .unset] [(.int (2147483647 : Int32)), (.int p4)])) _
    refine XS.iand X1.here hx rfl (hb hby at_128) rfl ?_
    show Steps p.tables e below (T1.setTop (mkF m 129 #[.val (.int p1), .val (.int p2), .val (.int p3), .val (.int p4), .val (.int p5), .val (.int b5), .val (.int b6), .val (.int b7), .val (.int (Int32.ofNat L0)), .val (.int (Int32.ofNat L1)), .val (.ref a0_), .val (.ref a), .val (.int (Int32.ofNat P)), .unset, .unset, .unset] [(.int (p4 &&& (2147483647 : Int32)))])) _
    refine XS.sipush X1.here hx rfl (hb hby at_129) ?_
    show Steps p.tables e below (T1.setTop (mkF m 132 #[.val (.int p1), .val (.int p2), .val (.int p3), .val (.int p4), .val (.int p5), .val (.int b5), .val (.int b6), .val (.int b7), .val (.int (Int32.ofNat L0)), .val (.int (Int32.ofNat L1)), .val (.ref a0_), .val (.ref a), .val (.int (Int32.ofNat P)), .unset, .unset, .unset] [(.int (254 : Int32)), (.int (p4 &&& (2147483647 : Int32)))])) _
    refine iremM X1 hx rfl (hb hby at_132) rfl (by decide) ?_
    show Steps p.tables e below (T1.setTop (mkF m 133 #[.val (.int p1), .val (.int p2), .val (.int p3), .val (.int p4), .val (.int p5), .val (.int b5), .val (.int b6), .val (.int b7), .val (.int (Int32.ofNat L0)), .val (.int (Int32.ofNat L1)), .val (.ref a0_), .val (.ref a), .val (.int (Int32.ofNat P)), .unset, .unset, .unset] [(.int ((p4 &&& (2147483647 : Int32)) % (254 : Int32)))])) _
    rw [(show (p4 &&& (2147483647 : Int32)) % (254 : Int32) = Int32.ofNat q from eq)]
    show Steps p.tables e below (T1.setTop (mkF m 133 #[.val (.int p1), .val (.int p2), .val (.int p3), .val (.int p4), .val (.int p5), .val (.int b5), .val (.int b6), .val (.int b7), .val (.int (Int32.ofNat L0)), .val (.int (Int32.ofNat L1)), .val (.ref a0_), .val (.ref a), .val (.int (Int32.ofNat P)), .unset, .unset, .unset] [(.int (Int32.ofNat q))])) _
    refine XS.istore X1.here hx rfl (hb hby at_133) rfl (l' := #[.val (.int p1), .val (.int p2), .val (.int p3), .val (.int p4), .val (.int p5), .val (.int b5), .val (.int b6), .val (.int b7), .val (.int (Int32.ofNat L0)), .val (.int (Int32.ofNat L1)), .val (.ref a0_), .val (.ref a), .val (.int (Int32.ofNat P)), .val (.int (Int32.ofNat q)), .unset, .unset]) rfl ?_
    show Steps p.tables e below (T1.setTop (mkF m 135 #[.val (.int p1), .val (.int p2), .val (.int p3), .val (.int p4), .val (.int p5), .val (.int b5), .val (.int b6), .val (.int b7), .val (.int (Int32.ofNat L0)), .val (.int (Int32.ofNat L1)), .val (.ref a0_), .val (.ref a), .val (.int (Int32.ofNat P)), .val (.int (Int32.ofNat q)), .unset, .unset] [])) _
    refine XS.iload X1.here hx rfl (hb hby at_135) rfl ?_
    show Steps p.tables e below (T1.setTop (mkF m 137 #[.val (.int p1), .val (.int p2), .val (.int p3), .val (.int p4), .val (.int p5), .val (.int b5), .val (.int b6), .val (.int b7), .val (.int (Int32.ofNat L0)), .val (.int (Int32.ofNat L1)), .val (.ref a0_), .val (.ref a), .val (.int (Int32.ofNat P)), .val (.int (Int32.ofNat q)), .unset, .unset] [(.int (Int32.ofNat q))])) _
    refine XS.iload X1.here hx rfl (hb hby at_137) rfl ?_
    show Steps p.tables e below (T1.setTop (mkF m 139 #[.val (.int p1), .val (.int p2), .val (.int p3), .val (.int p4), .val (.int p5), .val (.int b5), .val (.int b6), .val (.int b7), .val (.int (Int32.ofNat L0)), .val (.int (Int32.ofNat L1)), .val (.ref a0_), .val (.ref a), .val (.int (Int32.ofNat P)), .val (.int (Int32.ofNat q)), .unset, .unset] [(.int (Int32.ofNat P)), (.int (Int32.ofNat q))])) _
    exact kt
  by_cases hqp : q < P
  · have sg3 : ∀ target, Steps p.tables e below (T1.setTop (mkF m 157 #[.val (.int p1), .val (.int p2), .val (.int p3), .val (.int p4), .val (.int p5), .val (.int b5), .val (.int b6), .val (.int b7), .val (.int (Int32.ofNat L0)), .val (.int (Int32.ofNat L1)), .val (.ref a0_), .val (.ref a), .val (.int (Int32.ofNat P)), .val (.int (Int32.ofNat q)), .unset, .unset] [(.int (1 : Int32)), (.int (((p5).toUInt32 >>> ((3 : Int32) &&& 31).toUInt32).toInt32)), (.int (Int32.ofNat P)), (.ref a)])) target → Steps p.tables e below (T1.setTop (mkF m 139 #[.val (.int p1), .val (.int p2), .val (.int p3), .val (.int p4), .val (.int p5), .val (.int b5), .val (.int b6), .val (.int b7), .val (.int (Int32.ofNat L0)), .val (.int (Int32.ofNat L1)), .val (.ref a0_), .val (.ref a), .val (.int (Int32.ofNat P)), .val (.int (Int32.ofNat q)), .unset, .unset] [(.int (Int32.ofNat P)), (.int (Int32.ofNat q))])) target := by
      intro target kt
      show Steps p.tables e below (T1.setTop (mkF m 139 #[.val (.int p1), .val (.int p2), .val (.int p3), .val (.int p4), .val (.int p5), .val (.int b5), .val (.int b6), .val (.int b7), .val (.int (Int32.ofNat L0)), .val (.int (Int32.ofNat L1)), .val (.ref a0_), .val (.ref a), .val (.int (Int32.ofNat P)), .val (.int (Int32.ofNat q)), .unset, .unset] [(.int (Int32.ofNat P)), (.int (Int32.ofNat q))])) _
      refine XS.icmpYes X1.here hx rfl (pc0 := 139) (pc' := 148) rfl (hb hby at_139) rfl (tlt (own_lt hqp (by omega))).1 (by decide) (by decide) ?_
      show Steps p.tables e below (T1.setTop (mkF m 148 #[.val (.int p1), .val (.int p2), .val (.int p3), .val (.int p4), .val (.int p5), .val (.int b5), .val (.int b6), .val (.int b7), .val (.int (Int32.ofNat L0)), .val (.int (Int32.ofNat L1)), .val (.ref a0_), .val (.ref a), .val (.int (Int32.ofNat P)), .val (.int (Int32.ofNat q)), .unset, .unset] [])) _
      refine XS.aload X1.here hx rfl (hb hby at_148) rfl rfl ?_
      show Steps p.tables e below (T1.setTop (mkF m 150 #[.val (.int p1), .val (.int p2), .val (.int p3), .val (.int p4), .val (.int p5), .val (.int b5), .val (.int b6), .val (.int b7), .val (.int (Int32.ofNat L0)), .val (.int (Int32.ofNat L1)), .val (.ref a0_), .val (.ref a), .val (.int (Int32.ofNat P)), .val (.int (Int32.ofNat q)), .unset, .unset] [(.ref a)])) _
      refine XS.iload X1.here hx rfl (hb hby at_150) rfl ?_
      show Steps p.tables e below (T1.setTop (mkF m 152 #[.val (.int p1), .val (.int p2), .val (.int p3), .val (.int p4), .val (.int p5), .val (.int b5), .val (.int b6), .val (.int b7), .val (.int (Int32.ofNat L0)), .val (.int (Int32.ofNat L1)), .val (.ref a0_), .val (.ref a), .val (.int (Int32.ofNat P)), .val (.int (Int32.ofNat q)), .unset, .unset] [(.int (Int32.ofNat P)), (.ref a)])) _
      refine XS.iload X1.here hx rfl (hb hby at_152) rfl ?_
      show Steps p.tables e below (T1.setTop (mkF m 154 #[.val (.int p1), .val (.int p2), .val (.int p3), .val (.int p4), .val (.int p5), .val (.int b5), .val (.int b6), .val (.int b7), .val (.int (Int32.ofNat L0)), .val (.int (Int32.ofNat L1)), .val (.ref a0_), .val (.ref a), .val (.int (Int32.ofNat P)), .val (.int (Int32.ofNat q)), .unset, .unset] [(.int p5), (.int (Int32.ofNat P)), (.ref a)])) _
      refine XS.iconst X1.here hx rfl (hb hby at_154) ?_
      show Steps p.tables e below (T1.setTop (mkF m 155 #[.val (.int p1), .val (.int p2), .val (.int p3), .val (.int p4), .val (.int p5), .val (.int b5), .val (.int b6), .val (.int b7), .val (.int (Int32.ofNat L0)), .val (.int (Int32.ofNat L1)), .val (.ref a0_), .val (.ref a), .val (.int (Int32.ofNat P)), .val (.int (Int32.ofNat q)), .unset, .unset] [(.int (3 : Int32)), (.int p5), (.int (Int32.ofNat P)), (.ref a)])) _
      refine XS.iushr X1.here hx rfl (hb hby at_155) rfl ?_
      show Steps p.tables e below (T1.setTop (mkF m 156 #[.val (.int p1), .val (.int p2), .val (.int p3), .val (.int p4), .val (.int p5), .val (.int b5), .val (.int b6), .val (.int b7), .val (.int (Int32.ofNat L0)), .val (.int (Int32.ofNat L1)), .val (.ref a0_), .val (.ref a), .val (.int (Int32.ofNat P)), .val (.int (Int32.ofNat q)), .unset, .unset] [(.int (((p5).toUInt32 >>> ((3 : Int32) &&& 31).toUInt32).toInt32)), (.int (Int32.ofNat P)), (.ref a)])) _
      refine XS.iconst X1.here hx rfl (hb hby at_156) ?_
      show Steps p.tables e below (T1.setTop (mkF m 157 #[.val (.int p1), .val (.int p2), .val (.int p3), .val (.int p4), .val (.int p5), .val (.int b5), .val (.int b6), .val (.int b7), .val (.int (Int32.ofNat L0)), .val (.int (Int32.ofNat L1)), .val (.ref a0_), .val (.ref a), .val (.int (Int32.ofNat P)), .val (.int (Int32.ofNat q)), .unset, .unset] [(.int (1 : Int32)), (.int (((p5).toUInt32 >>> ((3 : Int32) &&& 31).toUInt32).toInt32)), (.int (Int32.ofNat P)), (.ref a)])) _
      exact kt
    obtain ⟨_, _, ⟨TA, LA, kA, nA⟩, -, XA, ⟨LcA, hQA, lA, yA, zA⟩, stA⟩ := Jvm.LawKit.callS X1 hx (y := (⟨"com/example/seize/seize/LockLimitsCheckKeyPinLaw", "put", "([CIIZ)V"⟩ : MethodName)) hown (mvT hZ (hw _ (List.mem_of_getElem? (i := 1) rfl))) (mvT hZ (hw _ (List.mem_of_getElem? (i := 2) rfl))) (mvT hZ (hw _ (List.mem_of_getElem? (i := 3) rfl))) (mvT hZ (hw _ (List.mem_of_getElem? (i := 4) rfl))) (by decide) (backOf (W := 0) (rmU1 l Z a0 hw a 256 P (((p5).toUInt32 >>> ((3 : Int32) &&& 31).toUInt32).toInt32) (fun _ => 0) h1 n0 ge (by omega) F1 (by omega)) hZ (hw _ (List.mem_of_getElem? (i := 4) rfl)) (hw _ (List.mem_of_getElem? (i := 3) rfl)) (by decide) (by decide)) (g := (mkF m 157 #[.val (.int p1), .val (.int p2), .val (.int p3), .val (.int p4), .val (.int p5), .val (.int b5), .val (.int b6), .val (.int b7), .val (.int (Int32.ofNat L0)), .val (.int (Int32.ofNat L1)), .val (.ref a0_), .val (.ref a), .val (.int (Int32.ofNat P)), .val (.int (Int32.ofNat q)), .unset, .unset] [(.int (1 : Int32)), (.int (((p5).toUInt32 >>> ((3 : Int32) &&& 31).toUInt32).toInt32)), (.int (Int32.ofNat P)), (.ref a)])) rfl (by rw [hml]; rfl) (argsL := [(.ref a), (.int (Int32.ofNat P)), (.int (((p5).toUInt32 >>> ((3 : Int32) &&& 31).toUInt32).toInt32)), (.int (1 : Int32))]) (rest := []) (lenOf pdU rfl) rfl (by show 2 * 0 + _ ≤ _; exact Nat.le_of_eq rfl) (hb hby at_157) (fun _ _ => ⟨rfl, e1, Nat.le_of_ble_eq_true rfl, Nat.le_of_ble_eq_true rfl⟩)
    dsimp only [Pt.U, Pt.locs, Pt.cells, Pt.slots] at XA lA yA zA stA hQA
    subst lA yA zA
    obtain ⟨rfl, NA, KA, gA, PA, FA⟩ := hQA
    have MA := Fr.app (N0) NA
    have sg4 : ∀ target, Steps p.tables e below (TA.setTop (mkF m 166 #[.val (.int p1), .val (.int p2), .val (.int p3), .val (.int p4), .val (.int p5), .val (.int b5), .val (.int b6), .val (.int b7), .val (.int (Int32.ofNat L0)), .val (.int (Int32.ofNat L1)), .val (.ref a0_), .val (.ref a), .val (.int (Int32.ofNat P)), .val (.int (Int32.ofNat q)), .unset, .unset] [(.int (0 : Int32)), (.int p1), (.int (Int32.ofNat q)), (.ref a)])) target → Steps p.tables e below (TA.setTop (mkF m 160 #[.val (.int p1), .val (.int p2), .val (.int p3), .val (.int p4), .val (.int p5), .val (.int b5), .val (.int b6), .val (.int b7), .val (.int (Int32.ofNat L0)), .val (.int (Int32.ofNat L1)), .val (.ref a0_), .val (.ref a), .val (.int (Int32.ofNat P)), .val (.int (Int32.ofNat q)), .unset, .unset] [])) target := by
      intro target kt
      show Steps p.tables e below (TA.setTop (mkF m 160 #[.val (.int p1), .val (.int p2), .val (.int p3), .val (.int p4), .val (.int p5), .val (.int b5), .val (.int b6), .val (.int b7), .val (.int (Int32.ofNat L0)), .val (.int (Int32.ofNat L1)), .val (.ref a0_), .val (.ref a), .val (.int (Int32.ofNat P)), .val (.int (Int32.ofNat q)), .unset, .unset] [])) _
      refine XS.aload XA.here hx rfl (hb hby at_160) rfl rfl ?_
      show Steps p.tables e below (TA.setTop (mkF m 162 #[.val (.int p1), .val (.int p2), .val (.int p3), .val (.int p4), .val (.int p5), .val (.int b5), .val (.int b6), .val (.int b7), .val (.int (Int32.ofNat L0)), .val (.int (Int32.ofNat L1)), .val (.ref a0_), .val (.ref a), .val (.int (Int32.ofNat P)), .val (.int (Int32.ofNat q)), .unset, .unset] [(.ref a)])) _
      refine XS.iload XA.here hx rfl (hb hby at_162) rfl ?_
      show Steps p.tables e below (TA.setTop (mkF m 164 #[.val (.int p1), .val (.int p2), .val (.int p3), .val (.int p4), .val (.int p5), .val (.int b5), .val (.int b6), .val (.int b7), .val (.int (Int32.ofNat L0)), .val (.int (Int32.ofNat L1)), .val (.ref a0_), .val (.ref a), .val (.int (Int32.ofNat P)), .val (.int (Int32.ofNat q)), .unset, .unset] [(.int (Int32.ofNat q)), (.ref a)])) _
      refine XS.iloadN XA.here hx rfl (hb hby at_164) rfl ?_
      show Steps p.tables e below (TA.setTop (mkF m 165 #[.val (.int p1), .val (.int p2), .val (.int p3), .val (.int p4), .val (.int p5), .val (.int b5), .val (.int b6), .val (.int b7), .val (.int (Int32.ofNat L0)), .val (.int (Int32.ofNat L1)), .val (.ref a0_), .val (.ref a), .val (.int (Int32.ofNat P)), .val (.int (Int32.ofNat q)), .unset, .unset] [(.int p1), (.int (Int32.ofNat q)), (.ref a)])) _
      refine XS.iconst XA.here hx rfl (hb hby at_165) ?_
      show Steps p.tables e below (TA.setTop (mkF m 166 #[.val (.int p1), .val (.int p2), .val (.int p3), .val (.int p4), .val (.int p5), .val (.int b5), .val (.int b6), .val (.int b7), .val (.int (Int32.ofNat L0)), .val (.int (Int32.ofNat L1)), .val (.ref a0_), .val (.ref a), .val (.int (Int32.ofNat P)), .val (.int (Int32.ofNat q)), .unset, .unset] [(.int (0 : Int32)), (.int p1), (.int (Int32.ofNat q)), (.ref a)])) _
      exact kt
    obtain ⟨_, _, ⟨TB, LB, kB, nB⟩, -, XB, ⟨LcB, hQB, lB, yB, zB⟩, stB⟩ := Jvm.LawKit.callS XA hx (y := (⟨"com/example/seize/seize/LockLimitsCheckKeyPinLaw", "put", "([CIIZ)V"⟩ : MethodName)) hown (mvT hZ (hw _ (List.mem_of_getElem? (i := 1) rfl))) (mvT hZ (hw _ (List.mem_of_getElem? (i := 2) rfl))) (mvT hZ (hw _ (List.mem_of_getElem? (i := 3) rfl))) (mvT hZ (hw _ (List.mem_of_getElem? (i := 4) rfl))) (by decide) (backOf (W := 0) (rmU0 l Z a0 hw a 256 q p1 gA TA.heap n0 ge (by omega) FA (by omega)) hZ (hw _ (List.mem_of_getElem? (i := 4) rfl)) (hw _ (List.mem_of_getElem? (i := 3) rfl)) (by decide) (by decide)) (g := (mkF m 166 #[.val (.int p1), .val (.int p2), .val (.int p3), .val (.int p4), .val (.int p5), .val (.int b5), .val (.int b6), .val (.int b7), .val (.int (Int32.ofNat L0)), .val (.int (Int32.ofNat L1)), .val (.ref a0_), .val (.ref a), .val (.int (Int32.ofNat P)), .val (.int (Int32.ofNat q)), .unset, .unset] [(.int (0 : Int32)), (.int p1), (.int (Int32.ofNat q)), (.ref a)])) rfl (by rw [hml]; rfl) (argsL := [(.ref a), (.int (Int32.ofNat q)), (.int p1), (.int (0 : Int32))]) (rest := []) (lenOf pdU rfl) rfl (by show 2 * 0 + _ ≤ _; exact Nat.le_of_eq rfl) (hb hby at_166) (fun _ _ => ⟨rfl, rfl, Nat.le_of_ble_eq_true rfl, Nat.le_of_ble_eq_true rfl⟩)
    dsimp only [Pt.U, Pt.locs, Pt.cells, Pt.slots] at XB lB yB zB stB hQB
    subst lB yB zB
    obtain ⟨rfl, NB, KB, gB, PB, FB⟩ := hQB
    have MB := Fr.app (MA) NB
    have EB := own_ext_keep (own_ext_keep E1 KA (allS ga1 all0)) KB (allS ga1 all0)
    refine ⟨TB, _, a, _, _, Int32.ofNat P, Int32.ofNat q, XB, rfl, MB, EB, ga1, FB, own_long (p := P) (q := q) (by omega) (by omega) (by omega) (by omega) PA PB, fun target kt => ?_⟩
    show Steps p.tables e below (T0.setTop (mkF m 108 #[.val (.int p1), .val (.int p2), .val (.int p3), .val (.int p4), .val (.int p5), .val (.int b5), .val (.int b6), .val (.int b7), .val (.int (Int32.ofNat L0)), .val (.int (Int32.ofNat L1)), .val (.ref a0_), .unset, .unset, .unset, .unset, .unset] [])) _
    refine sg1 _ ?_
    show Steps p.tables e below (T0.setTop (mkF m 111 #[.val (.int p1), .val (.int p2), .val (.int p3), .val (.int p4), .val (.int p5), .val (.int b5), .val (.int b6), .val (.int b7), .val (.int (Int32.ofNat L0)), .val (.int (Int32.ofNat L1)), .val (.ref a0_), .unset, .unset, .unset, .unset, .unset] [(.int (Int32.ofNat 256))])) _
    refine st1 _ ?_
    show Steps p.tables e below (T1.setTop (mkF m 113 #[.val (.int p1), .val (.int p2), .val (.int p3), .val (.int p4), .val (.int p5), .val (.int b5), .val (.int b6), .val (.int b7), .val (.int (Int32.ofNat L0)), .val (.int (Int32.ofNat L1)), .val (.ref a0_), .unset, .unset, .unset, .unset, .unset] [(.ref a)])) _
    refine sg2 _ ?_
    show Steps p.tables e below (T1.setTop (mkF m 139 #[.val (.int p1), .val (.int p2), .val (.int p3), .val (.int p4), .val (.int p5), .val (.int b5), .val (.int b6), .val (.int b7), .val (.int (Int32.ofNat L0)), .val (.int (Int32.ofNat L1)), .val (.ref a0_), .val (.ref a), .val (.int (Int32.ofNat P)), .val (.int (Int32.ofNat q)), .unset, .unset] [(.int (Int32.ofNat P)), (.int (Int32.ofNat q))])) _
    refine sg3 _ ?_
    show Steps p.tables e below (T1.setTop (mkF m 157 #[.val (.int p1), .val (.int p2), .val (.int p3), .val (.int p4), .val (.int p5), .val (.int b5), .val (.int b6), .val (.int b7), .val (.int (Int32.ofNat L0)), .val (.int (Int32.ofNat L1)), .val (.ref a0_), .val (.ref a), .val (.int (Int32.ofNat P)), .val (.int (Int32.ofNat q)), .unset, .unset] [(.int (1 : Int32)), (.int (((p5).toUInt32 >>> ((3 : Int32) &&& 31).toUInt32).toInt32)), (.int (Int32.ofNat P)), (.ref a)])) _
    refine stA _ ?_
    show Steps p.tables e below (TA.setTop (mkF m 160 #[.val (.int p1), .val (.int p2), .val (.int p3), .val (.int p4), .val (.int p5), .val (.int b5), .val (.int b6), .val (.int b7), .val (.int (Int32.ofNat L0)), .val (.int (Int32.ofNat L1)), .val (.ref a0_), .val (.ref a), .val (.int (Int32.ofNat P)), .val (.int (Int32.ofNat q)), .unset, .unset] [])) _
    refine sg4 _ ?_
    show Steps p.tables e below (TA.setTop (mkF m 166 #[.val (.int p1), .val (.int p2), .val (.int p3), .val (.int p4), .val (.int p5), .val (.int b5), .val (.int b6), .val (.int b7), .val (.int (Int32.ofNat L0)), .val (.int (Int32.ofNat L1)), .val (.ref a0_), .val (.ref a), .val (.int (Int32.ofNat P)), .val (.int (Int32.ofNat q)), .unset, .unset] [(.int (0 : Int32)), (.int p1), (.int (Int32.ofNat q)), (.ref a)])) _
    refine stB _ ?_
    exact kt
  · have sg3 : ∀ target, Steps p.tables e below (T1.setTop (mkF m 157 #[.val (.int p1), .val (.int p2), .val (.int p3), .val (.int p4), .val (.int p5), .val (.int b5), .val (.int b6), .val (.int b7), .val (.int (Int32.ofNat L0)), .val (.int (Int32.ofNat L1)), .val (.ref a0_), .val (.ref a), .val (.int (Int32.ofNat P)), .val (.int (Int32.ofNat (q + 2))), .unset, .unset] [(.int (1 : Int32)), (.int (((p5).toUInt32 >>> ((3 : Int32) &&& 31).toUInt32).toInt32)), (.int (Int32.ofNat P)), (.ref a)])) target → Steps p.tables e below (T1.setTop (mkF m 139 #[.val (.int p1), .val (.int p2), .val (.int p3), .val (.int p4), .val (.int p5), .val (.int b5), .val (.int b6), .val (.int b7), .val (.int (Int32.ofNat L0)), .val (.int (Int32.ofNat L1)), .val (.ref a0_), .val (.ref a), .val (.int (Int32.ofNat P)), .val (.int (Int32.ofNat q)), .unset, .unset] [(.int (Int32.ofNat P)), (.int (Int32.ofNat q))])) target := by
      intro target kt
      show Steps p.tables e below (T1.setTop (mkF m 139 #[.val (.int p1), .val (.int p2), .val (.int p3), .val (.int p4), .val (.int p5), .val (.int b5), .val (.int b6), .val (.int b7), .val (.int (Int32.ofNat L0)), .val (.int (Int32.ofNat L1)), .val (.ref a0_), .val (.ref a), .val (.int (Int32.ofNat P)), .val (.int (Int32.ofNat q)), .unset, .unset] [(.int (Int32.ofNat P)), (.int (Int32.ofNat q))])) _
      refine XS.icmpNo X1.here hx rfl (hb hby at_139) rfl (flt (own_ge (Nat.le_of_not_lt hqp) (by omega))).1 ?_
      show Steps p.tables e below (T1.setTop (mkF m 142 #[.val (.int p1), .val (.int p2), .val (.int p3), .val (.int p4), .val (.int p5), .val (.int b5), .val (.int b6), .val (.int b7), .val (.int (Int32.ofNat L0)), .val (.int (Int32.ofNat L1)), .val (.ref a0_), .val (.ref a), .val (.int (Int32.ofNat P)), .val (.int (Int32.ofNat q)), .unset, .unset] [])) _
      refine XS.iload X1.here hx rfl (hb hby at_142) rfl ?_
      show Steps p.tables e below (T1.setTop (mkF m 144 #[.val (.int p1), .val (.int p2), .val (.int p3), .val (.int p4), .val (.int p5), .val (.int b5), .val (.int b6), .val (.int b7), .val (.int (Int32.ofNat L0)), .val (.int (Int32.ofNat L1)), .val (.ref a0_), .val (.ref a), .val (.int (Int32.ofNat P)), .val (.int (Int32.ofNat q)), .unset, .unset] [(.int (Int32.ofNat q))])) _
      refine XS.iconst X1.here hx rfl (hb hby at_144) ?_
      show Steps p.tables e below (T1.setTop (mkF m 145 #[.val (.int p1), .val (.int p2), .val (.int p3), .val (.int p4), .val (.int p5), .val (.int b5), .val (.int b6), .val (.int b7), .val (.int (Int32.ofNat L0)), .val (.int (Int32.ofNat L1)), .val (.ref a0_), .val (.ref a), .val (.int (Int32.ofNat P)), .val (.int (Int32.ofNat q)), .unset, .unset] [(.int (2 : Int32)), (.int (Int32.ofNat q))])) _
      refine XS.iadd X1.here hx rfl (hb hby at_145) rfl ?_
      show Steps p.tables e below (T1.setTop (mkF m 146 #[.val (.int p1), .val (.int p2), .val (.int p3), .val (.int p4), .val (.int p5), .val (.int b5), .val (.int b6), .val (.int b7), .val (.int (Int32.ofNat L0)), .val (.int (Int32.ofNat L1)), .val (.ref a0_), .val (.ref a), .val (.int (Int32.ofNat P)), .val (.int (Int32.ofNat q)), .unset, .unset] [(.int ((Int32.ofNat q) + (2 : Int32)))])) _
      refine XS.istore X1.here hx rfl (hb hby at_146) rfl (l' := #[.val (.int p1), .val (.int p2), .val (.int p3), .val (.int p4), .val (.int p5), .val (.int b5), .val (.int b6), .val (.int b7), .val (.int (Int32.ofNat L0)), .val (.int (Int32.ofNat L1)), .val (.ref a0_), .val (.ref a), .val (.int (Int32.ofNat P)), .val (.int ((Int32.ofNat q) + (2 : Int32))), .unset, .unset]) rfl ?_
      show Steps p.tables e below (T1.setTop (mkF m 148 #[.val (.int p1), .val (.int p2), .val (.int p3), .val (.int p4), .val (.int p5), .val (.int b5), .val (.int b6), .val (.int b7), .val (.int (Int32.ofNat L0)), .val (.int (Int32.ofNat L1)), .val (.ref a0_), .val (.ref a), .val (.int (Int32.ofNat P)), .val (.int ((Int32.ofNat q) + (2 : Int32))), .unset, .unset] [])) _
      rw [(own_tw2 q)]
      show Steps p.tables e below (T1.setTop (mkF m 148 #[.val (.int p1), .val (.int p2), .val (.int p3), .val (.int p4), .val (.int p5), .val (.int b5), .val (.int b6), .val (.int b7), .val (.int (Int32.ofNat L0)), .val (.int (Int32.ofNat L1)), .val (.ref a0_), .val (.ref a), .val (.int (Int32.ofNat P)), .val (.int (Int32.ofNat (q + 2))), .unset, .unset] [])) _
      refine XS.aload X1.here hx rfl (hb hby at_148) rfl rfl ?_
      show Steps p.tables e below (T1.setTop (mkF m 150 #[.val (.int p1), .val (.int p2), .val (.int p3), .val (.int p4), .val (.int p5), .val (.int b5), .val (.int b6), .val (.int b7), .val (.int (Int32.ofNat L0)), .val (.int (Int32.ofNat L1)), .val (.ref a0_), .val (.ref a), .val (.int (Int32.ofNat P)), .val (.int (Int32.ofNat (q + 2))), .unset, .unset] [(.ref a)])) _
      refine XS.iload X1.here hx rfl (hb hby at_150) rfl ?_
      show Steps p.tables e below (T1.setTop (mkF m 152 #[.val (.int p1), .val (.int p2), .val (.int p3), .val (.int p4), .val (.int p5), .val (.int b5), .val (.int b6), .val (.int b7), .val (.int (Int32.ofNat L0)), .val (.int (Int32.ofNat L1)), .val (.ref a0_), .val (.ref a), .val (.int (Int32.ofNat P)), .val (.int (Int32.ofNat (q + 2))), .unset, .unset] [(.int (Int32.ofNat P)), (.ref a)])) _
      refine XS.iload X1.here hx rfl (hb hby at_152) rfl ?_
      show Steps p.tables e below (T1.setTop (mkF m 154 #[.val (.int p1), .val (.int p2), .val (.int p3), .val (.int p4), .val (.int p5), .val (.int b5), .val (.int b6), .val (.int b7), .val (.int (Int32.ofNat L0)), .val (.int (Int32.ofNat L1)), .val (.ref a0_), .val (.ref a), .val (.int (Int32.ofNat P)), .val (.int (Int32.ofNat (q + 2))), .unset, .unset] [(.int p5), (.int (Int32.ofNat P)), (.ref a)])) _
      refine XS.iconst X1.here hx rfl (hb hby at_154) ?_
      show Steps p.tables e below (T1.setTop (mkF m 155 #[.val (.int p1), .val (.int p2), .val (.int p3), .val (.int p4), .val (.int p5), .val (.int b5), .val (.int b6), .val (.int b7), .val (.int (Int32.ofNat L0)), .val (.int (Int32.ofNat L1)), .val (.ref a0_), .val (.ref a), .val (.int (Int32.ofNat P)), .val (.int (Int32.ofNat (q + 2))), .unset, .unset] [(.int (3 : Int32)), (.int p5), (.int (Int32.ofNat P)), (.ref a)])) _
      refine XS.iushr X1.here hx rfl (hb hby at_155) rfl ?_
      show Steps p.tables e below (T1.setTop (mkF m 156 #[.val (.int p1), .val (.int p2), .val (.int p3), .val (.int p4), .val (.int p5), .val (.int b5), .val (.int b6), .val (.int b7), .val (.int (Int32.ofNat L0)), .val (.int (Int32.ofNat L1)), .val (.ref a0_), .val (.ref a), .val (.int (Int32.ofNat P)), .val (.int (Int32.ofNat (q + 2))), .unset, .unset] [(.int (((p5).toUInt32 >>> ((3 : Int32) &&& 31).toUInt32).toInt32)), (.int (Int32.ofNat P)), (.ref a)])) _
      refine XS.iconst X1.here hx rfl (hb hby at_156) ?_
      show Steps p.tables e below (T1.setTop (mkF m 157 #[.val (.int p1), .val (.int p2), .val (.int p3), .val (.int p4), .val (.int p5), .val (.int b5), .val (.int b6), .val (.int b7), .val (.int (Int32.ofNat L0)), .val (.int (Int32.ofNat L1)), .val (.ref a0_), .val (.ref a), .val (.int (Int32.ofNat P)), .val (.int (Int32.ofNat (q + 2))), .unset, .unset] [(.int (1 : Int32)), (.int (((p5).toUInt32 >>> ((3 : Int32) &&& 31).toUInt32).toInt32)), (.int (Int32.ofNat P)), (.ref a)])) _
      exact kt
    obtain ⟨_, _, ⟨TA, LA, kA, nA⟩, -, XA, ⟨LcA, hQA, lA, yA, zA⟩, stA⟩ := Jvm.LawKit.callS X1 hx (y := (⟨"com/example/seize/seize/LockLimitsCheckKeyPinLaw", "put", "([CIIZ)V"⟩ : MethodName)) hown (mvT hZ (hw _ (List.mem_of_getElem? (i := 1) rfl))) (mvT hZ (hw _ (List.mem_of_getElem? (i := 2) rfl))) (mvT hZ (hw _ (List.mem_of_getElem? (i := 3) rfl))) (mvT hZ (hw _ (List.mem_of_getElem? (i := 4) rfl))) (by decide) (backOf (W := 0) (rmU1 l Z a0 hw a 256 P (((p5).toUInt32 >>> ((3 : Int32) &&& 31).toUInt32).toInt32) (fun _ => 0) h1 n0 ge (by omega) F1 (by omega)) hZ (hw _ (List.mem_of_getElem? (i := 4) rfl)) (hw _ (List.mem_of_getElem? (i := 3) rfl)) (by decide) (by decide)) (g := (mkF m 157 #[.val (.int p1), .val (.int p2), .val (.int p3), .val (.int p4), .val (.int p5), .val (.int b5), .val (.int b6), .val (.int b7), .val (.int (Int32.ofNat L0)), .val (.int (Int32.ofNat L1)), .val (.ref a0_), .val (.ref a), .val (.int (Int32.ofNat P)), .val (.int (Int32.ofNat (q + 2))), .unset, .unset] [(.int (1 : Int32)), (.int (((p5).toUInt32 >>> ((3 : Int32) &&& 31).toUInt32).toInt32)), (.int (Int32.ofNat P)), (.ref a)])) rfl (by rw [hml]; rfl) (argsL := [(.ref a), (.int (Int32.ofNat P)), (.int (((p5).toUInt32 >>> ((3 : Int32) &&& 31).toUInt32).toInt32)), (.int (1 : Int32))]) (rest := []) (lenOf pdU rfl) rfl (by show 2 * 0 + _ ≤ _; exact Nat.le_of_eq rfl) (hb hby at_157) (fun _ _ => ⟨rfl, e1, Nat.le_of_ble_eq_true rfl, Nat.le_of_ble_eq_true rfl⟩)
    dsimp only [Pt.U, Pt.locs, Pt.cells, Pt.slots] at XA lA yA zA stA hQA
    subst lA yA zA
    obtain ⟨rfl, NA, KA, gA, PA, FA⟩ := hQA
    have MA := Fr.app (N0) NA
    have sg4 : ∀ target, Steps p.tables e below (TA.setTop (mkF m 166 #[.val (.int p1), .val (.int p2), .val (.int p3), .val (.int p4), .val (.int p5), .val (.int b5), .val (.int b6), .val (.int b7), .val (.int (Int32.ofNat L0)), .val (.int (Int32.ofNat L1)), .val (.ref a0_), .val (.ref a), .val (.int (Int32.ofNat P)), .val (.int (Int32.ofNat (q + 2))), .unset, .unset] [(.int (0 : Int32)), (.int p1), (.int (Int32.ofNat (q + 2))), (.ref a)])) target → Steps p.tables e below (TA.setTop (mkF m 160 #[.val (.int p1), .val (.int p2), .val (.int p3), .val (.int p4), .val (.int p5), .val (.int b5), .val (.int b6), .val (.int b7), .val (.int (Int32.ofNat L0)), .val (.int (Int32.ofNat L1)), .val (.ref a0_), .val (.ref a), .val (.int (Int32.ofNat P)), .val (.int (Int32.ofNat (q + 2))), .unset, .unset] [])) target := by
      intro target kt
      show Steps p.tables e below (TA.setTop (mkF m 160 #[.val (.int p1), .val (.int p2), .val (.int p3), .val (.int p4), .val (.int p5), .val (.int b5), .val (.int b6), .val (.int b7), .val (.int (Int32.ofNat L0)), .val (.int (Int32.ofNat L1)), .val (.ref a0_), .val (.ref a), .val (.int (Int32.ofNat P)), .val (.int (Int32.ofNat (q + 2))), .unset, .unset] [])) _
      refine XS.aload XA.here hx rfl (hb hby at_160) rfl rfl ?_
      show Steps p.tables e below (TA.setTop (mkF m 162 #[.val (.int p1), .val (.int p2), .val (.int p3), .val (.int p4), .val (.int p5), .val (.int b5), .val (.int b6), .val (.int b7), .val (.int (Int32.ofNat L0)), .val (.int (Int32.ofNat L1)), .val (.ref a0_), .val (.ref a), .val (.int (Int32.ofNat P)), .val (.int (Int32.ofNat (q + 2))), .unset, .unset] [(.ref a)])) _
      refine XS.iload XA.here hx rfl (hb hby at_162) rfl ?_
      show Steps p.tables e below (TA.setTop (mkF m 164 #[.val (.int p1), .val (.int p2), .val (.int p3), .val (.int p4), .val (.int p5), .val (.int b5), .val (.int b6), .val (.int b7), .val (.int (Int32.ofNat L0)), .val (.int (Int32.ofNat L1)), .val (.ref a0_), .val (.ref a), .val (.int (Int32.ofNat P)), .val (.int (Int32.ofNat (q + 2))), .unset, .unset] [(.int (Int32.ofNat (q + 2))), (.ref a)])) _
      refine XS.iloadN XA.here hx rfl (hb hby at_164) rfl ?_
      show Steps p.tables e below (TA.setTop (mkF m 165 #[.val (.int p1), .val (.int p2), .val (.int p3), .val (.int p4), .val (.int p5), .val (.int b5), .val (.int b6), .val (.int b7), .val (.int (Int32.ofNat L0)), .val (.int (Int32.ofNat L1)), .val (.ref a0_), .val (.ref a), .val (.int (Int32.ofNat P)), .val (.int (Int32.ofNat (q + 2))), .unset, .unset] [(.int p1), (.int (Int32.ofNat (q + 2))), (.ref a)])) _
      refine XS.iconst XA.here hx rfl (hb hby at_165) ?_
      show Steps p.tables e below (TA.setTop (mkF m 166 #[.val (.int p1), .val (.int p2), .val (.int p3), .val (.int p4), .val (.int p5), .val (.int b5), .val (.int b6), .val (.int b7), .val (.int (Int32.ofNat L0)), .val (.int (Int32.ofNat L1)), .val (.ref a0_), .val (.ref a), .val (.int (Int32.ofNat P)), .val (.int (Int32.ofNat (q + 2))), .unset, .unset] [(.int (0 : Int32)), (.int p1), (.int (Int32.ofNat (q + 2))), (.ref a)])) _
      exact kt
    obtain ⟨_, _, ⟨TB, LB, kB, nB⟩, -, XB, ⟨LcB, hQB, lB, yB, zB⟩, stB⟩ := Jvm.LawKit.callS XA hx (y := (⟨"com/example/seize/seize/LockLimitsCheckKeyPinLaw", "put", "([CIIZ)V"⟩ : MethodName)) hown (mvT hZ (hw _ (List.mem_of_getElem? (i := 1) rfl))) (mvT hZ (hw _ (List.mem_of_getElem? (i := 2) rfl))) (mvT hZ (hw _ (List.mem_of_getElem? (i := 3) rfl))) (mvT hZ (hw _ (List.mem_of_getElem? (i := 4) rfl))) (by decide) (backOf (W := 0) (rmU0 l Z a0 hw a 256 (q + 2) p1 gA TA.heap n0 ge (by omega) FA (by omega)) hZ (hw _ (List.mem_of_getElem? (i := 4) rfl)) (hw _ (List.mem_of_getElem? (i := 3) rfl)) (by decide) (by decide)) (g := (mkF m 166 #[.val (.int p1), .val (.int p2), .val (.int p3), .val (.int p4), .val (.int p5), .val (.int b5), .val (.int b6), .val (.int b7), .val (.int (Int32.ofNat L0)), .val (.int (Int32.ofNat L1)), .val (.ref a0_), .val (.ref a), .val (.int (Int32.ofNat P)), .val (.int (Int32.ofNat (q + 2))), .unset, .unset] [(.int (0 : Int32)), (.int p1), (.int (Int32.ofNat (q + 2))), (.ref a)])) rfl (by rw [hml]; rfl) (argsL := [(.ref a), (.int (Int32.ofNat (q + 2))), (.int p1), (.int (0 : Int32))]) (rest := []) (lenOf pdU rfl) rfl (by show 2 * 0 + _ ≤ _; exact Nat.le_of_eq rfl) (hb hby at_166) (fun _ _ => ⟨rfl, rfl, Nat.le_of_ble_eq_true rfl, Nat.le_of_ble_eq_true rfl⟩)
    dsimp only [Pt.U, Pt.locs, Pt.cells, Pt.slots] at XB lB yB zB stB hQB
    subst lB yB zB
    obtain ⟨rfl, NB, KB, gB, PB, FB⟩ := hQB
    have MB := Fr.app (MA) NB
    have EB := own_ext_keep (own_ext_keep E1 KA (allS ga1 all0)) KB (allS ga1 all0)
    refine ⟨TB, _, a, _, _, Int32.ofNat P, Int32.ofNat (q + 2), XB, rfl, MB, EB, ga1, FB, own_long (p := P) (q := (q + 2)) (by omega) (by omega) (by omega) (by omega) PA PB, fun target kt => ?_⟩
    show Steps p.tables e below (T0.setTop (mkF m 108 #[.val (.int p1), .val (.int p2), .val (.int p3), .val (.int p4), .val (.int p5), .val (.int b5), .val (.int b6), .val (.int b7), .val (.int (Int32.ofNat L0)), .val (.int (Int32.ofNat L1)), .val (.ref a0_), .unset, .unset, .unset, .unset, .unset] [])) _
    refine sg1 _ ?_
    show Steps p.tables e below (T0.setTop (mkF m 111 #[.val (.int p1), .val (.int p2), .val (.int p3), .val (.int p4), .val (.int p5), .val (.int b5), .val (.int b6), .val (.int b7), .val (.int (Int32.ofNat L0)), .val (.int (Int32.ofNat L1)), .val (.ref a0_), .unset, .unset, .unset, .unset, .unset] [(.int (Int32.ofNat 256))])) _
    refine st1 _ ?_
    show Steps p.tables e below (T1.setTop (mkF m 113 #[.val (.int p1), .val (.int p2), .val (.int p3), .val (.int p4), .val (.int p5), .val (.int b5), .val (.int b6), .val (.int b7), .val (.int (Int32.ofNat L0)), .val (.int (Int32.ofNat L1)), .val (.ref a0_), .unset, .unset, .unset, .unset, .unset] [(.ref a)])) _
    refine sg2 _ ?_
    show Steps p.tables e below (T1.setTop (mkF m 139 #[.val (.int p1), .val (.int p2), .val (.int p3), .val (.int p4), .val (.int p5), .val (.int b5), .val (.int b6), .val (.int b7), .val (.int (Int32.ofNat L0)), .val (.int (Int32.ofNat L1)), .val (.ref a0_), .val (.ref a), .val (.int (Int32.ofNat P)), .val (.int (Int32.ofNat q)), .unset, .unset] [(.int (Int32.ofNat P)), (.int (Int32.ofNat q))])) _
    refine sg3 _ ?_
    show Steps p.tables e below (T1.setTop (mkF m 157 #[.val (.int p1), .val (.int p2), .val (.int p3), .val (.int p4), .val (.int p5), .val (.int b5), .val (.int b6), .val (.int b7), .val (.int (Int32.ofNat L0)), .val (.int (Int32.ofNat L1)), .val (.ref a0_), .val (.ref a), .val (.int (Int32.ofNat P)), .val (.int (Int32.ofNat (q + 2))), .unset, .unset] [(.int (1 : Int32)), (.int (((p5).toUInt32 >>> ((3 : Int32) &&& 31).toUInt32).toInt32)), (.int (Int32.ofNat P)), (.ref a)])) _
    refine stA _ ?_
    show Steps p.tables e below (TA.setTop (mkF m 160 #[.val (.int p1), .val (.int p2), .val (.int p3), .val (.int p4), .val (.int p5), .val (.int b5), .val (.int b6), .val (.int b7), .val (.int (Int32.ofNat L0)), .val (.int (Int32.ofNat L1)), .val (.ref a0_), .val (.ref a), .val (.int (Int32.ofNat P)), .val (.int (Int32.ofNat (q + 2))), .unset, .unset] [])) _
    refine sg4 _ ?_
    show Steps p.tables e below (TA.setTop (mkF m 166 #[.val (.int p1), .val (.int p2), .val (.int p3), .val (.int p4), .val (.int p5), .val (.int b5), .val (.int b6), .val (.int b7), .val (.int (Int32.ofNat L0)), .val (.int (Int32.ofNat L1)), .val (.ref a0_), .val (.ref a), .val (.int (Int32.ofNat P)), .val (.int (Int32.ofNat (q + 2))), .unset, .unset] [(.int (0 : Int32)), (.int p1), (.int (Int32.ofNat (q + 2))), (.ref a)])) _
    refine stB _ ?_
    exact kt
theorem own_hws : ∀ d ∈ StrChars.Road.words, d ∈ tables_1 := by decide +kernel
theorem own_fc16 {x : Int32} (h : own_c16 x) : fits .char (.int x) = true := by
  have q := fits_nar_char x
  rwa [own_narc h] at q
theorem own_gd (f : Nat → Int32) (n i : Nat) (hi : i < n) : (((List.range n).map f).map Value.int).getD i (.int 0) = .int (f i) := by
  simp [List.getD_eq_getElem?_getD, hi]
theorem own_gd8 (f : Nat → Int32) (n i : Nat) (hi : i < n) : ((((List.range n).map f).map (fun c => c.toInt8.toInt32)).map Value.int).getD i (.int 0) = .int ((f i).toInt8.toInt32) := by
  simp [List.getD_eq_getElem?_getD, hi]
theorem own_AF.arv {Z : State} {h : Heap} {a : Addr} {n : Nat} {f : Nat → Int32} (F : own_AF Z h a .char n f) (hn : n ≤ 4000) (hf : ∀ j, j < n → own_c16 (f j)) : ∃ kC, Arv Z h a kC .char (Int32.ofNat n) (((List.range n).map f).map Value.int) (.int 0) := by
  obtain ⟨c, A, S, H⟩ := F
  refine ⟨c.cls, c, A, rfl, by rw [own_cl (by omega)]; exact S, own_nn hn, fun i hi => ?_, fun i hi => ?_⟩
  · rw [S] at hi; rw [own_gd f n i hi]; exact H i hi
  · rw [S] at hi; rw [own_gd f n i hi]; exact own_fc16 (hf i hi)
theorem own_arv8 {Z : State} {h : Heap} {a : Addr} {n : Nat} {f : Nat → Int32} {kb : ClassId} (hn : n ≤ 4000) (K : Arv Z h a kb .byte (Int32.ofNat n) ((((List.range n).map f).map (fun c => c.toInt8.toInt32)).map Value.int) (.int 0)) : own_AF Z h a .byte n (fun j => (f j).toInt8.toInt32) := by
  obtain ⟨c, A, -, S, -, H, -⟩ := K
  rw [own_cl (by omega)] at S
  exact ⟨c, A, S, fun i hi => by rw [← own_gd8 f n i hi]; exact H i (by rw [S]; exact hi)⟩
theorem own_latR {f : Nat → Int32} {n : Nat} (hf : ∀ j, j < n → own_c16 (f j)) (h : ¬ ∃ j, j < n ∧ (255 : Int32) < f j) : ∀ c ∈ (List.range n).map f, ¬ c < 0 ∧ ¬ (255 : Int32) < c := by
  intro c hc
  obtain ⟨j, hj, rfl⟩ := List.mem_map.mp hc
  have hj := List.mem_range.mp hj
  refine ⟨?_, fun q => h ⟨j, hj, q⟩⟩
  rw [Int32.lt_iff_toInt_lt, show (0 : Int32).toInt = 0 from rfl]
  have := (hf j hj).1
  omega
set_option maxRecDepth 65536 in
set_option maxHeartbeats 40000000 in
theorem own_P4 {p : Program} {l : Launch} {e : Env} {s : State} {m : MethodId} {args : Array Value} {below : List Frame} {meth : Method} {c : Code} {T0 : State} {locs : List Loc} {Z : State} {a0 : Array Value} {h0 : Heap} {n0 : Nat} (p1 p2 p3 p4 p5 : Int32) (b5 b6 b7 : Int32) (L0 L1 : Nat) (a0_ a : Addr) (y12 y13 : Int32) (X0 : Stand p l e room_1 s m args below meth c T0 locs 2 260) (N0 : Fr n0 locs) (hx : p.tables.exec = Jvm.exec) (hZ : Z.Warmed39 s.vm) (hw : ∀ d ∈ tables_1, d.before a0 Z = true) (hby : c.code = code) (hml : c.maxLocals = 16) (hown : s.vm.findClass "com/example/seize/seize/LockLimitsCheckKeyPinLaw" = some m.cls) (e0 : T0.heap = h0) (hn0 : n0 ≤ h0.size) (n : Nat) (f : Nat → Int32) (G : Int32) (Fb : own_AF Z h0 a0_ .char n f) (h1n : 1 ≤ n) (h4n : n ≤ 4) (hf : ∀ j, j < n → own_c16 (f j)) (Uu : own_U Z h0) (O : Sta Z h0 "java/lang/String" "COMPACT_STRINGS" "Z" (.int G)) (hG : ¬ G = 0) :
    ∃ (T' : State) (h' : Heap) (x : Addr) (L' : List Loc), Stand p l e room_1 s m args below meth c T' L' 5 1032 ∧ T'.heap = h' ∧ Fr n0 L' ∧ Ext h0 h' ∧ own_SX Z h' x n f ∧
      ∀ target, Steps p.tables e below (T'.setTop (mkF m 180 #[.val (.int p1), .val (.int p2), .val (.int p3), .val (.int p4), .val (.int p5), .val (.int b5), .val (.int b6), .val (.int b7), .val (.int (Int32.ofNat L0)), .val (.int (Int32.ofNat L1)), .val (.ref a0_), .val (.ref a), .val (.int y12), .val (.int y13), .val (.ref x), .unset] [])) target → Steps p.tables e below (T0.setTop (mkF m 169 #[.val (.int p1), .val (.int p2), .val (.int p3), .val (.int p4), .val (.int p5), .val (.int b5), .val (.int b6), .val (.int b7), .val (.int (Int32.ofNat L0)), .val (.int (Int32.ofNat L1)), .val (.ref a0_), .val (.ref a), .val (.int y12), .val (.int y13), .unset, .unset] [])) target := by
  have hws : ∀ d ∈ StrChars.Road.words, d.before a0 Z = true := fun d hd => hw d (own_hws d hd)
  obtain ⟨T1, h1, X1, e1, E1, A1, D1, -, st1⟩ := newO X0 hx hZ hown (hw _ (List.mem_of_getElem? (i := 10) rfl)) (hw _ (List.mem_of_getElem? (i := 11) rfl)) (hw _ (List.mem_of_getElem? (i := 12) rfl)) e0 (g := (mkF m 169 #[.val (.int p1), .val (.int p2), .val (.int p3), .val (.int p4), .val (.int p5), .val (.int b5), .val (.int b6), .val (.int b7), .val (.int (Int32.ofNat L0)), .val (.int (Int32.ofNat L1)), .val (.ref a0_), .val (.ref a), .val (.int y12), .val (.int y13), .unset, .unset] [])) rfl (hb hby at_169) (by decide) (by decide)
  obtain ⟨a1, g1⟩ : ∃ z, z = h0.size := ⟨_, rfl⟩
  rw [← g1] at A1 D1 st1
  have Fv : Fld Z h1 a1 "java/lang/String" "value" "[B" .null := D1 (Or.inr (hw _ (List.mem_of_getElem? (i := 38) rfl))) (ty := (.array .byte)) (by decide)
  have Fc : Fld Z h1 a1 "java/lang/String" "coder" "B" (.int (0 : Int32)) := D1 (Or.inr (hw _ (List.mem_of_getElem? (i := 36) rfl))) (ty := .byte) (by decide)
  have Ex : Exa Z h1 a1 "java/lang/String" := A1
  have gx : h0.size ≤ a1 := by rw [g1]; exact Nat.le_refl _
  have Ub := Uu.ext E1
  have Ob := O.ext E1
  have Bb := Fb.ext E1
  have ge : n0 ≤ a1 := Nat.le_trans hn0 gx
  have gh : n0 ≤ h1.size := Nat.le_trans hn0 E1.1
  have sg2 : ∀ target, Steps p.tables e below (T1.setTop (mkF m 175 #[.val (.int p1), .val (.int p2), .val (.int p3), .val (.int p4), .val (.int p5), .val (.int b5), .val (.int b6), .val (.int b7), .val (.int (Int32.ofNat L0)), .val (.int (Int32.ofNat L1)), .val (.ref a0_), .val (.ref a), .val (.int y12), .val (.int y13), .unset, .unset] [(.ref a0_), (.ref a1), (.ref a1)])) target → Steps p.tables e below (T1.setTop (mkF m 172 #[.val (.int p1), .val (.int p2), .val (.int p3), .val (.int p4), .val (.int p5), .val (.int b5), .val (.int b6), .val (.int b7), .val (.int (Int32.ofNat L0)), .val (.int (Int32.ofNat L1)), .val (.ref a0_), .val (.ref a), .val (.int y12), .val (.int y13), .unset, .unset] [(.ref a1)])) target := by
    intro target kt
    show Steps p.tables e below (T1.setTop (mkF m 172 #[.val (.int p1), .val (.int p2), .val (.int p3), .val (.int p4), .val (.int p5), .val (.int b5), .val (.int b6), .val (.int b7), .val (.int (Int32.ofNat L0)), .val (.int (Int32.ofNat L1)), .val (.ref a0_), .val (.ref a), .val (.int y12), .val (.int y13), .unset, .unset] [(.ref a1)])) _
    refine XS.dup X1.here hx rfl (hb hby at_172) rfl rfl ?_
    show Steps p.tables e below (T1.setTop (mkF m 173 #[.val (.int p1), .val (.int p2), .val (.int p3), .val (.int p4), .val (.int p5), .val (.int b5), .val (.int b6), .val (.int b7), .val (.int (Int32.ofNat L0)), .val (.int (Int32.ofNat L1)), .val (.ref a0_), .val (.ref a), .val (.int y12), .val (.int y13), .unset, .unset] [(.ref a1), (.ref a1)])) _
    refine XS.aload X1.here hx rfl (hb hby at_173) rfl rfl ?_
    show Steps p.tables e below (T1.setTop (mkF m 175 #[.val (.int p1), .val (.int p2), .val (.int p3), .val (.int p4), .val (.int p5), .val (.int b5), .val (.int b6), .val (.int b7), .val (.int (Int32.ofNat L0)), .val (.int (Int32.ofNat L1)), .val (.ref a0_), .val (.ref a), .val (.int y12), .val (.int y13), .unset, .unset] [(.ref a0_), (.ref a1), (.ref a1)])) _
    exact kt
  by_cases hj : ∃ j, j < n ∧ (255 : Int32) < f j
  · obtain ⟨r, hrn, hle, hgt⟩ := own_fst f n hj
    obtain ⟨_, _, ⟨TA, LA, kA, nA⟩, -, XA, ⟨LcA, hQA, lA, yA, zA⟩, stA⟩ := X1.specialBack hx (y := (⟨"java/lang/String", "<init>", "([C)V"⟩ : MethodName)) rfl hown (mvT hZ (hw _ (List.mem_of_getElem? (i := 13) rfl))) (mvT hZ (hw _ (List.mem_of_getElem? (i := 14) rfl))) (mvT hZ (hw _ (List.mem_of_getElem? (i := 15) rfl))) (by decide) (backOf (W := 1) (rm1 l Z a0 hw a1 a0_ n r f G h1 n0 gh ge (by omega) hrn hle hgt (hf r hrn) Ex Fv Fc Bb Ub Ob hG) hZ (hw _ (List.mem_of_getElem? (i := 15) rfl)) (hw _ (List.mem_of_getElem? (i := 12) rfl)) (by decide) (by decide)) (g := (mkF m 175 #[.val (.int p1), .val (.int p2), .val (.int p3), .val (.int p4), .val (.int p5), .val (.int b5), .val (.int b6), .val (.int b7), .val (.int (Int32.ofNat L0)), .val (.int (Int32.ofNat L1)), .val (.ref a0_), .val (.ref a), .val (.int y12), .val (.int y13), .unset, .unset] [(.ref a0_), (.ref a1), (.ref a1)])) rfl (by rw [hml]; rfl) (Steps.refl _) (a := a1) (argsL := [(.ref a0_)]) (rest := [(.ref a1)]) (lenOf pd1 rfl) rfl (by show 2 * 0 + _ ≤ _; exact Nat.le_of_eq rfl) (hb hby at_175) (fun _ _ => ⟨rfl, e1, Nat.le_of_ble_eq_true rfl, Nat.le_of_ble_eq_true rfl⟩)
    dsimp only [Pt.U, Pt.locs, Pt.cells, Pt.slots] at XA lA yA zA stA hQA
    subst lA yA zA
    obtain ⟨rfl, NA, KA, SA1, SA2, t, SA3, SA4⟩ := hQA
    have MA := Fr.app (N0) NA
    have EA := own_ext_keep E1 KA (allS gx all0)
    have sg3 : ∀ target, Steps p.tables e below (TA.setTop (mkF m 180 #[.val (.int p1), .val (.int p2), .val (.int p3), .val (.int p4), .val (.int p5), .val (.int b5), .val (.int b6), .val (.int b7), .val (.int (Int32.ofNat L0)), .val (.int (Int32.ofNat L1)), .val (.ref a0_), .val (.ref a), .val (.int y12), .val (.int y13), .val (.ref a1), .unset] [])) target → Steps p.tables e below (TA.setTop (mkF m 178 #[.val (.int p1), .val (.int p2), .val (.int p3), .val (.int p4), .val (.int p5), .val (.int b5), .val (.int b6), .val (.int b7), .val (.int (Int32.ofNat L0)), .val (.int (Int32.ofNat L1)), .val (.ref a0_), .val (.ref a), .val (.int y12), .val (.int y13), .unset, .unset] [(.ref a1)])) target := by
      intro target kt
      show Steps p.tables e below (TA.setTop (mkF m 178 #[.val (.int p1), .val (.int p2), .val (.int p3), .val (.int p4), .val (.int p5), .val (.int b5), .val (.int b6), .val (.int b7), .val (.int (Int32.ofNat L0)), .val (.int (Int32.ofNat L1)), .val (.ref a0_), .val (.ref a), .val (.int y12), .val (.int y13), .unset, .unset] [(.ref a1)])) _
      refine XS.astore XA.here hx rfl (hb hby at_178) rfl rfl (l' := #[.val (.int p1), .val (.int p2), .val (.int p3), .val (.int p4), .val (.int p5), .val (.int b5), .val (.int b6), .val (.int b7), .val (.int (Int32.ofNat L0)), .val (.int (Int32.ofNat L1)), .val (.ref a0_), .val (.ref a), .val (.int y12), .val (.int y13), .val (.ref a1), .unset]) rfl ?_
      show Steps p.tables e below (TA.setTop (mkF m 180 #[.val (.int p1), .val (.int p2), .val (.int p3), .val (.int p4), .val (.int p5), .val (.int b5), .val (.int b6), .val (.int b7), .val (.int (Int32.ofNat L0)), .val (.int (Int32.ofNat L1)), .val (.ref a0_), .val (.ref a), .val (.int y12), .val (.int y13), .val (.ref a1), .unset] [])) _
      exact kt
    refine ⟨TA, _, a1, _, XA, rfl, MA, EA, ⟨SA1, t, SA3, Or.inr ⟨SA2, SA4⟩⟩, fun target kt => ?_⟩
    show Steps p.tables e below (T0.setTop (mkF m 169 #[.val (.int p1), .val (.int p2), .val (.int p3), .val (.int p4), .val (.int p5), .val (.int b5), .val (.int b6), .val (.int b7), .val (.int (Int32.ofNat L0)), .val (.int (Int32.ofNat L1)), .val (.ref a0_), .val (.ref a), .val (.int y12), .val (.int y13), .unset, .unset] [])) _
    refine st1 _ ?_
    show Steps p.tables e below (T1.setTop (mkF m 172 #[.val (.int p1), .val (.int p2), .val (.int p3), .val (.int p4), .val (.int p5), .val (.int b5), .val (.int b6), .val (.int b7), .val (.int (Int32.ofNat L0)), .val (.int (Int32.ofNat L1)), .val (.ref a0_), .val (.ref a), .val (.int y12), .val (.int y13), .unset, .unset] [(.ref a1)])) _
    refine sg2 _ ?_
    show Steps p.tables e below (T1.setTop (mkF m 175 #[.val (.int p1), .val (.int p2), .val (.int p3), .val (.int p4), .val (.int p5), .val (.int b5), .val (.int b6), .val (.int b7), .val (.int (Int32.ofNat L0)), .val (.int (Int32.ofNat L1)), .val (.ref a0_), .val (.ref a), .val (.int y12), .val (.int y13), .unset, .unset] [(.ref a0_), (.ref a1), (.ref a1)])) _
    refine stA.trans ?_
    show Steps p.tables e below (TA.setTop (mkF m 178 #[.val (.int p1), .val (.int p2), .val (.int p3), .val (.int p4), .val (.int p5), .val (.int b5), .val (.int b6), .val (.int b7), .val (.int (Int32.ofNat L0)), .val (.int (Int32.ofNat L1)), .val (.ref a0_), .val (.ref a), .val (.int y12), .val (.int y13), .unset, .unset] [(.ref a1)])) _
    refine sg3 _ ?_
    exact kt
  · obtain ⟨kC, Kb⟩ := Bb.arv (by omega) hf
    obtain ⟨_, _, ⟨TA, LA, kA, nA⟩, -, XA, ⟨LcA, hQA, lA, yA, zA⟩, stA⟩ := X1.specialBack hx (y := (⟨"java/lang/String", "<init>", "([C)V"⟩ : MethodName)) rfl hown (mvT hZ (hw _ (List.mem_of_getElem? (i := 13) rfl))) (mvT hZ (hw _ (List.mem_of_getElem? (i := 14) rfl))) (mvT hZ (hw _ (List.mem_of_getElem? (i := 15) rfl))) (by decide) (StrChars.Road.backV (W := 1) hZ hws (kI := 4) (hw _ (List.mem_of_getElem? (i := 11) rfl)) (cs := (List.range n).map f) (bs := ((List.range n).map f).map (fun c => c.toInt8.toInt32)) (n := n) (n0 := n0) ge gh Ex Fv Fc Kb Ob hG (by simp) rfl (by omega) (by omega) (own_latR hf hj) rfl (by decide) (by decide)) (g := (mkF m 175 #[.val (.int p1), .val (.int p2), .val (.int p3), .val (.int p4), .val (.int p5), .val (.int b5), .val (.int b6), .val (.int b7), .val (.int (Int32.ofNat L0)), .val (.int (Int32.ofNat L1)), .val (.ref a0_), .val (.ref a), .val (.int y12), .val (.int y13), .unset, .unset] [(.ref a0_), (.ref a1), (.ref a1)])) rfl (by rw [hml]; rfl) (Steps.refl _) (a := a1) (argsL := [(.ref a0_)]) (rest := [(.ref a1)]) (lenOf pd1 rfl) rfl (by show 2 * 0 + _ ≤ _; exact Nat.le_of_eq rfl) (hb hby at_175) (fun _ _ => ⟨rfl, e1, Nat.le_of_ble_eq_true rfl, by show 264 + n ≤ 3200; omega⟩)
    dsimp only [Pt.U, Pt.locs, Pt.cells, Pt.slots] at XA lA yA zA stA hQA
    subst lA yA zA
    obtain ⟨rfl, NA, KA, SA1, SA2, t, kb, -, -, -, SA3, SA4⟩ := hQA
    have MA := Fr.app (N0) NA
    have EA := own_ext_keep E1 KA (allS gx all0)
    have sg3 : ∀ target, Steps p.tables e below (TA.setTop (mkF m 180 #[.val (.int p1), .val (.int p2), .val (.int p3), .val (.int p4), .val (.int p5), .val (.int b5), .val (.int b6), .val (.int b7), .val (.int (Int32.ofNat L0)), .val (.int (Int32.ofNat L1)), .val (.ref a0_), .val (.ref a), .val (.int y12), .val (.int y13), .val (.ref a1), .unset] [])) target → Steps p.tables e below (TA.setTop (mkF m 178 #[.val (.int p1), .val (.int p2), .val (.int p3), .val (.int p4), .val (.int p5), .val (.int b5), .val (.int b6), .val (.int b7), .val (.int (Int32.ofNat L0)), .val (.int (Int32.ofNat L1)), .val (.ref a0_), .val (.ref a), .val (.int y12), .val (.int y13), .unset, .unset] [(.ref a1)])) target := by
      intro target kt
      show Steps p.tables e below (TA.setTop (mkF m 178 #[.val (.int p1), .val (.int p2), .val (.int p3), .val (.int p4), .val (.int p5), .val (.int b5), .val (.int b6), .val (.int b7), .val (.int (Int32.ofNat L0)), .val (.int (Int32.ofNat L1)), .val (.ref a0_), .val (.ref a), .val (.int y12), .val (.int y13), .unset, .unset] [(.ref a1)])) _
      refine XS.astore XA.here hx rfl (hb hby at_178) rfl rfl (l' := #[.val (.int p1), .val (.int p2), .val (.int p3), .val (.int p4), .val (.int p5), .val (.int b5), .val (.int b6), .val (.int b7), .val (.int (Int32.ofNat L0)), .val (.int (Int32.ofNat L1)), .val (.ref a0_), .val (.ref a), .val (.int y12), .val (.int y13), .val (.ref a1), .unset]) rfl ?_
      show Steps p.tables e below (TA.setTop (mkF m 180 #[.val (.int p1), .val (.int p2), .val (.int p3), .val (.int p4), .val (.int p5), .val (.int b5), .val (.int b6), .val (.int b7), .val (.int (Int32.ofNat L0)), .val (.int (Int32.ofNat L1)), .val (.ref a0_), .val (.ref a), .val (.int y12), .val (.int y13), .val (.ref a1), .unset] [])) _
      exact kt
    refine ⟨TA, _, a1, _, (XA.mono (by decide) (by show 264 + n ≤ 1032; omega)), rfl, MA, EA, ⟨SA1, t, SA3, Or.inl ⟨SA2, own_arv8 (by omega) SA4, fun j hjn q => hj ⟨j, hjn, q⟩⟩⟩, fun target kt => ?_⟩
    show Steps p.tables e below (T0.setTop (mkF m 169 #[.val (.int p1), .val (.int p2), .val (.int p3), .val (.int p4), .val (.int p5), .val (.int b5), .val (.int b6), .val (.int b7), .val (.int (Int32.ofNat L0)), .val (.int (Int32.ofNat L1)), .val (.ref a0_), .val (.ref a), .val (.int y12), .val (.int y13), .unset, .unset] [])) _
    refine st1 _ ?_
    show Steps p.tables e below (T1.setTop (mkF m 172 #[.val (.int p1), .val (.int p2), .val (.int p3), .val (.int p4), .val (.int p5), .val (.int b5), .val (.int b6), .val (.int b7), .val (.int (Int32.ofNat L0)), .val (.int (Int32.ofNat L1)), .val (.ref a0_), .val (.ref a), .val (.int y12), .val (.int y13), .unset, .unset] [(.ref a1)])) _
    refine sg2 _ ?_
    show Steps p.tables e below (T1.setTop (mkF m 175 #[.val (.int p1), .val (.int p2), .val (.int p3), .val (.int p4), .val (.int p5), .val (.int b5), .val (.int b6), .val (.int b7), .val (.int (Int32.ofNat L0)), .val (.int (Int32.ofNat L1)), .val (.ref a0_), .val (.ref a), .val (.int y12), .val (.int y13), .unset, .unset] [(.ref a0_), (.ref a1), (.ref a1)])) _
    refine stA.trans ?_
    show Steps p.tables e below (TA.setTop (mkF m 178 #[.val (.int p1), .val (.int p2), .val (.int p3), .val (.int p4), .val (.int p5), .val (.int b5), .val (.int b6), .val (.int b7), .val (.int (Int32.ofNat L0)), .val (.int (Int32.ofNat L1)), .val (.ref a0_), .val (.ref a), .val (.int y12), .val (.int y13), .unset, .unset] [(.ref a1)])) _
    refine sg3 _ ?_
    exact kt
def Q0 (n0 : Nat) (v : Option Value) (L : List Loc) : Prop := v = some (.int 1) ∧ Fr n0 L
set_option maxRecDepth 65536 in
set_option maxHeartbeats 40000000 in
theorem rm0 (l : Launch) (Z : State) (a0 : Array Value) (hw : ∀ d ∈ tables_1, d.before a0 Z = true) (ws : List Jvm.Cond) (EL : List (String × Nat)) (hEL : EW Z a0 EL) (p1 p2 p3 p4 p5 : Int32) (G : Int32) (h0 : Heap) (n0 : Nat) (Z0 : n0 ≤ h0.size) (O : Sta Z h0 "java/lang/String" "COMPACT_STRINGS" "Z" (.int G)) (hG : ¬ G = 0) (F : Value) (rF : F.isRef = true) (Of : Sta Z h0 "jdk/internal/util/Preconditions" "SIOOBE_FORMATTER" "Ljava/util/function/BiFunction;" F) (Uu : own_U Z h0) :
    MetFree l x (head1 (Jvm.Cond.code x code maxLocals ret :: ws) room_1) (fun a U => a = #[(.int p1), (.int p2), (.int p3), (.int p4), (.int p5)] ∧ Z.Warmed39 U.vm ∧ U.heap = h0 ∧ CHv Z EL U.vm h0) (fun _ _ _ _ _ => True) (fun _ U o U' => ∃ v L, o = .returned v ∧ Q0 n0 v L ∧ ReturnedEndW U o U' L 32 3200) := by
  refine MetFree.of_bodySF (plainFor_of_name pn_L) hisR ?_
  intro p e s m args below meth c s₁ Bd hml0 hP hK
  obtain ⟨rfl, hZ, hh, H0⟩ := hP
  have hx := Bd.exec
  have hby := Bd.bytes
  have hml : c.maxLocals = 16 := hml0
  have hown : s.vm.findClass "com/example/seize/seize/LockLimitsCheckKeyPinLaw" = some m.cls := findClass_of_methodNamed Bd.named
  have X0 : Stand p l e room_1 (s.setVm s.vm) m #[(.int p1), (.int p2), (.int p3), (.int p4), (.int p5)] below meth c s₁ [] 0 0 := Stand.of_body Bd
  have e0 : s₁.heap = h0 := by rw [← hh, Bd.state]; rfl
  have hS0 : s.Since s.vm s.heap.size := (State.WarmedH.refl s).since _
  obtain ⟨b5, b6, b7, L0, L1, hFL, st1⟩ := own_P1 p1 p2 p3 p4 p5 X0 hx hZ hw hby hml hown
  obtain ⟨T2, h2, a, L2, n, f, X2, e2, N2, E2, ga, F2, h1n, h4n, ok, st2⟩ := own_P2 (n0 := n0) p1 p2 p3 p4 p5 b5 b6 b7 L0 L1 hFL X0 hx hZ hw hby hml hown e0 Z0
  obtain ⟨T3, h3, b, L3, g, y12, y13, X3, e3, N3, E3, gb, F3, ⟨lg1, lg2, lg3⟩, st3⟩ := own_P3 (n0 := n0) p1 p2 p3 p4 p5 b5 b6 b7 L0 L1 a X2 N2 hx hZ hw hby hml hown e2 (Nat.le_trans Z0 E2.1)
  have En3 := own_ext_trans E2 E3
  obtain ⟨T4, h4, x, L4, X4, e4, N4, E4, Sx, st4⟩ := own_P4 (n0 := n0) p1 p2 p3 p4 p5 b5 b6 b7 L0 L1 a b y12 y13 X3 N3 hx hZ hw hby hml hown e3 (Nat.le_trans Z0 En3.1) n f G (F2.ext E3) h1n h4n ok.2 (Uu.ext En3) (O.ext En3) hG
  have En4 := own_ext_trans En3 E4
  obtain ⟨⟨k, hk2, hk⟩, hf⟩ := ok
  obtain ⟨r, hrn, hle, hgt⟩ := own_fst g 256 lg2
  obtain ⟨Tz1, hz1, Xz1, ez1, Ez1, Az1, Dz1, -, stz1⟩ := newO X4 hx hZ hown (hw _ (List.mem_of_getElem? (i := 10) rfl)) (hw _ (List.mem_of_getElem? (i := 11) rfl)) (hw _ (List.mem_of_getElem? (i := 12) rfl)) e4 (g := (mkF m 180 #[.val (.int p1), .val (.int p2), .val (.int p3), .val (.int p4), .val (.int p5), .val (.int b5), .val (.int b6), .val (.int b7), .val (.int (Int32.ofNat L0)), .val (.int (Int32.ofNat L1)), .val (.ref a), .val (.ref b), .val (.int y12), .val (.int y13), .val (.ref x), .unset] [])) rfl (hb hby at_180) (by decide) (by decide)
  obtain ⟨az1, gz1⟩ : ∃ z, z = h4.size := ⟨_, rfl⟩
  rw [← gz1] at Az1 Dz1 stz1
  have Fv : Fld Z hz1 az1 "java/lang/String" "value" "[B" .null := Dz1 (Or.inr (hw _ (List.mem_of_getElem? (i := 38) rfl))) (ty := (.array .byte)) (by decide)
  have Fc : Fld Z hz1 az1 "java/lang/String" "coder" "B" (.int (0 : Int32)) := Dz1 (Or.inr (hw _ (List.mem_of_getElem? (i := 36) rfl))) (ty := .byte) (by decide)
  have Ex : Exa Z hz1 az1 "java/lang/String" := Az1
  have gx : h0.size ≤ az1 := by rw [gz1]; exact En4.1
  have ge : n0 ≤ az1 := Nat.le_trans Z0 gx
  have En5 := own_ext_trans En4 Ez1
  have sgz2 : ∀ target, Steps p.tables e below (Tz1.setTop (mkF m 186 #[.val (.int p1), .val (.int p2), .val (.int p3), .val (.int p4), .val (.int p5), .val (.int b5), .val (.int b6), .val (.int b7), .val (.int (Int32.ofNat L0)), .val (.int (Int32.ofNat L1)), .val (.ref a), .val (.ref b), .val (.int y12), .val (.int y13), .val (.ref x), .unset] [(.ref b), (.ref az1), (.ref az1)])) target → Steps p.tables e below (Tz1.setTop (mkF m 183 #[.val (.int p1), .val (.int p2), .val (.int p3), .val (.int p4), .val (.int p5), .val (.int b5), .val (.int b6), .val (.int b7), .val (.int (Int32.ofNat L0)), .val (.int (Int32.ofNat L1)), .val (.ref a), .val (.ref b), .val (.int y12), .val (.int y13), .val (.ref x), .unset] [(.ref az1)])) target := by
    intro target kt
    show Steps p.tables e below (Tz1.setTop (mkF m 183 #[.val (.int p1), .val (.int p2), .val (.int p3), .val (.int p4), .val (.int p5), .val (.int b5), .val (.int b6), .val (.int b7), .val (.int (Int32.ofNat L0)), .val (.int (Int32.ofNat L1)), .val (.ref a), .val (.ref b), .val (.int y12), .val (.int y13), .val (.ref x), .unset] [(.ref az1)])) _
    refine XS.dup Xz1.here hx rfl (hb hby at_183) rfl rfl ?_
    show Steps p.tables e below (Tz1.setTop (mkF m 184 #[.val (.int p1), .val (.int p2), .val (.int p3), .val (.int p4), .val (.int p5), .val (.int b5), .val (.int b6), .val (.int b7), .val (.int (Int32.ofNat L0)), .val (.int (Int32.ofNat L1)), .val (.ref a), .val (.ref b), .val (.int y12), .val (.int y13), .val (.ref x), .unset] [(.ref az1), (.ref az1)])) _
    refine XS.aload Xz1.here hx rfl (hb hby at_184) rfl rfl ?_
    show Steps p.tables e below (Tz1.setTop (mkF m 186 #[.val (.int p1), .val (.int p2), .val (.int p3), .val (.int p4), .val (.int p5), .val (.int b5), .val (.int b6), .val (.int b7), .val (.int (Int32.ofNat L0)), .val (.int (Int32.ofNat L1)), .val (.ref a), .val (.ref b), .val (.int y12), .val (.int y13), .val (.ref x), .unset] [(.ref b), (.ref az1), (.ref az1)])) _
    exact kt
  obtain ⟨_, _, ⟨TA, LA, kA, nA⟩, -, XA, ⟨LcA, hQA, lA, yA, zA⟩, stA⟩ := Xz1.specialBack hx (y := (⟨"java/lang/String", "<init>", "([C)V"⟩ : MethodName)) rfl hown (mvT hZ (hw _ (List.mem_of_getElem? (i := 13) rfl))) (mvT hZ (hw _ (List.mem_of_getElem? (i := 14) rfl))) (mvT hZ (hw _ (List.mem_of_getElem? (i := 15) rfl))) (by decide) (backOf (W := 1) (rm1 l Z a0 hw az1 b 256 r g G hz1 n0 (Nat.le_trans Z0 En5.1) ge (by omega) hrn hle hgt (lg3 r hrn) Ex Fv Fc ((F3.ext E4).ext Ez1) (Uu.ext En5) (O.ext En5) hG) hZ (hw _ (List.mem_of_getElem? (i := 15) rfl)) (hw _ (List.mem_of_getElem? (i := 12) rfl)) (by decide) (by decide)) (g := (mkF m 186 #[.val (.int p1), .val (.int p2), .val (.int p3), .val (.int p4), .val (.int p5), .val (.int b5), .val (.int b6), .val (.int b7), .val (.int (Int32.ofNat L0)), .val (.int (Int32.ofNat L1)), .val (.ref a), .val (.ref b), .val (.int y12), .val (.int y13), .val (.ref x), .unset] [(.ref b), (.ref az1), (.ref az1)])) rfl (by rw [hml]; rfl) (Steps.refl _) (a := az1) (argsL := [(.ref b)]) (rest := [(.ref az1)]) (lenOf pd1 rfl) rfl (by show 2 * 0 + _ ≤ _; exact Nat.le_of_eq rfl) (hb hby at_186) (fun _ _ => ⟨rfl, ez1, Nat.le_of_ble_eq_true rfl, Nat.le_of_ble_eq_true rfl⟩)
  dsimp only [Pt.U, Pt.locs, Pt.cells, Pt.slots] at XA lA yA zA stA hQA
  subst lA yA zA
  obtain ⟨rfl, NA, KA, SA1, SA2, t, SA3, SA4⟩ := hQA
  have MA := Fr.app (N4) NA
  have En := own_ext_keep En5 KA (allS gx all0)
  have E6 : Ext h4 TA.heap := own_ext_keep Ez1 KA (allS (by rw [gz1]; exact Nat.le_refl _) all0)
  have Sy : own_SX Z TA.heap az1 256 g := ⟨SA1, t, SA3, Or.inr ⟨SA2, SA4⟩⟩
  have Sx6 := Sx.ext E6
  have O6 := O.ext En
  have Of6 := Of.ext En
  have U6 := Uu.ext En
  have sgz3 : ∀ target, Steps p.tables e below (TA.setTop (mkF m 193 #[.val (.int p1), .val (.int p2), .val (.int p3), .val (.int p4), .val (.int p5), .val (.int b5), .val (.int b6), .val (.int b7), .val (.int (Int32.ofNat L0)), .val (.int (Int32.ofNat L1)), .val (.ref a), .val (.ref b), .val (.int y12), .val (.int y13), .val (.ref x), .val (.ref az1)] [(.ref x)])) target → Steps p.tables e below (TA.setTop (mkF m 189 #[.val (.int p1), .val (.int p2), .val (.int p3), .val (.int p4), .val (.int p5), .val (.int b5), .val (.int b6), .val (.int b7), .val (.int (Int32.ofNat L0)), .val (.int (Int32.ofNat L1)), .val (.ref a), .val (.ref b), .val (.int y12), .val (.int y13), .val (.ref x), .unset] [(.ref az1)])) target := by
    intro target kt
    show Steps p.tables e below (TA.setTop (mkF m 189 #[.val (.int p1), .val (.int p2), .val (.int p3), .val (.int p4), .val (.int p5), .val (.int b5), .val (.int b6), .val (.int b7), .val (.int (Int32.ofNat L0)), .val (.int (Int32.ofNat L1)), .val (.ref a), .val (.ref b), .val (.int y12), .val (.int y13), .val (.ref x), .unset] [(.ref az1)])) _
    refine XS.astore XA.here hx rfl (hb hby at_189) rfl rfl (l' := #[.val (.int p1), .val (.int p2), .val (.int p3), .val (.int p4), .val (.int p5), .val (.int b5), .val (.int b6), .val (.int b7), .val (.int (Int32.ofNat L0)), .val (.int (Int32.ofNat L1)), .val (.ref a), .val (.ref b), .val (.int y12), .val (.int y13), .val (.ref x), .val (.ref az1)]) rfl ?_
    show Steps p.tables e below (TA.setTop (mkF m 191 #[.val (.int p1), .val (.int p2), .val (.int p3), .val (.int p4), .val (.int p5), .val (.int b5), .val (.int b6), .val (.int b7), .val (.int (Int32.ofNat L0)), .val (.int (Int32.ofNat L1)), .val (.ref a), .val (.ref b), .val (.int y12), .val (.int y13), .val (.ref x), .val (.ref az1)] [])) _
    refine XS.aload XA.here hx rfl (hb hby at_191) rfl rfl ?_
    show Steps p.tables e below (TA.setTop (mkF m 193 #[.val (.int p1), .val (.int p2), .val (.int p3), .val (.int p4), .val (.int p5), .val (.int b5), .val (.int b6), .val (.int b7), .val (.int (Int32.ofNat L0)), .val (.int (Int32.ofNat L1)), .val (.ref a), .val (.ref b), .val (.int y12), .val (.int y13), .val (.ref x), .val (.ref az1)] [(.ref x)])) _
    exact kt
  obtain ⟨_, _, ⟨TB, LB, kB, nB⟩, -, YB, hsB, grB, ⟨LcB, hQB, lB, yB, zB, R0B⟩, stB⟩ := callSS XA hx (y := (⟨"com/example/seize/seize/LockLimits", "checkKey", "(Ljava/lang/String;)V"⟩ : MethodName)) hown (mvT hZ (hw _ (List.mem_of_getElem? (i := 58) rfl))) (mvT hZ (hw _ (List.mem_of_getElem? (i := 59) rfl))) (mvT hZ (hw _ (List.mem_of_getElem? (i := 60) rfl))) (mvT hZ (hw _ (List.mem_of_getElem? (i := 61) rfl))) (by decide) (backOfSH (vm0 := s.vm) (W := 0) (rmY l Z a0 hw EL hEL x n f G TA.heap n0 h1n (by omega) hf Sx6 O6 hG F rF Of6 U6 k hk (by omega)) hZ (hw _ (List.mem_of_getElem? (i := 61) rfl)) (hw _ (List.mem_of_getElem? (i := 60) rfl)) (by decide) (by decide) hEL (CHr.ext En H0).1) (g := (mkF m 193 #[.val (.int p1), .val (.int p2), .val (.int p3), .val (.int p4), .val (.int p5), .val (.int b5), .val (.int b6), .val (.int b7), .val (.int (Int32.ofNat L0)), .val (.int (Int32.ofNat L1)), .val (.ref a), .val (.ref b), .val (.int y12), .val (.int y13), .val (.ref x), .val (.ref az1)] [(.ref x)])) rfl (by rw [hml]; rfl) (argsL := [(.ref x)]) (rest := []) (lenOf pdY rfl) rfl (by show 2 * 0 + _ ≤ _; exact Nat.le_of_eq rfl) (hb hby at_193) (fun _ _ => ⟨rfl, rfl, Nat.le_of_ble_eq_true rfl, Nat.le_of_ble_eq_true rfl⟩)
  dsimp only [Pt.U, Pt.locs, Pt.cells, Pt.slots] at YB hsB grB lB yB zB R0B stB hQB
  subst lB yB zB
  obtain ⟨XB, hSB, hZB, hownB⟩ := rebS hS0 (n1 := TA.heap.size) (by rw [hh]; exact En.1) YB hsB grB hZ hown
  have RB := (CHr.ext En H0).trans R0B
  obtain ⟨rfl, NB, EB⟩ := hQB
  have MB := Fr.app (MA) NB
  have Sx_B := Sx6.ext EB
  have Sy_B := Sy.ext EB
  have O_B := O6.ext EB
  have Of_B := Of6.ext EB
  have Uu_B := U6.ext EB
  have En_B := own_ext_trans En EB
  have sgz4 : ∀ target, Steps p.tables e below (TB.setTop (mkF m 198 #[.val (.int p1), .val (.int p2), .val (.int p3), .val (.int p4), .val (.int p5), .val (.int b5), .val (.int b6), .val (.int b7), .val (.int (Int32.ofNat L0)), .val (.int (Int32.ofNat L1)), .val (.ref a), .val (.ref b), .val (.int y12), .val (.int y13), .val (.ref x), .val (.ref az1)] [(.ref az1)])) target → Steps p.tables e below (TB.setTop (mkF m 196 #[.val (.int p1), .val (.int p2), .val (.int p3), .val (.int p4), .val (.int p5), .val (.int b5), .val (.int b6), .val (.int b7), .val (.int (Int32.ofNat L0)), .val (.int (Int32.ofNat L1)), .val (.ref a), .val (.ref b), .val (.int y12), .val (.int y13), .val (.ref x), .val (.ref az1)] [])) target := by
    intro target kt
    show Steps p.tables e below (TB.setTop (mkF m 196 #[.val (.int p1), .val (.int p2), .val (.int p3), .val (.int p4), .val (.int p5), .val (.int b5), .val (.int b6), .val (.int b7), .val (.int (Int32.ofNat L0)), .val (.int (Int32.ofNat L1)), .val (.ref a), .val (.ref b), .val (.int y12), .val (.int y13), .val (.ref x), .val (.ref az1)] [])) _
    refine XS.aload XB.here hx rfl (hb hby at_196) rfl rfl ?_
    show Steps p.tables e below (TB.setTop (mkF m 198 #[.val (.int p1), .val (.int p2), .val (.int p3), .val (.int p4), .val (.int p5), .val (.int b5), .val (.int b6), .val (.int b7), .val (.int (Int32.ofNat L0)), .val (.int (Int32.ofNat L1)), .val (.ref a), .val (.ref b), .val (.int y12), .val (.int y13), .val (.ref x), .val (.ref az1)] [(.ref az1)])) _
    exact kt
  obtain ⟨_, _, ⟨TC, LC, kC, nC⟩, -, YC, hsC, grC, ⟨LcC, hQC, lC, yC, zC, R0C⟩, stC⟩ := callSS XB hx (y := (⟨"com/example/seize/seize/LockLimits", "checkKey", "(Ljava/lang/String;)V"⟩ : MethodName)) hownB (mvT hZB (hw _ (List.mem_of_getElem? (i := 58) rfl))) (mvT hZB (hw _ (List.mem_of_getElem? (i := 59) rfl))) (mvT hZB (hw _ (List.mem_of_getElem? (i := 60) rfl))) (mvT hZB (hw _ (List.mem_of_getElem? (i := 61) rfl))) (by decide) (backOfSH (vm0 := TB.vm) (W := 0) (rmY l Z a0 hw EL hEL az1 256 g G TB.heap n0 (by omega) (by omega) lg3 Sy_B O_B hG F rF Of_B Uu_B 255 lg1 (by omega)) hZB (hw _ (List.mem_of_getElem? (i := 61) rfl)) (hw _ (List.mem_of_getElem? (i := 60) rfl)) (by decide) (by decide) hEL RB.1) (g := (mkF m 198 #[.val (.int p1), .val (.int p2), .val (.int p3), .val (.int p4), .val (.int p5), .val (.int b5), .val (.int b6), .val (.int b7), .val (.int (Int32.ofNat L0)), .val (.int (Int32.ofNat L1)), .val (.ref a), .val (.ref b), .val (.int y12), .val (.int y13), .val (.ref x), .val (.ref az1)] [(.ref az1)])) rfl (by rw [hml]; rfl) (argsL := [(.ref az1)]) (rest := []) (lenOf pdY rfl) rfl (by show 2 * 0 + _ ≤ _; exact Nat.le_of_eq rfl) (hb hby at_198) (fun _ _ => ⟨rfl, rfl, Nat.le_of_ble_eq_true rfl, Nat.le_of_ble_eq_true rfl⟩)
  dsimp only [Pt.U, Pt.locs, Pt.cells, Pt.slots] at YC hsC grC lC yC zC R0C stC hQC
  subst lC yC zC
  obtain ⟨XC, hSC, hZC, hownC⟩ := rebS hSB (n1 := TB.heap.size) (Nat.le_refl _) YC hsC grC hZB hownB
  have RC := RB.trans R0C
  obtain ⟨rfl, NC, EC⟩ := hQC
  have MC := Fr.app (MB) NC
  have Sx_C := Sx_B.ext EC
  have Sy_C := Sy_B.ext EC
  have O_C := O_B.ext EC
  have Of_C := Of_B.ext EC
  have Uu_C := Uu_B.ext EC
  have En_C := own_ext_trans En_B EC
  have sgz5 : ∀ target, Steps p.tables e below (TC.setTop (mkF m 202 #[.val (.int p1), .val (.int p2), .val (.int p3), .val (.int p4), .val (.int p5), .val (.int b5), .val (.int b6), .val (.int b7), .val (.int (Int32.ofNat L0)), .val (.int (Int32.ofNat L1)), .val (.ref a), .val (.ref b), .val (.int y12), .val (.int y13), .val (.ref x), .val (.ref az1)] [(.int (1 : Int32))])) target → Steps p.tables e below (TC.setTop (mkF m 201 #[.val (.int p1), .val (.int p2), .val (.int p3), .val (.int p4), .val (.int p5), .val (.int b5), .val (.int b6), .val (.int b7), .val (.int (Int32.ofNat L0)), .val (.int (Int32.ofNat L1)), .val (.ref a), .val (.ref b), .val (.int y12), .val (.int y13), .val (.ref x), .val (.ref az1)] [])) target := by
    intro target kt
    show Steps p.tables e below (TC.setTop (mkF m 201 #[.val (.int p1), .val (.int p2), .val (.int p3), .val (.int p4), .val (.int p5), .val (.int b5), .val (.int b6), .val (.int b7), .val (.int (Int32.ofNat L0)), .val (.int (Int32.ofNat L1)), .val (.ref a), .val (.ref b), .val (.int y12), .val (.int y13), .val (.ref x), .val (.ref az1)] [])) _
    refine XS.iconst XC.here hx rfl (hb hby at_201) ?_
    show Steps p.tables e below (TC.setTop (mkF m 202 #[.val (.int p1), .val (.int p2), .val (.int p3), .val (.int p4), .val (.int p5), .val (.int b5), .val (.int b6), .val (.int b7), .val (.int (Int32.ofNat L0)), .val (.int (Int32.ofNat L1)), .val (.ref a), .val (.ref b), .val (.int y12), .val (.int y13), .val (.ref x), .val (.ref az1)] [(.int (1 : Int32))])) _
    exact kt
  obtain ⟨fs, hr, hrun, hended, hW⟩ := XC.leaveW hSC (Nat.le_refl _) (v := some (.int (1 : Int32))) (fun h => by rw [Bd.returns] at h; cases h)
  refine ⟨_, _, castTop (ef_0 m p1 p2 p3 p4 p5) ?_, hrun, hended, _, _, rfl, ⟨rfl, MC⟩, own_w hW (by decide) (by decide)⟩
  show Steps p.tables e below (s₁.setTop (mkF m 0 #[.val (.int p1), .val (.int p2), .val (.int p3), .val (.int p4), .val (.int p5), .unset, .unset, .unset, .unset, .unset, .unset, .unset, .unset, .unset, .unset, .unset] [])) _
  refine st1 _ ?_
  refine st2 _ ?_
  refine st3 _ ?_
  refine st4 _ ?_
  show Steps p.tables e below (T4.setTop (mkF m 180 #[.val (.int p1), .val (.int p2), .val (.int p3), .val (.int p4), .val (.int p5), .val (.int b5), .val (.int b6), .val (.int b7), .val (.int (Int32.ofNat L0)), .val (.int (Int32.ofNat L1)), .val (.ref a), .val (.ref b), .val (.int y12), .val (.int y13), .val (.ref x), .unset] [])) _
  refine stz1 _ ?_
  show Steps p.tables e below (Tz1.setTop (mkF m 183 #[.val (.int p1), .val (.int p2), .val (.int p3), .val (.int p4), .val (.int p5), .val (.int b5), .val (.int b6), .val (.int b7), .val (.int (Int32.ofNat L0)), .val (.int (Int32.ofNat L1)), .val (.ref a), .val (.ref b), .val (.int y12), .val (.int y13), .val (.ref x), .unset] [(.ref az1)])) _
  refine sgz2 _ ?_
  show Steps p.tables e below (Tz1.setTop (mkF m 186 #[.val (.int p1), .val (.int p2), .val (.int p3), .val (.int p4), .val (.int p5), .val (.int b5), .val (.int b6), .val (.int b7), .val (.int (Int32.ofNat L0)), .val (.int (Int32.ofNat L1)), .val (.ref a), .val (.ref b), .val (.int y12), .val (.int y13), .val (.ref x), .unset] [(.ref b), (.ref az1), (.ref az1)])) _
  refine stA.trans ?_
  show Steps p.tables e below (TA.setTop (mkF m 189 #[.val (.int p1), .val (.int p2), .val (.int p3), .val (.int p4), .val (.int p5), .val (.int b5), .val (.int b6), .val (.int b7), .val (.int (Int32.ofNat L0)), .val (.int (Int32.ofNat L1)), .val (.ref a), .val (.ref b), .val (.int y12), .val (.int y13), .val (.ref x), .unset] [(.ref az1)])) _
  refine sgz3 _ ?_
  show Steps p.tables e below (TA.setTop (mkF m 193 #[.val (.int p1), .val (.int p2), .val (.int p3), .val (.int p4), .val (.int p5), .val (.int b5), .val (.int b6), .val (.int b7), .val (.int (Int32.ofNat L0)), .val (.int (Int32.ofNat L1)), .val (.ref a), .val (.ref b), .val (.int y12), .val (.int y13), .val (.ref x), .val (.ref az1)] [(.ref x)])) _
  refine stB.trans ?_
  show Steps p.tables e below (TB.setTop (mkF m 196 #[.val (.int p1), .val (.int p2), .val (.int p3), .val (.int p4), .val (.int p5), .val (.int b5), .val (.int b6), .val (.int b7), .val (.int (Int32.ofNat L0)), .val (.int (Int32.ofNat L1)), .val (.ref a), .val (.ref b), .val (.int y12), .val (.int y13), .val (.ref x), .val (.ref az1)] [])) _
  refine sgz4 _ ?_
  show Steps p.tables e below (TB.setTop (mkF m 198 #[.val (.int p1), .val (.int p2), .val (.int p3), .val (.int p4), .val (.int p5), .val (.int b5), .val (.int b6), .val (.int b7), .val (.int (Int32.ofNat L0)), .val (.int (Int32.ofNat L1)), .val (.ref a), .val (.ref b), .val (.int y12), .val (.int y13), .val (.ref x), .val (.ref az1)] [(.ref az1)])) _
  refine stC.trans ?_
  show Steps p.tables e below (TC.setTop (mkF m 201 #[.val (.int p1), .val (.int p2), .val (.int p3), .val (.int p4), .val (.int p5), .val (.int b5), .val (.int b6), .val (.int b7), .val (.int (Int32.ofNat L0)), .val (.int (Int32.ofNat L1)), .val (.ref a), .val (.ref b), .val (.int y12), .val (.int y13), .val (.ref x), .val (.ref az1)] [])) _
  refine sgz5 _ ?_
  show Steps p.tables e below (TC.setTop (mkF m 202 #[.val (.int p1), .val (.int p2), .val (.int p3), .val (.int p4), .val (.int p5), .val (.int b5), .val (.int b6), .val (.int b7), .val (.int (Int32.ofNat L0)), .val (.int (Int32.ofNat L1)), .val (.ref a), .val (.ref b), .val (.int y12), .val (.int y13), .val (.ref x), .val (.ref az1)] [(.int (1 : Int32))])) _
  exact retN XC hx (t := .boolean) Bd.returns (by simp) (hb hby at_202) hr
set_option maxRecDepth 65536 in
set_option maxHeartbeats 40000000 in
theorem comes_1 {Post : Tables → Env → Array Value → State → Outcome → State → Prop} (hpost : ∀ tb e args s v u, (limb_1_1.after args s (.returned v) u = true ∧ limb_1_2.after args s (.returned v) u = true ∧ True) → ReturnedEndW s (.returned v) u (Jvm.fieldLocs frame_1_writes args s ++ Jvm.arrayLocs frame_1_arrays args s ++ Jvm.staticLocs frame_1_statics s) 32 3200 → Post tb e args s (.returned v) u) :
    ArmFor flags0 classFile x code maxLocals ret World_1 tables_1 room_1 Calls_1 rest_1 Pre_1 Post := by
  intro l hfl _ _ p e ha hc hk s m args below hf hA hF happ hP
  obtain ⟨hcalls, hrest, hpre⟩ := hP
  obtain ⟨-, -, -, hnamed, -, -, -, hat⟩ := (Spec.applies_iff hf).mp happ
  obtain ⟨hg, hn⟩ := and_e (Cond.before_iff.mp (show (Jvm.Cond.and given_1 narrow_1).before args s = true from hpre))
  obtain ⟨h1, g1⟩ := and_e hg
  obtain ⟨h3, g2⟩ := and_e g1
  obtain ⟨h5, g3⟩ := and_e g2
  obtain ⟨h7, g4⟩ := and_e g3
  obtain ⟨h8, h9⟩ := and_e g4
  obtain ⟨w0, w1, w2, w3, w4, rfl⟩ : ∃ w0 w1 w2 w3 w4 : Value, args = #[w0, w1, w2, w3, w4] := by
    have hs : args.size = 5 := by simpa [Cond.value, given_1] using h1
    obtain ⟨L⟩ := args
    match L, hs with
    | [w0, w1, w2, w3, w4], _ => exact ⟨w0, w1, w2, w3, w4, rfl⟩
  have hw := fun d (hd : d ∈ tables_1) => atoms_spec (ws := Jvm.Cond.code x code maxLocals ret :: tables_1) hat d (List.mem_cons_of_mem _ hd)
  obtain ⟨hsets, hown0⟩ := atoms_of _ (rest_1_c_eq ▸ (show rest_1_c.before _ s = true from hrest))
  have n5 := not_v (Cond.before_iff.mp (hsets _ (List.mem_of_getElem? (i := 2) rfl)))
  obtain ⟨i0, e0⟩ := is_v h3
  obtain rfl : w0 = (.int i0) := Option.some.inj e0
  obtain ⟨i1, e1⟩ := is_v h5
  obtain rfl : w1 = (.int i1) := Option.some.inj e1
  obtain ⟨i2, e2⟩ := is_v h7
  obtain rfl : w2 = (.int i2) := Option.some.inj e2
  obtain ⟨i3, e3⟩ := is_v h8
  obtain rfl : w3 = (.int i3) := Option.some.inj e3
  obtain ⟨i4, e4⟩ := is_v h9
  obtain rfl : w4 = (.int i4) := Option.some.inj e4
  obtain ⟨i11, e11⟩ := is_v (Cond.before_iff.mp (hsets _ (List.mem_of_getElem? (i := 1) rfl)))
  have S12 : Sta s s.heap "java/lang/String" "COMPACT_STRINGS" "Z" (.int i11) := Sta.start e11 (Or.inl (hsets _ (List.mem_of_getElem? (i := 0) rfl)))
  have c17 : ¬ (i11 = (0 : Int32)) := gotF (Cond.eq_ints e11 (Term.int_eval (0))) n5
  obtain ⟨F, eF, rF⟩ := isR_v (Cond.before_iff.mp (hsets _ (List.mem_of_getElem? (i := 8) rfl)))
  have Of := Sta.start eF (Or.inl (hsets _ (List.mem_of_getElem? (i := 7) rfl)))
  have Uu : own_U s s.heap := ⟨Sta.start (eqv_i (Term.int_eval (1)) (Cond.before_iff.mp (hsets _ (List.mem_of_getElem? (i := 12) rfl)))) (Or.inl (hsets _ (List.mem_of_getElem? (i := 11) rfl))), Sta.start (eqv_i (Term.int_eval (0)) (Cond.before_iff.mp (hsets _ (List.mem_of_getElem? (i := 15) rfl)))) (Or.inl (hsets _ (List.mem_of_getElem? (i := 14) rfl))), Sta.start (eqv_i (Term.int_eval (8)) (Cond.before_iff.mp (hsets _ (List.mem_of_getElem? (i := 18) rfl)))) (Or.inl (hsets _ (List.mem_of_getElem? (i := 17) rfl)))⟩
  obtain ⟨n, o, h1, h2, h3, _, L, rfl, ⟨rfl, N⟩, hq⟩ := rm0 l s _ hw tables_1 [] EW.nil i0 i1 i2 i3 i4 i11 s.heap s.heap.size (Nat.le_refl _) S12 c17 F rF Of Uu p e ha hc hk s m _ below hf ((Spec.applies_iff_loose hf).mp happ).1 ⟨rfl, State.Warmed39.refl s, rfl, fun p hp => nomatch hp⟩ trivial
  refine ⟨n, _, h1, h2, h3, hpost _ _ _ _ _ _ ⟨Cond.after_iff.mpr rfl, Cond.after_iff.mpr (eq_i res_at (Term.int_eval (1)) rfl), trivial⟩ ⟨hq.1, hq.2.1, hq.2.2.1, (hq.2.2.2.sift fun y hy => Or.inr (N y hy)).mono (by decide) (by decide)⟩⟩
theorem main_1_1 : Claimed_1_1 := comes_1 fun _ _ _ _ _ _ h hF => ⟨h.1, hF⟩
theorem main_1_2 : Claimed_1_2 := comes_1 fun _ _ _ _ _ _ h hF => ⟨h.2.1, hF⟩
end Jvm.Pilot.@@N@@
namespace Jvm.Pilot.@@N@@
open Jvm Jvm.ClassFile Sem Op Lib Jvm.Free Jvm.Stand Jvm.Pilot.@@N@@.Jvm.D
/-! MADE BY PROGRAM (witnessworld.py) out of the Statement's table words and the real class files: 20 classes; the members and pool entries that the words name. The judged class is class 1, her method 2. -/
namespace start1
open Jvm.ClassFile
def u (s : String) : CpInfo := .utf8 (stringToUtf16 s)
/-- a pool by its gaps: so many unusable entries, then the entry; so many at the end -/
def gap : Nat → List CpInfo → List CpInfo
  | 0, r => r
  | n + 1, r => .unusable :: gap n r
def poolList (es : List (Nat × CpInfo)) (last : Nat) : List CpInfo := es.foldr (fun e r => gap e.1 (e.2 :: r)) (gap last [])
def pool (es : List (Nat × CpInfo)) (last : Nat) : Array CpInfo := ⟨poolList es last⟩
def fileOf (pool : Array CpInfo) (this : Nat) (attrs : Array Attribute := #[]) (ms : Array MethodInfo := #[]) (fl : Nat := 33) (sup : Nat := 0) (ifs : Array Nat := #[]) (fds : Array FieldInfo := #[]) : ClassFile where
  minorVersion := 0
  majorVersion := 65
  constantPool := pool
  accessFlags := fl
  thisClass := this
  superClass := sup
  interfaces := ifs
  fields := fds
  methods := ms
  attributes := attrs
def plain (name : String) (sup : Option ClassId) : Class where
  name := name
  kind := .ordinary
  loader := none
  accessFlags := 33
  super := sup
  interfaces := #[]
  cf := none
  fields := #[]
  methods := #[]
  instanceTypes := #[]
  staticTypes := #[]
  resolved := #[]
  callSites := []
  init := .initialized
  statics := none
  mirror := none

def pool0 : Array CpInfo := pool [(5, u "<init>"), (0, u "()V"), (1, .class_ 10), (1, u "java/lang/Object")] 113

def k0c0 : Code := { maxStack := 0, maxLocals := 1, code := object_method_1_code, exceptionTable := #[], attributes := #[] }
def k0m0 : Method := { name := "<init>", desc := "()V", sig := { parameters := [], returnType := none }, accessFlags := 1, code := some k0c0 }
/-- java/lang/Object -/
def k0 : Class := { plain "java/lang/Object" none with
  accessFlags := 33
  interfaces := #[]
  cf := some (fileOf pool0 8 #[] #[{ accessFlags := 1, nameIndex := 5, descriptorIndex := 6, attributes := #[] }] 33 0 #[] #[])
  fields := #[]
  methods := #[k0m0]
  instanceTypes := #[]
  staticTypes := #[]
  resolved := Array.replicate 124 none
  statics := none }

def pool1 : Array CpInfo := pool [(2, .class_ 4), (1, u "java/lang/Object"), (0, u "<init>"), (0, u "()V"), (0, .integer 1048575), (0, .integer 55296), (0, .integer 56320), (0, .integer 65535), (0, .integer 57343), (0, .integer 32768), (0, .methodref 14 15), (0, .class_ 16), (0, .nameAndType 17 18), (0, u "com/example/seize/seize/LockLimitsCheckKeyPinLaw"), (0, u "put"), (0, u "([CIIZ)V"), (0, .integer 2147483647), (0, .class_ 21), (0, u "java/lang/String"), (0, .methodref 20 23), (0, .nameAndType 5 24), (0, u "([C)V"), (0, .methodref 26 27), (0, .class_ 28), (0, .nameAndType 29 30), (0, u "com/example/seize/seize/LockLimits"), (0, u "checkKey"), (0, u "(Ljava/lang/String;)V"), (3, u "law"), (0, u "(IIIII)Z")] 4

def k1m0 : Method := { name := "<init>", desc := "()V", sig := { parameters := [], returnType := none }, accessFlags := 2, code := none }
def k1c1 : Code := { maxStack := 5, maxLocals := 5, code := method_2_code, exceptionTable := #[], attributes := #[] }
def k1m1 : Method := { name := "put", desc := "([CIIZ)V", sig := { parameters := [(.array .char), .int, .int, .boolean], returnType := none }, accessFlags := 10, code := some k1c1 }
def k1c2 : Code := { maxStack := 4, maxLocals := 16, code := code, exceptionTable := #[], attributes := #[] }
def k1m2 : Method := { name := "law", desc := "(IIIII)Z", sig := { parameters := [.int, .int, .int, .int, .int], returnType := some .boolean }, accessFlags := 9, code := some k1c2 }
/-- com/example/seize/seize/LockLimitsCheckKeyPinLaw -/
def k1 : Class := { plain "com/example/seize/seize/LockLimitsCheckKeyPinLaw" (some 0) with
  accessFlags := 49
  interfaces := #[]
  cf := some (fileOf pool1 14 #[] #[{ accessFlags := 2, nameIndex := 5, descriptorIndex := 6, attributes := #[] }, { accessFlags := 10, nameIndex := 17, descriptorIndex := 18, attributes := #[] }, { accessFlags := 9, nameIndex := 34, descriptorIndex := 35, attributes := #[] }] 49 2 #[] #[])
  fields := #[]
  methods := #[k1m0, k1m1, k1m2]
  instanceTypes := #[]
  staticTypes := #[]
  resolved := Array.replicate 40 none
  statics := none }

def pool2 : Array CpInfo := pool [(1, .class_ 2), (0, u "java/io/Serializable"), (0, .class_ 4), (0, u "java/lang/Object")] 2

/-- java/io/Serializable -/
def k2 : Class := { plain "java/io/Serializable" (some 0) with
  accessFlags := 1537
  interfaces := #[]
  cf := some (fileOf pool2 1 #[] #[] 1537 3 #[] #[])
  fields := #[]
  methods := #[]
  instanceTypes := #[]
  staticTypes := #[]
  resolved := Array.replicate 7 none
  statics := none }

def pool3 : Array CpInfo := pool [(1, .class_ 2), (0, u "java/lang/Comparable"), (0, .class_ 4), (0, u "java/lang/Object")] 7

/-- java/lang/Comparable -/
def k3 : Class := { plain "java/lang/Comparable" (some 0) with
  accessFlags := 1537
  interfaces := #[]
  cf := some (fileOf pool3 1 #[] #[] 1537 3 #[] #[])
  fields := #[]
  methods := #[]
  instanceTypes := #[]
  staticTypes := #[]
  resolved := Array.replicate 12 none
  statics := none }

def pool4 : Array CpInfo := pool [(2, .class_ 4), (1, u "java/lang/CharSequence"), (42, .class_ 48), (0, u "java/lang/CharSequence$1CodePointIterator"), (10, .class_ 60), (0, u "java/lang/CharSequence$1CharIterator"), (5, .class_ 67), (0, u "java/lang/Object")] 63

/-- java/lang/CharSequence -/
def k4 : Class := { plain "java/lang/CharSequence" (some 0) with
  accessFlags := 1537
  interfaces := #[]
  cf := some (fileOf pool4 2 #[.nestMembers #[47, 59]] #[] 1537 66 #[] #[])
  fields := #[]
  methods := #[]
  instanceTypes := #[]
  staticTypes := #[]
  resolved := Array.replicate 131 none
  statics := none }

def pool5 : Array CpInfo := pool [(1, .class_ 2), (0, u "java/lang/constant/Constable"), (0, .class_ 4), (0, u "java/lang/Object")] 6

/-- java/lang/constant/Constable -/
def k5 : Class := { plain "java/lang/constant/Constable" (some 0) with
  accessFlags := 1537
  interfaces := #[]
  cf := some (fileOf pool5 1 #[] #[] 1537 3 #[] #[])
  fields := #[]
  methods := #[]
  instanceTypes := #[]
  staticTypes := #[]
  resolved := Array.replicate 11 none
  statics := none }

def pool6 : Array CpInfo := pool [(1, .class_ 2), (0, u "java/lang/constant/ConstantDesc"), (0, .class_ 4), (0, u "java/lang/Object")] 32

/-- java/lang/constant/ConstantDesc -/
def k6 : Class := { plain "java/lang/constant/ConstantDesc" (some 0) with
  accessFlags := 1537
  interfaces := #[]
  cf := some (fileOf pool6 1 #[] #[] 1537 3 #[] #[])
  fields := #[]
  methods := #[]
  instanceTypes := #[]
  staticTypes := #[]
  resolved := Array.replicate 37 none
  statics := none }

def pool7 : Array CpInfo := pool [(1, .methodref 2 3), (0, .class_ 4), (0, .nameAndType 5 6), (0, u "java/lang/Object"), (0, u "<init>"), (0, u "()V"), (2, .fieldref 10 11), (0, .class_ 12), (0, .nameAndType 13 14), (0, u "java/lang/String"), (0, u "value"), (0, u "[B"), (0, .fieldref 10 16), (0, .nameAndType 17 18), (0, u "coder"), (0, u "B"), (2, u "hash"), (0, u "I"), (2, u "hashIsZero"), (0, u "Z"), (0, .methodref 10 28), (0, .nameAndType 5 29), (0, u "([CIILjava/lang/Void;)V"), (8, .fieldref 10 39), (0, .nameAndType 40 26), (0, u "COMPACT_STRINGS"), (1, .class_ 44), (1, u "java/lang/StringUTF16"), (0, u "compress"), (1, .methodref 42 48), (0, .nameAndType 49 50), (0, u "coderFromArrayLen"), (0, u "([BI)B"), (46, u "([BII)I"), (44, u "()Z"), (34, .methodref 42 178), (0, .nameAndType 45 179), (0, u "([CII)[B"), (154, u "()I"), (0, .methodref 10 336), (0, .nameAndType 17 337), (0, u "()B"), (53, u "(II)V"), (100, .methodref 10 493), (0, .nameAndType 494 142), (0, u "isLatin1"), (4, .methodref 10 500), (0, .nameAndType 501 391), (0, u "checkIndex"), (0, .methodref 42 503), (0, .nameAndType 504 97), (0, u "codePointAt"), (2, u "length"), (67, .class_ 576), (0, u "java/lang/CharSequence"), (22, u "CASE_INSENSITIVE_ORDER"), (0, u "Ljava/util/Comparator;"), (91, u "isEmpty"), (72, u "(I)I"), (244, u "([C)V"), (42, .fieldref 1054 1055), (0, .class_ 1056), (0, .nameAndType 1057 1058), (0, u "jdk/internal/util/Preconditions"), (0, u "SIOOBE_FORMATTER"), (0, u "Ljava/util/function/BiFunction;"), (0, .methodref 1054 1060), (0, .nameAndType 501 1061), (0, u "(IILjava/util/function/BiFunction;)I"), (39, u "serialPersistentFields"), (0, u "[Ljava/io/ObjectStreamField;"), (0, .class_ 1104), (0, u "java/lang/String$CaseInsensitiveComparator"), (1, .class_ 1107), (0, u "java/io/Serializable"), (0, .class_ 1109), (0, u "java/lang/Comparable"), (0, .class_ 1111), (0, u "java/lang/constant/Constable"), (0, .class_ 1113), (0, u "java/lang/constant/ConstantDesc"), (2, u "serialVersionUID"), (0, u "J"), (3, u "REPL"), (0, u "C"), (2, u "LATIN1"), (1, u "UTF16")] 323

def k7m0 : Method := { name := "<init>", desc := "()V", sig := { parameters := [], returnType := none }, accessFlags := 1, code := none }
def k7c1 : Code := { maxStack := 5, maxLocals := 2, code := jdk_42_method_3_code, exceptionTable := #[], attributes := #[] }
def k7m1 : Method := { name := "<init>", desc := "([C)V", sig := { parameters := [(.array .char)], returnType := none }, accessFlags := 1, code := some k7c1 }
def k7c2 : Code := { maxStack := 2, maxLocals := 1, code := jdk_42_method_54_code, exceptionTable := #[], attributes := #[] }
def k7m2 : Method := { name := "length", desc := "()I", sig := { parameters := [], returnType := some .int }, accessFlags := 1, code := some k7c2 }
def k7c3 : Code := { maxStack := 1, maxLocals := 1, code := jdk_42_method_55_code, exceptionTable := #[], attributes := #[] }
def k7m3 : Method := { name := "isEmpty", desc := "()Z", sig := { parameters := [], returnType := some .boolean }, accessFlags := 1, code := some k7c3 }
def k7c4 : Code := { maxStack := 3, maxLocals := 3, code := jdk_42_method_57_code, exceptionTable := #[], attributes := #[] }
def k7m4 : Method := { name := "codePointAt", desc := "(I)I", sig := { parameters := [.int], returnType := some .int }, accessFlags := 1, code := some k7c4 }
def k7c5 : Code := { maxStack := 4, maxLocals := 6, code := jdk_42_method_149_code, exceptionTable := #[], attributes := #[] }
def k7m5 : Method := { name := "<init>", desc := "([CIILjava/lang/Void;)V", sig := { parameters := [(.array .char), .int, .int, (.object "java/lang/Void")], returnType := none }, accessFlags := 2, code := some k7c5 }
def k7c6 : Code := { maxStack := 1, maxLocals := 1, code := jdk_42_method_152_code, exceptionTable := #[], attributes := #[] }
def k7m6 : Method := { name := "coder", desc := "()B", sig := { parameters := [], returnType := some .byte }, accessFlags := 0, code := some k7c6 }
def k7c7 : Code := { maxStack := 1, maxLocals := 1, code := jdk_42_method_154_code, exceptionTable := #[], attributes := #[] }
def k7m7 : Method := { name := "isLatin1", desc := "()Z", sig := { parameters := [], returnType := some .boolean }, accessFlags := 0, code := some k7c7 }
def k7c8 : Code := { maxStack := 3, maxLocals := 2, code := jdk_42_method_155_code, exceptionTable := #[], attributes := #[] }
def k7m8 : Method := { name := "checkIndex", desc := "(II)V", sig := { parameters := [.int, .int], returnType := none }, accessFlags := 8, code := some k7c8 }
/-- java/lang/String -/
def k7 : Class := { plain "java/lang/String" (some 0) with
  accessFlags := 49
  interfaces := #[2, 3, 4, 5, 6]
  cf := some (fileOf pool7 10 #[.nestMembers #[1103]] #[{ accessFlags := 1, nameIndex := 5, descriptorIndex := 6, attributes := #[] }, { accessFlags := 1, nameIndex := 5, descriptorIndex := 1010, attributes := #[] }, { accessFlags := 1, nameIndex := 507, descriptorIndex := 334, attributes := #[] }, { accessFlags := 1, nameIndex := 692, descriptorIndex := 142, attributes := #[] }, { accessFlags := 1, nameIndex := 504, descriptorIndex := 765, attributes := #[] }, { accessFlags := 2, nameIndex := 5, descriptorIndex := 29, attributes := #[] }, { accessFlags := 0, nameIndex := 17, descriptorIndex := 337, attributes := #[] }, { accessFlags := 0, nameIndex := 494, descriptorIndex := 142, attributes := #[] }, { accessFlags := 8, nameIndex := 501, descriptorIndex := 391, attributes := #[] }] 49 2 #[1106, 1108, 575, 1110, 1112] #[{ accessFlags := 18, nameIndex := 13, descriptorIndex := 14, attributes := #[] }, { accessFlags := 18, nameIndex := 17, descriptorIndex := 18, attributes := #[] }, { accessFlags := 2, nameIndex := 21, descriptorIndex := 22, attributes := #[] }, { accessFlags := 2, nameIndex := 25, descriptorIndex := 26, attributes := #[] }, { accessFlags := 26, nameIndex := 1116, descriptorIndex := 1117, attributes := #[] }, { accessFlags := 24, nameIndex := 40, descriptorIndex := 26, attributes := #[] }, { accessFlags := 26, nameIndex := 1101, descriptorIndex := 1102, attributes := #[] }, { accessFlags := 26, nameIndex := 1121, descriptorIndex := 1122, attributes := #[] }, { accessFlags := 25, nameIndex := 599, descriptorIndex := 600, attributes := #[] }, { accessFlags := 24, nameIndex := 1125, descriptorIndex := 18, attributes := #[] }, { accessFlags := 24, nameIndex := 1127, descriptorIndex := 18, attributes := #[] }])
  fields := #[{ name := "value", type := (.array .byte), accessFlags := 18, slot := 0, constantValue := 0 }, { name := "coder", type := .byte, accessFlags := 18, slot := 1, constantValue := 0 }, { name := "hash", type := .int, accessFlags := 2, slot := 2, constantValue := 0 }, { name := "hashIsZero", type := .boolean, accessFlags := 2, slot := 3, constantValue := 0 }, { name := "serialVersionUID", type := .long, accessFlags := 26, slot := 0, constantValue := 0 }, { name := "COMPACT_STRINGS", type := .boolean, accessFlags := 24, slot := 1, constantValue := 0 }, { name := "serialPersistentFields", type := (.array (.object "java/io/ObjectStreamField")), accessFlags := 26, slot := 2, constantValue := 0 }, { name := "REPL", type := .char, accessFlags := 26, slot := 3, constantValue := 0 }, { name := "CASE_INSENSITIVE_ORDER", type := (.object "java/util/Comparator"), accessFlags := 25, slot := 4, constantValue := 0 }, { name := "LATIN1", type := .byte, accessFlags := 24, slot := 5, constantValue := 0 }, { name := "UTF16", type := .byte, accessFlags := 24, slot := 6, constantValue := 0 }]
  methods := #[k7m0, k7m1, k7m2, k7m3, k7m4, k7m5, k7m6, k7m7, k7m8]
  instanceTypes := #[(.array .byte), .byte, .int, .boolean]
  staticTypes := #[.long, .boolean, (.array (.object "java/io/ObjectStreamField")), .char, (.object "java/util/Comparator"), .byte, .byte]
  resolved := Array.replicate 1451 none
  statics := some 0 }

def pool8 : Array CpInfo := pool [(6, .class_ 8), (1, u "java/lang/Object"), (0, u "<init>"), (0, u "()V"), (0, .methodref 12 13), (0, .class_ 14), (0, .nameAndType 15 16), (0, u "java/lang/StringUTF16"), (0, u "newBytesLength"), (0, u "(I)I"), (3, .integer 1073741823), (23, .fieldref 12 45), (0, .nameAndType 46 47), (0, u "$assertionsDisabled"), (0, u "Z"), (11, .fieldref 12 60), (0, .nameAndType 61 62), (0, u "HI_BYTE_SHIFT"), (0, u "I"), (0, .fieldref 12 64), (0, .nameAndType 65 62), (0, u "LO_BYTE_SHIFT"), (5, .methodref 12 72), (0, .nameAndType 73 74), (0, u "getChar"), (0, u "([BI)C"), (0, .methodref 76 77), (0, .class_ 78), (0, .nameAndType 79 80), (0, u "java/lang/Character"), (0, u "isHighSurrogate"), (0, u "(C)Z"), (0, .methodref 76 82), (0, .nameAndType 83 80), (0, u "isLowSurrogate"), (0, .methodref 76 85), (0, .nameAndType 86 87), (0, u "toCodePoint"), (0, u "(CC)I"), (0, .methodref 12 89), (0, .nameAndType 90 91), (0, u "codePointAt"), (0, u "([BIIZ)I"), (15, .methodref 12 108), (0, .nameAndType 109 110), (0, u "newBytesFor"), (0, u "(I)[B"), (0, .methodref 12 112), (0, .nameAndType 113 114), (0, u "putChar"), (0, u "([BII)V"), (0, .methodref 12 116), (0, .nameAndType 117 118), (0, u "compress"), (0, u "([CI[BII)I"), (0, .methodref 12 120), (0, .nameAndType 121 122), (0, u "toBytes"), (0, u "([CII)[B"), (127, u "([BII)I"), (10, u "coderFromArrayLen"), (0, u "([BI)B"), (106, .class_ 371), (1, u "java/lang/StringUTF16$LinesSpliterator"), (58, u "MAX_LENGTH"), (196, .class_ 628), (0, u "java/lang/StringUTF16$CodePointsSpliterator"), (0, .class_ 630), (0, u "java/lang/StringUTF16$CharsSpliterator")] 4

def k8m0 : Method := { name := "<init>", desc := "()V", sig := { parameters := [], returnType := none }, accessFlags := 0, code := none }
def k8c1 : Code := { maxStack := 1, maxLocals := 1, code := jdk_52_method_2_code, exceptionTable := #[], attributes := #[] }
def k8m1 : Method := { name := "newBytesFor", desc := "(I)[B", sig := { parameters := [.int], returnType := some (.array .byte) }, accessFlags := 9, code := some k8c1 }
def k8c2 : Code := { maxStack := 4, maxLocals := 1, code := jdk_52_method_3_code, exceptionTable := #[], attributes := #[] }
def k8m2 : Method := { name := "newBytesLength", desc := "(I)I", sig := { parameters := [.int], returnType := some .int }, accessFlags := 9, code := some k8c2 }
def k8c3 : Code := { maxStack := 4, maxLocals := 3, code := jdk_52_method_4_code, exceptionTable := #[], attributes := #[] }
def k8m3 : Method := { name := "putChar", desc := "([BII)V", sig := { parameters := [(.array .byte), .int, .int], returnType := none }, accessFlags := 8, code := some k8c3 }
def k8c4 : Code := { maxStack := 3, maxLocals := 2, code := jdk_52_method_5_code, exceptionTable := #[], attributes := #[] }
def k8m4 : Method := { name := "getChar", desc := "([BI)C", sig := { parameters := [(.array .byte), .int], returnType := some .char }, accessFlags := 8, code := some k8c4 }
def k8c5 : Code := { maxStack := 2, maxLocals := 6, code := jdk_52_method_7_code, exceptionTable := #[], attributes := #[] }
def k8m5 : Method := { name := "codePointAt", desc := "([BIIZ)I", sig := { parameters := [(.array .byte), .int, .int, .boolean], returnType := some .int }, accessFlags := 10, code := some k8c5 }
def k8c6 : Code := { maxStack := 4, maxLocals := 3, code := jdk_52_method_8_code, exceptionTable := #[], attributes := #[] }
def k8m6 : Method := { name := "codePointAt", desc := "([BII)I", sig := { parameters := [(.array .byte), .int, .int], returnType := some .int }, accessFlags := 9, code := some k8c6 }
def k8c7 : Code := { maxStack := 4, maxLocals := 5, code := jdk_52_method_14_code, exceptionTable := #[], attributes := #[] }
def k8m7 : Method := { name := "toBytes", desc := "([CII)[B", sig := { parameters := [(.array .char), .int, .int], returnType := some (.array .byte) }, accessFlags := 9, code := some k8c7 }
def k8c8 : Code := { maxStack := 2, maxLocals := 2, code := jdk_52_method_15_code, exceptionTable := #[], attributes := #[] }
def k8m8 : Method := { name := "coderFromArrayLen", desc := "([BI)B", sig := { parameters := [(.array .byte), .int], returnType := some .byte }, accessFlags := 8, code := some k8c8 }
def k8c9 : Code := { maxStack := 5, maxLocals := 6, code := jdk_52_method_16_code, exceptionTable := #[], attributes := #[] }
def k8m9 : Method := { name := "compress", desc := "([CII)[B", sig := { parameters := [(.array .char), .int, .int], returnType := some (.array .byte) }, accessFlags := 9, code := some k8c9 }
def k8c10 : Code := { maxStack := 3, maxLocals := 7, code := jdk_52_method_21_code, exceptionTable := #[], attributes := #[] }
def k8m10 : Method := { name := "compress", desc := "([CI[BII)I", sig := { parameters := [(.array .char), .int, (.array .byte), .int, .int], returnType := some .int }, accessFlags := 9, code := some k8c10 }
/-- java/lang/StringUTF16 -/
def k8 : Class := { plain "java/lang/StringUTF16" (some 0) with
  accessFlags := 48
  interfaces := #[]
  cf := some (fileOf pool8 12 #[.nestMembers #[627, 629, 369]] #[{ accessFlags := 0, nameIndex := 9, descriptorIndex := 10, attributes := #[] }, { accessFlags := 9, nameIndex := 109, descriptorIndex := 110, attributes := #[] }, { accessFlags := 9, nameIndex := 15, descriptorIndex := 16, attributes := #[] }, { accessFlags := 8, nameIndex := 113, descriptorIndex := 114, attributes := #[] }, { accessFlags := 8, nameIndex := 73, descriptorIndex := 74, attributes := #[] }, { accessFlags := 10, nameIndex := 90, descriptorIndex := 91, attributes := #[] }, { accessFlags := 9, nameIndex := 90, descriptorIndex := 250, attributes := #[] }, { accessFlags := 9, nameIndex := 121, descriptorIndex := 122, attributes := #[] }, { accessFlags := 8, nameIndex := 261, descriptorIndex := 262, attributes := #[] }, { accessFlags := 9, nameIndex := 117, descriptorIndex := 122, attributes := #[] }, { accessFlags := 9, nameIndex := 117, descriptorIndex := 118, attributes := #[] }] 48 6 #[] #[{ accessFlags := 26, nameIndex := 61, descriptorIndex := 62, attributes := #[] }, { accessFlags := 26, nameIndex := 65, descriptorIndex := 62, attributes := #[] }, { accessFlags := 24, nameIndex := 430, descriptorIndex := 62, attributes := #[] }, { accessFlags := 4120, nameIndex := 46, descriptorIndex := 47, attributes := #[] }])
  fields := #[{ name := "HI_BYTE_SHIFT", type := .int, accessFlags := 26, slot := 0, constantValue := 0 }, { name := "LO_BYTE_SHIFT", type := .int, accessFlags := 26, slot := 1, constantValue := 0 }, { name := "MAX_LENGTH", type := .int, accessFlags := 24, slot := 2, constantValue := 0 }, { name := "$assertionsDisabled", type := .boolean, accessFlags := 4120, slot := 3, constantValue := 0 }]
  methods := #[k8m0, k8m1, k8m2, k8m3, k8m4, k8m5, k8m6, k8m7, k8m8, k8m9, k8m10]
  instanceTypes := #[]
  staticTypes := #[.int, .int, .int, .boolean]
  resolved := Array.replicate 635 none
  statics := some 1 }

def pool9 : Array CpInfo := pool [(2, .class_ 4), (1, u "java/lang/Object"), (0, u "<init>"), (0, u "()V"), (0, .string 8), (0, u "key"), (0, .methodref 10 11), (0, .class_ 12), (0, .nameAndType 13 14), (0, u "java/util/Objects"), (0, u "requireNonNull"), (0, u "(Ljava/lang/Object;Ljava/lang/String;)Ljava/lang/Object;"), (0, .methodref 16 17), (0, .class_ 18), (0, .nameAndType 19 20), (0, u "java/lang/String"), (0, u "isEmpty"), (0, u "()Z"), (6, u "(Ljava/lang/String;)V"), (0, .methodref 16 29), (0, .nameAndType 30 31), (0, u "length"), (0, u "()I"), (0, .methodref 16 33), (0, .nameAndType 34 35), (0, u "codePointAt"), (0, u "(I)I"), (0, .class_ 37), (0, u "java/lang/Character"), (0, .integer 55296), (0, .integer 57343), (12, .methodref 36 53), (0, .nameAndType 54 35), (0, u "charCount"), (0, .class_ 56), (0, u "com/example/seize/seize/LockLimits"), (6, u "MIN_TIME_TO_LIVE"), (0, u "Ljava/time/Duration;"), (8, u "MAX_TIME_TO_LIVE"), (21, u "MAX_WAIT"), (13, u "MAX_KEY_CODE_POINTS"), (0, u "I"), (4, u "checkKey")] 7

def k9m0 : Method := { name := "<init>", desc := "()V", sig := { parameters := [], returnType := none }, accessFlags := 2, code := none }
def k9c1 : Code := { maxStack := 7, maxLocals := 4, code := prog_6_method_2_code, exceptionTable := #[], attributes := #[] }
def k9m1 : Method := { name := "checkKey", desc := "(Ljava/lang/String;)V", sig := { parameters := [(.object "java/lang/String")], returnType := none }, accessFlags := 8, code := some k9c1 }
/-- com/example/seize/seize/LockLimits -/
def k9 : Class := { plain "com/example/seize/seize/LockLimits" (some 0) with
  accessFlags := 48
  interfaces := #[]
  cf := some (fileOf pool9 55 #[] #[{ accessFlags := 2, nameIndex := 5, descriptorIndex := 6, attributes := #[] }, { accessFlags := 8, nameIndex := 115, descriptorIndex := 27, attributes := #[] }] 48 2 #[] #[{ accessFlags := 24, nameIndex := 109, descriptorIndex := 110, attributes := #[] }, { accessFlags := 24, nameIndex := 63, descriptorIndex := 64, attributes := #[] }, { accessFlags := 24, nameIndex := 73, descriptorIndex := 64, attributes := #[] }, { accessFlags := 24, nameIndex := 95, descriptorIndex := 64, attributes := #[] }])
  fields := #[{ name := "MAX_KEY_CODE_POINTS", type := .int, accessFlags := 24, slot := 0, constantValue := 0 }, { name := "MIN_TIME_TO_LIVE", type := (.object "java/time/Duration"), accessFlags := 24, slot := 1, constantValue := 0 }, { name := "MAX_TIME_TO_LIVE", type := (.object "java/time/Duration"), accessFlags := 24, slot := 2, constantValue := 0 }, { name := "MAX_WAIT", type := (.object "java/time/Duration"), accessFlags := 24, slot := 3, constantValue := 0 }]
  methods := #[k9m0, k9m1]
  instanceTypes := #[]
  staticTypes := #[.int, (.object "java/time/Duration"), (.object "java/time/Duration"), (.object "java/time/Duration")]
  resolved := Array.replicate 123 none
  statics := none }

def pool10 : Array CpInfo := pool [(2, .class_ 4), (1, u "java/lang/Object"), (0, u "<init>"), (0, u "()V"), (35, .class_ 44), (1, u "java/util/Objects"), (0, u "requireNonNull"), (48, u "(Ljava/lang/Object;Ljava/lang/String;)Ljava/lang/Object;")] 89

def k10m0 : Method := { name := "<init>", desc := "()V", sig := { parameters := [], returnType := none }, accessFlags := 2, code := none }
def k10c1 : Code := { maxStack := 3, maxLocals := 2, code := jdk_31_method_11_code, exceptionTable := #[], attributes := #[] }
def k10m1 : Method := { name := "requireNonNull", desc := "(Ljava/lang/Object;Ljava/lang/String;)Ljava/lang/Object;", sig := { parameters := [(.object "java/lang/Object"), (.object "java/lang/String")], returnType := some (.object "java/lang/Object") }, accessFlags := 9, code := some k10c1 }
/-- java/util/Objects -/
def k10 : Class := { plain "java/util/Objects" (some 0) with
  accessFlags := 49
  interfaces := #[]
  cf := some (fileOf pool10 42 #[] #[{ accessFlags := 2, nameIndex := 5, descriptorIndex := 6, attributes := #[] }, { accessFlags := 9, nameIndex := 45, descriptorIndex := 94, attributes := #[] }] 49 2 #[] #[])
  fields := #[]
  methods := #[k10m0, k10m1]
  instanceTypes := #[]
  staticTypes := #[]
  resolved := Array.replicate 184 none
  statics := none }

def pool11 : Array CpInfo := pool [(2, .class_ 4), (1, u "java/lang/Object"), (0, u "<init>"), (0, u "()V"), (17, .class_ 26), (1, u "jdk/internal/util/Preconditions"), (6, u "checkIndex"), (21, .class_ 56), (0, u "jdk/internal/util/Preconditions$4"), (57, .class_ 115), (0, u "jdk/internal/util/Preconditions$1"), (7, u "SIOOBE_FORMATTER"), (0, u "Ljava/util/function/BiFunction;"), (0, .class_ 126), (0, u "jdk/internal/util/Preconditions$2"), (3, u "AIOOBE_FORMATTER"), (0, .class_ 132), (0, u "jdk/internal/util/Preconditions$3"), (3, u "IOOBE_FORMATTER"), (41, u "(IILjava/util/function/BiFunction;)I")] 15

def k11m0 : Method := { name := "<init>", desc := "()V", sig := { parameters := [], returnType := none }, accessFlags := 1, code := none }
def k11c1 : Code := { maxStack := 3, maxLocals := 3, code := jdk_41_method_11_code, exceptionTable := #[], attributes := #[] }
def k11m1 : Method := { name := "checkIndex", desc := "(IILjava/util/function/BiFunction;)I", sig := { parameters := [.int, .int, (.object "java/util/function/BiFunction")], returnType := some .int }, accessFlags := 9, code := some k11c1 }
/-- jdk/internal/util/Preconditions -/
def k11 : Class := { plain "jdk/internal/util/Preconditions" (some 0) with
  accessFlags := 33
  interfaces := #[]
  cf := some (fileOf pool11 24 #[.nestMembers #[55, 131, 125, 114]] #[{ accessFlags := 1, nameIndex := 5, descriptorIndex := 6, attributes := #[] }, { accessFlags := 9, nameIndex := 33, descriptorIndex := 178, attributes := #[] }] 33 2 #[] #[{ accessFlags := 25, nameIndex := 123, descriptorIndex := 124, attributes := #[] }, { accessFlags := 25, nameIndex := 130, descriptorIndex := 124, attributes := #[] }, { accessFlags := 25, nameIndex := 136, descriptorIndex := 124, attributes := #[] }])
  fields := #[{ name := "SIOOBE_FORMATTER", type := (.object "java/util/function/BiFunction"), accessFlags := 25, slot := 0, constantValue := 0 }, { name := "AIOOBE_FORMATTER", type := (.object "java/util/function/BiFunction"), accessFlags := 25, slot := 1, constantValue := 0 }, { name := "IOOBE_FORMATTER", type := (.object "java/util/function/BiFunction"), accessFlags := 25, slot := 2, constantValue := 0 }]
  methods := #[k11m0, k11m1]
  instanceTypes := #[]
  staticTypes := #[(.object "java/util/function/BiFunction"), (.object "java/util/function/BiFunction"), (.object "java/util/function/BiFunction")]
  resolved := Array.replicate 194 none
  statics := some 2 }

def pool12 : Array CpInfo := pool [(1, .class_ 2), (0, u "java/lang/Character"), (18, u "value"), (0, u "C"), (19, .class_ 44), (1, u "java/lang/Object"), (3, .class_ 50), (1, u "java/lang/Character$CharacterCache"), (22, .integer 65536), (1, .integer 55296), (0, .integer 56320), (0, .integer 57344), (2, u "isHighSurrogate"), (0, u "(C)Z"), (2, u "isLowSurrogate"), (0, .integer 4238353408), (12, u "toCodePoint"), (0, u "(CC)I"), (74, u "(I)I"), (109, u "$assertionsDisabled"), (0, u "Z"), (21, .class_ 309), (1, u "java/lang/Character$UnicodeBlock"), (73, u "TYPE"), (0, u "Ljava/lang/Class;"), (0, .class_ 386), (0, u "java/io/Serializable"), (0, .class_ 388), (0, u "java/lang/Comparable"), (0, .class_ 390), (0, u "java/lang/constant/Constable"), (0, u "MIN_RADIX"), (0, u "I"), (2, u "MAX_RADIX"), (1, u "MIN_VALUE"), (1, u "MAX_VALUE"), (3, u "UNASSIGNED"), (0, u "B"), (0, u "UPPERCASE_LETTER"), (1, u "LOWERCASE_LETTER"), (0, u "TITLECASE_LETTER"), (1, u "MODIFIER_LETTER"), (1, u "OTHER_LETTER"), (1, u "NON_SPACING_MARK"), (1, u "ENCLOSING_MARK"), (1, u "COMBINING_SPACING_MARK"), (1, u "DECIMAL_DIGIT_NUMBER"), (1, u "LETTER_NUMBER"), (1, u "OTHER_NUMBER"), (1, u "SPACE_SEPARATOR"), (1, u "LINE_SEPARATOR"), (1, u "PARAGRAPH_SEPARATOR"), (1, u "CONTROL"), (1, u "FORMAT"), (1, u "PRIVATE_USE"), (1, u "SURROGATE"), (1, u "DASH_PUNCTUATION"), (1, u "START_PUNCTUATION"), (1, u "END_PUNCTUATION"), (1, u "CONNECTOR_PUNCTUATION"), (1, u "OTHER_PUNCTUATION"), (1, u "MATH_SYMBOL"), (1, u "CURRENCY_SYMBOL"), (1, u "MODIFIER_SYMBOL"), (1, u "OTHER_SYMBOL"), (1, u "INITIAL_QUOTE_PUNCTUATION"), (1, u "FINAL_QUOTE_PUNCTUATION"), (1, u "ERROR"), (1, u "DIRECTIONALITY_UNDEFINED"), (0, u "DIRECTIONALITY_LEFT_TO_RIGHT"), (0, u "DIRECTIONALITY_RIGHT_TO_LEFT"), (0, u "DIRECTIONALITY_RIGHT_TO_LEFT_ARABIC"), (0, u "DIRECTIONALITY_EUROPEAN_NUMBER"), (0, u "DIRECTIONALITY_EUROPEAN_NUMBER_SEPARATOR"), (0, u "DIRECTIONALITY_EUROPEAN_NUMBER_TERMINATOR"), (0, u "DIRECTIONALITY_ARABIC_NUMBER"), (0, u "DIRECTIONALITY_COMMON_NUMBER_SEPARATOR"), (0, u "DIRECTIONALITY_NONSPACING_MARK"), (0, u "DIRECTIONALITY_BOUNDARY_NEUTRAL"), (0, u "DIRECTIONALITY_PARAGRAPH_SEPARATOR"), (0, u "DIRECTIONALITY_SEGMENT_SEPARATOR"), (0, u "DIRECTIONALITY_WHITESPACE"), (0, u "DIRECTIONALITY_OTHER_NEUTRALS"), (0, u "DIRECTIONALITY_LEFT_TO_RIGHT_EMBEDDING"), (0, u "DIRECTIONALITY_LEFT_TO_RIGHT_OVERRIDE"), (0, u "DIRECTIONALITY_RIGHT_TO_LEFT_EMBEDDING"), (0, u "DIRECTIONALITY_RIGHT_TO_LEFT_OVERRIDE"), (1, u "DIRECTIONALITY_POP_DIRECTIONAL_FORMAT"), (0, u "DIRECTIONALITY_LEFT_TO_RIGHT_ISOLATE"), (0, u "DIRECTIONALITY_RIGHT_TO_LEFT_ISOLATE"), (0, u "DIRECTIONALITY_FIRST_STRONG_ISOLATE"), (0, u "DIRECTIONALITY_POP_DIRECTIONAL_ISOLATE"), (0, u "MIN_HIGH_SURROGATE"), (0, u "MAX_HIGH_SURROGATE"), (1, u "MIN_LOW_SURROGATE"), (0, u "MAX_LOW_SURROGATE"), (1, u "MIN_SURROGATE"), (0, u "MAX_SURROGATE"), (0, u "MIN_SUPPLEMENTARY_CODE_POINT"), (0, u "MIN_CODE_POINT"), (0, u "MAX_CODE_POINT"), (1, u "serialVersionUID"), (0, u "J"), (2, u "SIZE"), (0, u "BYTES"), (29, u "charCount"), (58, .class_ 596), (0, u "java/lang/Character$UnicodeScript"), (0, .class_ 598), (0, u "java/lang/Character$Subset")] 5

def k12c0 : Code := { maxStack := 2, maxLocals := 1, code := jdk_89_method_14_code, exceptionTable := #[], attributes := #[] }
def k12m0 : Method := { name := "isHighSurrogate", desc := "(C)Z", sig := { parameters := [.char], returnType := some .boolean }, accessFlags := 9, code := some k12c0 }
def k12c1 : Code := { maxStack := 2, maxLocals := 1, code := jdk_89_method_15_code, exceptionTable := #[], attributes := #[] }
def k12m1 : Method := { name := "isLowSurrogate", desc := "(C)Z", sig := { parameters := [.char], returnType := some .boolean }, accessFlags := 9, code := some k12c1 }
def k12c2 : Code := { maxStack := 2, maxLocals := 1, code := jdk_89_method_18_code, exceptionTable := #[], attributes := #[] }
def k12m2 : Method := { name := "charCount", desc := "(I)I", sig := { parameters := [.int], returnType := some .int }, accessFlags := 9, code := some k12c2 }
def k12c3 : Code := { maxStack := 2, maxLocals := 2, code := jdk_89_method_19_code, exceptionTable := #[], attributes := #[] }
def k12m3 : Method := { name := "toCodePoint", desc := "(CC)I", sig := { parameters := [.char, .char], returnType := some .int }, accessFlags := 9, code := some k12c3 }
/-- java/lang/Character -/
def k12 : Class := { plain "java/lang/Character" (some 0) with
  accessFlags := 49
  interfaces := #[2, 3, 5]
  cf := some (fileOf pool12 1 #[.nestMembers #[48, 595, 307, 597]] #[{ accessFlags := 9, nameIndex := 80, descriptorIndex := 81, attributes := #[] }, { accessFlags := 9, nameIndex := 84, descriptorIndex := 81, attributes := #[] }, { accessFlags := 9, nameIndex := 536, descriptorIndex := 174, attributes := #[] }, { accessFlags := 9, nameIndex := 98, descriptorIndex := 99, attributes := #[] }] 49 42 #[385, 387, 389] #[{ accessFlags := 25, nameIndex := 391, descriptorIndex := 392, attributes := #[] }, { accessFlags := 25, nameIndex := 395, descriptorIndex := 392, attributes := #[] }, { accessFlags := 25, nameIndex := 397, descriptorIndex := 22, attributes := #[] }, { accessFlags := 25, nameIndex := 399, descriptorIndex := 22, attributes := #[] }, { accessFlags := 25, nameIndex := 383, descriptorIndex := 384, attributes := #[] }, { accessFlags := 25, nameIndex := 403, descriptorIndex := 404, attributes := #[] }, { accessFlags := 25, nameIndex := 405, descriptorIndex := 404, attributes := #[] }, { accessFlags := 25, nameIndex := 407, descriptorIndex := 404, attributes := #[] }, { accessFlags := 25, nameIndex := 408, descriptorIndex := 404, attributes := #[] }, { accessFlags := 25, nameIndex := 410, descriptorIndex := 404, attributes := #[] }, { accessFlags := 25, nameIndex := 412, descriptorIndex := 404, attributes := #[] }, { accessFlags := 25, nameIndex := 414, descriptorIndex := 404, attributes := #[] }, { accessFlags := 25, nameIndex := 416, descriptorIndex := 404, attributes := #[] }, { accessFlags := 25, nameIndex := 418, descriptorIndex := 404, attributes := #[] }, { accessFlags := 25, nameIndex := 420, descriptorIndex := 404, attributes := #[] }, { accessFlags := 25, nameIndex := 422, descriptorIndex := 404, attributes := #[] }, { accessFlags := 25, nameIndex := 424, descriptorIndex := 404, attributes := #[] }, { accessFlags := 25, nameIndex := 426, descriptorIndex := 404, attributes := #[] }, { accessFlags := 25, nameIndex := 428, descriptorIndex := 404, attributes := #[] }, { accessFlags := 25, nameIndex := 430, descriptorIndex := 404, attributes := #[] }, { accessFlags := 25, nameIndex := 432, descriptorIndex := 404, attributes := #[] }, { accessFlags := 25, nameIndex := 434, descriptorIndex := 404, attributes := #[] }, { accessFlags := 25, nameIndex := 436, descriptorIndex := 404, attributes := #[] }, { accessFlags := 25, nameIndex := 438, descriptorIndex := 404, attributes := #[] }, { accessFlags := 25, nameIndex := 440, descriptorIndex := 404, attributes := #[] }, { accessFlags := 25, nameIndex := 442, descriptorIndex := 404, attributes := #[] }, { accessFlags := 25, nameIndex := 444, descriptorIndex := 404, attributes := #[] }, { accessFlags := 25, nameIndex := 446, descriptorIndex := 404, attributes := #[] }, { accessFlags := 25, nameIndex := 448, descriptorIndex := 404, attributes := #[] }, { accessFlags := 25, nameIndex := 450, descriptorIndex := 404, attributes := #[] }, { accessFlags := 25, nameIndex := 452, descriptorIndex := 404, attributes := #[] }, { accessFlags := 25, nameIndex := 454, descriptorIndex := 404, attributes := #[] }, { accessFlags := 25, nameIndex := 456, descriptorIndex := 404, attributes := #[] }, { accessFlags := 25, nameIndex := 458, descriptorIndex := 404, attributes := #[] }, { accessFlags := 25, nameIndex := 460, descriptorIndex := 404, attributes := #[] }, { accessFlags := 24, nameIndex := 462, descriptorIndex := 392, attributes := #[] }, { accessFlags := 25, nameIndex := 464, descriptorIndex := 404, attributes := #[] }, { accessFlags := 25, nameIndex := 465, descriptorIndex := 404, attributes := #[] }, { accessFlags := 25, nameIndex := 466, descriptorIndex := 404, attributes := #[] }, { accessFlags := 25, nameIndex := 467, descriptorIndex := 404, attributes := #[] }, { accessFlags := 25, nameIndex := 468, descriptorIndex := 404, attributes := #[] }, { accessFlags := 25, nameIndex := 469, descriptorIndex := 404, attributes := #[] }, { accessFlags := 25, nameIndex := 470, descriptorIndex := 404, attributes := #[] }, { accessFlags := 25, nameIndex := 471, descriptorIndex := 404, attributes := #[] }, { accessFlags := 25, nameIndex := 472, descriptorIndex := 404, attributes := #[] }, { accessFlags := 25, nameIndex := 473, descriptorIndex := 404, attributes := #[] }, { accessFlags := 25, nameIndex := 474, descriptorIndex := 404, attributes := #[] }, { accessFlags := 25, nameIndex := 475, descriptorIndex := 404, attributes := #[] }, { accessFlags := 25, nameIndex := 476, descriptorIndex := 404, attributes := #[] }, { accessFlags := 25, nameIndex := 477, descriptorIndex := 404, attributes := #[] }, { accessFlags := 25, nameIndex := 478, descriptorIndex := 404, attributes := #[] }, { accessFlags := 25, nameIndex := 479, descriptorIndex := 404, attributes := #[] }, { accessFlags := 25, nameIndex := 480, descriptorIndex := 404, attributes := #[] }, { accessFlags := 25, nameIndex := 481, descriptorIndex := 404, attributes := #[] }, { accessFlags := 25, nameIndex := 482, descriptorIndex := 404, attributes := #[] }, { accessFlags := 25, nameIndex := 484, descriptorIndex := 404, attributes := #[] }, { accessFlags := 25, nameIndex := 485, descriptorIndex := 404, attributes := #[] }, { accessFlags := 25, nameIndex := 486, descriptorIndex := 404, attributes := #[] }, { accessFlags := 25, nameIndex := 487, descriptorIndex := 404, attributes := #[] }, { accessFlags := 25, nameIndex := 488, descriptorIndex := 404, attributes := #[] }, { accessFlags := 25, nameIndex := 489, descriptorIndex := 22, attributes := #[] }, { accessFlags := 25, nameIndex := 490, descriptorIndex := 22, attributes := #[] }, { accessFlags := 25, nameIndex := 492, descriptorIndex := 22, attributes := #[] }, { accessFlags := 25, nameIndex := 493, descriptorIndex := 22, attributes := #[] }, { accessFlags := 25, nameIndex := 495, descriptorIndex := 22, attributes := #[] }, { accessFlags := 25, nameIndex := 496, descriptorIndex := 22, attributes := #[] }, { accessFlags := 25, nameIndex := 497, descriptorIndex := 392, attributes := #[] }, { accessFlags := 25, nameIndex := 498, descriptorIndex := 392, attributes := #[] }, { accessFlags := 25, nameIndex := 499, descriptorIndex := 392, attributes := #[] }, { accessFlags := 18, nameIndex := 21, descriptorIndex := 22, attributes := #[] }, { accessFlags := 26, nameIndex := 501, descriptorIndex := 502, attributes := #[] }, { accessFlags := 25, nameIndex := 505, descriptorIndex := 392, attributes := #[] }, { accessFlags := 25, nameIndex := 506, descriptorIndex := 392, attributes := #[] }, { accessFlags := 4120, nameIndex := 284, descriptorIndex := 285, attributes := #[] }])
  fields := #[{ name := "MIN_RADIX", type := .int, accessFlags := 25, slot := 0, constantValue := 0 }, { name := "MAX_RADIX", type := .int, accessFlags := 25, slot := 1, constantValue := 0 }, { name := "MIN_VALUE", type := .char, accessFlags := 25, slot := 2, constantValue := 0 }, { name := "MAX_VALUE", type := .char, accessFlags := 25, slot := 3, constantValue := 0 }, { name := "TYPE", type := (.object "java/lang/Class"), accessFlags := 25, slot := 4, constantValue := 0 }, { name := "UNASSIGNED", type := .byte, accessFlags := 25, slot := 5, constantValue := 0 }, { name := "UPPERCASE_LETTER", type := .byte, accessFlags := 25, slot := 6, constantValue := 0 }, { name := "LOWERCASE_LETTER", type := .byte, accessFlags := 25, slot := 7, constantValue := 0 }, { name := "TITLECASE_LETTER", type := .byte, accessFlags := 25, slot := 8, constantValue := 0 }, { name := "MODIFIER_LETTER", type := .byte, accessFlags := 25, slot := 9, constantValue := 0 }, { name := "OTHER_LETTER", type := .byte, accessFlags := 25, slot := 10, constantValue := 0 }, { name := "NON_SPACING_MARK", type := .byte, accessFlags := 25, slot := 11, constantValue := 0 }, { name := "ENCLOSING_MARK", type := .byte, accessFlags := 25, slot := 12, constantValue := 0 }, { name := "COMBINING_SPACING_MARK", type := .byte, accessFlags := 25, slot := 13, constantValue := 0 }, { name := "DECIMAL_DIGIT_NUMBER", type := .byte, accessFlags := 25, slot := 14, constantValue := 0 }, { name := "LETTER_NUMBER", type := .byte, accessFlags := 25, slot := 15, constantValue := 0 }, { name := "OTHER_NUMBER", type := .byte, accessFlags := 25, slot := 16, constantValue := 0 }, { name := "SPACE_SEPARATOR", type := .byte, accessFlags := 25, slot := 17, constantValue := 0 }, { name := "LINE_SEPARATOR", type := .byte, accessFlags := 25, slot := 18, constantValue := 0 }, { name := "PARAGRAPH_SEPARATOR", type := .byte, accessFlags := 25, slot := 19, constantValue := 0 }, { name := "CONTROL", type := .byte, accessFlags := 25, slot := 20, constantValue := 0 }, { name := "FORMAT", type := .byte, accessFlags := 25, slot := 21, constantValue := 0 }, { name := "PRIVATE_USE", type := .byte, accessFlags := 25, slot := 22, constantValue := 0 }, { name := "SURROGATE", type := .byte, accessFlags := 25, slot := 23, constantValue := 0 }, { name := "DASH_PUNCTUATION", type := .byte, accessFlags := 25, slot := 24, constantValue := 0 }, { name := "START_PUNCTUATION", type := .byte, accessFlags := 25, slot := 25, constantValue := 0 }, { name := "END_PUNCTUATION", type := .byte, accessFlags := 25, slot := 26, constantValue := 0 }, { name := "CONNECTOR_PUNCTUATION", type := .byte, accessFlags := 25, slot := 27, constantValue := 0 }, { name := "OTHER_PUNCTUATION", type := .byte, accessFlags := 25, slot := 28, constantValue := 0 }, { name := "MATH_SYMBOL", type := .byte, accessFlags := 25, slot := 29, constantValue := 0 }, { name := "CURRENCY_SYMBOL", type := .byte, accessFlags := 25, slot := 30, constantValue := 0 }, { name := "MODIFIER_SYMBOL", type := .byte, accessFlags := 25, slot := 31, constantValue := 0 }, { name := "OTHER_SYMBOL", type := .byte, accessFlags := 25, slot := 32, constantValue := 0 }, { name := "INITIAL_QUOTE_PUNCTUATION", type := .byte, accessFlags := 25, slot := 33, constantValue := 0 }, { name := "FINAL_QUOTE_PUNCTUATION", type := .byte, accessFlags := 25, slot := 34, constantValue := 0 }, { name := "ERROR", type := .int, accessFlags := 24, slot := 35, constantValue := 0 }, { name := "DIRECTIONALITY_UNDEFINED", type := .byte, accessFlags := 25, slot := 36, constantValue := 0 }, { name := "DIRECTIONALITY_LEFT_TO_RIGHT", type := .byte, accessFlags := 25, slot := 37, constantValue := 0 }, { name := "DIRECTIONALITY_RIGHT_TO_LEFT", type := .byte, accessFlags := 25, slot := 38, constantValue := 0 }, { name := "DIRECTIONALITY_RIGHT_TO_LEFT_ARABIC", type := .byte, accessFlags := 25, slot := 39, constantValue := 0 }, { name := "DIRECTIONALITY_EUROPEAN_NUMBER", type := .byte, accessFlags := 25, slot := 40, constantValue := 0 }, { name := "DIRECTIONALITY_EUROPEAN_NUMBER_SEPARATOR", type := .byte, accessFlags := 25, slot := 41, constantValue := 0 }, { name := "DIRECTIONALITY_EUROPEAN_NUMBER_TERMINATOR", type := .byte, accessFlags := 25, slot := 42, constantValue := 0 }, { name := "DIRECTIONALITY_ARABIC_NUMBER", type := .byte, accessFlags := 25, slot := 43, constantValue := 0 }, { name := "DIRECTIONALITY_COMMON_NUMBER_SEPARATOR", type := .byte, accessFlags := 25, slot := 44, constantValue := 0 }, { name := "DIRECTIONALITY_NONSPACING_MARK", type := .byte, accessFlags := 25, slot := 45, constantValue := 0 }, { name := "DIRECTIONALITY_BOUNDARY_NEUTRAL", type := .byte, accessFlags := 25, slot := 46, constantValue := 0 }, { name := "DIRECTIONALITY_PARAGRAPH_SEPARATOR", type := .byte, accessFlags := 25, slot := 47, constantValue := 0 }, { name := "DIRECTIONALITY_SEGMENT_SEPARATOR", type := .byte, accessFlags := 25, slot := 48, constantValue := 0 }, { name := "DIRECTIONALITY_WHITESPACE", type := .byte, accessFlags := 25, slot := 49, constantValue := 0 }, { name := "DIRECTIONALITY_OTHER_NEUTRALS", type := .byte, accessFlags := 25, slot := 50, constantValue := 0 }, { name := "DIRECTIONALITY_LEFT_TO_RIGHT_EMBEDDING", type := .byte, accessFlags := 25, slot := 51, constantValue := 0 }, { name := "DIRECTIONALITY_LEFT_TO_RIGHT_OVERRIDE", type := .byte, accessFlags := 25, slot := 52, constantValue := 0 }, { name := "DIRECTIONALITY_RIGHT_TO_LEFT_EMBEDDING", type := .byte, accessFlags := 25, slot := 53, constantValue := 0 }, { name := "DIRECTIONALITY_RIGHT_TO_LEFT_OVERRIDE", type := .byte, accessFlags := 25, slot := 54, constantValue := 0 }, { name := "DIRECTIONALITY_POP_DIRECTIONAL_FORMAT", type := .byte, accessFlags := 25, slot := 55, constantValue := 0 }, { name := "DIRECTIONALITY_LEFT_TO_RIGHT_ISOLATE", type := .byte, accessFlags := 25, slot := 56, constantValue := 0 }, { name := "DIRECTIONALITY_RIGHT_TO_LEFT_ISOLATE", type := .byte, accessFlags := 25, slot := 57, constantValue := 0 }, { name := "DIRECTIONALITY_FIRST_STRONG_ISOLATE", type := .byte, accessFlags := 25, slot := 58, constantValue := 0 }, { name := "DIRECTIONALITY_POP_DIRECTIONAL_ISOLATE", type := .byte, accessFlags := 25, slot := 59, constantValue := 0 }, { name := "MIN_HIGH_SURROGATE", type := .char, accessFlags := 25, slot := 60, constantValue := 0 }, { name := "MAX_HIGH_SURROGATE", type := .char, accessFlags := 25, slot := 61, constantValue := 0 }, { name := "MIN_LOW_SURROGATE", type := .char, accessFlags := 25, slot := 62, constantValue := 0 }, { name := "MAX_LOW_SURROGATE", type := .char, accessFlags := 25, slot := 63, constantValue := 0 }, { name := "MIN_SURROGATE", type := .char, accessFlags := 25, slot := 64, constantValue := 0 }, { name := "MAX_SURROGATE", type := .char, accessFlags := 25, slot := 65, constantValue := 0 }, { name := "MIN_SUPPLEMENTARY_CODE_POINT", type := .int, accessFlags := 25, slot := 66, constantValue := 0 }, { name := "MIN_CODE_POINT", type := .int, accessFlags := 25, slot := 67, constantValue := 0 }, { name := "MAX_CODE_POINT", type := .int, accessFlags := 25, slot := 68, constantValue := 0 }, { name := "value", type := .char, accessFlags := 18, slot := 0, constantValue := 0 }, { name := "serialVersionUID", type := .long, accessFlags := 26, slot := 69, constantValue := 0 }, { name := "SIZE", type := .int, accessFlags := 25, slot := 70, constantValue := 0 }, { name := "BYTES", type := .int, accessFlags := 25, slot := 71, constantValue := 0 }, { name := "$assertionsDisabled", type := .boolean, accessFlags := 4120, slot := 72, constantValue := 0 }]
  methods := #[k12m0, k12m1, k12m2, k12m3]
  instanceTypes := #[.char]
  staticTypes := #[.int, .int, .char, .char, (.object "java/lang/Class"), .byte, .byte, .byte, .byte, .byte, .byte, .byte, .byte, .byte, .byte, .byte, .byte, .byte, .byte, .byte, .byte, .byte, .byte, .byte, .byte, .byte, .byte, .byte, .byte, .byte, .byte, .byte, .byte, .byte, .byte, .int, .byte, .byte, .byte, .byte, .byte, .byte, .byte, .byte, .byte, .byte, .byte, .byte, .byte, .byte, .byte, .byte, .byte, .byte, .byte, .byte, .byte, .byte, .byte, .byte, .char, .char, .char, .char, .char, .char, .int, .int, .int, .long, .int, .int, .boolean]
  resolved := Array.replicate 604 none
  statics := none }

def pool13 : Array CpInfo := pool [(4, .class_ 6), (1, u "java/lang/Object"), (0, u "<init>"), (0, u "()V"), (5, .class_ 16), (1, u "java/lang/StringLatin1"), (104, u "$assertionsDisabled"), (0, u "Z"), (98, .class_ 223), (1, u "java/lang/StringLatin1$LinesSpliterator"), (166, .class_ 391), (0, u "java/lang/StringLatin1$CharsSpliterator")] 3

def k13m0 : Method := { name := "<init>", desc := "()V", sig := { parameters := [], returnType := none }, accessFlags := 0, code := none }
/-- java/lang/StringLatin1 -/
def k13 : Class := { plain "java/lang/StringLatin1" (some 0) with
  accessFlags := 48
  interfaces := #[]
  cf := some (fileOf pool13 14 #[.nestMembers #[390, 221]] #[{ accessFlags := 0, nameIndex := 7, descriptorIndex := 8, attributes := #[] }] 48 4 #[] #[{ accessFlags := 4120, nameIndex := 121, descriptorIndex := 122, attributes := #[] }])
  fields := #[{ name := "$assertionsDisabled", type := .boolean, accessFlags := 4120, slot := 0, constantValue := 0 }]
  methods := #[k13m0]
  instanceTypes := #[]
  staticTypes := #[.boolean]
  resolved := Array.replicate 395 none
  statics := none }

def pool14 : Array CpInfo := pool [(9, u "<init>"), (6, .class_ 18), (1, u "java/lang/Object"), (0, u "()V"), (1, .class_ 23), (1, u "jdk/internal/util/ArraysSupport"), (0, u "LOG2_ARRAY_LONG_INDEX_SCALE"), (0, u "I"), (2, u "U"), (0, u "Ljdk/internal/misc/Unsafe;"), (8, u "BIG_ENDIAN"), (0, u "Z"), (8, u "LOG2_BYTE_BIT_SIZE"), (4, u "LOG2_ARRAY_INT_INDEX_SCALE"), (54, u "JLA"), (0, u "Ljdk/internal/access/JavaLangAccess;"), (11, u "LOG2_ARRAY_BOOLEAN_INDEX_SCALE"), (9, u "LOG2_ARRAY_BYTE_INDEX_SCALE"), (5, u "LOG2_ARRAY_CHAR_INDEX_SCALE"), (5, u "LOG2_ARRAY_SHORT_INDEX_SCALE"), (18, u "LOG2_ARRAY_FLOAT_INDEX_SCALE"), (24, u "LOG2_ARRAY_DOUBLE_INDEX_SCALE"), (89, u "T_BOOLEAN"), (2, u "T_CHAR"), (1, u "T_FLOAT"), (1, u "T_DOUBLE"), (1, u "T_BYTE"), (1, u "T_SHORT"), (1, u "T_INT"), (1, u "T_LONG"), (1, u "SOFT_MAX_ARRAY_LENGTH")] 83

def k14m0 : Method := { name := "<init>", desc := "()V", sig := { parameters := [], returnType := none }, accessFlags := 2, code := none }
/-- jdk/internal/util/ArraysSupport -/
def k14 : Class := { plain "jdk/internal/util/ArraysSupport" (some 0) with
  accessFlags := 33
  interfaces := #[]
  cf := some (fileOf pool14 21 #[] #[{ accessFlags := 2, nameIndex := 9, descriptorIndex := 19, attributes := #[] }] 33 16 #[] #[{ accessFlags := 24, nameIndex := 28, descriptorIndex := 29, attributes := #[] }, { accessFlags := 26, nameIndex := 38, descriptorIndex := 39, attributes := #[] }, { accessFlags := 25, nameIndex := 121, descriptorIndex := 25, attributes := #[] }, { accessFlags := 25, nameIndex := 131, descriptorIndex := 25, attributes := #[] }, { accessFlags := 25, nameIndex := 137, descriptorIndex := 25, attributes := #[] }, { accessFlags := 25, nameIndex := 143, descriptorIndex := 25, attributes := #[] }, { accessFlags := 25, nameIndex := 53, descriptorIndex := 25, attributes := #[] }, { accessFlags := 25, nameIndex := 24, descriptorIndex := 25, attributes := #[] }, { accessFlags := 25, nameIndex := 162, descriptorIndex := 25, attributes := #[] }, { accessFlags := 25, nameIndex := 187, descriptorIndex := 25, attributes := #[] }, { accessFlags := 26, nameIndex := 48, descriptorIndex := 25, attributes := #[] }, { accessFlags := 25, nameIndex := 277, descriptorIndex := 25, attributes := #[] }, { accessFlags := 25, nameIndex := 280, descriptorIndex := 25, attributes := #[] }, { accessFlags := 25, nameIndex := 282, descriptorIndex := 25, attributes := #[] }, { accessFlags := 25, nameIndex := 284, descriptorIndex := 25, attributes := #[] }, { accessFlags := 25, nameIndex := 286, descriptorIndex := 25, attributes := #[] }, { accessFlags := 25, nameIndex := 288, descriptorIndex := 25, attributes := #[] }, { accessFlags := 25, nameIndex := 290, descriptorIndex := 25, attributes := #[] }, { accessFlags := 25, nameIndex := 292, descriptorIndex := 25, attributes := #[] }, { accessFlags := 26, nameIndex := 108, descriptorIndex := 109, attributes := #[] }, { accessFlags := 25, nameIndex := 294, descriptorIndex := 25, attributes := #[] }])
  fields := #[{ name := "U", type := (.object "jdk/internal/misc/Unsafe"), accessFlags := 24, slot := 0, constantValue := 0 }, { name := "BIG_ENDIAN", type := .boolean, accessFlags := 26, slot := 1, constantValue := 0 }, { name := "LOG2_ARRAY_BOOLEAN_INDEX_SCALE", type := .int, accessFlags := 25, slot := 2, constantValue := 0 }, { name := "LOG2_ARRAY_BYTE_INDEX_SCALE", type := .int, accessFlags := 25, slot := 3, constantValue := 0 }, { name := "LOG2_ARRAY_CHAR_INDEX_SCALE", type := .int, accessFlags := 25, slot := 4, constantValue := 0 }, { name := "LOG2_ARRAY_SHORT_INDEX_SCALE", type := .int, accessFlags := 25, slot := 5, constantValue := 0 }, { name := "LOG2_ARRAY_INT_INDEX_SCALE", type := .int, accessFlags := 25, slot := 6, constantValue := 0 }, { name := "LOG2_ARRAY_LONG_INDEX_SCALE", type := .int, accessFlags := 25, slot := 7, constantValue := 0 }, { name := "LOG2_ARRAY_FLOAT_INDEX_SCALE", type := .int, accessFlags := 25, slot := 8, constantValue := 0 }, { name := "LOG2_ARRAY_DOUBLE_INDEX_SCALE", type := .int, accessFlags := 25, slot := 9, constantValue := 0 }, { name := "LOG2_BYTE_BIT_SIZE", type := .int, accessFlags := 26, slot := 10, constantValue := 0 }, { name := "T_BOOLEAN", type := .int, accessFlags := 25, slot := 11, constantValue := 0 }, { name := "T_CHAR", type := .int, accessFlags := 25, slot := 12, constantValue := 0 }, { name := "T_FLOAT", type := .int, accessFlags := 25, slot := 13, constantValue := 0 }, { name := "T_DOUBLE", type := .int, accessFlags := 25, slot := 14, constantValue := 0 }, { name := "T_BYTE", type := .int, accessFlags := 25, slot := 15, constantValue := 0 }, { name := "T_SHORT", type := .int, accessFlags := 25, slot := 16, constantValue := 0 }, { name := "T_INT", type := .int, accessFlags := 25, slot := 17, constantValue := 0 }, { name := "T_LONG", type := .int, accessFlags := 25, slot := 18, constantValue := 0 }, { name := "JLA", type := (.object "jdk/internal/access/JavaLangAccess"), accessFlags := 26, slot := 19, constantValue := 0 }, { name := "SOFT_MAX_ARRAY_LENGTH", type := .int, accessFlags := 25, slot := 20, constantValue := 0 }]
  methods := #[k14m0]
  instanceTypes := #[]
  staticTypes := #[(.object "jdk/internal/misc/Unsafe"), .boolean, .int, .int, .int, .int, .int, .int, .int, .int, .int, .int, .int, .int, .int, .int, .int, .int, .int, (.object "jdk/internal/access/JavaLangAccess"), .int]
  resolved := Array.replicate 378 none
  statics := none }

def pool15 : Array CpInfo := pool [(1, u "java/lang/Cloneable"), (0, .class_ 1), (0, u "java/lang/Object"), (0, .class_ 3)] 3

/-- java/lang/Cloneable -/
def k15 : Class := { plain "java/lang/Cloneable" (some 0) with
  accessFlags := 1537
  interfaces := #[]
  cf := some (fileOf pool15 2 #[] #[] 1537 4 #[] #[])
  fields := #[]
  methods := #[]
  instanceTypes := #[]
  staticTypes := #[]
  resolved := Array.replicate 8 none
  statics := none }

/-- the primitive byte -/
def k16 : Class := { plain "byte" none with kind := .primitive 'B', accessFlags := 0x411 }
/-- [B -/
def k17 : Class := { plain "[B" (some 0) with kind := .array 16 .byte, interfaces := #[15, 2], accessFlags := 1041 }

/-- the primitive char -/
def k18 : Class := { plain "char" none with kind := .primitive 'C', accessFlags := 0x411 }
/-- [C -/
def k19 : Class := { plain "[C" (some 0) with kind := .array 18 .char, interfaces := #[15, 2], accessFlags := 1041 }

def heap : Heap := #[{ cls := 7, slots := #[.long 0, .int 1, .null, .int 0, .null, .int 0, .int 0], vm := .statics 7 },
  { cls := 8, slots := #[.int 0, .int 8, .int 0, .int 1], vm := .statics 8 },
  { cls := 11, slots := #[.null, .null, .null], vm := .statics 11 }]
def classes : Array Class := #[k0, k1, k2, k3, k4, k5, k6, k7, k8, k9, k10, k11, k12, k13, k14, k15, k16, k17, k18, k19]
def interned : List (Array UInt16 × Addr) := []
def slotsUsed : Nat := 14
def theMethod : MethodId := ⟨1, 2⟩
def args0 : Array Value := #[.int 5, .int 7, .int 3, .int 11, .int 6]
def aboutOver (below : List Frame) : State where
  vm := { classes := classes, interned := interned.toArray }
  heap := heap
  slotsUsed := slotsUsed
  threads := #[{ frames := .invoking theMethod args0 :: below }]
def below0 : List Frame := [.native { method := ⟨0, 0⟩, args := #[] }]
def about1 : State := aboutOver below0
def p0 : Program := .bare "" "" ""
def e0 : Env := launch0.env 0 0 0
theorem w_frames : about1.frames = Frame.invoking theMethod args0 :: below0 := rfl
set_option maxRecDepth 65536 in
theorem w_args : argsFit about1.vm theMethod args0 = true := by decide +kernel
set_option maxRecDepth 65536 in
theorem w_heap : heapFits about1 = true := by decide +kernel
set_option maxRecDepth 65536 in
theorem w_runnable : about1.curStatus? = some .runnable := by decide +kernel
set_option maxRecDepth 65536 in
theorem w_alone : about1.alone = true := by decide +kernel
set_option maxRecDepth 65536 in
theorem w_named : about1.methodNamed? x = some theMethod := by decide +kernel
set_option maxRecDepth 65536 in
theorem w_hears : about1.hears theMethod below0 = true := by decide +kernel
set_option maxRecDepth 65536 in
theorem w_ripe : about1.ripe theMethod args0 below0 = true := by decide +kernel
theorem w_running : about1.status = .running := rfl
set_option maxRecDepth 65536 in
theorem w_room : about1.hasRoom e0.platform room_1 = true :=
  launch0.hasRoom_least _ room_1 (by decide +kernel) (by decide +kernel) (by decide +kernel) (by decide +kernel) (by decide +kernel) (by decide +kernel)
theorem allAtoms_all (ts : List Jvm.Cond) (a : Array Jvm.Value) (st : Jvm.State) : (allAtoms ts).before a st = ts.all (fun c => c.before a st) := by
  induction ts with
  | nil => rfl
  | cons c t ih =>
    show (Jvm.Cond.and c (allAtoms t)).before a st = _
    rw [Jvm.Cond.before_and, ih, List.all_cons]
def words1 : List Jvm.Cond := Jvm.Cond.code x code maxLocals ret :: tables_1
/-- a 'code' word, met by the world's own term for the bytes: nothing is compared byte by byte -/
theorem code_word {y : MethodName} {bytes : ByteArray} {mx : Nat} {rt : Option FieldType} {a : Array Value} {s : State} {m : MethodId} {meth : Method} {c : Code} (h1 : s.methodNamed? y = some m) (h2 : s.vm.method? m = some meth) (h3 : meth.code = some c) (h4 : c.code = bytes)
    (h5 : (c.maxLocals == mx && c.exceptionTable.isEmpty && decide (c.maxStack ≤ mostOperands) && decide (meth.sig.returnType = rt) && !meth.locks && decide (parseMethodDescriptor y.desc = some meth.sig)) = true) : (Jvm.Cond.code y bytes mx rt).before a s = true := by
  simp only [Bool.and_eq_true, beq_iff_eq, Bool.not_eq_true', decide_eq_true_eq] at h5
  obtain ⟨⟨⟨⟨⟨g1, g2⟩, g3⟩, g4⟩, g5⟩, g6⟩ := h5
  simp [Cond.before, Cond.holds, Cond.value, h1, h2, h3, h4, g1, g2, g3, g4, g5, g6]
def isCode : Jvm.Cond → Bool
  | .code _ _ _ _ => true
  | _ => false
theorem all_split {L : List Jvm.Cond} {P : Jvm.Cond → Bool} (h1 : L.all (fun c => isCode c || P c) = true) (h2 : ∀ c ∈ L.filter isCode, P c = true) : L.all P = true := by
  refine List.all_eq_true.mpr fun c hc => ?_
  have h := List.all_eq_true.mp h1 c hc
  rcases Bool.eq_false_or_eq_true (isCode c) with hi | hi
  · exact h2 c (List.mem_filter.mpr ⟨hc, hi⟩)
  · simpa [hi] using h
set_option maxRecDepth 65536 in
theorem w_c0 : (Jvm.Cond.code x code maxLocals ret).before args0 about1 = true := code_word (m := ⟨1, 2⟩) (meth := k1m2) (c := k1c2) (by decide +kernel) rfl rfl rfl (by decide +kernel)
set_option maxRecDepth 65536 in
theorem w_c1 : (Jvm.Cond.code ({ cls := "com/example/seize/seize/LockLimitsCheckKeyPinLaw", name := "put", desc := "([CIIZ)V" } : Jvm.MethodName) method_2_code (5 : Nat) (Option.none : Option Jvm.ClassFile.FieldType)).before args0 about1 = true := code_word (m := ⟨1, 1⟩) (meth := k1m1) (c := k1c1) (by decide +kernel) rfl rfl rfl (by decide +kernel)
set_option maxRecDepth 65536 in
theorem w_c2 : (Jvm.Cond.code ({ cls := "java/lang/String", name := "<init>", desc := "([C)V" } : Jvm.MethodName) jdk_42_method_3_code (2 : Nat) (Option.none : Option Jvm.ClassFile.FieldType)).before args0 about1 = true := code_word (m := ⟨7, 1⟩) (meth := k7m1) (c := k7c1) (by decide +kernel) rfl rfl rfl (by decide +kernel)
set_option maxRecDepth 65536 in
theorem w_c3 : (Jvm.Cond.code ({ cls := "java/lang/String", name := "<init>", desc := "([CIILjava/lang/Void;)V" } : Jvm.MethodName) jdk_42_method_149_code (6 : Nat) (Option.none : Option Jvm.ClassFile.FieldType)).before args0 about1 = true := code_word (m := ⟨7, 5⟩) (meth := k7m5) (c := k7c5) (by decide +kernel) rfl rfl rfl (by decide +kernel)
set_option maxRecDepth 65536 in
theorem w_c4 : (Jvm.Cond.code ({ cls := "java/lang/Object", name := "<init>", desc := "()V" } : Jvm.MethodName) object_method_1_code (1 : Nat) (Option.none : Option Jvm.ClassFile.FieldType)).before args0 about1 = true := code_word (m := ⟨0, 0⟩) (meth := k0m0) (c := k0c0) (by decide +kernel) rfl rfl rfl (by decide +kernel)
set_option maxRecDepth 65536 in
theorem w_c5 : (Jvm.Cond.code ({ cls := "java/lang/StringUTF16", name := "compress", desc := "([CII)[B" } : Jvm.MethodName) jdk_52_method_16_code (6 : Nat) (Option.some (Jvm.ClassFile.FieldType.array Jvm.ClassFile.FieldType.byte))).before args0 about1 = true := code_word (m := ⟨8, 9⟩) (meth := k8m9) (c := k8c9) (by decide +kernel) rfl rfl rfl (by decide +kernel)
set_option maxRecDepth 65536 in
theorem w_c6 : (Jvm.Cond.code ({ cls := "java/lang/StringUTF16", name := "compress", desc := "([CI[BII)I" } : Jvm.MethodName) jdk_52_method_21_code (7 : Nat) (Option.some Jvm.ClassFile.FieldType.int)).before args0 about1 = true := code_word (m := ⟨8, 10⟩) (meth := k8m10) (c := k8c10) (by decide +kernel) rfl rfl rfl (by decide +kernel)
set_option maxRecDepth 65536 in
theorem w_c7 : (Jvm.Cond.code ({ cls := "java/lang/StringUTF16", name := "coderFromArrayLen", desc := "([BI)B" } : Jvm.MethodName) jdk_52_method_15_code (2 : Nat) (Option.some Jvm.ClassFile.FieldType.byte)).before args0 about1 = true := code_word (m := ⟨8, 8⟩) (meth := k8m8) (c := k8c8) (by decide +kernel) rfl rfl rfl (by decide +kernel)
set_option maxRecDepth 65536 in
theorem w_c8 : (Jvm.Cond.code ({ cls := "java/lang/StringUTF16", name := "toBytes", desc := "([CII)[B" } : Jvm.MethodName) jdk_52_method_14_code (5 : Nat) (Option.some (Jvm.ClassFile.FieldType.array Jvm.ClassFile.FieldType.byte))).before args0 about1 = true := code_word (m := ⟨8, 7⟩) (meth := k8m7) (c := k8c7) (by decide +kernel) rfl rfl rfl (by decide +kernel)
set_option maxRecDepth 65536 in
theorem w_c9 : (Jvm.Cond.code ({ cls := "java/lang/StringUTF16", name := "newBytesFor", desc := "(I)[B" } : Jvm.MethodName) jdk_52_method_2_code (1 : Nat) (Option.some (Jvm.ClassFile.FieldType.array Jvm.ClassFile.FieldType.byte))).before args0 about1 = true := code_word (m := ⟨8, 1⟩) (meth := k8m1) (c := k8c1) (by decide +kernel) rfl rfl rfl (by decide +kernel)
set_option maxRecDepth 65536 in
theorem w_c10 : (Jvm.Cond.code ({ cls := "java/lang/StringUTF16", name := "newBytesLength", desc := "(I)I" } : Jvm.MethodName) jdk_52_method_3_code (1 : Nat) (Option.some Jvm.ClassFile.FieldType.int)).before args0 about1 = true := code_word (m := ⟨8, 2⟩) (meth := k8m2) (c := k8c2) (by decide +kernel) rfl rfl rfl (by decide +kernel)
set_option maxRecDepth 65536 in
theorem w_c11 : (Jvm.Cond.code ({ cls := "java/lang/StringUTF16", name := "putChar", desc := "([BII)V" } : Jvm.MethodName) jdk_52_method_4_code (3 : Nat) (Option.none : Option Jvm.ClassFile.FieldType)).before args0 about1 = true := code_word (m := ⟨8, 3⟩) (meth := k8m3) (c := k8c3) (by decide +kernel) rfl rfl rfl (by decide +kernel)
set_option maxRecDepth 65536 in
theorem w_c12 : (Jvm.Cond.code ({ cls := "java/lang/StringUTF16", name := "getChar", desc := "([BI)C" } : Jvm.MethodName) jdk_52_method_5_code (2 : Nat) (Option.some Jvm.ClassFile.FieldType.char)).before args0 about1 = true := code_word (m := ⟨8, 4⟩) (meth := k8m4) (c := k8c4) (by decide +kernel) rfl rfl rfl (by decide +kernel)
set_option maxRecDepth 65536 in
theorem w_c13 : (Jvm.Cond.code ({ cls := "com/example/seize/seize/LockLimits", name := "checkKey", desc := "(Ljava/lang/String;)V" } : Jvm.MethodName) prog_6_method_2_code (4 : Nat) (Option.none : Option Jvm.ClassFile.FieldType)).before args0 about1 = true := code_word (m := ⟨9, 1⟩) (meth := k9m1) (c := k9c1) (by decide +kernel) rfl rfl rfl (by decide +kernel)
set_option maxRecDepth 65536 in
theorem w_c14 : (Jvm.Cond.code ({ cls := "java/util/Objects", name := "requireNonNull", desc := "(Ljava/lang/Object;Ljava/lang/String;)Ljava/lang/Object;" } : Jvm.MethodName) jdk_31_method_11_code (2 : Nat) (Option.some (Jvm.ClassFile.FieldType.object "java/lang/Object"))).before args0 about1 = true := code_word (m := ⟨10, 1⟩) (meth := k10m1) (c := k10c1) (by decide +kernel) rfl rfl rfl (by decide +kernel)
set_option maxRecDepth 65536 in
theorem w_c15 : (Jvm.Cond.code ({ cls := "java/lang/String", name := "isEmpty", desc := "()Z" } : Jvm.MethodName) jdk_42_method_55_code (1 : Nat) (Option.some Jvm.ClassFile.FieldType.boolean)).before args0 about1 = true := code_word (m := ⟨7, 3⟩) (meth := k7m3) (c := k7c3) (by decide +kernel) rfl rfl rfl (by decide +kernel)
set_option maxRecDepth 65536 in
theorem w_c16 : (Jvm.Cond.code ({ cls := "java/lang/String", name := "length", desc := "()I" } : Jvm.MethodName) jdk_42_method_54_code (1 : Nat) (Option.some Jvm.ClassFile.FieldType.int)).before args0 about1 = true := code_word (m := ⟨7, 2⟩) (meth := k7m2) (c := k7c2) (by decide +kernel) rfl rfl rfl (by decide +kernel)
set_option maxRecDepth 65536 in
theorem w_c17 : (Jvm.Cond.code ({ cls := "java/lang/String", name := "coder", desc := "()B" } : Jvm.MethodName) jdk_42_method_152_code (1 : Nat) (Option.some Jvm.ClassFile.FieldType.byte)).before args0 about1 = true := code_word (m := ⟨7, 6⟩) (meth := k7m6) (c := k7c6) (by decide +kernel) rfl rfl rfl (by decide +kernel)
set_option maxRecDepth 65536 in
theorem w_c18 : (Jvm.Cond.code ({ cls := "java/lang/String", name := "codePointAt", desc := "(I)I" } : Jvm.MethodName) jdk_42_method_57_code (3 : Nat) (Option.some Jvm.ClassFile.FieldType.int)).before args0 about1 = true := code_word (m := ⟨7, 4⟩) (meth := k7m4) (c := k7c4) (by decide +kernel) rfl rfl rfl (by decide +kernel)
set_option maxRecDepth 65536 in
theorem w_c19 : (Jvm.Cond.code ({ cls := "java/lang/String", name := "isLatin1", desc := "()Z" } : Jvm.MethodName) jdk_42_method_154_code (1 : Nat) (Option.some Jvm.ClassFile.FieldType.boolean)).before args0 about1 = true := code_word (m := ⟨7, 7⟩) (meth := k7m7) (c := k7c7) (by decide +kernel) rfl rfl rfl (by decide +kernel)
set_option maxRecDepth 65536 in
theorem w_c20 : (Jvm.Cond.code ({ cls := "java/lang/String", name := "checkIndex", desc := "(II)V" } : Jvm.MethodName) jdk_42_method_155_code (2 : Nat) (Option.none : Option Jvm.ClassFile.FieldType)).before args0 about1 = true := code_word (m := ⟨7, 8⟩) (meth := k7m8) (c := k7c8) (by decide +kernel) rfl rfl rfl (by decide +kernel)
set_option maxRecDepth 65536 in
theorem w_c21 : (Jvm.Cond.code ({ cls := "jdk/internal/util/Preconditions", name := "checkIndex", desc := "(IILjava/util/function/BiFunction;)I" } : Jvm.MethodName) jdk_41_method_11_code (3 : Nat) (Option.some Jvm.ClassFile.FieldType.int)).before args0 about1 = true := code_word (m := ⟨11, 1⟩) (meth := k11m1) (c := k11c1) (by decide +kernel) rfl rfl rfl (by decide +kernel)
set_option maxRecDepth 65536 in
theorem w_c22 : (Jvm.Cond.code ({ cls := "java/lang/Character", name := "charCount", desc := "(I)I" } : Jvm.MethodName) jdk_89_method_18_code (1 : Nat) (Option.some Jvm.ClassFile.FieldType.int)).before args0 about1 = true := code_word (m := ⟨12, 2⟩) (meth := k12m2) (c := k12c2) (by decide +kernel) rfl rfl rfl (by decide +kernel)
set_option maxRecDepth 65536 in
theorem w_c23 : (Jvm.Cond.code ({ cls := "java/lang/StringUTF16", name := "codePointAt", desc := "([BII)I" } : Jvm.MethodName) jdk_52_method_8_code (3 : Nat) (Option.some Jvm.ClassFile.FieldType.int)).before args0 about1 = true := code_word (m := ⟨8, 6⟩) (meth := k8m6) (c := k8c6) (by decide +kernel) rfl rfl rfl (by decide +kernel)
set_option maxRecDepth 65536 in
theorem w_c24 : (Jvm.Cond.code ({ cls := "java/lang/StringUTF16", name := "codePointAt", desc := "([BIIZ)I" } : Jvm.MethodName) jdk_52_method_7_code (6 : Nat) (Option.some Jvm.ClassFile.FieldType.int)).before args0 about1 = true := code_word (m := ⟨8, 5⟩) (meth := k8m5) (c := k8c5) (by decide +kernel) rfl rfl rfl (by decide +kernel)
set_option maxRecDepth 65536 in
theorem w_c25 : (Jvm.Cond.code ({ cls := "java/lang/Character", name := "isHighSurrogate", desc := "(C)Z" } : Jvm.MethodName) jdk_89_method_14_code (1 : Nat) (Option.some Jvm.ClassFile.FieldType.boolean)).before args0 about1 = true := code_word (m := ⟨12, 0⟩) (meth := k12m0) (c := k12c0) (by decide +kernel) rfl rfl rfl (by decide +kernel)
set_option maxRecDepth 65536 in
theorem w_c26 : (Jvm.Cond.code ({ cls := "java/lang/Character", name := "isLowSurrogate", desc := "(C)Z" } : Jvm.MethodName) jdk_89_method_15_code (1 : Nat) (Option.some Jvm.ClassFile.FieldType.boolean)).before args0 about1 = true := code_word (m := ⟨12, 1⟩) (meth := k12m1) (c := k12c1) (by decide +kernel) rfl rfl rfl (by decide +kernel)
set_option maxRecDepth 65536 in
theorem w_c27 : (Jvm.Cond.code ({ cls := "java/lang/Character", name := "toCodePoint", desc := "(CC)I" } : Jvm.MethodName) jdk_89_method_19_code (2 : Nat) (Option.some Jvm.ClassFile.FieldType.int)).before args0 about1 = true := code_word (m := ⟨12, 3⟩) (meth := k12m3) (c := k12c3) (by decide +kernel) rfl rfl rfl (by decide +kernel)
def codes1 : List Jvm.Cond := [Jvm.Cond.code x code maxLocals ret, Jvm.Cond.code ({ cls := "com/example/seize/seize/LockLimitsCheckKeyPinLaw", name := "put", desc := "([CIIZ)V" } : Jvm.MethodName) method_2_code (5 : Nat) (Option.none : Option Jvm.ClassFile.FieldType), Jvm.Cond.code ({ cls := "java/lang/String", name := "<init>", desc := "([C)V" } : Jvm.MethodName) jdk_42_method_3_code (2 : Nat) (Option.none : Option Jvm.ClassFile.FieldType), Jvm.Cond.code ({ cls := "java/lang/String", name := "<init>", desc := "([CIILjava/lang/Void;)V" } : Jvm.MethodName) jdk_42_method_149_code (6 : Nat) (Option.none : Option Jvm.ClassFile.FieldType), Jvm.Cond.code ({ cls := "java/lang/Object", name := "<init>", desc := "()V" } : Jvm.MethodName) object_method_1_code (1 : Nat) (Option.none : Option Jvm.ClassFile.FieldType), Jvm.Cond.code ({ cls := "java/lang/StringUTF16", name := "compress", desc := "([CII)[B" } : Jvm.MethodName) jdk_52_method_16_code (6 : Nat) (Option.some (Jvm.ClassFile.FieldType.array Jvm.ClassFile.FieldType.byte)), Jvm.Cond.code ({ cls := "java/lang/StringUTF16", name := "compress", desc := "([CI[BII)I" } : Jvm.MethodName) jdk_52_method_21_code (7 : Nat) (Option.some Jvm.ClassFile.FieldType.int), Jvm.Cond.code ({ cls := "java/lang/StringUTF16", name := "coderFromArrayLen", desc := "([BI)B" } : Jvm.MethodName) jdk_52_method_15_code (2 : Nat) (Option.some Jvm.ClassFile.FieldType.byte), Jvm.Cond.code ({ cls := "java/lang/StringUTF16", name := "toBytes", desc := "([CII)[B" } : Jvm.MethodName) jdk_52_method_14_code (5 : Nat) (Option.some (Jvm.ClassFile.FieldType.array Jvm.ClassFile.FieldType.byte)), Jvm.Cond.code ({ cls := "java/lang/StringUTF16", name := "newBytesFor", desc := "(I)[B" } : Jvm.MethodName) jdk_52_method_2_code (1 : Nat) (Option.some (Jvm.ClassFile.FieldType.array Jvm.ClassFile.FieldType.byte)), Jvm.Cond.code ({ cls := "java/lang/StringUTF16", name := "newBytesLength", desc := "(I)I" } : Jvm.MethodName) jdk_52_method_3_code (1 : Nat) (Option.some Jvm.ClassFile.FieldType.int), Jvm.Cond.code ({ cls := "java/lang/StringUTF16", name := "putChar", desc := "([BII)V" } : Jvm.MethodName) jdk_52_method_4_code (3 : Nat) (Option.none : Option Jvm.ClassFile.FieldType), Jvm.Cond.code ({ cls := "java/lang/StringUTF16", name := "getChar", desc := "([BI)C" } : Jvm.MethodName) jdk_52_method_5_code (2 : Nat) (Option.some Jvm.ClassFile.FieldType.char), Jvm.Cond.code ({ cls := "com/example/seize/seize/LockLimits", name := "checkKey", desc := "(Ljava/lang/String;)V" } : Jvm.MethodName) prog_6_method_2_code (4 : Nat) (Option.none : Option Jvm.ClassFile.FieldType), Jvm.Cond.code ({ cls := "java/util/Objects", name := "requireNonNull", desc := "(Ljava/lang/Object;Ljava/lang/String;)Ljava/lang/Object;" } : Jvm.MethodName) jdk_31_method_11_code (2 : Nat) (Option.some (Jvm.ClassFile.FieldType.object "java/lang/Object")), Jvm.Cond.code ({ cls := "java/lang/String", name := "isEmpty", desc := "()Z" } : Jvm.MethodName) jdk_42_method_55_code (1 : Nat) (Option.some Jvm.ClassFile.FieldType.boolean), Jvm.Cond.code ({ cls := "java/lang/String", name := "length", desc := "()I" } : Jvm.MethodName) jdk_42_method_54_code (1 : Nat) (Option.some Jvm.ClassFile.FieldType.int), Jvm.Cond.code ({ cls := "java/lang/String", name := "coder", desc := "()B" } : Jvm.MethodName) jdk_42_method_152_code (1 : Nat) (Option.some Jvm.ClassFile.FieldType.byte), Jvm.Cond.code ({ cls := "java/lang/String", name := "codePointAt", desc := "(I)I" } : Jvm.MethodName) jdk_42_method_57_code (3 : Nat) (Option.some Jvm.ClassFile.FieldType.int), Jvm.Cond.code ({ cls := "java/lang/String", name := "isLatin1", desc := "()Z" } : Jvm.MethodName) jdk_42_method_154_code (1 : Nat) (Option.some Jvm.ClassFile.FieldType.boolean), Jvm.Cond.code ({ cls := "java/lang/String", name := "checkIndex", desc := "(II)V" } : Jvm.MethodName) jdk_42_method_155_code (2 : Nat) (Option.none : Option Jvm.ClassFile.FieldType), Jvm.Cond.code ({ cls := "jdk/internal/util/Preconditions", name := "checkIndex", desc := "(IILjava/util/function/BiFunction;)I" } : Jvm.MethodName) jdk_41_method_11_code (3 : Nat) (Option.some Jvm.ClassFile.FieldType.int), Jvm.Cond.code ({ cls := "java/lang/Character", name := "charCount", desc := "(I)I" } : Jvm.MethodName) jdk_89_method_18_code (1 : Nat) (Option.some Jvm.ClassFile.FieldType.int), Jvm.Cond.code ({ cls := "java/lang/StringUTF16", name := "codePointAt", desc := "([BII)I" } : Jvm.MethodName) jdk_52_method_8_code (3 : Nat) (Option.some Jvm.ClassFile.FieldType.int), Jvm.Cond.code ({ cls := "java/lang/StringUTF16", name := "codePointAt", desc := "([BIIZ)I" } : Jvm.MethodName) jdk_52_method_7_code (6 : Nat) (Option.some Jvm.ClassFile.FieldType.int), Jvm.Cond.code ({ cls := "java/lang/Character", name := "isHighSurrogate", desc := "(C)Z" } : Jvm.MethodName) jdk_89_method_14_code (1 : Nat) (Option.some Jvm.ClassFile.FieldType.boolean), Jvm.Cond.code ({ cls := "java/lang/Character", name := "isLowSurrogate", desc := "(C)Z" } : Jvm.MethodName) jdk_89_method_15_code (1 : Nat) (Option.some Jvm.ClassFile.FieldType.boolean), Jvm.Cond.code ({ cls := "java/lang/Character", name := "toCodePoint", desc := "(CC)I" } : Jvm.MethodName) jdk_89_method_19_code (2 : Nat) (Option.some Jvm.ClassFile.FieldType.int)]
set_option maxRecDepth 65536 in
theorem codes_eq : words1.filter isCode = codes1 := rfl
theorem w_codes : ∀ c ∈ words1.filter isCode, c.before args0 about1 = true := by
  rw [codes_eq]
  intro c hc
  simp only [codes1, List.mem_cons, List.not_mem_nil, or_false] at hc
  rcases hc with rfl | rfl | rfl | rfl | rfl | rfl | rfl | rfl | rfl | rfl | rfl | rfl | rfl | rfl | rfl | rfl | rfl | rfl | rfl | rfl | rfl | rfl | rfl | rfl | rfl | rfl | rfl | rfl
  · exact w_c0
  · exact w_c1
  · exact w_c2
  · exact w_c3
  · exact w_c4
  · exact w_c5
  · exact w_c6
  · exact w_c7
  · exact w_c8
  · exact w_c9
  · exact w_c10
  · exact w_c11
  · exact w_c12
  · exact w_c13
  · exact w_c14
  · exact w_c15
  · exact w_c16
  · exact w_c17
  · exact w_c18
  · exact w_c19
  · exact w_c20
  · exact w_c21
  · exact w_c22
  · exact w_c23
  · exact w_c24
  · exact w_c25
  · exact w_c26
  · exact w_c27
set_option maxRecDepth 65536 in
theorem w_t1 : (words1.take 24).all (fun c => isCode c || c.before args0 about1) = true := by decide +kernel
set_option maxRecDepth 65536 in
theorem w_t2 : ((words1.drop 24).take 24).all (fun c => isCode c || c.before args0 about1) = true := by decide +kernel
set_option maxRecDepth 65536 in
theorem w_t3 : (((words1.drop 24).drop 24).take 24).all (fun c => isCode c || c.before args0 about1) = true := by decide +kernel
set_option maxRecDepth 65536 in
theorem w_t4 : ((((words1.drop 24).drop 24).drop 24).take 24).all (fun c => isCode c || c.before args0 about1) = true := by decide +kernel
set_option maxRecDepth 65536 in
theorem w_t5 : (((((words1.drop 24).drop 24).drop 24).drop 24).take 24).all (fun c => isCode c || c.before args0 about1) = true := by decide +kernel
set_option maxRecDepth 65536 in
theorem w_t6 : (((((words1.drop 24).drop 24).drop 24).drop 24).drop 24).all (fun c => isCode c || c.before args0 about1) = true := by decide +kernel
theorem w_tables : (allAtoms (Jvm.Cond.code x code maxLocals ret :: tables_1)).before args0 about1 = true := by
  rw [allAtoms_all]
  show words1.all (fun c => c.before args0 about1) = true
  refine all_split ?_ w_codes
  rw [← List.take_append_drop 24 words1, List.all_append, w_t1, ← List.take_append_drop 24 (words1.drop 24), List.all_append, w_t2, ← List.take_append_drop 24 ((words1.drop 24).drop 24), List.all_append, w_t3, ← List.take_append_drop 24 (((words1.drop 24).drop 24).drop 24), List.all_append, w_t4, ← List.take_append_drop 24 ((((words1.drop 24).drop 24).drop 24).drop 24), List.all_append, w_t5, w_t6]
  rfl
set_option maxRecDepth 65536 in
theorem w_rest : rest_1_c.before args0 about1 = true := by decide +kernel
set_option maxRecDepth 65536 in
theorem w_case : (Jvm.Cond.and given_1 narrow_1).before args0 about1 = true := by decide +kernel
theorem w_applies : (headSpec (Jvm.Cond.code x code maxLocals ret :: tables_1) room_1).applies x e0.platform about1 = true :=
  (Spec.applies_iff w_frames).mpr ⟨w_running, w_runnable, w_alone, w_named, w_hears, w_ripe, w_room, w_tables⟩
theorem atStart : AtStart classFile x code maxLocals ret World_1 tables_1 room_1 Calls_1 rest_1 Pre_1 launch0 p0 e0 about1 theMethod args0 below0 :=
  ⟨lists_1, trivial, launch0.admits_env _ _ _, launch0.least_env, fairChoices_fair.cas, fairChoices_fair.clock, w_frames, w_args, w_heap, w_applies, trivial, w_rest, w_case⟩
end start1
theorem witness_1 : WitnessClaimed_1 := ⟨start1.p0, start1.e0, start1.about1, start1.theMethod, start1.args0, start1.below0, start1.atStart⟩
end Jvm.Pilot.@@N@@
