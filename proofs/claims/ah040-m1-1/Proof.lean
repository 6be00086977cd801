import JvmDerived
import JvmDerived.Pilot.@@N@@Statement
import JvmDerived.Pilot.@@N@@Code
set_option linter.unusedVariables false
set_option linter.unusedSimpArgs false
/- laws to paste: Road.backV, Road.eqW, Road.codOf (cut by pick.py; bodies as the Statement names them) -/
namespace Jvm.Pilot.@@N@@
namespace StrChars
open Jvm Sem ClassFile Op Lib Jvm.Stand Jvm.Free.XT Jvm.Free.ALB Jvm.Free.JM Jvm.Free
open Jvm.Lib.Cold (StaticIs)
/-- a char array whose places are chars -/
def Ch (a : Addr) (A : Cell) (U : State) : Prop := Arr .char a A U ∧ Typed .char A
theorem Ch.mv {a : Addr} {A : Cell} {U U' : State} (h : Ch a A U) (hal : U.vm.Alike U'.vm) (hh : U'.heap = U.heap) : Ch a A U' := ⟨h.1.mv hal hh, h.2⟩
theorem Ch.keep {a : Addr} {A : Cell} {U U' : State} (h : Ch a A U) (hal : U.vm.Alike U'.vm) (hk : U'.heap[a]? = some A) : Ch a A U' := ⟨h.1.keep hal hk, h.2⟩
/-- what place i of a char[]'s cell holds -/
def cv (A : Cell) (i : Nat) : Int32 := match A.slots[i]? with | some (.int x) => x | _ => 0
theorem Ch.get {a : Addr} {A : Cell} {U : State} (h : Ch a A U) {i : Nat} (hi : i < A.slots.size) : A.slots[i]? = some (.int (cv A i)) := by
  have e := Array.getElem?_eq_getElem hi
  have f := h.2 i _ e
  unfold cv; rw [e]
  generalize A.slots[i] = v at f
  cases v <;> simp [fits] at f ⊢
/-- the byte that i2b leaves of a char -/
def lo8 (x : Int32) : Int32 := x.toInt8.toInt32
theorem fits_lo8 (y : Int32) : fits .byte (.int (lo8 y)) = true := by
  have h1 := y.toInt8.le_toInt
  have h2 := y.toInt8.toInt_lt
  simp only [lo8, fits, Bool.and_eq_true, decide_eq_true_eq, Int32.le_iff_toInt_le, Int8.toInt_toInt32, show (-128 : Int32).toInt = -128 from by decide, show (127 : Int32).toInt = 127 from by decide]
  omega
/-- A' is A but that each place j of lo .. hi - 1 holds f j -/
def Laid (A A' : Cell) (lo hi : Nat) (f : Nat → Value) : Prop := A'.cls = A.cls ∧ A'.vm = A.vm ∧ A'.slots.size = A.slots.size ∧ ∀ i, A'.slots[i]? = if lo ≤ i ∧ i < hi then some (f i) else A.slots[i]?
theorem Laid.zero (A : Cell) (lo : Nat) (f : Nat → Value) : Laid A A lo (lo + 0) f := ⟨rfl, rfl, rfl, fun i => by rw [if_neg (by omega)]⟩
theorem Laid.step {A Ak : Cell} {lo k : Nat} {f : Nat → Value} {v : Value} (h : Laid A Ak lo k f) (hlo : lo ≤ k) (hk : k < Ak.slots.size) (hv : v = f k) : Laid A (Ak.setSlot k v) lo (k + 1) f := by
  refine ⟨h.1, h.2.1, by simpa [Cell.setSlot] using h.2.2.1, fun i => ?_⟩
  by_cases e : k = i
  · subst e; rw [Cell.slots_setSlot_self v hk, if_pos (by omega), hv]
  · rw [Cell.slots_setSlot_ne v e, h.2.2.2 i]
    by_cases q : lo ≤ i ∧ i < k
    · rw [if_pos q, if_pos (by omega)]
    · rw [if_neg q, if_neg (by omega)]
def U16 : String := "java/lang/StringUTF16"
namespace Cmp5
def yN : MethodName := ⟨"java/lang/StringUTF16", "compress", "([CI[BII)I"⟩
abbrev yB : ByteArray := jdk_52_method_21_code
theorem d0 : decode yB 0 = .ok (.iconst 0, 1) := by decide +kernel
theorem d1 : decode yB 1 = .ok (.istore 5, 2) := by decide +kernel
theorem d3 : decode yB 3 = .ok (.iload 5, 2) := by decide +kernel
theorem d5 : decode yB 5 = .ok (.iload 4, 2) := by decide +kernel
theorem d7 : decode yB 7 = .ok (.if_icmp (.ge) 37, 3) := by decide +kernel
theorem d10 : decode yB 10 = .ok (.aload_n 0, 1) := by decide +kernel
theorem d11 : decode yB 11 = .ok (.iload_n 1, 1) := by decide +kernel
theorem d12 : decode yB 12 = .ok (.caload, 1) := by decide +kernel
theorem d13 : decode yB 13 = .ok (.istore 6, 2) := by decide +kernel
theorem d15 : decode yB 15 = .ok (.iload 6, 2) := by decide +kernel
theorem d17 : decode yB 17 = .ok (.sipush 255, 3) := by decide +kernel
theorem d20 : decode yB 20 = .ok (.if_icmp (.le) 6, 3) := by decide +kernel
theorem d26 : decode yB 26 = .ok (.aload_n 2, 1) := by decide +kernel
theorem d27 : decode yB 27 = .ok (.iload_n 3, 1) := by decide +kernel
theorem d28 : decode yB 28 = .ok (.iload 6, 2) := by decide +kernel
theorem d30 : decode yB 30 = .ok (.i2b, 1) := by decide +kernel
theorem d31 : decode yB 31 = .ok (.bastore, 1) := by decide +kernel
theorem d32 : decode yB 32 = .ok (.iinc 1 1, 3) := by decide +kernel
theorem d35 : decode yB 35 = .ok (.iinc 3 1, 3) := by decide +kernel
theorem d38 : decode yB 38 = .ok (.iinc 5 1, 3) := by decide +kernel
theorem d41 : decode yB 41 = .ok (.goto (-38), 3) := by decide +kernel
theorem d44 : decode yB 44 = .ok (.iload 4, 2) := by decide +kernel
theorem d46 : decode yB 46 = .ok (.ireturn, 1) := by decide +kernel
def site : List Cond := []
def tab : Cond := tabOf yN yB 7 (some .int) site
def P (b : Addr) (A : Cell) (d : Addr) (B : Cell) (o q len : Nat) (args : Array Value) (s : State) : Prop := args = #[.ref b, .int (Int32.ofNat o), .ref d, .int (Int32.ofNat q), .int (Int32.ofNat len)] ∧ Ch b A s ∧ Arr .byte d B s ∧ b ≠ d ∧ o + len ≤ A.slots.size ∧ q + len ≤ B.slots.size ∧ ∀ i, i < len → ¬ 255 < cv A (o + i)
def E (b : Addr) (A : Cell) (d : Addr) (B : Cell) (o q len : Nat) (r : Option Value) (s u : State) : Prop := r = some (.int (Int32.ofNat len)) ∧ ∃ B', Put d B' s u ∧ Laid B B' q (q + len) (fun j => Value.int (lo8 (cv A (o + (j - q)))))
/-- no char of the range above 255: len; the places written hold each char's low byte -/
theorem law (l : Launch) (b : Addr) (A : Cell) (d : Addr) (B : Cell) (o q len : Nat) : Law l yN 5 5 0 0 yB 7 (some .int) site (P b A d B o q len) (E b A d B o q len) (copyLocs d q len) 0 0 := by
  refine Law.of_walk (plainFor_of_name (by decide +kernel)) (by decide +kernel) (by decide +kernel) (by decide) (fun _ _ h => by rw [h.1]; rfl) (fun _ U U' hal hh h => ⟨h.1, h.2.1.mv hal hh, h.2.2.1.mv hal hh, h.2.2.2⟩) (fun r U U' V V' h1 hal h2 h => ⟨h.1, h.2.elim fun B' q => ⟨B', q.1.mv h1 h2, q.2⟩⟩) ?_
  intro p e s m args below meth c s₁ X0 hexec hbytes hml hret hlk hnm hown hh0 W hP
  obtain ⟨rfl, hA, hB, hne, l1, l2, hp⟩ := hP
  have c1 : Steps p.tables e below (s₁.setTop (entryFrame m #[.ref b, .int (Int32.ofNat o), .ref d, .int (Int32.ofNat q), .int (Int32.ofNat len)] 7)) (s₁.setTop (mkF m 0 #[.val (.ref b), .val (.int (Int32.ofNat o)), .val (.ref d), .val (.int (Int32.ofNat q)), .val (.int (Int32.ofNat len)), .unset, .unset] [])) := entry rfl
  have hA0 := hA.1.mv X0.warmed.alike hh0
  have hB0 := hB.mv X0.warmed.alike hh0
  have a31 := hA.1.2.2.2
  have c2 : Steps p.tables e below (s₁.setTop (entryFrame m #[.ref b, .int (Int32.ofNat o), .ref d, .int (Int32.ofNat q), .int (Int32.ofNat len)] 7)) (s₁.setTop (mkF m 3 #[.val (.ref b), .val (.int (Int32.ofNat o)), .val (.ref d), .val (.int (Int32.ofNat q)), .val (.int (Int32.ofNat len)), .val (.int 0), .unset] [])) := c1.trans (by
    refine iconstV X0.here hexec rfl 0 (hb hbytes d0) (by decide) ?_
    refine XS.istore X0.here hexec rfl (hb hbytes d1) rfl rfl ?_
    exact Steps.refl _)
  have loop : ∀ (r i : Nat), i + r = len → ∀ (z : Slot), (z = .unset ∨ ∃ w, z = .val w ∧ w.category = 1) → ∀ (Tl : State) (Bk : Cell), Stand p l e { frames := 0, locals := 0, cells := 0, slots := 0 } s m #[.ref b, .int (Int32.ofNat o), .ref d, .int (Int32.ofNat q), .int (Int32.ofNat len)] below meth c Tl ([] ++ copyLocs d q i) 0 0 → Put d Bk s₁ Tl → Laid B Bk q (q + i) (fun j => Value.int (lo8 (cv A (o + (j - q))))) →
      Steps p.tables e below (s₁.setTop (entryFrame m #[.ref b, .int (Int32.ofNat o), .ref d, .int (Int32.ofNat q), .int (Int32.ofNat len)] 7)) (Tl.setTop (mkF m 3 #[.val (.ref b), .val (.int (Int32.ofNat (o + i))), .val (.ref d), .val (.int (Int32.ofNat (q + i))), .val (.int (Int32.ofNat len)), .val (.int (Int32.ofNat i)), z] [])) → ∃ (T' : State) (B' : Cell) (z' : Slot), Stand p l e { frames := 0, locals := 0, cells := 0, slots := 0 } s m #[.ref b, .int (Int32.ofNat o), .ref d, .int (Int32.ofNat q), .int (Int32.ofNat len)] below meth c T' ([] ++ copyLocs d q len) 0 0 ∧ Put d B' s₁ T' ∧ Laid B B' q (q + len) (fun j => Value.int (lo8 (cv A (o + (j - q))))) ∧
      Steps p.tables e below (s₁.setTop (entryFrame m #[.ref b, .int (Int32.ofNat o), .ref d, .int (Int32.ofNat q), .int (Int32.ofNat len)] 7)) (T'.setTop (mkF m 3 #[.val (.ref b), .val (.int (Int32.ofNat (o + len))), .val (.ref d), .val (.int (Int32.ofNat (q + len))), .val (.int (Int32.ofNat len)), .val (.int (Int32.ofNat len)), z'] [])) := by
    intro r
    induction r with
    | zero =>
      intro i hi z hz Tl Bk Xl pl fl cl
      have hil : i = len := by omega
      rw [hil] at Xl fl cl
      exact ⟨Tl, Bk, z, Xl, pl, fl, cl⟩
    | succ r ih =>
      intro i hi z hz Tl Bk Xl pl fl cl
      have all := X0.warmed.alike.symm.trans Xl.warmed.alike
      have hAl := hA0.keep all (pl.other hne hA0.1)
      have hBk := hB0.like all pl.1 fl.1 fl.2.1 fl.2.2.1
      have hlt : q + i < Bk.slots.size := by rw [fl.2.2.1]; omega
      have c3 : Steps p.tables e below (s₁.setTop (entryFrame m #[.ref b, .int (Int32.ofNat o), .ref d, .int (Int32.ofNat q), .int (Int32.ofNat len)] 7)) (Tl.setTop (mkF m 12 #[.val (.ref b), .val (.int (Int32.ofNat (o + i))), .val (.ref d), .val (.int (Int32.ofNat (q + i))), .val (.int (Int32.ofNat len)), .val (.int (Int32.ofNat i)), z] [.int (Int32.ofNat (o + i)), .ref b])) := cl.trans (by
        refine XS.iload Xl.here hexec rfl (hb hbytes d3) rfl ?_
        refine XS.iload Xl.here hexec rfl (hb hbytes d5) rfl ?_
        refine XS.icmpNo Xl.here hexec rfl (hb hbytes d7) rfl (ii_ge_f (lt32 (by omega) (by omega))) ?_
        refine XS.aloadN Xl.here hexec rfl (hb hbytes d10) rfl rfl ?_
        refine XS.iloadN Xl.here hexec rfl (hb hbytes d11) rfl ?_
        exact Steps.refl _)
      have c4 : Steps p.tables e below (s₁.setTop (entryFrame m #[.ref b, .int (Int32.ofNat o), .ref d, .int (Int32.ofNat q), .int (Int32.ofNat len)] 7)) (Tl.setTop (mkF m 13 #[.val (.ref b), .val (.int (Int32.ofNat (o + i))), .val (.ref d), .val (.int (Int32.ofNat (q + i))), .val (.int (Int32.ofNat len)), .val (.int (Int32.ofNat i)), z] [.int (cv A (o + i))])) := c3.trans (by
        refine Xl.aget hexec hAl rfl (hA.get (i := o + i) (by omega)) rfl rfl (hb hbytes d12) ?_
        exact Steps.refl _)
      have c5 : Steps p.tables e below (s₁.setTop (entryFrame m #[.ref b, .int (Int32.ofNat o), .ref d, .int (Int32.ofNat q), .int (Int32.ofNat len)] 7)) (Tl.setTop (mkF m 15 #[.val (.ref b), .val (.int (Int32.ofNat (o + i))), .val (.ref d), .val (.int (Int32.ofNat (q + i))), .val (.int (Int32.ofNat len)), .val (.int (Int32.ofNat i)), .val (.int (cv A (o + i)))] [])) := c4.trans (by
        refine XS.istoreS Xl.here hexec rfl (hb hbytes d13) rfl rfl hz ?_
        exact Steps.refl _)
      have c6 : Steps p.tables e below (s₁.setTop (entryFrame m #[.ref b, .int (Int32.ofNat o), .ref d, .int (Int32.ofNat q), .int (Int32.ofNat len)] 7)) (Tl.setTop (mkF m 31 #[.val (.ref b), .val (.int (Int32.ofNat (o + i))), .val (.ref d), .val (.int (Int32.ofNat (q + i))), .val (.int (Int32.ofNat len)), .val (.int (Int32.ofNat i)), .val (.int (cv A (o + i)))] [.int (lo8 (cv A (o + i))), .int (Int32.ofNat (q + i)), .ref d])) := c5.trans (by
        refine XS.iload Xl.here hexec rfl (hb hbytes d15) rfl ?_
        refine sipushV Xl.here hexec rfl 255 (hb hbytes d17) (by decide) ?_
        refine XS.icmpYes Xl.here hexec rfl (pc0 := 20) rfl (hb hbytes d20) rfl (ii_le_t (hp i (by omega))) (by decide) rfl ?_
        refine XS.aloadN Xl.here hexec rfl (hb hbytes d26) rfl rfl ?_
        refine XS.iloadN Xl.here hexec rfl (hb hbytes d27) rfl ?_
        refine XS.iload Xl.here hexec rfl (hb hbytes d28) rfl ?_
        refine i2b Xl.here hexec rfl (hb hbytes d30) rfl ?_
        exact Steps.refl _)
      obtain ⟨T7, X7, p7, st7⟩ := Xl.aput hexec hBk rfl hlt rfl (fits_lo8 (cv A (o + i))) (g := (mkF m 31 #[.val (.ref b), .val (.int (Int32.ofNat (o + i))), .val (.ref d), .val (.int (Int32.ofNat (q + i))), .val (.int (Int32.ofNat len)), .val (.int (Int32.ofNat i)), .val (.int (cv A (o + i)))] [.int (lo8 (cv A (o + i))), .int (Int32.ofNat (q + i)), .ref d])) rfl (rest := []) rfl (hb hbytes d31)
      have c8 : Steps p.tables e below (s₁.setTop (entryFrame m #[.ref b, .int (Int32.ofNat o), .ref d, .int (Int32.ofNat q), .int (Int32.ofNat len)] 7)) (T7.setTop (mkF m 32 #[.val (.ref b), .val (.int (Int32.ofNat (o + i))), .val (.ref d), .val (.int (Int32.ofNat (q + i))), .val (.int (Int32.ofNat len)), .val (.int (Int32.ofNat i)), .val (.int (cv A (o + i)))] [])) := c6.trans (st7 _ (Steps.refl _))
      have c9 : Steps p.tables e below (s₁.setTop (entryFrame m #[.ref b, .int (Int32.ofNat o), .ref d, .int (Int32.ofNat q), .int (Int32.ofNat len)] 7)) (T7.setTop (mkF m 3 #[.val (.ref b), .val (.int (Int32.ofNat (o + i) + 1)), .val (.ref d), .val (.int (Int32.ofNat (q + i) + 1)), .val (.int (Int32.ofNat len)), .val (.int (Int32.ofNat i + 1)), .val (.int (cv A (o + i)))] [])) := c8.trans (by
        refine iincV X7.here hexec rfl 1 (hb hbytes d32) (by decide) rfl rfl ?_
        refine iincV X7.here hexec rfl 1 (hb hbytes d35) (by decide) rfl rfl ?_
        refine iincV X7.here hexec rfl 1 (hb hbytes d38) (by decide) rfl rfl ?_
        refine XS.goto X7.here hexec rfl (pc0 := 41) rfl (hb hbytes d41) (by decide) rfl ?_
        exact Steps.refl _)
      have c10 : Steps p.tables e below (s₁.setTop (entryFrame m #[.ref b, .int (Int32.ofNat o), .ref d, .int (Int32.ofNat q), .int (Int32.ofNat len)] 7)) (T7.setTop (mkF m 3 #[.val (.ref b), .val (.int (Int32.ofNat (o + (i + 1)))), .val (.ref d), .val (.int (Int32.ofNat (q + (i + 1)))), .val (.int (Int32.ofNat len)), .val (.int (Int32.ofNat (i + 1))), .val (.int (cv A (o + i)))] [])) := by
        have := c9
        rw [succ32, succ32, succ32] at this
        exact this
      exact ih (i + 1) (by omega) _ (Or.inr ⟨_, rfl, rfl⟩) T7 _ (by rw [copyLocs_step, ← List.append_assoc]; exact X7) (pl.trans p7) (fl.step (by omega) hlt (by simp)) c10
  obtain ⟨T9, B9, z9, X9, p9, f9, g9⟩ := loop len 0 (by omega) .unset (Or.inl rfl) s₁ B (by simpa [copyLocs] using X0) ⟨hB0.1, fun _ _ => rfl, rfl⟩ (Laid.zero _ _ _) c2
  have c11 : Steps p.tables e below (s₁.setTop (entryFrame m #[.ref b, .int (Int32.ofNat o), .ref d, .int (Int32.ofNat q), .int (Int32.ofNat len)] 7)) (T9.setTop (mkF m 46 #[.val (.ref b), .val (.int (Int32.ofNat (o + len))), .val (.ref d), .val (.int (Int32.ofNat (q + len))), .val (.int (Int32.ofNat len)), .val (.int (Int32.ofNat len)), z9] [.int (Int32.ofNat len)])) := g9.trans (by
    refine XS.iload X9.here hexec rfl (hb hbytes d3) rfl ?_
    refine XS.iload X9.here hexec rfl (hb hbytes d5) rfl ?_
    refine XS.icmpYes X9.here hexec rfl (pc0 := 7) rfl (hb hbytes d7) rfl (ii_ge_t (nlt32 (by omega) (Nat.le_refl _))) (by decide) rfl ?_
    refine XS.iload X9.here hexec rfl (hb hbytes d44) rfl ?_
    exact Steps.refl _)
  exact ⟨T9, some (.int (Int32.ofNat len)), _, _, _, X9, by simp, rfl, rfl, (fun h => by cases h), ⟨rfl, B9, p9.from hh0, f9⟩, fun fs hl => c11.trans (X9.ireturnOut hexec hret rfl (Or.inl rfl) (hb hbytes d46) hl)⟩
end Cmp5
namespace Cmp3
def yN : MethodName := ⟨"java/lang/StringUTF16", "compress", "([CII)[B"⟩
abbrev yB : ByteArray := jdk_52_method_16_code
theorem d0 : decode yB 0 = .ok (.iload_n 2, 1) := by decide +kernel
theorem d1 : decode yB 1 = .ok (.newarray .byte, 2) := by decide +kernel
theorem d3 : decode yB 3 = .ok (.astore_n 3, 1) := by decide +kernel
theorem d4 : decode yB 4 = .ok (.aload_n 0, 1) := by decide +kernel
theorem d5 : decode yB 5 = .ok (.iload_n 1, 1) := by decide +kernel
theorem d6 : decode yB 6 = .ok (.aload_n 3, 1) := by decide +kernel
theorem d7 : decode yB 7 = .ok (.iconst 0, 1) := by decide +kernel
theorem d8 : decode yB 8 = .ok (.iload_n 2, 1) := by decide +kernel
theorem d9 : decode yB 9 = .ok (.invokestatic 115, 3) := by decide +kernel
theorem d12 : decode yB 12 = .ok (.istore 4, 2) := by decide +kernel
theorem d14 : decode yB 14 = .ok (.iload 4, 2) := by decide +kernel
theorem d16 : decode yB 16 = .ok (.iload_n 2, 1) := by decide +kernel
theorem d17 : decode yB 17 = .ok (.if_icmp (.eq) 40, 3) := by decide +kernel
theorem d57 : decode yB 57 = .ok (.aload_n 3, 1) := by decide +kernel
theorem d58 : decode yB 58 = .ok (.areturn, 1) := by decide +kernel
def site : List Cond := [.arrayClass .byte, Cmp5.tab] ++ staticW U16 115 Cmp5.yN
def tab : Cond := tabOf yN yB 6 (some (.array .byte)) site
def P (b : Addr) (A : Cell) (o len : Nat) (args : Array Value) (s : State) : Prop := args = #[.ref b, .int (Int32.ofNat o), .int (Int32.ofNat len)] ∧ Ch b A s ∧ o + len ≤ A.slots.size ∧ len ≤ 536870912 ∧ ∀ i, i < len → ¬ 255 < cv A (o + i)
def E (b : Addr) (A : Cell) (o len : Nat) (r : Option Value) (s u : State) : Prop := NewArr .byte "[B" len (fun j => .int (lo8 (cv A (o + j)))) r s u ∧ u.heap.size = s.heap.size + 1
/-- no char of the range above 255: a new byte[] of their low bytes -/
theorem law (l : Launch) (b : Addr) (A : Cell) (o len : Nat) : Law l yN 3 3 1 18 yB 6 (some (.array .byte)) site (P b A o len) (E b A o len) [] 1 len := by
  refine Law.of_walk (plainFor_of_name (by decide +kernel)) (by decide +kernel) (by decide +kernel) (by decide) (fun _ _ h => by rw [h.1]; rfl) (fun _ U U' hal hh h => ⟨h.1, h.2.1.mv hal hh, h.2.2⟩) (fun r U U' V V' h1 hal h2 h => ⟨NewArr.mv r U U' V V' h1 hal h2 h.1, by rw [h1, h2]; exact h.2⟩) ?_
  intro p e s m args below meth c s₁ X0 hexec hbytes hml hret hlk hnm hown hh0 W hP
  obtain ⟨rfl, hA, l1, l2, hp⟩ := hP
  have a31 := hA.1.2.2.2
  have c1 : Steps p.tables e below (s₁.setTop (entryFrame m #[.ref b, .int (Int32.ofNat o), .int (Int32.ofNat len)] 6)) (s₁.setTop (mkF m 0 #[.val (.ref b), .val (.int (Int32.ofNat o)), .val (.int (Int32.ofNat len)), .unset, .unset, .unset] [])) := entry rfl
  have c2 : Steps p.tables e below (s₁.setTop (entryFrame m #[.ref b, .int (Int32.ofNat o), .int (Int32.ofNat len)] 6)) (s₁.setTop (mkF m 1 #[.val (.ref b), .val (.int (Int32.ofNat o)), .val (.int (Int32.ofNat len)), .unset, .unset, .unset] [.int (Int32.ofNat len)])) := c1.trans (by
    refine XS.iloadN X0.here hexec rfl (hb hbytes d0) rfl ?_
    exact Steps.refl _)
  obtain ⟨T3, B3, X3, ba3, bs3, bv3, bh3, bf3, st3⟩ := X0.anew hexec (atype := .byte) (wk W (.arrayClass .byte)) rfl (by show len * 1 ≤ _; omega) (by omega) (g := (mkF m 1 #[.val (.ref b), .val (.int (Int32.ofNat o)), .val (.int (Int32.ofNat len)), .unset, .unset, .unset] [.int (Int32.ofNat len)])) rfl (hb hbytes d1) (rest := []) rfl (Nat.le_refl _) (by show 0 + len ≤ len; omega)
  rw [hh0] at ba3 st3
  have kp3 : XT.Kept s T3 := (XT.Kept.of_eq hh0).push bh3
  have hA3 := hA.keep X3.warmed.alike (kp3 _ _ hA.1.1)
  have hne : b ≠ s.heap.size := hA.1.ne
  have c4 : Steps p.tables e below (s₁.setTop (entryFrame m #[.ref b, .int (Int32.ofNat o), .int (Int32.ofNat len)] 6)) (T3.setTop (mkF m 3 #[.val (.ref b), .val (.int (Int32.ofNat o)), .val (.int (Int32.ofNat len)), .unset, .unset, .unset] [.ref s.heap.size])) := c2.trans (st3 _ (Steps.refl _))
  have c5 : Steps p.tables e below (s₁.setTop (entryFrame m #[.ref b, .int (Int32.ofNat o), .int (Int32.ofNat len)] 6)) (T3.setTop (mkF m 9 #[.val (.ref b), .val (.int (Int32.ofNat o)), .val (.int (Int32.ofNat len)), .val (.ref s.heap.size), .unset, .unset] [.int (Int32.ofNat len), .int 0, .ref s.heap.size, .int (Int32.ofNat o), .ref b])) := c4.trans (by
    refine XS.astoreN X3.here hexec rfl (hb hbytes d3) rfl rfl rfl ?_
    refine XS.aloadN X3.here hexec rfl (hb hbytes d4) rfl rfl ?_
    refine XS.iloadN X3.here hexec rfl (hb hbytes d5) rfl ?_
    refine XS.aloadN X3.here hexec rfl (hb hbytes d6) rfl rfl ?_
    refine iconstV X3.here hexec rfl 0 (hb hbytes d7) (by decide) ?_
    refine XS.iloadN X3.here hexec rfl (hb hbytes d8) rfl ?_
    exact Steps.refl _)
  obtain ⟨v6, T6, X6, E6, g6⟩ := X3.callS hexec (Cmp5.law l b A s.heap.size B3 o 0 len) hown (wks W (staticW U16 115 Cmp5.yN)) (wk W Cmp5.tab) (W := 0) (Nat.le_of_ble_eq_true rfl) (Nat.le_of_ble_eq_true rfl) (Nat.le_refl _) (by show 0 + len + 0 ≤ len; omega) (g := (mkF m 9 #[.val (.ref b), .val (.int (Int32.ofNat o)), .val (.int (Int32.ofNat len)), .val (.ref s.heap.size), .unset, .unset] [.int (Int32.ofNat len), .int (Int32.ofNat 0), .ref s.heap.size, .int (Int32.ofNat o), .ref b])) rfl (by rw [hml]; rfl) c5 (argsL := [.ref b, .int (Int32.ofNat o), .ref s.heap.size, .int (Int32.ofNat 0), .int (Int32.ofNat len)]) (rest := []) rfl rfl (by show 2 * 0 + 0 ≤ _; decide) (hb hbytes d9) (⟨rfl, hA3, ba3, hne, l1, by rw [bs3]; simp, hp⟩)
  obtain ⟨rfl, B6, p6, f6⟩ := E6
  have c7 : Steps p.tables e below (s₁.setTop (entryFrame m #[.ref b, .int (Int32.ofNat o), .int (Int32.ofNat len)] 6)) (T6.setTop (mkF m 12 #[.val (.ref b), .val (.int (Int32.ofNat o)), .val (.int (Int32.ofNat len)), .val (.ref s.heap.size), .unset, .unset] [.int (Int32.ofNat len)])) := g6
  have c8 : Steps p.tables e below (s₁.setTop (entryFrame m #[.ref b, .int (Int32.ofNat o), .int (Int32.ofNat len)] 6)) (T6.setTop (mkF m 58 #[.val (.ref b), .val (.int (Int32.ofNat o)), .val (.int (Int32.ofNat len)), .val (.ref s.heap.size), .val (.int (Int32.ofNat len)), .unset] [.ref s.heap.size])) := c7.trans (by
    refine XS.istore X6.here hexec rfl (hb hbytes d12) rfl rfl ?_
    refine XS.iload X6.here hexec rfl (hb hbytes d14) rfl ?_
    refine XS.iloadN X6.here hexec rfl (hb hbytes d16) rfl ?_
    refine XS.icmpYes X6.here hexec rfl (pc0 := 17) rfl (hb hbytes d17) rfl (ii_eq_t rfl) (by decide) rfl ?_
    refine XS.aloadN X6.here hexec rfl (hb hbytes d57) rfl rfl ?_
    exact Steps.refl _)
  have X8 := X6.wide (L' := []) (cells' := 1) (slots' := len) (fun x hx hlt => by
    simp only [List.nil_append, copyLocs, List.mem_map, List.mem_range] at hx
    obtain ⟨i, -, rfl⟩ := hx
    exact absurd hlt (Nat.lt_irrefl _)) (Nat.le_refl _) (by omega)
  exact ⟨T6, some (.ref s.heap.size), _, _, _, X8, rfl, rfl, rfl, (fun h => by cases h), ⟨⟨rfl, B6, ba3.like (X3.warmed.alike.symm.trans X6.warmed.alike) p6.1 f6.1 f6.2.1 f6.2.2.1, f6.2.1.trans bv3, by rw [X6.warmed.alike.findClass, f6.1]; exact bf3, by rw [f6.2.2.1, bs3]; simp, fun j hj => by rw [f6.2.2.2 j, if_pos (by omega)]; rfl, kp3.put p6 (Nat.le_refl _)⟩, by rw [p6.2.2, bh3, hh0]; simp⟩, fun fs hl => c8.trans (X8.areturnOut hexec rfl hret rfl (hb hbytes d58) hl)⟩
end Cmp3
namespace CodL
def yN : MethodName := ⟨"java/lang/StringUTF16", "coderFromArrayLen", "([BI)B"⟩
abbrev yB : ByteArray := jdk_52_method_15_code
theorem d0 : decode yB 0 = .ok (.iload_n 1, 1) := by decide +kernel
theorem d1 : decode yB 1 = .ok (.aload_n 0, 1) := by decide +kernel
theorem d2 : decode yB 2 = .ok (.arraylength, 1) := by decide +kernel
theorem d3 : decode yB 3 = .ok (.isub, 1) := by decide +kernel
theorem d4 : decode yB 4 = .ok (.bipush 31, 2) := by decide +kernel
theorem d6 : decode yB 6 = .ok (.iushr, 1) := by decide +kernel
theorem d7 : decode yB 7 = .ok (.i2b, 1) := by decide +kernel
theorem d8 : decode yB 8 = .ok (.ireturn, 1) := by decide +kernel
def site : List Cond := []
def tab : Cond := tabOf yN yB 2 (some .byte) site
def P (d : Addr) (B : Cell) (args : Array Value) (s : State) : Prop := args = #[.ref d, .int (Int32.ofNat B.slots.size)] ∧ Arr .byte d B s
def E (r : Option Value) (s u : State) : Prop := XT.PureE (some (.int 0)) r s u
/-- an array as long as the number of chars: LATIN1 -/
theorem law (l : Launch) (d : Addr) (B : Cell) : Law l yN 2 2 0 0 yB 2 (some .byte) site (P d B) E [] 0 0 := by
  refine Law.of_walk (plainFor_of_name (by decide +kernel)) (by decide +kernel) (by decide +kernel) (by decide) (fun _ _ h => by rw [h.1]; rfl) (fun _ U U' hal hh h => ⟨h.1, h.2.mv hal hh⟩) (fun r U U' V V' h1 hal h2 h => XT.PureE.mv r U U' V V' h1 hal h2 h) ?_
  intro p e s m args below meth c s₁ X0 hexec hbytes hml hret hlk hnm hown hh0 W hP
  obtain ⟨rfl, hB⟩ := hP
  have hB0 := hB.mv X0.warmed.alike hh0
  have c1 : Steps p.tables e below (s₁.setTop (entryFrame m #[.ref d, .int (Int32.ofNat B.slots.size)] 2)) (s₁.setTop (mkF m 0 #[.val (.ref d), .val (.int (Int32.ofNat B.slots.size))] [])) := entry rfl
  have c2 : Steps p.tables e below (s₁.setTop (entryFrame m #[.ref d, .int (Int32.ofNat B.slots.size)] 2)) (s₁.setTop (mkF m 2 #[.val (.ref d), .val (.int (Int32.ofNat B.slots.size))] [.ref d, .int (Int32.ofNat B.slots.size)])) := c1.trans (by
    refine XS.iloadN X0.here hexec rfl (hb hbytes d0) rfl ?_
    refine XS.aloadN X0.here hexec rfl (hb hbytes d1) rfl rfl ?_
    exact Steps.refl _)
  have c3 : Steps p.tables e below (s₁.setTop (entryFrame m #[.ref d, .int (Int32.ofNat B.slots.size)] 2)) (s₁.setTop (mkF m 8 #[.val (.ref d), .val (.int (Int32.ofNat B.slots.size))] [.int (lo8 (ushr (Int32.ofNat B.slots.size - Int32.ofNat B.slots.size) 31))])) := c2.trans (by
    refine X0.alen hexec hB0 rfl rfl (hb hbytes d2) ?_
    refine XS.isub X0.here hexec rfl (hb hbytes d3) rfl ?_
    refine bipushV X0.here hexec rfl 31 (hb hbytes d4) (by decide) ?_
    refine iushr X0.here hexec rfl (hb hbytes d6) rfl ?_
    refine i2b X0.here hexec rfl (hb hbytes d7) rfl ?_
    exact Steps.refl _)
  have e0 : lo8 (ushr (Int32.ofNat B.slots.size - Int32.ofNat B.slots.size) 31) = 0 := by rw [Int32.sub_self]; decide
  rw [e0] at c3
  exact ⟨s₁, some (.int 0), _, _, _, X0, rfl, rfl, rfl, (fun h => by cases h), ⟨rfl, hh0⟩, fun fs hl => c3.trans (X0.ireturnOut hexec hret rfl (Or.inr (Or.inr (Or.inl rfl))) (hb hbytes d8) hl)⟩
end CodL
/-- the String at a is Latin-1 over a new byte[] (the heap's one new cell): the low bytes of the len chars of A from o on; every cell but a is kept -/
def Got (a : Addr) (D : Cell) (fV fC : Field) (A : Cell) (o len : Nat) (r : Option Value) (s u : State) : Prop := r = none ∧ ∃ D' V : Cell, Blank "java/lang/String" a D' u ∧ Same D D' [fV.slot, fC.slot] ∧ D'.slots[fV.slot]? = some (.ref s.heap.size) ∧ D'.slots[fC.slot]? = some (.int 0) ∧ Arr .byte s.heap.size V u ∧ V.vm = .none ∧ u.vm.findClass "[B" = some V.cls ∧ V.slots.size = len ∧ (∀ j, j < len → V.slots[j]? = some (.int (lo8 (cv A (o + j))))) ∧ (∀ (y : Addr) (c : Cell), y ≠ a → s.heap[y]? = some c → u.heap[y]? = some c) ∧ u.heap.size = s.heap.size + 1
theorem Got.mv {a : Addr} {D A : Cell} {fV fC : Field} {o len : Nat} : ∀ r (U U' V V' : State), U'.heap = U.heap → V.vm.Alike V'.vm → V'.heap = V.heap → Got a D fV fC A o len r U V → Got a D fV fC A o len r U' V' :=
  fun r U U' V V' h1 hal h2 ⟨e0, D', X, a1, a2, a3, a4, a5, a6, a7, a8, a9, a10, a11⟩ => ⟨e0, D', X, a1.mv hal h2, a2, by rw [h1]; exact a3, a4, by rw [h1]; exact a5.mv hal h2, a6, by rw [hal.findClass]; exact a7, a8, a9, by rw [h1, h2]; exact a10, by rw [h1, h2]; exact a11⟩
namespace New4
def yN : MethodName := ⟨"java/lang/String", "<init>", "([CIILjava/lang/Void;)V"⟩
abbrev yB : ByteArray := jdk_42_method_149_code
theorem d0 : decode yB 0 = .ok (.aload_n 0, 1) := by decide +kernel
theorem d1 : decode yB 1 = .ok (.invokespecial 1, 3) := by decide +kernel
theorem d4 : decode yB 4 = .ok (.iload_n 3, 1) := by decide +kernel
theorem d5 : decode yB 5 = .ok (.ifCond (.ne) 22, 3) := by decide +kernel
theorem d27 : decode yB 27 = .ok (.getstatic 38, 3) := by decide +kernel
theorem d30 : decode yB 30 = .ok (.ifCond (.eq) 28, 3) := by decide +kernel
theorem d33 : decode yB 33 = .ok (.aload_n 1, 1) := by decide +kernel
theorem d34 : decode yB 34 = .ok (.iload_n 2, 1) := by decide +kernel
theorem d35 : decode yB 35 = .ok (.iload_n 3, 1) := by decide +kernel
theorem d36 : decode yB 36 = .ok (.invokestatic 177, 3) := by decide +kernel
theorem d39 : decode yB 39 = .ok (.astore 5, 2) := by decide +kernel
theorem d41 : decode yB 41 = .ok (.aload_n 0, 1) := by decide +kernel
theorem d42 : decode yB 42 = .ok (.aload 5, 2) := by decide +kernel
theorem d44 : decode yB 44 = .ok (.iload_n 3, 1) := by decide +kernel
theorem d45 : decode yB 45 = .ok (.invokestatic 47, 3) := by decide +kernel
theorem d48 : decode yB 48 = .ok (.putfield 15, 3) := by decide +kernel
theorem d51 : decode yB 51 = .ok (.aload_n 0, 1) := by decide +kernel
theorem d52 : decode yB 52 = .ok (.aload 5, 2) := by decide +kernel
theorem d54 : decode yB 54 = .ok (.putfield 9, 3) := by decide +kernel
theorem d57 : decode yB 57 = .ok (.return_, 1) := by decide +kernel
def site : List Cond := [.fieldLink "java/lang/String" 38 "java/lang/String" "COMPACT_STRINGS" "Z", Cmp3.tab, CodL.tab, .laysFinal "java/lang/String" "java/lang/String" "value" "[B", .fieldLink "java/lang/String" 9 "java/lang/String" "value" "[B", .laysFinal "java/lang/String" "java/lang/String" "coder" "B", .fieldLink "java/lang/String" 15 "java/lang/String" "coder" "B"] ++ objW "java/lang/String" 1 ++ staticW "java/lang/String" 177 Cmp3.yN ++ staticW "java/lang/String" 47 CodL.yN
def tab : Cond := tabOf yN yB 6 none site
def P (a : Addr) (D : Cell) (fV fC : Field) (b : Addr) (A : Cell) (z : Int32) (o len : Nat) (args : Array Value) (s : State) : Prop := args = #[.ref a, .ref b, .int (Int32.ofNat o), .int (Int32.ofNat len), .null] ∧ Blank "java/lang/String" a D s ∧ Found "java/lang/String" "value" "[B" fV s ∧ Found "java/lang/String" "coder" "B" fC s ∧ Ch b A s ∧ StaticIs s "java/lang/String" "COMPACT_STRINGS" "Z" (.int z) ∧ ¬ z = 0 ∧ 0 < len ∧ o + len ≤ A.slots.size ∧ len ≤ 536870912 ∧ ∀ i, i < len → ¬ 255 < cv A (o + i)
def E (a : Addr) (D : Cell) (fV fC : Field) (A : Cell) (o len : Nat) (r : Option Value) (s u : State) : Prop := Got a D fV fC A o len r s u
/-- len > 0, no char of the range above 255: a Latin-1 String of their low bytes -/
theorem law (l : Launch) (a : Addr) (D : Cell) (fV fC : Field) (b : Addr) (A : Cell) (z : Int32) (o len : Nat) : Law l yN 5 4 2 35 yB 6 none site (P a D fV fC b A z o len) (E a D fV fC A o len) [⟨a, fC.slot⟩, ⟨a, fV.slot⟩] 1 len := by
  refine Law.of_walk (plainFor_of_name (by decide +kernel)) (by decide +kernel) (by decide +kernel) (by decide) (fun _ _ h => by rw [h.1]; rfl) (fun _ U U' hal hh h => ⟨h.1, h.2.1.mv hal hh, h.2.2.1.al hal, h.2.2.2.1.al hal, h.2.2.2.2.1.mv hal hh, h.2.2.2.2.2.1.there hal hh, h.2.2.2.2.2.2⟩) (fun r U U' V V' h1 hal h2 h => Got.mv r U U' V V' h1 hal h2 h) ?_
  intro p e s m args below meth c s₁ X0 hexec hbytes hml hret hlk hnm hown hh0 W hP
  obtain ⟨rfl, hB, f1, f2, hA, s1, hz, l0, l1, l2, hp⟩ := hP
  have a31 := hA.1.2.2.2
  have c1 : Steps p.tables e below (s₁.setTop (entryFrame m #[.ref a, .ref b, .int (Int32.ofNat o), .int (Int32.ofNat len), .null] 6)) (s₁.setTop (mkF m 0 #[.val (.ref a), .val (.ref b), .val (.int (Int32.ofNat o)), .val (.int (Int32.ofNat len)), .val .null, .unset] [])) := entry rfl
  have c2 : Steps p.tables e below (s₁.setTop (entryFrame m #[.ref a, .ref b, .int (Int32.ofNat o), .int (Int32.ofNat len), .null] 6)) (s₁.setTop (mkF m 1 #[.val (.ref a), .val (.ref b), .val (.int (Int32.ofNat o)), .val (.int (Int32.ofNat len)), .val .null, .unset] [.ref a])) := c1.trans (by
    refine XS.aloadN X0.here hexec rfl (hb hbytes d0) rfl rfl ?_
    exact Steps.refl _)
  obtain ⟨T3, X3, q3, st3⟩ := X0.oinit hexec hown (wks W (objW "java/lang/String" 1)) (g := (mkF m 1 #[.val (.ref a), .val (.ref b), .val (.int (Int32.ofNat o)), .val (.int (Int32.ofNat len)), .val .null, .unset] [.ref a])) rfl (by rw [hml]; rfl) (rest := []) rfl (hb hbytes d1) (W := 0) (by show 2 * 0 + 0 ≤ _; decide) (Nat.le_of_ble_eq_true rfl) (Nat.le_of_ble_eq_true rfl)
  have hh3 := q3.trans hh0
  have c4 : Steps p.tables e below (s₁.setTop (entryFrame m #[.ref a, .ref b, .int (Int32.ofNat o), .int (Int32.ofNat len), .null] 6)) (T3.setTop (mkF m 27 #[.val (.ref a), .val (.ref b), .val (.int (Int32.ofNat o)), .val (.int (Int32.ofNat len)), .val .null, .unset] [])) := (c2.trans (st3 _ (Steps.refl _))).trans (by
    refine XS.iloadN X3.here hexec rfl (hb hbytes d4) rfl ?_
    refine XS.ifYes X3.here hexec rfl (pc0 := 5) rfl (hb hbytes d5) rfl (i0_ne_t (nz32 (by omega) l0)) (by decide) rfl ?_
    exact Steps.refl _)
  obtain ⟨T5, X5, q5, st5⟩ := X3.sget hexec hown (wk W (.fieldLink "java/lang/String" 38 "java/lang/String" "COMPACT_STRINGS" "Z")) s1 (fun _ _ h => by rw [hh3]; exact h) (g := (mkF m 27 #[.val (.ref a), .val (.ref b), .val (.int (Int32.ofNat o)), .val (.int (Int32.ofNat len)), .val .null, .unset] [])) rfl (hb hbytes d27)
  have hh5 := q5.trans hh3
  have c6 : Steps p.tables e below (s₁.setTop (entryFrame m #[.ref a, .ref b, .int (Int32.ofNat o), .int (Int32.ofNat len), .null] 6)) (T5.setTop (mkF m 30 #[.val (.ref a), .val (.ref b), .val (.int (Int32.ofNat o)), .val (.int (Int32.ofNat len)), .val .null, .unset] [.int z])) := c4.trans (st5 _ (Steps.refl _))
  have c7 : Steps p.tables e below (s₁.setTop (entryFrame m #[.ref a, .ref b, .int (Int32.ofNat o), .int (Int32.ofNat len), .null] 6)) (T5.setTop (mkF m 36 #[.val (.ref a), .val (.ref b), .val (.int (Int32.ofNat o)), .val (.int (Int32.ofNat len)), .val .null, .unset] [.int (Int32.ofNat len), .int (Int32.ofNat o), .ref b])) := c6.trans (by
    refine XS.ifNo X5.here hexec rfl (hb hbytes d30) rfl (i0_eq_f hz) ?_
    refine XS.aloadN X5.here hexec rfl (hb hbytes d33) rfl rfl ?_
    refine XS.iloadN X5.here hexec rfl (hb hbytes d34) rfl ?_
    refine XS.iloadN X5.here hexec rfl (hb hbytes d35) rfl ?_
    exact Steps.refl _)
  obtain ⟨v8, T8, X8, E8, g8⟩ := X5.callS hexec (Cmp3.law l b A o len) hown (wks W (staticW "java/lang/String" 177 Cmp3.yN)) (wk W Cmp3.tab) (W := 0) (Nat.le_of_ble_eq_true rfl) (Nat.le_of_ble_eq_true rfl) (Nat.le_refl _) (by show 0 + len ≤ len; omega) (g := (mkF m 36 #[.val (.ref a), .val (.ref b), .val (.int (Int32.ofNat o)), .val (.int (Int32.ofNat len)), .val .null, .unset] [.int (Int32.ofNat len), .int (Int32.ofNat o), .ref b])) rfl (by rw [hml]; rfl) c7 (argsL := [.ref b, .int (Int32.ofNat o), .int (Int32.ofNat len)]) (rest := []) rfl rfl (by show 2 * 0 + 0 ≤ _; decide) (hb hbytes d36) (⟨rfl, hA.mv X5.warmed.alike hh5, l1, l2, hp⟩)
  obtain ⟨e8, z8⟩ := E8
  obtain ⟨rfl, N, n1, n2, n3, n4, n5, n6⟩ := NewArr.mv _ T5 s _ _ hh5.symm (Vm.Alike.refl _) rfl e8
  rw [hh5] at z8
  have hB1 := hB.keep X8.warmed.alike (n6 _ _ hB.1)
  have hne : s.heap.size ≠ a := (Nat.ne_of_lt (Array.getElem?_eq_some_iff.mp hB.1).1).symm
  have c9 : Steps p.tables e below (s₁.setTop (entryFrame m #[.ref a, .ref b, .int (Int32.ofNat o), .int (Int32.ofNat len), .null] 6)) (T8.setTop (mkF m 39 #[.val (.ref a), .val (.ref b), .val (.int (Int32.ofNat o)), .val (.int (Int32.ofNat len)), .val .null, .unset] [.ref s.heap.size])) := g8
  have c10 : Steps p.tables e below (s₁.setTop (entryFrame m #[.ref a, .ref b, .int (Int32.ofNat o), .int (Int32.ofNat len), .null] 6)) (T8.setTop (mkF m 45 #[.val (.ref a), .val (.ref b), .val (.int (Int32.ofNat o)), .val (.int (Int32.ofNat len)), .val .null, .val (.ref s.heap.size)] [.int (Int32.ofNat N.slots.size), .ref s.heap.size, .ref a])) := by
    have hc : Steps p.tables e below (s₁.setTop (entryFrame m #[.ref a, .ref b, .int (Int32.ofNat o), .int (Int32.ofNat len), .null] 6)) (T8.setTop (mkF m 45 #[.val (.ref a), .val (.ref b), .val (.int (Int32.ofNat o)), .val (.int (Int32.ofNat len)), .val .null, .val (.ref s.heap.size)] [.int (Int32.ofNat len), .ref s.heap.size, .ref a])) := c9.trans (by
      refine XS.astore X8.here hexec rfl (hb hbytes d39) rfl rfl rfl ?_
      refine XS.aloadN X8.here hexec rfl (hb hbytes d41) rfl rfl ?_
      refine XS.aload X8.here hexec rfl (hb hbytes d42) rfl rfl ?_
      refine XS.iloadN X8.here hexec rfl (hb hbytes d44) rfl ?_
      exact Steps.refl _)
    rw [n4]; exact hc
  obtain ⟨v11, T11, X11, E11, g11⟩ := X8.callS hexec (CodL.law l s.heap.size N) hown (wks W (staticW "java/lang/String" 47 CodL.yN)) (wk W CodL.tab) (W := 1) (Nat.le_of_ble_eq_true rfl) (Nat.le_of_ble_eq_true rfl) (Nat.le_refl _) (by show 0 + len + 0 ≤ len; omega) (g := (mkF m 45 #[.val (.ref a), .val (.ref b), .val (.int (Int32.ofNat o)), .val (.int (Int32.ofNat len)), .val .null, .val (.ref s.heap.size)] [.int (Int32.ofNat N.slots.size), .ref s.heap.size, .ref a])) rfl (by rw [hml]; rfl) c10 (argsL := [.ref s.heap.size, .int (Int32.ofNat N.slots.size)]) (rest := [.ref a]) rfl rfl (by show 2 * 0 + (1 + 0) ≤ _; decide) (hb hbytes d45) (⟨rfl, n1⟩)
  obtain ⟨rfl, q11⟩ := E11
  have hB11 := hB1.mv (X8.warmed.alike.symm.trans X11.warmed.alike) q11
  have c12 : Steps p.tables e below (s₁.setTop (entryFrame m #[.ref a, .ref b, .int (Int32.ofNat o), .int (Int32.ofNat len), .null] 6)) (T11.setTop (mkF m 48 #[.val (.ref a), .val (.ref b), .val (.int (Int32.ofNat o)), .val (.int (Int32.ofNat len)), .val .null, .val (.ref s.heap.size)] [.int 0, .ref a])) := g11
  obtain ⟨T13, X13, p13, bl13, sl13, st13⟩ := X11.finit hexec hown (wk W (.fieldLink "java/lang/String" 15 "java/lang/String" "coder" "B")) (Or.inr ⟨_, (wk W (.laysFinal "java/lang/String" "java/lang/String" "coder" "B"))⟩) (Or.inl ⟨rfl, hnm⟩) f2 (Or.inl rfl) hB11 (t := .byte) (by decide +kernel) rfl (g := (mkF m 48 #[.val (.ref a), .val (.ref b), .val (.int (Int32.ofNat o)), .val (.int (Int32.ofNat len)), .val .null, .val (.ref s.heap.size)] [.int 0, .ref a])) rfl (rest := []) rfl (hb hbytes d48)
  have c14 : Steps p.tables e below (s₁.setTop (entryFrame m #[.ref a, .ref b, .int (Int32.ofNat o), .int (Int32.ofNat len), .null] 6)) (T13.setTop (mkF m 54 #[.val (.ref a), .val (.ref b), .val (.int (Int32.ofNat o)), .val (.int (Int32.ofNat len)), .val .null, .val (.ref s.heap.size)] [.ref s.heap.size, .ref a])) := (c12.trans (st13 _ (Steps.refl _))).trans (by
    refine XS.aloadN X13.here hexec rfl (hb hbytes d51) rfl rfl ?_
    refine XS.aload X13.here hexec rfl (hb hbytes d52) rfl rfl ?_
    exact Steps.refl _)
  obtain ⟨T15, X15, p15, bl15, sl15, st15⟩ := X13.finit hexec hown (wk W (.fieldLink "java/lang/String" 9 "java/lang/String" "value" "[B")) (Or.inr ⟨_, (wk W (.laysFinal "java/lang/String" "java/lang/String" "value" "[B"))⟩) (Or.inl ⟨rfl, hnm⟩) f1 (Or.inl rfl) bl13 (t := (.array .byte)) (by decide +kernel) rfl (g := (mkF m 54 #[.val (.ref a), .val (.ref b), .val (.int (Int32.ofNat o)), .val (.int (Int32.ofNat len)), .val .null, .val (.ref s.heap.size)] [.ref s.heap.size, .ref a])) rfl (rest := []) rfl (hb hbytes d54)
  have c16 : Steps p.tables e below (s₁.setTop (entryFrame m #[.ref a, .ref b, .int (Int32.ofNat o), .int (Int32.ofNat len), .null] 6)) (T15.setTop (mkF m 57 #[.val (.ref a), .val (.ref b), .val (.int (Int32.ofNat o)), .val (.int (Int32.ofNat len)), .val .null, .val (.ref s.heap.size)] [])) := c14.trans (st15 _ (Steps.refl _))
  have ap := apart (Or.inr ⟨_, (wk W (.laysFinal "java/lang/String" "java/lang/String" "value" "[B"))⟩) (Or.inr ⟨_, (wk W (.laysFinal "java/lang/String" "java/lang/String" "coder" "B"))⟩) f1 f2 (t₁ := .array .byte) (t₂ := .byte) (by decide +kernel) (by decide +kernel) (by decide)
  have al := X8.warmed.alike.symm.trans X15.warmed.alike
  have n7 : T11.heap[s.heap.size]? = some N := by rw [q11]; exact n1.1
  exact ⟨T15, none, _, _, _, X15, by simp, rfl, by omega, (fun _ => rfl), ⟨rfl, _, N, bl15, ((Same.refl D _).set _ (by simp)).set _ (by simp), sl15, (Cell.slots_setSlot_ne _ ap).trans sl13, n1.keep al (p15.other hne (p13.other hne n7)), n2, by rw [al.findClass]; exact n3, n4, n5, fun y c h1 h2 => p15.other h1 (p13.other h1 (by rw [q11]; exact n6 y c h2)), by rw [p15.2.2, p13.2.2, q11]; exact z8⟩, fun fs hl => c16.trans (X15.returnOut hexec hret (hb hbytes d57) hl)⟩
end New4
namespace New1
def yN : MethodName := ⟨"java/lang/String", "<init>", "([C)V"⟩
abbrev yB : ByteArray := jdk_42_method_3_code
theorem d0 : decode yB 0 = .ok (.aload_n 0, 1) := by decide +kernel
theorem d1 : decode yB 1 = .ok (.aload_n 1, 1) := by decide +kernel
theorem d2 : decode yB 2 = .ok (.iconst 0, 1) := by decide +kernel
theorem d3 : decode yB 3 = .ok (.aload_n 1, 1) := by decide +kernel
theorem d4 : decode yB 4 = .ok (.arraylength, 1) := by decide +kernel
theorem d5 : decode yB 5 = .ok (.aconst_null, 1) := by decide +kernel
theorem d6 : decode yB 6 = .ok (.invokespecial 27, 3) := by decide +kernel
theorem d9 : decode yB 9 = .ok (.return_, 1) := by decide +kernel
def site : List Cond := [New4.tab] ++ initW "java/lang/String" 27 New4.yN
def tab : Cond := tabOf yN yB 2 none site
def P (a : Addr) (D : Cell) (fV fC : Field) (b : Addr) (A : Cell) (z : Int32) (args : Array Value) (s : State) : Prop := args = #[.ref a, .ref b] ∧ Blank "java/lang/String" a D s ∧ Found "java/lang/String" "value" "[B" fV s ∧ Found "java/lang/String" "coder" "B" fC s ∧ Ch b A s ∧ StaticIs s "java/lang/String" "COMPACT_STRINGS" "Z" (.int z) ∧ ¬ z = 0 ∧ 0 < A.slots.size ∧ A.slots.size ≤ 536870912 ∧ ∀ i, i < A.slots.size → ¬ 255 < cv A i
def E (a : Addr) (D : Cell) (fV fC : Field) (A : Cell) (r : Option Value) (s u : State) : Prop := Got a D fV fC A 0 A.slots.size r s u
/-- new String(chars), not empty, no char above 255: a Latin-1 String of their low bytes -/
theorem law (l : Launch) (a : Addr) (D : Cell) (fV fC : Field) (b : Addr) (A : Cell) (z : Int32) : Law l yN 2 1 3 52 yB 2 none site (P a D fV fC b A z) (E a D fV fC A) [⟨a, fC.slot⟩, ⟨a, fV.slot⟩] 1 A.slots.size := by
  refine Law.of_walk (plainFor_of_name (by decide +kernel)) (by decide +kernel) (by decide +kernel) (by decide) (fun _ _ h => by rw [h.1]; rfl) (fun _ U U' hal hh h => ⟨h.1, h.2.1.mv hal hh, h.2.2.1.al hal, h.2.2.2.1.al hal, h.2.2.2.2.1.mv hal hh, h.2.2.2.2.2.1.there hal hh, h.2.2.2.2.2.2⟩) (fun r U U' V V' h1 hal h2 h => Got.mv r U U' V V' h1 hal h2 h) ?_
  intro p e s m args below meth c s₁ X0 hexec hbytes hml hret hlk hnm hown hh0 W hP
  obtain ⟨rfl, hB, f1, f2, hA, s1, hz, l0, l2, hp⟩ := hP
  have c1 : Steps p.tables e below (s₁.setTop (entryFrame m #[.ref a, .ref b] 2)) (s₁.setTop (mkF m 0 #[.val (.ref a), .val (.ref b)] [])) := entry rfl
  have c2 : Steps p.tables e below (s₁.setTop (entryFrame m #[.ref a, .ref b] 2)) (s₁.setTop (mkF m 6 #[.val (.ref a), .val (.ref b)] [.null, .int (Int32.ofNat A.slots.size), .int 0, .ref b, .ref a])) := c1.trans (by
    refine XS.aloadN X0.here hexec rfl (hb hbytes d0) rfl rfl ?_
    refine XS.aloadN X0.here hexec rfl (hb hbytes d1) rfl rfl ?_
    refine iconstV X0.here hexec rfl 0 (hb hbytes d2) (by decide) ?_
    refine XS.aloadN X0.here hexec rfl (hb hbytes d3) rfl rfl ?_
    refine X0.alen hexec (hA.1.mv X0.warmed.alike hh0) rfl rfl (hb hbytes d4) ?_
    refine XS.aconstNull X0.here hexec rfl (hb hbytes d5) ?_
    exact Steps.refl _)
  obtain ⟨v3, T3, X3, E3, g3⟩ := X0.callN hexec (New4.law l a D fV fC b A z 0 A.slots.size) rfl hown (wks W (initW "java/lang/String" 27 New4.yN)) (W New4.tab (by simp only [site, List.mem_cons, List.mem_append, true_or, or_true])) (W := 0) (Nat.le_of_ble_eq_true rfl) (Nat.le_of_ble_eq_true rfl) (Nat.le_refl _) (by show 0 + A.slots.size ≤ A.slots.size; omega) (g := (mkF m 6 #[.val (.ref a), .val (.ref b)] [.null, .int (Int32.ofNat A.slots.size), .int (Int32.ofNat 0), .ref b, .ref a])) rfl (by rw [hml]; rfl) c2 (argsL := [.ref b, .int (Int32.ofNat 0), .int (Int32.ofNat A.slots.size), .null]) (rest := []) rfl rfl (by show 2 * 0 + 0 ≤ _; decide) (hb hbytes d6) (⟨rfl, hB.mv X0.warmed.alike hh0, f1.al X0.warmed.alike, f2.al X0.warmed.alike, hA.mv X0.warmed.alike hh0, s1.there X0.warmed.alike hh0, hz, l0, by omega, l2, fun i hi => by rw [Nat.zero_add]; exact hp i hi⟩)
  have e0 := Got.mv _ s₁ s _ _ hh0.symm (Vm.Alike.refl _) rfl E3
  obtain rfl := e0.1
  have c4 : Steps p.tables e below (s₁.setTop (entryFrame m #[.ref a, .ref b] 2)) (T3.setTop (mkF m 9 #[.val (.ref a), .val (.ref b)] [])) := g3
  exact ⟨T3, none, _, _, _, X3, by simp, rfl, by omega, (fun _ => rfl), e0, fun fs hl => c4.trans (X3.returnOut hexec hret (hb hbytes d9) hl)⟩
theorem pays {l : Launch} {R : Room} {p : Program} {e : Env} {below : List Frame} {s : State} {sargs : Array Value} {len W : Nat} (a : Addr) (D : Cell) (fV fC : Field) (b : Addr) (A : Cell) (z : Int32) (htab : tab.before sargs s = true) (hfr : 4 ≤ R.frames) (hlo : W + 65 ≤ R.locals) :
    Back l R p e below s sargs yN len W (fun A₁ a₁ => A₁.cells + 1 ≤ R.cells ∧ A₁.slots + A.slots.size ≤ R.slots ∧ P a D fV fC b A z a₁ A₁.U) (fun A₁ _ v₁ B₁ => E a D fV fC A v₁ A₁.U B₁.U ∧ B₁.locs = A₁.locs ++ [⟨a, fC.slot⟩, ⟨a, fV.slot⟩] ∧ B₁.cells = A₁.cells + 1 ∧ B₁.slots = A₁.slots + A.slots.size) :=
  (law l a D fV fC b A z).pays htab hfr (by omega)
end New1
/-- the byte, read back as charAt reads it, is the char -/
theorem lo8_mask {x : Int32} (h0 : ¬ x < 0) (h1 : ¬ 255 < x) : lo8 x &&& 255 = x := by
  have t : ∀ k : Fin 256, lo8 (Int32.ofNat k.val) &&& 255 = Int32.ofNat k.val := by decide +kernel
  rw [Int32.lt_iff_toInt_lt] at h0 h1
  have e0 : (0 : Int32).toInt = 0 := rfl
  have e1 : (255 : Int32).toInt = 255 := rfl
  obtain ⟨k, hk⟩ : ∃ k : Nat, x.toInt = k := ⟨x.toInt.toNat, by omega⟩
  have hx : x = Int32.ofNat k := Int32.toInt_inj.mp (by rw [hk, Int32.toInt_ofNat_small (by omega)])
  rw [hx]
  exact t ⟨k, by omega⟩
end StrChars
namespace StrChars.Road
open Jvm Sem ClassFile Op Lib Jvm.Stand Jvm.Free Jvm.Free.XT
open Jvm.Lib.Cold (StaticIs)
abbrev ST : String := "java/lang/String"
/-- every table word that New1's law asks, flat -/
abbrev words : List Jvm.Cond := [.code New1.yN New1.yB 2 none, .initialized ST, .methodLink ST 27 New4.yN, .instanceMethod New4.yN,
  .code New4.yN New4.yB 6 none, .fieldLink ST 38 ST "COMPACT_STRINGS" "Z", .laysFinal ST ST "value" "[B", .fieldLink ST 9 ST "value" "[B", .laysFinal ST ST "coder" "B", .fieldLink ST 15 ST "coder" "B",
  .methodLink ST 1 Lib.objectInit, .instanceMethod Lib.objectInit, .code Lib.objectInit ⟨#[0xb1]⟩ 1 none, .methodLink ST 177 Cmp3.yN, .static Cmp3.yN, .methodLink ST 47 CodL.yN, .static CodL.yN,
  .code Cmp3.yN Cmp3.yB 6 (some (.array .byte)), .initialized U16, .arrayClass .byte, .methodLink U16 115 Cmp5.yN, .static Cmp5.yN, .code Cmp5.yN Cmp5.yB 7 (some .int), .code CodL.yN CodL.yB 2 (some .byte)]
theorem tab_of {a : Array Value} {s : State} (h : ∀ w ∈ words, w.before a s = true) : New1.tab.before a s = true := by
  have h5 : Cmp5.tab.before a s = true := unparts (wk h (.code Cmp5.yN Cmp5.yB 7 (some .int))) (wks h (.initialized Cmp5.yN.cls :: Cmp5.site))
  have hc : CodL.tab.before a s = true := unparts (wk h (.code CodL.yN CodL.yB 2 (some .byte))) (wks h (.initialized CodL.yN.cls :: CodL.site))
  have q5 : ∀ w ∈ Cmp5.tab :: words, w.before a s = true := fun w hw => (List.mem_cons.mp hw).elim (fun e => e ▸ h5) (h w)
  have h3 : Cmp3.tab.before a s = true := unparts (wk q5 (.code Cmp3.yN Cmp3.yB 6 (some (.array .byte)))) (wks q5 (.initialized Cmp3.yN.cls :: Cmp3.site))
  have q3 : ∀ w ∈ Cmp3.tab :: CodL.tab :: words, w.before a s = true := fun w hw => (List.mem_cons.mp hw).elim (fun e => e ▸ h3) fun hw => (List.mem_cons.mp hw).elim (fun e => e ▸ hc) (h w)
  have h4 : New4.tab.before a s = true := unparts (wk q3 (.code New4.yN New4.yB 6 none)) (wks q3 (.initialized New4.yN.cls :: New4.site))
  have q4 : ∀ w ∈ New4.tab :: words, w.before a s = true := fun w hw => (List.mem_cons.mp hw).elim (fun e => e ▸ h4) (h w)
  exact unparts (wk q4 (.code New1.yN New1.yB 2 none)) (wks q4 (.initialized New1.yN.cls :: New1.site))
/-- the words ride from the start Z to the walk's own state -/
theorem moved {Z s : State} {a0 args : Array Value} (hZ : Z.Warmed39 s.vm) (hw : ∀ d ∈ words, d.before a0 Z = true) : ∀ d ∈ words, d.before args s = true := fun d hd => by
  have q := hw d hd
  have t : ∀ d ∈ words, d = .arrayClass .byte ∨ (d.onTables && d.keepsFace) = true := by decide +kernel
  rcases t d hd with rfl | t
  · exact RoadKit.mvA hZ q
  · exact RoadKit.mv hZ q t
/-- WHAT COMES BACK, over the tables of the start Z: h the heap at the call, h' behind it -/
def Q (Z : State) (x : Addr) (A : Cell) (h : Heap) (v : Option Value) (h' : Heap) (L : List Loc) : Prop := v = none ∧ (∀ y ∈ L, y.base = x) ∧ RoadKit.Keep h h' [x] ∧ h'.size = h.size + 1 ∧ RoadKit.Exa Z h' x ST ∧ RoadKit.Fld Z h' x ST "value" "[B" (.ref h.size) ∧ RoadKit.Fld Z h' x ST "coder" "B" (.int 0) ∧
  (∃ V : Cell, RoadKit.Arr Z h' h.size V .byte ∧ V.vm = .none ∧ Z.vm.findClass "[B" = some V.cls ∧ V.slots.size = A.slots.size ∧ ∀ j, j < A.slots.size → V.slots[j]? = some (.int (lo8 (cv A j)))) ∧
  ∀ (O n d : String) (w : Value), RoadKit.Fld Z h x O n d w → RoadKit.slotOf Z O n d ≠ RoadKit.slotOf Z ST "value" "[B" → RoadKit.slotOf Z O n d ≠ RoadKit.slotOf Z ST "coder" "B" → RoadKit.Fld Z h' x O n d w
/-- **new String(chars) AT A CALL, IN THE ROAD'S FORM**: for specialBack behind newO: x the fresh String, b the char[] with the cell A -/
theorem back {p : Program} {l : Launch} {e : Env} {R : Room} {s : State} {args : Array Value} {below : List Frame} {len W : Nat} {Z : State} {a0 : Array Value} {h : Heap} (hZ : Z.Warmed39 s.vm) (hw : ∀ d ∈ words, d.before a0 Z = true) {kI : Nat} (wi : (Jvm.Cond.instantiable ST kI).before a0 Z = true)
    {x b : Addr} {A : Cell} {z : Int32} {v0 c0 : Value} (E : RoadKit.Exa Z h x ST) (V : RoadKit.Fld Z h x ST "value" "[B" v0) (C : RoadKit.Fld Z h x ST "coder" "B" c0) (K : RoadKit.Arr Z h b A .char) (hty : Typed .char A) (S : RoadKit.Sta Z h ST "COMPACT_STRINGS" "Z" (.int z)) (hz : ¬ z = 0)
    (l0 : 0 < A.slots.size) (l2 : A.slots.size ≤ 536870912) (hp : ∀ i, i < A.slots.size → ¬ 255 < cv A i) (hfr : 4 ≤ R.frames) (hlo : W + 65 ≤ R.locals) :
    Back l R p e below s args New1.yN len W (fun P a => a = #[.ref x, .ref b] ∧ P.U.heap = h ∧ P.cells + 1 ≤ R.cells ∧ P.slots + A.slots.size ≤ R.slots)
      (fun P _ v B => ∃ L, Q Z x A h v B.U.heap L ∧ B.locs = P.locs ++ L ∧ B.cells = P.cells + 1 ∧ B.slots = P.slots + A.slots.size) := by
  intro m meth c P g ig mk a X hg hsize hdg hW hn hp'
  obtain ⟨rfl, rfl, r1, r2⟩ := hp'
  have al : Z.vm.Alike P.U.vm := hZ.alike.trans X.warmed.alike
  obtain ⟨D, cfV, kV, iV, fV, hD, gV, stV, knV, obV, asV, slV⟩ := id V
  obtain ⟨D', cfC, kC, iC, fC, hD', gC, stC, -, -, asC, slC⟩ := id C
  cases hD.symm.trans hD'
  obtain ⟨D2, kD, e1, e2, e3, e4, e5⟩ := id E
  cases hD.symm.trans e1
  obtain ⟨c2, k2, i1, i2, i3, -⟩ := Cond.instantiable_spec wi
  cases e2.symm.trans i1
  cases e3.symm.trans i2
  obtain ⟨kU, u1, u2⟩ := al.2.2 _ _ e3
  have hB : Blank ST x D P.U := ⟨hD, ⟨knV, fun q hq => by rw [hq] at obV; cases obV⟩, by rw [al.findClass]; exact e2, kU, u1, by rw [u2]; exact i3, by rw [u2]; exact e5 i3⟩
  have F1 : Found ST "value" "[B" fV P.U := ⟨SBG.found_only al ⟨cfV, kV, iV, gV⟩, stV⟩
  have F2 : Found ST "coder" "B" fC P.U := ⟨SBG.found_only al ⟨cfC, kC, iC, gC⟩, stC⟩
  have hA : Ch b A P.U := ⟨⟨K.1, State.isArrayOf_alike al K.2.1, K.2.2, by omega⟩, hty⟩
  have hS : StaticIs P.U ST "COMPACT_STRINGS" "Z" (.int z) := by
    obtain ⟨cfS, iS, kS, fS, st, cS, t1, t2, t3, t4, t5, t6, t7⟩ := S
    exact StaticIs.there (s := { Z with heap := P.U.heap }) ⟨cfS, iS, kS, fS, st, cS, t1, t2, t3, t4, t5, (fun q => by rw [q] at t6; cases t6), t7⟩ al rfl
  obtain ⟨v, B, X', ⟨⟨hv, E', V', q1, q2, q3, q4, q5, q6, q7, q8, q9, q10, q11⟩, hl, hc, hs⟩, st⟩ := New1.pays x D fV fC b A z (tab_of (moved hZ hw)) hfr hlo m meth c P g ig mk _ X hg hsize hdg hW hn ⟨r1, r2, rfl, hB, F1, F2, hA, hS, hz, l0, l2, hp⟩
  have al' : Z.vm.Alike B.U.vm := hZ.alike.trans X'.warmed.alike
  have hsz : E'.slots.size = D.slots.size := by
    obtain ⟨-, -, -, kB, w1, w2, w3⟩ := q1
    obtain ⟨kB', y1, y2⟩ := al'.2.2 _ _ e3
    rw [q2.2.1] at w1
    cases w1.symm.trans y1
    rw [w3, e5 i3, y2]
  refine ⟨v, B, X', ⟨_, ⟨hv, ?_, ⟨by omega, fun y cy hy hn' => q10 y cy (by simpa using hn') hy, fun y cy hy => ?_⟩, q11, ⟨E', _, q1.1, by rw [q2.2.1]; exact e2, by rw [q2.2.1]; exact e3, by rw [q2.1]; exact obV, fun _ => by rw [hsz]; exact e5 i3⟩,
    ⟨E', cfV, kV, iV, fV, q1.1, gV, stV, by rw [q2.1]; exact knV, by rw [q2.1]; exact obV, by rw [q2.2.1]; exact asV, q3⟩, ⟨E', cfC, kC, iC, fC, q1.1, gC, stC, by rw [q2.1]; exact knV, by rw [q2.1]; exact obV, by rw [q2.2.1]; exact asC, q4⟩,
    ⟨V', ⟨q5.1, State.isArrayOf_alike al'.symm q5.2.1, q5.2.2.1⟩, q6, by rw [← al'.findClass]; exact q7, q8, fun j hj => by have := q9 j hj; rwa [Nat.zero_add] at this⟩, fun O n d w F n1 n2 => ?_⟩, hl, hc, hs⟩, st⟩
  · intro y hy
    simp only [List.mem_cons, List.not_mem_nil, or_false] at hy
    rcases hy with rfl | rfl <;> rfl
  · by_cases q : y = x
    · subst q
      cases hD.symm.trans hy
      exact ⟨E', q1.1, q2.2.1, q2.1, hsz⟩
    · exact ⟨cy, q10 y cy q hy, rfl, rfl, rfl⟩
  · obtain ⟨D3, cf, k, i, f, g1, g2, g3, g4, g5, g6, g7⟩ := F
    cases hD.symm.trans g1
    simp only [RoadKit.slotOf, g2, gV, gC, Option.map_some, Option.getD_some] at n1 n2
    exact ⟨E', cf, k, i, f, q1.1, g2, g3, by rw [q2.1]; exact g4, by rw [q2.1]; exact g5, by rw [q2.2.1]; exact g6, by rw [q2.2.2 f.slot (by simp [n1, n2])]; exact g7⟩
end StrChars.Road
namespace StrChars.Road
open Jvm Sem ClassFile Op Lib Jvm.Stand Jvm.Free Jvm.Free.XT
/-- WHAT COMES BACK, the byte[] as a list of values -/
def QA (Z : State) (x : Addr) (zn : Int32) (cs : List Int32) (h : Heap) (v : Option Value) (h' : Heap) (L : List Loc) : Prop := v = none ∧ (∀ y ∈ L, y.base = x) ∧ RoadKit.Keep h h' [x] ∧ h'.size = h.size + 1 ∧ RoadKit.Exa Z h' x ST ∧ RoadKit.Fld Z h' x ST "value" "[B" (.ref h.size) ∧ RoadKit.Fld Z h' x ST "coder" "B" (.int 0) ∧
  (∃ kb, Z.vm.findClass "[B" = some kb ∧ RoadKit.Arv Z h' h.size kb .byte zn (cs.map fun c => .int (lo8 c)) (.int 0)) ∧
  ∀ (O n d : String) (w : Value), RoadKit.Fld Z h x O n d w → RoadKit.slotOf Z O n d ≠ RoadKit.slotOf Z ST "value" "[B" → RoadKit.slotOf Z O n d ≠ RoadKit.slotOf Z ST "coder" "B" → RoadKit.Fld Z h' x O n d w
/-- **new String(chars) AT A CALL, THE ARRAYS AS LISTS**: the char[] at b holds cs, not empty, no char above 255 -/
theorem backArv {p : Program} {l : Launch} {e : Env} {R : Room} {s : State} {args : Array Value} {below : List Frame} {len W : Nat} {Z : State} {a0 : Array Value} {h : Heap} (hZ : Z.Warmed39 s.vm) (hw : ∀ d ∈ words, d.before a0 Z = true) {kI : Nat} (wi : (Jvm.Cond.instantiable ST kI).before a0 Z = true)
    {x b : Addr} {k : ClassId} {zn z : Int32} {cs : List Int32} {dv v0 c0 : Value} (E : RoadKit.Exa Z h x ST) (V : RoadKit.Fld Z h x ST "value" "[B" v0) (C : RoadKit.Fld Z h x ST "coder" "B" c0) (K : RoadKit.Arv Z h b k .char zn (cs.map Value.int) dv) (S : RoadKit.Sta Z h ST "COMPACT_STRINGS" "Z" (.int z)) (hz : ¬ z = 0)
    (hlen : zn.toNatClampNeg = cs.length) (h0 : 0 < cs.length) (hbig : cs.length ≤ 536870912) (hall : ∀ c ∈ cs, ¬ 255 < c) (hfr : 4 ≤ R.frames) (hlo : W + 65 ≤ R.locals) :
    Back l R p e below s args New1.yN len W (fun P a => a = #[.ref x, .ref b] ∧ P.U.heap = h ∧ P.cells + 1 ≤ R.cells ∧ P.slots + cs.length ≤ R.slots)
      (fun P _ v B => ∃ L, QA Z x zn cs h v B.U.heap L ∧ B.locs = P.locs ++ L ∧ B.cells = P.cells + 1 ∧ B.slots = P.slots + cs.length) := by
  obtain ⟨A, K1, K2, K3, K4, K5, K6⟩ := K
  have e : A.slots.size = cs.length := K3.trans hlen
  have hat : ∀ (i : Nat) (hi : i < cs.length), A.slots[i]? = some (.int cs[i]) := fun i hi => by rw [K5 i (by omega)]; simp [List.getD_eq_getElem?_getD, hi]
  have hcv : ∀ (i : Nat) (hi : i < cs.length), cv A i = cs[i] := fun i hi => by unfold cv; rw [hat i hi]
  have hty : Typed .char A := fun i v hv => by
    have hi : i < A.slots.size := (Array.getElem?_eq_some_iff.mp hv).1
    have q := K5 i hi
    rw [hv] at q
    rw [Option.some.inj q]
    exact K6 i hi
  refine Back.mono (back hZ hw wi E V C K1 hty S hz (by omega) (by omega) (fun i hi => by rw [hcv i (by omega)]; exact hall _ (List.getElem_mem _)) hfr hlo) (fun P a hp => ⟨hp.1, hp.2.1, hp.2.2.1, by rw [e]; exact hp.2.2.2⟩) (fun P a v B hp hq => ?_)
  obtain ⟨L, ⟨q1, q2, q3, q4, q5, q6, q7, ⟨V', v1, v2, v3, v4, v5⟩, q9⟩, hl, hc, hs⟩ := hq
  refine ⟨L, ⟨q1, q2, q3, q4, q5, q6, q7, ⟨V'.cls, v3, V', v1, rfl, by rw [v4, e, hlen], K4, fun i hi => ?_, fun i hi => ?_⟩, q9⟩, hl, hc, by rw [hs, e]⟩
  · have hi' : i < cs.length := by omega
    rw [v5 i (by omega), hcv i hi']; simp [List.getD_eq_getElem?_getD, hi']
  · have hi' : i < cs.length := by omega
    simp only [List.getD_eq_getElem?_getD, List.getElem?_map, List.getElem?_eq_getElem hi', Option.map_some, Option.getD_some]
    exact fits_lo8 _
end StrChars.Road
namespace StrChars.Road
open Jvm Sem ClassFile Op Lib Jvm.Stand Jvm.Free Jvm.Free.XT
/-- WHAT COMES BACK, in the writer's own shape -/
def QV (Z : State) (x : Addr) (N : Int32) (bs : List Int32) (h : Heap) (n0 : Nat) (v : Option Value) (h' : Heap) (L : List Loc) : Prop := v = none ∧ RoadKit.Fr n0 L ∧ RoadKit.Keep h h' [x] ∧ RoadKit.Exa Z h' x ST ∧ RoadKit.Fld Z h' x ST "coder" "B" (.int 0) ∧
  ∃ (t : Addr) (kb : ClassId), n0 ≤ t ∧ h.size ≤ t ∧ ¬ t = x ∧ RoadKit.Fld Z h' x ST "value" "[B" (.ref t) ∧ RoadKit.Arv Z h' t kb .byte N (bs.map Value.int) (.int 0)
/-- **new String(chars) AT A CALL, FOR THE WRITER**: a char[] of n known ints, each 0 to 255 -/
theorem backV {p : Program} {l : Launch} {e : Env} {R : Room} {s : State} {args : Array Value} {below : List Frame} {len W : Nat} {Z : State} {a0 : Array Value} {h : Heap} (hZ : Z.Warmed39 s.vm) (hw : ∀ d ∈ words, d.before a0 Z = true) {kI : Nat} (wi : (Jvm.Cond.instantiable ST kI).before a0 Z = true)
    {x b : Addr} {kC : ClassId} {cs bs : List Int32} {d v0 c0 : Value} {z N : Int32} {n n0 : Nat} (hx0 : n0 ≤ x) (hh0 : n0 ≤ h.size) (E : RoadKit.Exa Z h x ST) (V : RoadKit.Fld Z h x ST "value" "[B" v0) (C : RoadKit.Fld Z h x ST "coder" "B" c0) (K : RoadKit.Arv Z h b kC .char N (cs.map Value.int) d) (S : RoadKit.Sta Z h ST "COMPACT_STRINGS" "Z" (.int z)) (hz : ¬ z = 0)
    (hn : cs.length = n) (hN : N = Int32.ofNat n) (l0 : 0 < n) (l2 : n ≤ 4000) (hp : ∀ c ∈ cs, ¬ c < 0 ∧ ¬ (255 : Int32) < c) (hb : bs = cs.map (fun c => c.toInt8.toInt32)) (hfr : 4 ≤ R.frames) (hlo : W + 65 ≤ R.locals) :
    Back l R p e below s args (⟨"java/lang/String", "<init>", "([C)V"⟩ : MethodName) len W (fun P a => a = #[.ref x, .ref b] ∧ P.U.heap = h ∧ P.cells + 1 ≤ R.cells ∧ P.slots + n ≤ R.slots)
      (fun P _ v B => ∃ L, QV Z x N bs h n0 v B.U.heap L ∧ B.locs = P.locs ++ L ∧ B.cells = P.cells + 1 ∧ B.slots = P.slots + n) := by
  subst hn hN hb
  refine Back.mono (backArv hZ hw wi E V C K S hz (n32 (by omega)) l0 (by omega) (fun c hc => (hp c hc).2) hfr hlo) (fun P a hp => hp) (fun P a v B hp hq => ?_)
  obtain ⟨L, ⟨q1, q2, q3, q4, q5, q6, q7, ⟨kb, v1, v2⟩, q9⟩, hl, hc, hs⟩ := hq
  exact ⟨L, ⟨q1, fun y hy => by rw [q2 y hy]; exact hx0, q3, q5, q7, h.size, kb, hh0, Nat.le_refl _, Nat.ne_of_gt E.lt, q6, by rw [List.map_map]; exact v2⟩, hl, hc, hs⟩
end StrChars.Road
namespace StrChars
open Jvm Sem ClassFile Op Lib Jvm.Stand Jvm.Free.XT Jvm.Free.ALB Jvm.Free.JM Jvm.Free
open Jvm.Lib.Cold (StaticIs)
def hi8 (x : Int32) : Int32 := lo8 (x >>> ((8 : Int32) &&& 31))
/-- what StringUTF16.getChar makes of two bytes -/
def pairCh (u v : Int32) : Int32 := (((u &&& 255) <<< ((0 : Int32) &&& 31)) ||| ((v &&& 255) <<< ((8 : Int32) &&& 31))).toUInt32.toUInt16.toUInt32.toInt32
theorem lo8_and (x : Int32) : (lo8 x &&& 255).toBitVec.toNat = x.toBitVec.toNat % 256 := by
  have h : (lo8 x).toBitVec = (x.toBitVec.signExtend 8).signExtend 32 := by rw [lo8, Int8.toBitVec_toInt32, Int32.toBitVec_toInt8]
  rw [Int32.toBitVec_and, BitVec.toNat_and, h]
  have e : ((x.toBitVec.signExtend 8).signExtend 32).toNat % 256 = x.toBitVec.toNat % 256 := by
    rw [BitVec.toNat_signExtend]
    have hlt := x.toBitVec.isLt
    simp only [BitVec.toNat_setWidth, BitVec.toNat_signExtend]
    split <;> split <;> omega
  rw [← e]
  exact Nat.and_two_pow_sub_one_eq_mod _ 8
theorem pair_says {c : Int32} (h0 : ¬ c < 0) (h1 : ¬ 65535 < c) : pairCh (lo8 c) (hi8 c) = c := by
  rw [Int32.lt_iff_toInt_lt] at h0 h1
  have e0 : (0 : Int32).toInt = 0 := rfl
  have e1 : (65535 : Int32).toInt = 65535 := rfl
  have hc : c.toInt = c.toBitVec.toNat := by
    have := c.toBitVec.isLt
    have e : c.toInt = c.toBitVec.toInt := rfl
    rw [e] at h0 h1
    rw [e]
    rw [BitVec.toInt_eq_toNat_cond] at h0 h1 ⊢
    split at h0 <;> split <;> omega
  have hn : c.toBitVec.toNat < 65536 := by omega
  have a1 := lo8_and c
  have a2 : (hi8 c &&& 255).toBitVec.toNat = c.toBitVec.toNat / 256 := by
    rw [hi8, lo8_and]
    have e : ((8 : Int32) &&& 31) = 8 := by decide
    rw [e, Int32.toBitVec_shiftRight]
    have e2 : ((8 : Int32).toBitVec.smod 32) = 8#32 := by decide
    rw [e2, BitVec.sshiftRight_eq', BitVec.toNat_sshiftRight_of_msb_false (by rw [BitVec.msb_eq_false_iff_two_mul_lt]; omega)]
    show c.toBitVec.toNat >>> 8 % 256 = _
    rw [Nat.shiftRight_eq_div_pow]
    omega
  unfold pairCh
  apply Int32.toBitVec_inj.mp
  apply BitVec.eq_of_toNat_eq
  have f0 : ((0 : Int32) &&& 31) = 0 := by decide
  have f8 : ((8 : Int32) &&& 31) = 8 := by decide
  rw [f0, f8]
  have g : (((lo8 c &&& 255) <<< (0 : Int32)) ||| ((hi8 c &&& 255) <<< (8 : Int32))).toBitVec.toNat = c.toBitVec.toNat := by
    rw [Int32.toBitVec_or, Int32.toBitVec_shiftLeft, Int32.toBitVec_shiftLeft]
    have s0 : ((0 : Int32).toBitVec.smod 32) = 0#32 := by decide
    have s8 : ((8 : Int32).toBitVec.smod 32) = 8#32 := by decide
    rw [s0, s8, BitVec.toNat_or]
    simp only [BitVec.shiftLeft_eq', BitVec.toNat_shiftLeft, a1, a2]
    show (c.toBitVec.toNat % 256) <<< 0 % 2 ^ 32 ||| (c.toBitVec.toNat / 256) <<< 8 % 2 ^ 32 = _
    rw [Nat.shiftLeft_zero, Nat.mod_eq_of_lt (show c.toBitVec.toNat % 256 < 2 ^ 32 by omega), Nat.mod_eq_of_lt (show (c.toBitVec.toNat / 256) <<< 8 < 2 ^ 32 by rw [Nat.shiftLeft_eq]; omega), Nat.or_comm, ← Nat.shiftLeft_add_eq_or_of_lt (by omega), Nat.shiftLeft_eq]
    omega
  show BitVec.toNat (((((lo8 c &&& 255) <<< (0 : Int32)) ||| ((hi8 c &&& 255) <<< (8 : Int32))).toBitVec.setWidth 16).setWidth 32) = _
  rw [BitVec.toNat_setWidth, BitVec.toNat_setWidth, g]
  omega
end StrChars
namespace StrChars
open Jvm Sem ClassFile Op Lib Jvm.Stand Jvm.Free.XT Jvm.Free.ALB Jvm.Free.JM Jvm.Free
open Jvm.Lib.Cold (StaticIs)
/-- the array's cell V codes the n chars f 0 .. f (n - 1) by the coder cd, as the JDK does: coder 1 just where some char is above 255 -/
def Cod (cd : Int32) (n : Nat) (f : Nat → Int32) (V : Cell) : Prop := (cd = 0 ∧ V.slots.size = n ∧ ∀ j, j < n → V.slots[j]? = some (.int (lo8 (f j))) ∧ ¬ 255 < f j) ∨ (cd = 1 ∧ V.slots.size = 2 * n ∧ (∀ j, j < n → V.slots[2 * j]? = some (.int (lo8 (f j))) ∧ V.slots[2 * j + 1]? = some (.int (hi8 (f j)))) ∧ ∃ j, j < n ∧ 255 < f j)
/-- **x is a String of the n chars f 0 .. f (n - 1)**, Latin-1 or UTF-16; its array at t has the cell V -/
def Txt (x t : Addr) (V : Cell) (cd : Int32) (n : Nat) (f : Nat → Int32) (U : State) : Prop := Exact "java/lang/String" x U ∧ Has x "java/lang/String" "value" "[B" (.ref t) U ∧ Has x "java/lang/String" "coder" "B" (.int cd) U ∧ XT.Arr .byte t V U ∧ Cod cd n f V ∧ ∀ j, j < n → ¬ f j < 0 ∧ ¬ 65535 < f j
theorem Txt.mv {x t : Addr} {V : Cell} {cd : Int32} {n : Nat} {f : Nat → Int32} {U U' : State} (h : Txt x t V cd n f U) (hal : U.vm.Alike U'.vm) (hh : U'.heap = U.heap) : Txt x t V cd n f U' := ⟨h.1.mv hal hh, h.2.1.mv hal hh, h.2.2.1.mv hal hh, h.2.2.2.1.mv hal hh, h.2.2.2.2⟩
end StrChars
namespace StrChars.Road
open Jvm Sem ClassFile Op Lib Jvm.Stand Jvm.Free Jvm.Free.XT
open Jvm.Lib.Cold (StaticIs)
theorem consq {a : Array Value} {s : State} {c : Jvm.Cond} {L : List Jvm.Cond} (h0 : c.before a s = true) (h : ∀ w ∈ L, w.before a s = true) : ∀ w ∈ c :: L, w.before a s = true := fun w hw => (List.mem_cons.mp hw).elim (fun e => e ▸ h0) (h w)
/-- the bytes of the chars cs, low before high -/
def wideBytes : List Int32 → List Value
  | [] => []
  | c :: cs => .int (lo8 c) :: .int (hi8 c) :: wideBytes cs
theorem wide_lo (d : Value) : ∀ (cs : List Int32) (j : Nat), j < cs.length → (wideBytes cs).getD (2 * j) d = .int (lo8 (cs.getD j 0))
  | [], j, h => absurd h (Nat.not_lt_zero j)
  | c :: cs, 0, _ => rfl
  | c :: cs, j + 1, h => by
    have q := wide_lo d cs j (by simpa using h)
    rw [show 2 * (j + 1) = 2 * j + 1 + 1 from by omega]
    simpa [wideBytes] using q
theorem wide_hi (d : Value) : ∀ (cs : List Int32) (j : Nat), j < cs.length → (wideBytes cs).getD (2 * j + 1) d = .int (hi8 (cs.getD j 0))
  | [], j, h => absurd h (Nat.not_lt_zero j)
  | c :: cs, 0, _ => rfl
  | c :: cs, j + 1, h => by
    have q := wide_hi d cs j (by simpa using h)
    rw [show 2 * (j + 1) + 1 = 2 * j + 1 + 1 + 1 from by omega]
    simpa [wideBytes] using q
theorem low_at (d : Value) (cs : List Int32) (j : Nat) (h : j < cs.length) : (cs.map fun c => Value.int (lo8 c)).getD j d = .int (lo8 (cs.getD j 0)) := by
  simp [List.getD_eq_getElem?_getD, h]
/-- an array of N2 bytes vs codes the chars cs by the coder cd -/
def CodA (cs : List Int32) (cd N2 : Int32) (vs : List Value) : Prop := (cd = 0 ∧ N2 = Int32.ofNat cs.length ∧ vs = (cs.map fun c => Value.int (lo8 c)) ∧ ∀ c ∈ cs, ¬ 255 < c) ∨ (cd = 1 ∧ N2 = Int32.ofNat (2 * cs.length) ∧ vs = wideBytes cs ∧ ∃ c ∈ cs, 255 < c)
theorem CodA.cod {cs : List Int32} {cd N2 : Int32} {vs : List Value} {V : Cell} (h : CodA cs cd N2 vs) (hn : 2 * cs.length < 2 ^ 31) (hs : V.slots.size = N2.toNatClampNeg) (hv : RoadKit.Has V vs (.int 0)) : Cod cd cs.length (fun j => cs.getD j 0) V := by
  rcases h with ⟨rfl, rfl, rfl, h⟩ | ⟨rfl, rfl, rfl, c, hc, hw⟩
  · rw [n32 (by omega)] at hs
    exact Or.inl ⟨rfl, hs, fun j hj => ⟨by rw [hv j (by omega), low_at _ _ _ hj], by
      have e : cs.getD j 0 = cs[j] := by simp [List.getD_eq_getElem?_getD, hj]
      show ¬ 255 < cs.getD j 0
      rw [e]; exact h _ (List.getElem_mem _)⟩⟩
  · rw [n32 (by omega)] at hs
    obtain ⟨j, hj, rfl⟩ := List.getElem_of_mem hc
    exact Or.inr ⟨rfl, hs, fun j hj => ⟨by rw [hv _ (by omega), wide_lo _ _ _ hj], by rw [hv _ (by omega), wide_hi _ _ _ hj]⟩, j, hj, by
      have e : cs.getD j 0 = cs[j] := by simp [List.getD_eq_getElem?_getD, hj]
      show 255 < cs.getD j 0
      rw [e]; exact hw⟩
/-- an object of exactly java/lang/String, its two fields found: as the laws ask it -/
theorem strObj {Z U : State} {a0 : Array Value} {kI : Nat} (wi : (Jvm.Cond.instantiable ST kI).before a0 Z = true) (al : Z.vm.Alike U.vm) {x : Addr} {v0 c0 : Value} (E : RoadKit.Exa Z U.heap x ST) (V : RoadKit.Fld Z U.heap x ST "value" "[B" v0) (C : RoadKit.Fld Z U.heap x ST "coder" "B" c0) :
    ∃ (D : Cell) (fV fC : Field), Blank ST x D U ∧ Found ST "value" "[B" fV U ∧ Found ST "coder" "B" fC U ∧ D.slots[fV.slot]? = some v0 ∧ D.slots[fC.slot]? = some c0 ∧ RoadKit.slotOf Z ST "value" "[B" = fV.slot ∧ RoadKit.slotOf Z ST "coder" "B" = fC.slot := by
  obtain ⟨D, cfV, kV, iV, fV, hD, gV, stV, knV, obV, asV, slV⟩ := V
  obtain ⟨D', cfC, kC, iC, fC, hD', gC, stC, -, -, asC, slC⟩ := C
  cases hD.symm.trans hD'
  obtain ⟨D2, kD, e1, e2, e3, e4, e5⟩ := E
  cases hD.symm.trans e1
  obtain ⟨c2, k2, i1, i2, i3, -⟩ := Cond.instantiable_spec wi
  cases e2.symm.trans i1
  cases e3.symm.trans i2
  obtain ⟨kU, u1, u2⟩ := al.2.2 _ _ e3
  exact ⟨D, fV, fC, ⟨hD, ⟨knV, fun q hq => by rw [hq] at obV; cases obV⟩, by rw [al.findClass]; exact e2, kU, u1, by rw [u2]; exact i3, by rw [u2]; exact e5 i3⟩, ⟨SBG.found_only al ⟨cfV, kV, iV, gV⟩, stV⟩, ⟨SBG.found_only al ⟨cfC, kC, iC, gC⟩, stC⟩, slV, slC, by simp [RoadKit.slotOf, gV], by simp [RoadKit.slotOf, gC]⟩
theorem sta_is {Z U : State} (al : Z.vm.Alike U.vm) {C n d : String} {v : Value} (S : RoadKit.Sta Z U.heap C n d v) : StaticIs U C n d v := by
  obtain ⟨cfS, iS, kS, fS, st, cS, t1, t2, t3, t4, t5, t6, t7⟩ := S
  exact StaticIs.there (s := { Z with heap := U.heap }) ⟨cfS, iS, kS, fS, st, cS, t1, t2, t3, t4, t5, (fun q => by rw [q] at t6; cases t6), t7⟩ al rfl
end StrChars.Road
namespace StrChars
open Jvm Sem ClassFile Op Lib Jvm.Stand Jvm.Free.XT Jvm.Free.ALB Jvm.Free.JM Jvm.Free
open Jvm.Lib.Cold (StaticIs)
/-- what place i of a byte[]'s cell holds -/
def yv (A : Cell) (i : Nat) : Int32 := match A.slots[i]? with | some (.int x) => x | _ => 0
theorem yv_get {a : Addr} {A : Cell} {U : State} (h : XT.Arr .byte a A U) (ht : Typed .byte A) {i : Nat} (hi : i < A.slots.size) : A.slots[i]? = some (.int (yv A i)) := by
  have e := Array.getElem?_eq_getElem hi
  have f := ht i _ e
  unfold yv; rw [e]
  generalize A.slots[i] = v at f
  cases v <;> simp [fits] at f ⊢
/-- the two arrays are equal, place for place -/
def EqC (A B : Cell) : Prop := A.slots.size = B.slots.size ∧ ∀ i, i < A.slots.size → yv A i = yv B i
/-- a boolean that says whether p -/
def Says01 (q : Prop) (r : Option Value) (s u : State) : Prop := ∃ v : Int32, r = some (.int v) ∧ u.heap = s.heap ∧ ((v = 1 ∧ q) ∨ (v = 0 ∧ ¬ q))
theorem Says01.mv {q : Prop} : ∀ r (U U' V V' : State), U'.heap = U.heap → V.vm.Alike V'.vm → V'.heap = V.heap → Says01 q r U V → Says01 q r U' V' :=
  fun r U U' V V' h1 _ h2 ⟨v, a, b, c⟩ => ⟨v, a, by rw [h1, h2]; exact b, c⟩
namespace LEq
def yN : MethodName := ⟨"java/lang/StringLatin1", "equals", "([B[B)Z"⟩
abbrev yB : ByteArray := jdk_43_method_13_code
theorem d0 : decode yB 0 = .ok (.aload_n 0, 1) := by decide +kernel
theorem d1 : decode yB 1 = .ok (.arraylength, 1) := by decide +kernel
theorem d2 : decode yB 2 = .ok (.aload_n 1, 1) := by decide +kernel
theorem d3 : decode yB 3 = .ok (.arraylength, 1) := by decide +kernel
theorem d4 : decode yB 4 = .ok (.if_icmp (.ne) 30, 3) := by decide +kernel
theorem d7 : decode yB 7 = .ok (.iconst 0, 1) := by decide +kernel
theorem d8 : decode yB 8 = .ok (.istore_n 2, 1) := by decide +kernel
theorem d9 : decode yB 9 = .ok (.iload_n 2, 1) := by decide +kernel
theorem d10 : decode yB 10 = .ok (.aload_n 0, 1) := by decide +kernel
theorem d11 : decode yB 11 = .ok (.arraylength, 1) := by decide +kernel
theorem d12 : decode yB 12 = .ok (.if_icmp (.ge) 20, 3) := by decide +kernel
theorem d15 : decode yB 15 = .ok (.aload_n 0, 1) := by decide +kernel
theorem d16 : decode yB 16 = .ok (.iload_n 2, 1) := by decide +kernel
theorem d17 : decode yB 17 = .ok (.baload, 1) := by decide +kernel
theorem d18 : decode yB 18 = .ok (.aload_n 1, 1) := by decide +kernel
theorem d19 : decode yB 19 = .ok (.iload_n 2, 1) := by decide +kernel
theorem d20 : decode yB 20 = .ok (.baload, 1) := by decide +kernel
theorem d21 : decode yB 21 = .ok (.if_icmp (.eq) 5, 3) := by decide +kernel
theorem d24 : decode yB 24 = .ok (.iconst 0, 1) := by decide +kernel
theorem d25 : decode yB 25 = .ok (.ireturn, 1) := by decide +kernel
theorem d26 : decode yB 26 = .ok (.iinc 2 1, 3) := by decide +kernel
theorem d29 : decode yB 29 = .ok (.goto (-20), 3) := by decide +kernel
theorem d32 : decode yB 32 = .ok (.iconst 1, 1) := by decide +kernel
theorem d33 : decode yB 33 = .ok (.ireturn, 1) := by decide +kernel
theorem d34 : decode yB 34 = .ok (.iconst 0, 1) := by decide +kernel
theorem d35 : decode yB 35 = .ok (.ireturn, 1) := by decide +kernel
def site : List Cond := []
def tab : Cond := tabOf yN yB 3 (some .boolean) site
def P (a : Addr) (A : Cell) (b : Addr) (B : Cell) (args : Array Value) (s : State) : Prop := args = #[.ref a, .ref b] ∧ XT.Arr .byte a A s ∧ Typed .byte A ∧ XT.Arr .byte b B s ∧ Typed .byte B
/-- whether two byte[] are equal, place for place -/
theorem law (l : Launch) (a : Addr) (A : Cell) (b : Addr) (B : Cell) : Law l yN 2 2 0 0 yB 3 (some .boolean) site (P a A b B) (Says01 (EqC A B)) [] 0 0 := by
  refine Law.of_walk (plainFor_of_name (by decide +kernel)) (by decide +kernel) (by decide +kernel) (by decide) (fun _ _ h => by rw [h.1]; rfl) (fun _ U U' hal hh h => ⟨h.1, h.2.1.mv hal hh, h.2.2.1, h.2.2.2.1.mv hal hh, h.2.2.2.2⟩) (fun r U U' V V' h1 hal h2 h => Says01.mv r U U' V V' h1 hal h2 h) ?_
  intro p e s m args below meth c s₁ X0 hexec hbytes hml hret hlk hnm hown hh0 W hP
  obtain ⟨rfl, hA, tA, hB, tB⟩ := hP
  have a31 := hA.2.2.2
  have b31 := hB.2.2.2
  have hA0 := hA.mv X0.warmed.alike hh0
  have hB0 := hB.mv X0.warmed.alike hh0
  have c1 : Steps p.tables e below (s₁.setTop (entryFrame m #[.ref a, .ref b] 3)) (s₁.setTop (mkF m 0 #[.val (.ref a), .val (.ref b), .unset] [])) := entry rfl
  have c2 : Steps p.tables e below (s₁.setTop (entryFrame m #[.ref a, .ref b] 3)) (s₁.setTop (mkF m 4 #[.val (.ref a), .val (.ref b), .unset] [.int (Int32.ofNat B.slots.size), .int (Int32.ofNat A.slots.size)])) := c1.trans (by
    refine XS.aloadN X0.here hexec rfl (hb hbytes d0) rfl rfl ?_
    refine X0.alen hexec hA0 rfl rfl (hb hbytes d1) ?_
    refine XS.aloadN X0.here hexec rfl (hb hbytes d2) rfl rfl ?_
    refine X0.alen hexec hB0 rfl rfl (hb hbytes d3) ?_
    exact Steps.refl _)
  by_cases hs : A.slots.size = B.slots.size
  · have c3 : Steps p.tables e below (s₁.setTop (entryFrame m #[.ref a, .ref b] 3)) (s₁.setTop (mkF m 9 #[.val (.ref a), .val (.ref b), .val (.int 0)] [])) := c2.trans (by
      refine XS.icmpNo X0.here hexec rfl (hb hbytes d4) rfl (ii_ne_f (by rw [hs])) ?_
      refine iconstV X0.here hexec rfl 0 (hb hbytes d7) (by decide) ?_
      refine XS.istoreN X0.here hexec rfl (hb hbytes d8) rfl rfl ?_
      exact Steps.refl _)
    have loop : ∀ (r i : Nat), i + r = A.slots.size → (∀ j, j < i → yv A j = yv B j) → Steps p.tables e below (s₁.setTop (entryFrame m #[.ref a, .ref b] 3)) (s₁.setTop (mkF m 9 #[.val (.ref a), .val (.ref b), .val (.int (Int32.ofNat i))] [])) → ∃ (pc : Nat) (Ls : Array Slot) (v : Int32), (pc = 25 ∨ pc = 33) ∧ ((v = 1 ∧ EqC A B) ∨ (v = 0 ∧ ¬ EqC A B)) ∧ Steps p.tables e below (s₁.setTop (entryFrame m #[.ref a, .ref b] 3)) (s₁.setTop (mkF m pc Ls [.int v])) := by
      intro r
      induction r with
      | zero =>
        intro i hi he cl
        exact ⟨33, _, 1, Or.inr rfl, Or.inl ⟨rfl, hs, fun j hj => he j (by omega)⟩, cl.trans (by
          refine XS.iloadN X0.here hexec rfl (hb hbytes d9) rfl ?_
          refine XS.aloadN X0.here hexec rfl (hb hbytes d10) rfl rfl ?_
          refine X0.alen hexec hA0 rfl rfl (hb hbytes d11) ?_
          refine XS.icmpYes X0.here hexec rfl (pc0 := 12) rfl (hb hbytes d12) rfl (ii_ge_t (nlt32 (by omega) (by omega))) (by decide) rfl ?_
          refine iconstV X0.here hexec rfl 1 (hb hbytes d32) (by decide) ?_
          exact Steps.refl _)⟩
      | succ r ih =>
        intro i hi he cl
        have c4 : Steps p.tables e below (s₁.setTop (entryFrame m #[.ref a, .ref b] 3)) (s₁.setTop (mkF m 21 #[.val (.ref a), .val (.ref b), .val (.int (Int32.ofNat i))] [.int (yv B i), .int (yv A i)])) := cl.trans (by
          refine XS.iloadN X0.here hexec rfl (hb hbytes d9) rfl ?_
          refine XS.aloadN X0.here hexec rfl (hb hbytes d10) rfl rfl ?_
          refine X0.alen hexec hA0 rfl rfl (hb hbytes d11) ?_
          refine XS.icmpNo X0.here hexec rfl (hb hbytes d12) rfl (ii_ge_f (lt32 (by omega) (by omega))) ?_
          refine XS.aloadN X0.here hexec rfl (hb hbytes d15) rfl rfl ?_
          refine XS.iloadN X0.here hexec rfl (hb hbytes d16) rfl ?_
          refine X0.aget hexec hA0 rfl (yv_get hA tA (i := i) (by omega)) rfl rfl (hb hbytes d17) ?_
          refine XS.aloadN X0.here hexec rfl (hb hbytes d18) rfl rfl ?_
          refine XS.iloadN X0.here hexec rfl (hb hbytes d19) rfl ?_
          refine X0.aget hexec hB0 rfl (yv_get hB tB (i := i) (by omega)) rfl rfl (hb hbytes d20) ?_
          exact Steps.refl _)
        by_cases hv : yv A i = yv B i
        · have c5 : Steps p.tables e below (s₁.setTop (entryFrame m #[.ref a, .ref b] 3)) (s₁.setTop (mkF m 9 #[.val (.ref a), .val (.ref b), .val (.int (Int32.ofNat i + 1))] [])) := c4.trans (by
            refine XS.icmpYes X0.here hexec rfl (pc0 := 21) rfl (hb hbytes d21) rfl (ii_eq_t hv) (by decide) rfl ?_
            refine iincV X0.here hexec rfl 1 (hb hbytes d26) (by decide) rfl rfl ?_
            refine XS.goto X0.here hexec rfl (pc0 := 29) rfl (hb hbytes d29) (by decide) rfl ?_
            exact Steps.refl _)
          rw [succ32] at c5
          exact ih (i + 1) (by omega) (fun j hj => by
            by_cases e : j = i
            · rw [e]; exact hv
            · exact he j (by omega)) c5
        · exact ⟨25, _, 0, Or.inl rfl, Or.inr ⟨rfl, fun q => hv (q.2 i (by omega))⟩, c4.trans (by
            refine XS.icmpNo X0.here hexec rfl (hb hbytes d21) rfl (ii_eq_f hv) ?_
            refine iconstV X0.here hexec rfl 0 (hb hbytes d24) (by decide) ?_
            exact Steps.refl _)⟩
    obtain ⟨pc, Ls, v, hpc, hv, cz⟩ := loop A.slots.size 0 (by omega) (fun j hj => absurd hj (Nat.not_lt_zero j)) c3
    have nv : narrow .boolean (.int v) = .int v := by rcases hv with ⟨rfl, -⟩ | ⟨rfl, -⟩ <;> rfl
    rcases hpc with rfl | rfl
    · exact ⟨s₁, some (.int v), _, _, _, X0, rfl, rfl, rfl, (fun h => by cases h), ⟨v, rfl, hh0, hv⟩, fun fs hl => cz.trans (X0.ireturnOut hexec hret nv (Or.inr (Or.inl rfl)) (hb hbytes d25) hl)⟩
    · exact ⟨s₁, some (.int v), _, _, _, X0, rfl, rfl, rfl, (fun h => by cases h), ⟨v, rfl, hh0, hv⟩, fun fs hl => cz.trans (X0.ireturnOut hexec hret nv (Or.inr (Or.inl rfl)) (hb hbytes d33) hl)⟩
  · have c3 : Steps p.tables e below (s₁.setTop (entryFrame m #[.ref a, .ref b] 3)) (s₁.setTop (mkF m 35 #[.val (.ref a), .val (.ref b), .unset] [.int 0])) := c2.trans (by
      refine XS.icmpYes X0.here hexec rfl (pc0 := 4) rfl (hb hbytes d4) rfl (ii_ne_t (ne32 a31 b31 hs)) (by decide) rfl ?_
      refine iconstV X0.here hexec rfl 0 (hb hbytes d34) (by decide) ?_
      exact Steps.refl _)
    exact ⟨s₁, some (.int 0), _, _, _, X0, rfl, rfl, rfl, (fun h => by cases h), ⟨0, rfl, hh0, Or.inr ⟨rfl, fun q => hs q.1⟩⟩, fun fs hl => c3.trans (X0.ireturnOut hexec hret rfl (Or.inr (Or.inl rfl)) (hb hbytes d35) hl)⟩
end LEq
theorem Cod.ty {cd : Int32} {n : Nat} {f : Nat → Int32} {V : Cell} (h : Cod cd n f V) : Typed .byte V := fun i v hv => by
  have hi : i < V.slots.size := (Array.getElem?_eq_some_iff.mp hv).1
  rcases h with ⟨-, k1, k2⟩ | ⟨-, k1, k2, -⟩
  · rw [(k2 i (by omega)).1] at hv; cases hv; exact fits_lo8 _
  · rcases Nat.mod_two_eq_zero_or_one i with e | e
    · obtain ⟨j, rfl⟩ : ∃ j, i = 2 * j := ⟨i / 2, by omega⟩
      rw [(k2 j (by omega)).1] at hv; cases hv; exact fits_lo8 _
    · obtain ⟨j, rfl⟩ : ∃ j, i = 2 * j + 1 := ⟨i / 2, by omega⟩
      rw [(k2 j (by omega)).2] at hv; cases hv; exact fits_lo8 _
/-- the same text -/
def SameT (n : Nat) (f : Nat → Int32) (k : Nat) (g : Nat → Int32) : Prop := n = k ∧ ∀ j, j < n → f j = g j
theorem lo8_inj {x y : Int32} (h0 : ¬ x < 0) (h1 : ¬ 255 < x) (k0 : ¬ y < 0) (k1 : ¬ 255 < y) (h : lo8 x = lo8 y) : x = y := by
  rw [← lo8_mask h0 h1, ← lo8_mask k0 k1, h]
/-- arrays coded by one coder are equal just where the texts are -/
theorem Cod.eqv {cd : Int32} {n k : Nat} {f g : Nat → Int32} {V V' : Cell} (h : Cod cd n f V) (h' : Cod cd k g V') (hf : ∀ j, j < n → ¬ f j < 0 ∧ ¬ 65535 < f j) (hg : ∀ j, j < k → ¬ g j < 0 ∧ ¬ 65535 < g j) : EqC V V' ↔ SameT n f k g := by
  have yvv : ∀ {W : Cell} {i : Nat} {x : Int32}, W.slots[i]? = some (.int x) → yv W i = x := fun q => by unfold yv; rw [q]
  rcases h with ⟨rfl, k1, k2⟩ | ⟨rfl, k1, k2, -⟩
  · rcases h' with ⟨-, m1, m2⟩ | ⟨e, -⟩
    · constructor
      · rintro ⟨e1, e2⟩
        refine ⟨by omega, fun j hj => ?_⟩
        have q := e2 j (by omega)
        rw [yvv (k2 j hj).1, yvv (m2 j (by omega)).1] at q
        exact lo8_inj (hf j hj).1 (k2 j hj).2 (hg j (by omega)).1 (m2 j (by omega)).2 q
      · rintro ⟨rfl, e2⟩
        refine ⟨by omega, fun j hj => ?_⟩
        rw [yvv (k2 j (by omega)).1, yvv (m2 j (by omega)).1, e2 j (by omega)]
    · exact absurd e (by decide)
  · rcases h' with ⟨e, -⟩ | ⟨-, m1, m2, -⟩
    · exact absurd e (by decide)
    · constructor
      · rintro ⟨e1, e2⟩
        refine ⟨by omega, fun j hj => ?_⟩
        have q1 := e2 (2 * j) (by omega)
        have q2 := e2 (2 * j + 1) (by omega)
        rw [yvv (k2 j hj).1, yvv (m2 j (by omega)).1] at q1
        rw [yvv (k2 j hj).2, yvv (m2 j (by omega)).2] at q2
        rw [← pair_says (hf j hj).1 (hf j hj).2, ← pair_says (hg j (by omega)).1 (hg j (by omega)).2, q1, q2]
      · rintro ⟨rfl, e2⟩
        refine ⟨by omega, fun i hi => ?_⟩
        rcases Nat.mod_two_eq_zero_or_one i with e | e
        · obtain ⟨j, rfl⟩ : ∃ j, i = 2 * j := ⟨i / 2, by omega⟩
          rw [yvv (k2 j (by omega)).1, yvv (m2 j (by omega)).1, e2 j (by omega)]
        · obtain ⟨j, rfl⟩ : ∃ j, i = 2 * j + 1 := ⟨i / 2, by omega⟩
          rw [yvv (k2 j (by omega)).2, yvv (m2 j (by omega)).2, e2 j (by omega)]
/-- two codings differ: so do the texts -/
theorem Cod.dif {cd cd' : Int32} {n k : Nat} {f g : Nat → Int32} {V V' : Cell} (h : Cod cd n f V) (h' : Cod cd' k g V') (hne : ¬ cd = cd') : ¬ SameT n f k g := by
  rintro ⟨rfl, e⟩
  rcases h with ⟨rfl, -, k2⟩ | ⟨rfl, -, -, j, hj, hw⟩
  · rcases h' with ⟨rfl, -⟩ | ⟨-, -, -, j, hj, hw⟩
    · exact hne rfl
    · exact (k2 j hj).2 (by rw [e j hj]; exact hw)
  · rcases h' with ⟨-, -, m2⟩ | ⟨rfl, -⟩
    · exact (m2 j hj).2 (by rw [← e j hj]; exact hw)
    · exact hne rfl
/-- an object of exactly C is an instance of C -/
theorem cinst {p : Program} {l : Launch} {e : Env} {R : Room} {s : State} {m : MethodId} {args : Array Value} {below : List Frame} {meth : Method} {c : Code} {T : State} {locs : List Loc} {cells slots : Nat} (X : Stand p l e R s m args below meth c T locs cells slots) (hexec : p.tables.exec = Jvm.exec) {own C : String} {index : Nat} (hown : s.vm.findClass own = some m.cls) (hlink : (Cond.classLink own index C).before args s = true) {a : Addr} (hE : Exact C a T)
    {g : JFrame} (hg : g.method = m) {rest : List Value} (hstack : g.stack = .ref a :: rest) (hdg : decode c.code g.pc = .ok (.instanceof index, 3)) :
    ∃ T', Stand p l e R s m args below meth c T' locs cells slots ∧ T'.heap = T.heap ∧ ∀ target, Steps p.tables e below (T'.setTop { g with pc := g.pc + 3, stack := .int 1 :: rest }) target → Steps p.tables e below (T.setTop g) target := by
  obtain ⟨cB, h1, D, h2, h3, h4⟩ := hE
  have h1' : s.vm.findClass C = some cB := by rw [← X.warmed.alike.findClass]; exact h1
  obtain ⟨vm', X', st⟩ := X.instanceofYes hexec hown hlink h2 h4 h1' (by rw [h3]; exact Jvm.Free.SB.assignable_self _ _) hg hstack hdg
  exact ⟨_, X', rfl, st⟩
theorem cself {p : Program} {l : Launch} {e : Env} {R : Room} {s : State} {m : MethodId} {args : Array Value} {below : List Frame} {meth : Method} {c : Code} {T : State} {locs : List Loc} {cells slots : Nat} (X : Stand p l e R s m args below meth c T locs cells slots) (hexec : p.tables.exec = Jvm.exec) {own C : String} {index : Nat} (hown : s.vm.findClass own = some m.cls) (hlink : (Cond.classLink own index C).before args s = true) {a : Addr} (hE : Exact C a T)
    {g : JFrame} (hg : g.method = m) {rest : List Value} (hstack : g.stack = .ref a :: rest) (hdg : decode c.code g.pc = .ok (.checkcast index, 3)) :
    ∃ T', Stand p l e R s m args below meth c T' locs cells slots ∧ T'.heap = T.heap ∧ ∀ target, Steps p.tables e below (T'.setTop { g with pc := g.pc + 3, stack := .ref a :: rest }) target → Steps p.tables e below (T.setTop g) target := by
  obtain ⟨cB, h1, D, h2, h3, h4⟩ := hE
  have h1' : s.vm.findClass C = some cB := by rw [← X.warmed.alike.findClass]; exact h1
  obtain ⟨vm', X', st⟩ := X.checkcastYes hexec hown hlink h2 h4 h1' (by rw [h3]; exact Jvm.Free.SB.assignable_self _ _) hg hstack hdg
  exact ⟨_, X', rfl, fun t h => st t (by rw [← hstack] at h; exact h)⟩
namespace SEq
def yN : MethodName := ⟨"java/lang/String", "equals", "(Ljava/lang/Object;)Z"⟩
abbrev yB : ByteArray := jdk_42_method_66_code
theorem d0 : decode yB 0 = .ok (.aload_n 0, 1) := by decide +kernel
theorem d1 : decode yB 1 = .ok (.aload_n 1, 1) := by decide +kernel
theorem d2 : decode yB 2 = .ok (.if_acmp (.ne) 5, 3) := by decide +kernel
theorem d5 : decode yB 5 = .ok (.iconst 1, 1) := by decide +kernel
theorem d6 : decode yB 6 = .ok (.ireturn, 1) := by decide +kernel
theorem d7 : decode yB 7 = .ok (.aload_n 1, 1) := by decide +kernel
theorem d8 : decode yB 8 = .ok (.instanceof 10, 3) := by decide +kernel
theorem d11 : decode yB 11 = .ok (.ifCond (.eq) 43, 3) := by decide +kernel
theorem d14 : decode yB 14 = .ok (.aload_n 1, 1) := by decide +kernel
theorem d15 : decode yB 15 = .ok (.checkcast 10, 3) := by decide +kernel
theorem d18 : decode yB 18 = .ok (.astore_n 2, 1) := by decide +kernel
theorem d19 : decode yB 19 = .ok (.getstatic 38, 3) := by decide +kernel
theorem d22 : decode yB 22 = .ok (.ifCond (.eq) 14, 3) := by decide +kernel
theorem d25 : decode yB 25 = .ok (.aload_n 0, 1) := by decide +kernel
theorem d26 : decode yB 26 = .ok (.getfield 15, 3) := by decide +kernel
theorem d29 : decode yB 29 = .ok (.aload_n 2, 1) := by decide +kernel
theorem d30 : decode yB 30 = .ok (.getfield 15, 3) := by decide +kernel
theorem d33 : decode yB 33 = .ok (.if_icmp (.ne) 21, 3) := by decide +kernel
theorem d36 : decode yB 36 = .ok (.aload_n 0, 1) := by decide +kernel
theorem d37 : decode yB 37 = .ok (.getfield 9, 3) := by decide +kernel
theorem d40 : decode yB 40 = .ok (.aload_n 2, 1) := by decide +kernel
theorem d41 : decode yB 41 = .ok (.getfield 9, 3) := by decide +kernel
theorem d44 : decode yB 44 = .ok (.invokestatic 541, 3) := by decide +kernel
theorem d47 : decode yB 47 = .ok (.ifCond (.eq) 7, 3) := by decide +kernel
theorem d50 : decode yB 50 = .ok (.iconst 1, 1) := by decide +kernel
theorem d51 : decode yB 51 = .ok (.goto 4, 3) := by decide +kernel
theorem d54 : decode yB 54 = .ok (.iconst 0, 1) := by decide +kernel
theorem d55 : decode yB 55 = .ok (.ireturn, 1) := by decide +kernel
def site : List Cond := [.classLink "java/lang/String" 10 "java/lang/String", .fieldLink "java/lang/String" 38 "java/lang/String" "COMPACT_STRINGS" "Z", .fieldLink "java/lang/String" 15 "java/lang/String" "coder" "B", .fieldLink "java/lang/String" 9 "java/lang/String" "value" "[B", LEq.tab] ++ staticW "java/lang/String" 541 LEq.yN
def tab : Cond := tabOf yN yB 3 (some .boolean) site
def P (x t : Addr) (V : Cell) (cd : Int32) (n : Nat) (f : Nat → Int32) (y t' : Addr) (V' : Cell) (cd' : Int32) (k : Nat) (g : Nat → Int32) (z : Int32) (args : Array Value) (s : State) : Prop := args = #[.ref x, .ref y] ∧ Txt x t V cd n f s ∧ Txt y t' V' cd' k g s ∧ StaticIs s "java/lang/String" "COMPACT_STRINGS" "Z" (.int z) ∧ ¬ z = 0
/-- equals(Object) of two Strings: whether the texts are the same -/
theorem law (l : Launch) (x t : Addr) (V : Cell) (cd : Int32) (n : Nat) (f : Nat → Int32) (y t' : Addr) (V' : Cell) (cd' : Int32) (k : Nat) (g : Nat → Int32) (z : Int32) : Law l yN 2 1 1 14 yB 3 (some .boolean) site (P x t V cd n f y t' V' cd' k g z) (Says01 (SameT n f k g)) [] 0 0 := by
  refine Law.of_walk (plainFor_of_name (by decide +kernel)) (by decide +kernel) (by decide +kernel) (by decide) (fun _ _ h => by rw [h.1]; rfl) (fun _ U U' hal hh h => ⟨h.1, h.2.1.mv hal hh, h.2.2.1.mv hal hh, h.2.2.2.1.there hal hh, h.2.2.2.2⟩) (fun r U U' V V' h1 hal h2 h => Says01.mv r U U' V V' h1 hal h2 h) ?_
  intro p e s m args below meth c s₁ X0 hexec hbytes hml hret hlk hnm hown hh0 W hP
  obtain ⟨rfl, hx, hy, s1, hz⟩ := hP
  have c1 : Steps p.tables e below (s₁.setTop (entryFrame m #[.ref x, .ref y] 3)) (s₁.setTop (mkF m 2 #[.val (.ref x), .val (.ref y), .unset] [.ref y, .ref x])) := Steps.trans (entry rfl) (by
    show Steps p.tables e below (s₁.setTop (mkF m 0 #[.val (.ref x), .val (.ref y), .unset] [])) _
    refine XS.aloadN X0.here hexec rfl (hb hbytes d0) rfl rfl ?_
    refine XS.aloadN X0.here hexec rfl (hb hbytes d1) rfl rfl ?_
    exact Steps.refl _)
  by_cases hxy : x = y
  · have c2 : Steps p.tables e below (s₁.setTop (entryFrame m #[.ref x, .ref y] 3)) (s₁.setTop (mkF m 6 #[.val (.ref x), .val (.ref y), .unset] [.int 1])) := c1.trans (by
      refine acmpNo X0.here hexec rfl (hb hbytes d2) rfl rfl rfl (by simp [acmp, hxy]) ?_
      refine iconstV X0.here hexec rfl 1 (hb hbytes d5) (by decide) ?_
      exact Steps.refl _)
    subst hxy
    have ec : cd = cd' := by
      obtain ⟨D, fd, a1, a2, a3⟩ := hx.2.2.1
      obtain ⟨D', fd', b1, b2, b3⟩ := hy.2.2.1
      cases a1.symm.trans b1
      obtain ⟨q1, q2, q3, q4⟩ := a2.1
      obtain ⟨r1, r2, r3, r4⟩ := b2.1
      cases q4.symm.trans r4
      cases a3.symm.trans b3; rfl
    have et : t = t' := by
      obtain ⟨D, fd, a1, a2, a3⟩ := hx.2.1
      obtain ⟨D', fd', b1, b2, b3⟩ := hy.2.1
      cases a1.symm.trans b1
      obtain ⟨q1, q2, q3, q4⟩ := a2.1
      obtain ⟨r1, r2, r3, r4⟩ := b2.1
      cases q4.symm.trans r4
      cases a3.symm.trans b3; rfl
    subst ec et
    have ev : V = V' := by cases hx.2.2.2.1.1.symm.trans hy.2.2.2.1.1; rfl
    subst ev
    have hs : SameT n f k g := (Cod.eqv hx.2.2.2.2.1 hy.2.2.2.2.1 hx.2.2.2.2.2 hy.2.2.2.2.2).mp ⟨rfl, fun _ _ => rfl⟩
    exact ⟨s₁, some (.int 1), _, _, _, X0, rfl, rfl, rfl, (fun h => by cases h), ⟨1, rfl, hh0, Or.inl ⟨rfl, hs⟩⟩, fun fs hl => c2.trans (X0.ireturnOut hexec hret rfl (Or.inr (Or.inl rfl)) (hb hbytes d6) hl)⟩
  · have c2 : Steps p.tables e below (s₁.setTop (entryFrame m #[.ref x, .ref y] 3)) (s₁.setTop (mkF m 8 #[.val (.ref x), .val (.ref y), .unset] [.ref y])) := c1.trans (by
      refine acmpYes X0.here hexec rfl (pc0 := 2) rfl (hb hbytes d2) rfl rfl rfl (by simp [acmp, hxy]) (by decide) rfl ?_
      refine XS.aloadN X0.here hexec rfl (hb hbytes d7) rfl rfl ?_
      exact Steps.refl _)
    obtain ⟨T3, X3, q3, st3⟩ := cinst X0 hexec hown (wk W (.classLink "java/lang/String" 10 "java/lang/String")) (hy.mv X0.warmed.alike hh0).1 (g := (mkF m 8 #[.val (.ref x), .val (.ref y), .unset] [.ref y])) rfl (rest := []) rfl (hb hbytes d8)
    have hh3 := q3.trans hh0
    have c4 : Steps p.tables e below (s₁.setTop (entryFrame m #[.ref x, .ref y] 3)) (T3.setTop (mkF m 15 #[.val (.ref x), .val (.ref y), .unset] [.ref y])) := (c2.trans (st3 _ (Steps.refl _))).trans (by
      refine XS.ifNo X3.here hexec rfl (hb hbytes d11) rfl (i0_eq_f (by decide)) ?_
      refine XS.aloadN X3.here hexec rfl (hb hbytes d14) rfl rfl ?_
      exact Steps.refl _)
    obtain ⟨T5, X5, q5, st5⟩ := cself X3 hexec hown (wk W (.classLink "java/lang/String" 10 "java/lang/String")) (hy.mv X3.warmed.alike hh3).1 (g := (mkF m 15 #[.val (.ref x), .val (.ref y), .unset] [.ref y])) rfl (rest := []) rfl (hb hbytes d15)
    have hh5 := q5.trans hh3
    have c6 : Steps p.tables e below (s₁.setTop (entryFrame m #[.ref x, .ref y] 3)) (T5.setTop (mkF m 19 #[.val (.ref x), .val (.ref y), .val (.ref y)] [])) := (c4.trans (st5 _ (Steps.refl _))).trans (by
      refine XS.astoreN X5.here hexec rfl (hb hbytes d18) rfl rfl rfl ?_
      exact Steps.refl _)
    obtain ⟨T7, X7, q7, st7⟩ := X5.sget hexec hown (wk W (.fieldLink "java/lang/String" 38 "java/lang/String" "COMPACT_STRINGS" "Z")) s1 (fun _ _ h => by rw [hh5]; exact h) (g := (mkF m 19 #[.val (.ref x), .val (.ref y), .val (.ref y)] [])) rfl (hb hbytes d19)
    have hh7 := q7.trans hh5
    have c8 : Steps p.tables e below (s₁.setTop (entryFrame m #[.ref x, .ref y] 3)) (T7.setTop (mkF m 26 #[.val (.ref x), .val (.ref y), .val (.ref y)] [.ref x])) := (c6.trans (st7 _ (Steps.refl _))).trans (by
      refine XS.ifNo X7.here hexec rfl (hb hbytes d22) rfl (i0_eq_f hz) ?_
      refine XS.aloadN X7.here hexec rfl (hb hbytes d25) rfl rfl ?_
      exact Steps.refl _)
    obtain ⟨T9, X9, q9, st9⟩ := X7.hget hexec hown (wk W (.fieldLink "java/lang/String" 15 "java/lang/String" "coder" "B")) (hx.mv X7.warmed.alike hh7).2.2.1 (g := (mkF m 26 #[.val (.ref x), .val (.ref y), .val (.ref y)] [.ref x])) rfl (rest := []) rfl (hb hbytes d26)
    have hh9 := q9.trans hh7
    have c10 : Steps p.tables e below (s₁.setTop (entryFrame m #[.ref x, .ref y] 3)) (T9.setTop (mkF m 30 #[.val (.ref x), .val (.ref y), .val (.ref y)] [.ref y, .int cd])) := (c8.trans (st9 _ (Steps.refl _))).trans (by
      refine XS.aloadN X9.here hexec rfl (hb hbytes d29) rfl rfl ?_
      exact Steps.refl _)
    obtain ⟨T11, X11, q11, st11⟩ := X9.hget hexec hown (wk W (.fieldLink "java/lang/String" 15 "java/lang/String" "coder" "B")) (hy.mv X9.warmed.alike hh9).2.2.1 (g := (mkF m 30 #[.val (.ref x), .val (.ref y), .val (.ref y)] [.ref y, .int cd])) rfl (rest := [.int cd]) rfl (hb hbytes d30)
    have hh11 := q11.trans hh9
    have c12 : Steps p.tables e below (s₁.setTop (entryFrame m #[.ref x, .ref y] 3)) (T11.setTop (mkF m 33 #[.val (.ref x), .val (.ref y), .val (.ref y)] [.int cd', .int cd])) := c10.trans (st11 _ (Steps.refl _))
    by_cases hcd : cd = cd'
    · subst hcd
      have c13 : Steps p.tables e below (s₁.setTop (entryFrame m #[.ref x, .ref y] 3)) (T11.setTop (mkF m 37 #[.val (.ref x), .val (.ref y), .val (.ref y)] [.ref x])) := c12.trans (by
        refine XS.icmpNo X11.here hexec rfl (hb hbytes d33) rfl (ii_ne_f rfl) ?_
        refine XS.aloadN X11.here hexec rfl (hb hbytes d36) rfl rfl ?_
        exact Steps.refl _)
      obtain ⟨T14, X14, q14, st14⟩ := X11.hget hexec hown (wk W (.fieldLink "java/lang/String" 9 "java/lang/String" "value" "[B")) (hx.mv X11.warmed.alike hh11).2.1 (g := (mkF m 37 #[.val (.ref x), .val (.ref y), .val (.ref y)] [.ref x])) rfl (rest := []) rfl (hb hbytes d37)
      have hh14 := q14.trans hh11
      have c15 : Steps p.tables e below (s₁.setTop (entryFrame m #[.ref x, .ref y] 3)) (T14.setTop (mkF m 41 #[.val (.ref x), .val (.ref y), .val (.ref y)] [.ref y, .ref t])) := (c13.trans (st14 _ (Steps.refl _))).trans (by
        refine XS.aloadN X14.here hexec rfl (hb hbytes d40) rfl rfl ?_
        exact Steps.refl _)
      obtain ⟨T16, X16, q16, st16⟩ := X14.hget hexec hown (wk W (.fieldLink "java/lang/String" 9 "java/lang/String" "value" "[B")) (hy.mv X14.warmed.alike hh14).2.1 (g := (mkF m 41 #[.val (.ref x), .val (.ref y), .val (.ref y)] [.ref y, .ref t])) rfl (rest := [.ref t]) rfl (hb hbytes d41)
      have hh16 := q16.trans hh14
      have c17 : Steps p.tables e below (s₁.setTop (entryFrame m #[.ref x, .ref y] 3)) (T16.setTop (mkF m 44 #[.val (.ref x), .val (.ref y), .val (.ref y)] [.ref t', .ref t])) := c15.trans (st16 _ (Steps.refl _))
      obtain ⟨v18, T18, X18, E18, g18⟩ := X16.callS hexec (LEq.law l t V t' V') hown (wks W (staticW "java/lang/String" 541 LEq.yN)) (wk W LEq.tab) (W := 0) (Nat.le_of_ble_eq_true rfl) (Nat.le_of_ble_eq_true rfl) (Nat.le_refl _) (Nat.le_refl _) (g := (mkF m 44 #[.val (.ref x), .val (.ref y), .val (.ref y)] [.ref t', .ref t])) rfl (by rw [hml]; rfl) c17 (argsL := [.ref t, .ref t']) (rest := []) rfl rfl (by show 2 * 0 + 0 ≤ _; decide) (hb hbytes d44) (⟨rfl, hx.2.2.2.1.mv X16.warmed.alike hh16, hx.2.2.2.2.1.ty, hy.2.2.2.1.mv X16.warmed.alike hh16, hy.2.2.2.2.1.ty⟩)
      obtain ⟨v, rfl, q18, hv⟩ := E18
      have iff := Cod.eqv hx.2.2.2.2.1 hy.2.2.2.2.1 hx.2.2.2.2.2 hy.2.2.2.2.2
      rcases hv with ⟨rfl, he⟩ | ⟨rfl, he⟩
      · have c19 : Steps p.tables e below (s₁.setTop (entryFrame m #[.ref x, .ref y] 3)) (T18.setTop (mkF m 55 #[.val (.ref x), .val (.ref y), .val (.ref y)] [.int 1])) := Steps.trans g18 (by
          refine XS.ifNo X18.here hexec rfl (hb hbytes d47) rfl (i0_eq_f (by decide)) ?_
          refine iconstV X18.here hexec rfl 1 (hb hbytes d50) (by decide) ?_
          refine XS.goto X18.here hexec rfl (pc0 := 51) rfl (hb hbytes d51) (by decide) rfl ?_
          exact Steps.refl _)
        exact ⟨T18, some (.int 1), _, _, _, X18, rfl, rfl, rfl, (fun h => by cases h), ⟨1, rfl, q18.trans hh16, Or.inl ⟨rfl, iff.mp he⟩⟩, fun fs hl => c19.trans (X18.ireturnOut hexec hret rfl (Or.inr (Or.inl rfl)) (hb hbytes d55) hl)⟩
      · have c19 : Steps p.tables e below (s₁.setTop (entryFrame m #[.ref x, .ref y] 3)) (T18.setTop (mkF m 55 #[.val (.ref x), .val (.ref y), .val (.ref y)] [.int 0])) := Steps.trans g18 (by
          refine XS.ifYes X18.here hexec rfl (pc0 := 47) rfl (hb hbytes d47) rfl (i0_eq_t rfl) (by decide) rfl ?_
          refine iconstV X18.here hexec rfl 0 (hb hbytes d54) (by decide) ?_
          exact Steps.refl _)
        exact ⟨T18, some (.int 0), _, _, _, X18, rfl, rfl, rfl, (fun h => by cases h), ⟨0, rfl, q18.trans hh16, Or.inr ⟨rfl, fun q => he (iff.mpr q)⟩⟩, fun fs hl => c19.trans (X18.ireturnOut hexec hret rfl (Or.inr (Or.inl rfl)) (hb hbytes d55) hl)⟩
    · have c13 : Steps p.tables e below (s₁.setTop (entryFrame m #[.ref x, .ref y] 3)) (T11.setTop (mkF m 55 #[.val (.ref x), .val (.ref y), .val (.ref y)] [.int 0])) := c12.trans (by
        refine XS.icmpYes X11.here hexec rfl (pc0 := 33) rfl (hb hbytes d33) rfl (ii_ne_t hcd) (by decide) rfl ?_
        refine iconstV X11.here hexec rfl 0 (hb hbytes d54) (by decide) ?_
        exact Steps.refl _)
      exact ⟨T11, some (.int 0), _, _, _, X11, rfl, rfl, rfl, (fun h => by cases h), ⟨0, rfl, hh11, Or.inr ⟨rfl, Cod.dif hx.2.2.2.2.1 hy.2.2.2.2.1 hcd⟩⟩, fun fs hl => c13.trans (X11.ireturnOut hexec hret rfl (Or.inr (Or.inl rfl)) (hb hbytes d55) hl)⟩
theorem pays {l : Launch} {R : Room} {p : Program} {e : Env} {below : List Frame} {s : State} {sargs : Array Value} {len W : Nat} (x t : Addr) (V : Cell) (cd : Int32) (n : Nat) (f : Nat → Int32) (y t' : Addr) (V' : Cell) (cd' : Int32) (k : Nat) (g : Nat → Int32) (z : Int32) (htab : tab.before sargs s = true) (hfr : 2 ≤ R.frames) (hlo : W + 28 ≤ R.locals) :
    Back l R p e below s sargs yN len W (fun A₁ a₁ => A₁.cells + 0 ≤ R.cells ∧ A₁.slots + 0 ≤ R.slots ∧ P x t V cd n f y t' V' cd' k g z a₁ A₁.U) (fun A₁ _ v₁ B₁ => Says01 (SameT n f k g) v₁ A₁.U B₁.U ∧ B₁.locs = A₁.locs ++ [] ∧ B₁.cells = A₁.cells + 0 ∧ B₁.slots = A₁.slots + 0) :=
  (law l x t V cd n f y t' V' cd' k g z).pays htab hfr (by omega)
end SEq
end StrChars
namespace StrChars.Road
open Jvm Sem ClassFile Op Lib Jvm.Stand Jvm.Free Jvm.Free.XT
open Jvm.Lib.Cold (StaticIs)
/-- the words of String.equals(Object) -/
abbrev wordsEq : List Jvm.Cond := [.code SEq.yN SEq.yB 3 (some .boolean), .initialized ST, .classLink ST 10 ST, .fieldLink ST 38 ST "COMPACT_STRINGS" "Z", .fieldLink ST 15 ST "coder" "B", .fieldLink ST 9 ST "value" "[B", .methodLink ST 541 LEq.yN, .static LEq.yN, .code LEq.yN LEq.yB 3 (some .boolean), .initialized "java/lang/StringLatin1"]
theorem tabEq_of {a : Array Value} {s : State} (h : ∀ w ∈ wordsEq, w.before a s = true) : SEq.tab.before a s = true := by
  have hl : LEq.tab.before a s = true := unparts (wk h (.code LEq.yN LEq.yB 3 (some .boolean))) (wks h (.initialized LEq.yN.cls :: LEq.site))
  have q := consq hl h
  exact unparts (wk q (.code SEq.yN SEq.yB 3 (some .boolean))) (wks q (.initialized SEq.yN.cls :: SEq.site))
theorem movedEq {Z s : State} {a0 args : Array Value} (hZ : Z.Warmed39 s.vm) (hw : ∀ d ∈ wordsEq, d.before a0 Z = true) : ∀ d ∈ wordsEq, d.before args s = true := fun d hd => by
  have t : ∀ d ∈ wordsEq, (d.onTables && d.keepsFace) = true := by decide +kernel
  exact RoadKit.mv hZ (hw d hd) (t d hd)
/-- the road's facts of a String, as the laws ask it -/
theorem txt_of {Z U : State} {a0 : Array Value} {kI : Nat} (wi : (Jvm.Cond.instantiable ST kI).before a0 Z = true) (al : Z.vm.Alike U.vm) {x t : Addr} {kb : ClassId} {cs : List Int32} {cd N2 : Int32} {vs : List Value} (E : RoadKit.Exa Z U.heap x ST) (V : RoadKit.Fld Z U.heap x ST "value" "[B" (.ref t)) (C : RoadKit.Fld Z U.heap x ST "coder" "B" (.int cd)) (K : RoadKit.Arv Z U.heap t kb .byte N2 vs (.int 0)) (hc : CodA cs cd N2 vs) (hb : ∀ c ∈ cs, ¬ c < 0 ∧ ¬ (65535 : Int32) < c) (l2 : cs.length ≤ 4000) :
    ∃ A, Txt x t A cd cs.length (fun j => cs.getD j 0) U := by
  obtain ⟨A, K1, K2, K3, K4, K5, K6⟩ := K
  have hcod := hc.cod (by omega) K3 K5
  obtain ⟨D, fV, fC, hB, F1, F2, g1, g2, -, -⟩ := strObj wi al E V C
  exact ⟨A, ⟨_, hB.2.2.1, D, hB.1, rfl, by cases q : D.vm <;> first | rfl | exact absurd q (hB.2.1.2 _)⟩, Has.of hB F1 g1, Has.of hB F2 g2, ⟨K1.1, State.isArrayOf_alike al K1.2.1, K1.2.2, by rcases hcod with ⟨-, q, -⟩ | ⟨-, q, -⟩ <;> omega⟩, hcod, fun j hj => by
    have e : cs.getD j 0 = cs[j] := by simp [List.getD_eq_getElem?_getD, hj]
    show ¬ cs.getD j 0 < 0 ∧ ¬ 65535 < cs.getD j 0
    rw [e]; exact hb _ (List.getElem_mem _)⟩
theorem same_list (cs ds : List Int32) : SameT cs.length (fun j => cs.getD j 0) ds.length (fun j => ds.getD j 0) ↔ cs = ds := by
  constructor
  · rintro ⟨e, q⟩
    refine List.ext_getElem e fun j h1 h2 => ?_
    have := q j h1
    simpa [List.getD_eq_getElem?_getD, h1, h2] using this
  · rintro rfl
    exact ⟨rfl, fun _ _ => rfl⟩
/-- **equals(Object) OF TWO SUCH STRINGS**: 1 just where the chars are the same -/
theorem eqW {p : Program} {l : Launch} {e : Env} {R : Room} {s : State} {args : Array Value} {below : List Frame} {len W : Nat} {Z : State} {a0 : Array Value} {h : Heap} (hZ : Z.Warmed39 s.vm) (hw : ∀ d ∈ wordsEq, d.before a0 Z = true) {kI : Nat} (wi : (Jvm.Cond.instantiable ST kI).before a0 Z = true)
    {x t : Addr} {kb : ClassId} {cs : List Int32} {cd N2 : Int32} {vs : List Value} (E : RoadKit.Exa Z h x ST) (V : RoadKit.Fld Z h x ST "value" "[B" (.ref t)) (C : RoadKit.Fld Z h x ST "coder" "B" (.int cd)) (K : RoadKit.Arv Z h t kb .byte N2 vs (.int 0)) (hc : CodA cs cd N2 vs) (hb : ∀ c ∈ cs, ¬ c < 0 ∧ ¬ (65535 : Int32) < c) (l2 : cs.length ≤ 4000)
    {y t' : Addr} {kb' : ClassId} {ds : List Int32} {cd' N2' : Int32} {vs' : List Value} (E' : RoadKit.Exa Z h y ST) (V' : RoadKit.Fld Z h y ST "value" "[B" (.ref t')) (C' : RoadKit.Fld Z h y ST "coder" "B" (.int cd')) (K' : RoadKit.Arv Z h t' kb' .byte N2' vs' (.int 0)) (hc' : CodA ds cd' N2' vs') (hb' : ∀ c ∈ ds, ¬ c < 0 ∧ ¬ (65535 : Int32) < c) (l2' : ds.length ≤ 4000)
    {z : Int32} (S : RoadKit.Sta Z h ST "COMPACT_STRINGS" "Z" (.int z)) (hz : ¬ z = 0) (hfr : 2 ≤ R.frames) (hlo : W + 28 ≤ R.locals) :
    Back l R p e below s args (⟨"java/lang/String", "equals", "(Ljava/lang/Object;)Z"⟩ : MethodName) len W (fun P a => a = #[.ref x, .ref y] ∧ P.U.heap = h ∧ P.cells + 0 ≤ R.cells ∧ P.slots + 0 ≤ R.slots)
      (fun P _ v B => ∃ L, (((v = some (.int 1) ∧ cs = ds) ∨ (v = some (.int 0) ∧ ¬ cs = ds)) ∧ L = [] ∧ B.U.heap = h) ∧ B.locs = P.locs ++ L ∧ B.cells = P.cells + 0 ∧ B.slots = P.slots + 0) := by
  intro m meth c P g ig mk a X hg hsize hdg hW hn hp'
  obtain ⟨rfl, rfl, r1, r2⟩ := hp'
  have al : Z.vm.Alike P.U.vm := hZ.alike.trans X.warmed.alike
  obtain ⟨A, hx⟩ := txt_of wi al E V C K hc hb l2
  obtain ⟨A', hy⟩ := txt_of wi al E' V' C' K' hc' hb' l2'
  obtain ⟨v, B, X', ⟨⟨w, hv, hh, hq⟩, hl, hk, hs⟩, st⟩ := SEq.pays x t A cd cs.length (fun j => cs.getD j 0) y t' A' cd' ds.length (fun j => ds.getD j 0) z (tabEq_of (movedEq hZ hw)) hfr hlo m meth c P g ig mk _ X hg hsize hdg hW hn ⟨r1, r2, rfl, hx, hy, sta_is al S, hz⟩
  refine ⟨v, B, X', ⟨[], ⟨?_, rfl, hh⟩, hl, hk, hs⟩, st⟩
  rcases hq with ⟨rfl, q⟩ | ⟨rfl, q⟩
  · exact Or.inl ⟨hv, (same_list cs ds).mp q⟩
  · exact Or.inr ⟨hv, fun e => q ((same_list cs ds).mpr e)⟩
end StrChars.Road
namespace StrChars.Road
open Jvm Sem ClassFile Op Lib Jvm.Stand Jvm.Free Jvm.Free.XT
open Jvm.Lib.Cold (StaticIs)
/-- what backV says of its String, as the contracts of this text ask it: cs's low bytes, coder 0 -/
theorem codOf {cs : List Int32} {n : Nat} (hn : cs.length = n) (hb : ∀ c ∈ cs, ¬ 255 < c) : CodA cs 0 (Int32.ofNat n) ((cs.map lo8).map Value.int) := Or.inl ⟨rfl, by rw [hn], by simp [List.map_map, Function.comp_def], hb⟩
end StrChars.Road
end Jvm.Pilot.@@N@@
namespace Jvm.Pilot.@@N@@
open Jvm Jvm.ClassFile Sem Op Lib Jvm.Free Jvm.Stand Jvm.LawKit Jvm.RoadKit Bundle Jvm.Pilot.@@N@@.Jvm.D

/-! Strings -/
abbrev own_ST : String := "java/lang/String"
theorem own_ext_refl (h : Heap) : Ext h h := ⟨Nat.le_refl _, fun _ _ q => q⟩
theorem own_ext_trans {h h1 h2 : Heap} (E : Ext h h1) (F : Ext h1 h2) : Ext h h2 := ⟨Nat.le_trans E.1 F.1, fun a c q => F.2 a c (E.2 a c q)⟩
theorem own_ext_keep {h h1 h2 : Heap} {ws : List Addr} (E : Ext h h1) (K : Keep h1 h2 ws) (q : ∀ w ∈ ws, h.size ≤ w) : Ext h h2 :=
  ⟨Nat.le_trans E.1 K.1, fun a c r => K.2.1 a c (E.2 a c r) fun z => absurd (Array.getElem?_eq_some_iff.mp r).1 (Nat.not_lt.mpr (q a z))⟩
theorem own_ext_wr {h h1 h2 : Heap} {a : Addr} {sl : Nat} {v : Value} (E : Ext h h1) (W : Wr h1 h2 a sl v) (q : h.size ≤ a) : Ext h h2 := own_ext_keep E (Keep.of_wr W) (allS q all0)
/-- x is a String of the chars cs, Latin-1 -/
def own_Str (Z : State) (h : Heap) (x : Addr) (cs : List Int32) : Prop := Exa Z h x "java/lang/String" ∧ Fld Z h x "java/lang/String" "coder" "B" (.int 0) ∧
  ∃ (t : Addr) (kb : ClassId), Fld Z h x "java/lang/String" "value" "[B" (.ref t) ∧ Arv Z h t kb .byte (Int32.ofNat cs.length) ((cs.map fun c => c.toInt8.toInt32).map Value.int) (.int 0)
theorem own_Str.ext {Z : State} {h h' : Heap} {x : Addr} {cs : List Int32} (F : own_Str Z h x cs) (E : Ext h h') : own_Str Z h' x cs := by
  obtain ⟨a, b, t, kb, c, d⟩ := F
  exact ⟨a.ext E, b.ext E, t, kb, c.ext E, d.ext E⟩
/-- each char is Latin-1 -/
def own_lat (cs : List Int32) : Prop := ∀ c ∈ cs, ¬ c < 0 ∧ ¬ (255 : Int32) < c
theorem own_up {cs : List Int32} (h : own_lat cs) : ∀ c ∈ cs, ¬ c < 0 ∧ ¬ (65535 : Int32) < c := fun c hc => ⟨(h c hc).1, fun q => (h c hc).2 (by rw [Int32.lt_iff_toInt_lt] at q ⊢; have e1 : (65535 : Int32).toInt = 65535 := rfl; have e2 : (255 : Int32).toInt = 255 := rfl; omega)⟩
theorem own_safe {Z : State} {EL : List (String × Nat)} {vm : Vm} {h : Heap} {x : Addr} (hal : Z.vm.Alike vm) (E : Exa Z h x "java/lang/String") (F : Fld Z h x "java/lang/String" "value" "[B" .null) : Safe Z EL vm h x := fun B => by
  obtain ⟨p, -, u, a, -, q, -, G, rfl | rfl⟩ := B
  · obtain ⟨cell, cf, k, i, f, h1, h2, h3, h4, h5, h6, h7⟩ := F
    cases (show h[q.sa]? = some q.sC from G.ha).symm.trans h1
    obtain ⟨cS, ⟨⟨s1, s2, s3, ⟨cv, kv, iv, s4, s4'⟩, -, s6, s7, s8, -⟩, -, -⟩, -⟩ := G
    obtain ⟨kv', z4⟩ := ff_back (U := Wst Z vm h) hal s4
    cases h2.symm.trans z4
    rw [h7] at s8
    cases s8
  · obtain ⟨cell, k, e1, e2, e3, -, -⟩ := E
    cases (show h[q.sd]? = some q.SA from G.hd).symm.trans e1
    obtain ⟨cS, -, -, fB, -⟩ := G
    have fB' : Z.vm.findClass "[B" = some q.SA.cls := by rw [← hal.findClass]; exact fB
    exact ids_ne e2 fB' (by decide) rfl
theorem own_w {s t : State} {o : Outcome} {L : List Loc} {k n k' n' : Nat} (h : ReturnedEndW s o t L k n) (hk : k ≤ k') (hn : n ≤ n') : ReturnedEndW s o t L k' n' := ⟨h.1, h.2.1, h.2.2.1, h.2.2.2.mono hk hn⟩
theorem dE4_0 : decode jdk_42_method_149_code 0 = .ok (.aload_n 0, 1) := by decide +kernel
theorem dE4_1 : decode jdk_42_method_149_code 1 = .ok (.invokespecial 1, 3) := by decide +kernel
theorem dE4_4 : decode jdk_42_method_149_code 4 = .ok (.iload_n 3, 1) := by decide +kernel
theorem dE4_5 : decode jdk_42_method_149_code 5 = .ok (.ifCond .ne 22, 3) := by decide +kernel
theorem dE4_8 : decode jdk_42_method_149_code 8 = .ok (.aload_n 0, 1) := by decide +kernel
theorem dE4_9 : decode jdk_42_method_149_code 9 = .ok (.ldc 7, 2) := by decide +kernel
theorem dE4_11 : decode jdk_42_method_149_code 11 = .ok (.getfield 9, 3) := by decide +kernel
theorem dE4_14 : decode jdk_42_method_149_code 14 = .ok (.putfield 9, 3) := by decide +kernel
theorem dE4_17 : decode jdk_42_method_149_code 17 = .ok (.aload_n 0, 1) := by decide +kernel
theorem dE4_18 : decode jdk_42_method_149_code 18 = .ok (.ldc 7, 2) := by decide +kernel
theorem dE4_20 : decode jdk_42_method_149_code 20 = .ok (.getfield 15, 3) := by decide +kernel
theorem dE4_23 : decode jdk_42_method_149_code 23 = .ok (.putfield 15, 3) := by decide +kernel
theorem dE4_26 : decode jdk_42_method_149_code 26 = .ok (.return_, 1) := by decide +kernel
theorem dE1_0 : decode jdk_42_method_3_code 0 = .ok (.aload_n 0, 1) := by decide +kernel
theorem dE1_1 : decode jdk_42_method_3_code 1 = .ok (.aload_n 1, 1) := by decide +kernel
theorem dE1_2 : decode jdk_42_method_3_code 2 = .ok (.iconst 0, 1) := by decide +kernel
theorem dE1_3 : decode jdk_42_method_3_code 3 = .ok (.aload_n 1, 1) := by decide +kernel
theorem dE1_4 : decode jdk_42_method_3_code 4 = .ok (.arraylength, 1) := by decide +kernel
theorem dE1_5 : decode jdk_42_method_3_code 5 = .ok (.aconst_null, 1) := by decide +kernel
theorem dE1_6 : decode jdk_42_method_3_code 6 = .ok (.invokespecial 27, 3) := by decide +kernel
theorem dE1_9 : decode jdk_42_method_3_code 9 = .ok (.return_, 1) := by decide +kernel
theorem pn_S : plainName "java/lang/String" = true := by first | (simp [plainName, overriddenIn]; done) | decide +kernel
theorem efE4 (m : MethodId) (x b : Addr) (i j : Int32) : entryFrame m #[(.ref x), (.ref b), (.int i), (.int j), .null] 6 = mkF m 0 #[.val (.ref x), .val (.ref b), .val (.int i), .val (.int j), .val .null, .unset] [] := by first | (simp [entryFrame, mkF, argsToLocals, Value.category]; done) | rfl
theorem efE1 (m : MethodId) (x0 : Addr) (x1 : Addr) : entryFrame m #[(.ref x0), (.ref x1)] 2 = mkF m 0 #[.val (.ref x0), .val (.ref x1)] [] := by first | (simp [entryFrame, mkF, argsToLocals, Value.category, maxLocals]; done) | rfl
theorem pdE4 : parseMethodDescriptor "([CIILjava/lang/Void;)V" = some ⟨[(.array .char), .int, .int, (.object "java/lang/Void")], none⟩ := by decide +kernel
theorem pdE1 : parseMethodDescriptor "([C)V" = some ⟨[(.array .char)], none⟩ := by decide +kernel
def own_QE (Z : State) (x : Addr) (h0 : Heap) (n0 : Nat) (v : Option Value) (h : Heap) (L : List Loc) : Prop := v = none ∧ Fr n0 L ∧ Keep h0 h [x] ∧ own_Str Z h x []
set_option maxRecDepth 65536 in
set_option maxHeartbeats 40000000 in
theorem own_E4 (l : Launch) (Z : State) (a0 : Array Value) (hw : ∀ d ∈ tables_1, d.before a0 Z = true) (EL : List (String × Nat)) (hEL : EW Z a0 EL) (hmem : ("java/lang/String", 7) ∈ EL) (x b : Addr) (h0 : Heap) (n0 : Nat) (ge : n0 ≤ x) (Ex : Exa Z h0 x "java/lang/String") (Fv : Fld Z h0 x "java/lang/String" "value" "[B" .null) (Fc : Fld Z h0 x "java/lang/String" "coder" "B" (.int (0 : Int32))) :
    MetFree l (⟨"java/lang/String", "<init>", "([CIILjava/lang/Void;)V"⟩ : MethodName) (head1 [Jvm.Cond.code (⟨"java/lang/String", "<init>", "([CIILjava/lang/Void;)V"⟩ : MethodName) jdk_42_method_149_code 6 none] ({ frames := 1, cells := 2, slots := 4, locals := 20 } : Room)) (fun a U => a = #[(.ref x), (.ref b), (.int (0 : Int32)), (.int (0 : Int32)), .null] ∧ Z.Warmed39 U.vm ∧ U.heap = h0 ∧ CHv Z EL U.vm h0) (fun _ _ _ _ _ => True) (fun _ U o U' => ∃ v L, o = .returned v ∧ own_QE Z x h0 n0 v U'.heap L ∧ CHr Z EL U.vm U.heap U'.vm U'.heap ∧ ReturnedEndW U o U' L ({ frames := 1, cells := 2, slots := 4, locals := 20 } : Room).cells ({ frames := 1, cells := 2, slots := 4, locals := 20 } : Room).slots) := by
  refine MetFree.of_bodySF (plainFor_of_name pn_S) hisR ?_
  intro p e s m args below meth c s₁ Bd hml0 hP hK
  obtain ⟨rfl, hZ, hh, H0⟩ := hP
  have hx := Bd.exec
  have hby := Bd.bytes
  have hml : c.maxLocals = 6 := hml0
  have hown : s.vm.findClass "java/lang/String" = some m.cls := findClass_of_methodNamed Bd.named
  have hnm := (name_of_methodNamed Bd.named Bd.method).1
  have X0 : Stand p l e ({ frames := 1, cells := 2, slots := 4, locals := 20 } : Room) (s.setVm s.vm) m #[(.ref x), (.ref b), (.int (0 : Int32)), (.int (0 : Int32)), .null] below meth c s₁ [] 0 0 := Stand.of_body Bd
  have e0 : s₁.heap = h0 := by rw [← hh, Bd.state]; rfl
  have hS0 : s.Since s.vm s.heap.size := (State.WarmedH.refl s).since _
  have cne : RoadKit.slotOf Z "java/lang/String" "coder" "B" ≠ RoadKit.slotOf Z "java/lang/String" "value" "[B" := slot_ne (Or.inr (hw _ (List.mem_of_getElem? (i := 78) rfl))) (Or.inr (hw _ (List.mem_of_getElem? (i := 80) rfl))) (by decide) (t := .byte) (t' := .array .byte) (by decide) (by decide)
  have S0 : Safe Z EL s.vm h0 x := own_safe hZ.alike Ex Fv
  have xlt : x < h0.size := Ex.lt
  have hwS : ∀ a ∈ Bundle.stringAtoms, a.before a0 Z = true := fun d hd => hw d ((by decide +kernel : ∀ d ∈ Bundle.stringAtoms, d ∈ tables_1) d hd)
  have sg1 : ∀ target, Steps p.tables e below (s₁.setTop (mkF m 1 #[.val (.ref x), .val (.ref b), .val (.int (0 : Int32)), .val (.int (0 : Int32)), .val .null, .unset] [(.ref x)])) target → Steps p.tables e below (s₁.setTop (mkF m 0 #[.val (.ref x), .val (.ref b), .val (.int (0 : Int32)), .val (.int (0 : Int32)), .val .null, .unset] [])) target := by
    intro target kt
    show Steps p.tables e below (s₁.setTop (mkF m 0 #[.val (.ref x), .val (.ref b), .val (.int (0 : Int32)), .val (.int (0 : Int32)), .val .null, .unset] [])) _
    refine XS.aloadN X0.here hx rfl (hb hby dE4_0) rfl rfl ?_
    show Steps p.tables e below (s₁.setTop (mkF m 1 #[.val (.ref x), .val (.ref b), .val (.int (0 : Int32)), .val (.int (0 : Int32)), .val .null, .unset] [(.ref x)])) _
    exact kt
  obtain ⟨T1, X1, e1, st1⟩ := initO X0 hx hZ hown (hw _ (List.mem_of_getElem? (i := 62) rfl)) (hw _ (List.mem_of_getElem? (i := 63) rfl)) (hw _ (List.mem_of_getElem? (i := 64) rfl)) e0 (g := (mkF m 1 #[.val (.ref x), .val (.ref b), .val (.int (0 : Int32)), .val (.int (0 : Int32)), .val .null, .unset] [(.ref x)])) rfl (by rw [hml]; rfl) rfl (hb hby dE4_1) (by decide) (W := 0) (by show 2 * 0 + _ ≤ _; exact Nat.le_of_eq rfl) (by decide)
  have sg2 : ∀ target, Steps p.tables e below (T1.setTop (mkF m 9 #[.val (.ref x), .val (.ref b), .val (.int (0 : Int32)), .val (.int (0 : Int32)), .val .null, .unset] [(.ref x)])) target → Steps p.tables e below (T1.setTop (mkF m 4 #[.val (.ref x), .val (.ref b), .val (.int (0 : Int32)), .val (.int (0 : Int32)), .val .null, .unset] [])) target := by
    intro target kt
    show Steps p.tables e below (T1.setTop (mkF m 4 #[.val (.ref x), .val (.ref b), .val (.int (0 : Int32)), .val (.int (0 : Int32)), .val .null, .unset] [])) _
    refine XS.iloadN X1.here hx rfl (hb hby dE4_4) rfl ?_
    show Steps p.tables e below (T1.setTop (mkF m 5 #[.val (.ref x), .val (.ref b), .val (.int (0 : Int32)), .val (.int (0 : Int32)), .val .null, .unset] [(.int (0 : Int32))])) _
    refine XS.ifNo X1.here hx rfl (hb hby dE4_5) rfl (by decide) ?_
    show Steps p.tables e below (T1.setTop (mkF m 8 #[.val (.ref x), .val (.ref b), .val (.int (0 : Int32)), .val (.int (0 : Int32)), .val .null, .unset] [])) _
    refine XS.aloadN X1.here hx rfl (hb hby dE4_8) rfl rfl ?_
    show Steps p.tables e below (T1.setTop (mkF m 9 #[.val (.ref x), .val (.ref b), .val (.int (0 : Int32)), .val (.int (0 : Int32)), .val .null, .unset] [(.ref x)])) _
    exact kt
  obtain ⟨q, T2, h2, k2, t, kb, X2, e2, E2, hS2, hk2, hZ2, hown2, Aq, Cq, Vq, Kq, lq, lt, R2, Lq, ne2, st2⟩ := ldcCH (vm0 := s.vm) (text := "") X1 hx hZ hown (hw _ (List.mem_of_getElem? (i := 91) rfl)) hwS e1 hS0 (Nat.le_of_eq (by rw [hh])) hEL hmem H0 (vs := []) (z := 0) ⟨by simp, by simp⟩ (by decide) (by decide) (g := (mkF m 9 #[.val (.ref x), .val (.ref b), .val (.int (0 : Int32)), .val (.int (0 : Int32)), .val .null, .unset] [(.ref x)])) rfl (hb hby dE4_9) (n := 0) (by simp) (by decide) (by decide) (by decide)
  have S2 : Safe Z EL T2.vm h2 x := R2.safe xlt S0
  obtain ⟨nxq, nxt⟩ := ne2 x S2
  obtain ⟨T3, X3, e3, st3⟩ := getF X2 hx hZ2 hown2 (host := "") (Or.inl (hw _ (List.mem_of_getElem? (i := 79) rfl))) Via.refl e2 Vq (g := (mkF m 11 #[.val (.ref x), .val (.ref b), .val (.int (0 : Int32)), .val (.int (0 : Int32)), .val .null, .unset] [(.ref q), (.ref x)])) rfl rfl (hb hby dE4_11)
  obtain ⟨T4, h4, X4, e4, W4, st4⟩ := putF X3 hx hZ2 hown2 (host := "") (Or.inl (hw _ (List.mem_of_getElem? (i := 79) rfl))) Via.refl e3 (Fv.ext E2) (Ex.ext E2) (Or.inr ⟨(hw _ (List.mem_of_getElem? (i := 80) rfl)), rfl, hnm⟩) (hw _ (List.mem_of_getElem? (i := 54) rfl)) (ty := (.array .byte)) (by decide) rfl rfl (g := (mkF m 14 #[.val (.ref x), .val (.ref b), .val (.int (0 : Int32)), .val (.int (0 : Int32)), .val .null, .unset] [(.ref t), (.ref x)])) rfl rfl (hb hby dE4_14)
  have S4 : Safe Z EL T2.vm h4 x := Safe.wr W4 S2 R2.1 S2
  have sg5 : ∀ target, Steps p.tables e below (T4.setTop (mkF m 18 #[.val (.ref x), .val (.ref b), .val (.int (0 : Int32)), .val (.int (0 : Int32)), .val .null, .unset] [(.ref x)])) target → Steps p.tables e below (T4.setTop (mkF m 17 #[.val (.ref x), .val (.ref b), .val (.int (0 : Int32)), .val (.int (0 : Int32)), .val .null, .unset] [])) target := by
    intro target kt
    show Steps p.tables e below (T4.setTop (mkF m 17 #[.val (.ref x), .val (.ref b), .val (.int (0 : Int32)), .val (.int (0 : Int32)), .val .null, .unset] [])) _
    refine XS.aloadN X4.here hx rfl (hb hby dE4_17) rfl rfl ?_
    show Steps p.tables e below (T4.setTop (mkF m 18 #[.val (.ref x), .val (.ref b), .val (.int (0 : Int32)), .val (.int (0 : Int32)), .val .null, .unset] [(.ref x)])) _
    exact kt
  have st6 := ldcAgain X4 hx hZ2 hown2 (hw _ (List.mem_of_getElem? (i := 91) rfl)) Lq (g := (mkF m 18 #[.val (.ref x), .val (.ref b), .val (.int (0 : Int32)), .val (.int (0 : Int32)), .val .null, .unset] [(.ref x)])) rfl (hb hby dE4_18)
  obtain ⟨T7, X7, e7, st7⟩ := getF X4 hx hZ2 hown2 (host := "") (Or.inl (hw _ (List.mem_of_getElem? (i := 77) rfl))) Via.refl e4 (Cq.other W4 (Or.inl (Ne.symm nxq))) (g := (mkF m 20 #[.val (.ref x), .val (.ref b), .val (.int (0 : Int32)), .val (.int (0 : Int32)), .val .null, .unset] [(.ref q), (.ref x)])) rfl rfl (hb hby dE4_20)
  obtain ⟨T8, h8, X8, e8, W8, st8⟩ := putF X7 hx hZ2 hown2 (host := "") (Or.inl (hw _ (List.mem_of_getElem? (i := 77) rfl))) Via.refl e7 ((Fc.ext E2).other W4 (Or.inr cne)) ((Ex.ext E2).wr W4) (Or.inr ⟨(hw _ (List.mem_of_getElem? (i := 78) rfl)), rfl, hnm⟩) (hw _ (List.mem_of_getElem? (i := 54) rfl)) (ty := .byte) (by decide) rfl rfl (g := (mkF m 23 #[.val (.ref x), .val (.ref b), .val (.int (0 : Int32)), .val (.int (0 : Int32)), .val .null, .unset] [(.int (0 : Int32)), (.ref x)])) rfl rfl (hb hby dE4_23)
  have R6 : CHr Z EL T2.vm h2 T2.vm h8 := (CHr.wr W4 S2 R2.1).trans (CHr.wr W8 S4 (CHr.wr W4 S2 R2.1).1)
  have R7 : CHr Z EL T2.vm h8 T8.vm h8 := CHv.at X8 hZ2 hEL R6.1
  have kk : k2 ≤ T8.heap.size := by rw [e8, W8.size, W4.size]; exact hk2
  obtain ⟨fs, hr, hrun, hended, hW⟩ := X8.leaveW hS2 kk (v := none) (fun _ => rfl)
  have K6 : Keep h0 h8 [x] := (((Keep.refl h0 [x]).ext E2).wr W4 (Or.inl (List.mem_cons_self ..))).wr W8 (Or.inl (List.mem_cons_self ..))
  have N6 : Fr n0 _ := Fr.snoc X8 (Fr.snoc X4 (Fr.nil n0) ge) ge
  have Sx : own_Str Z h8 x [] := ⟨((Ex.ext E2).wr W4).wr W8, Fld.same W8 ((Fc.ext E2).other W4 (Or.inr cne)), t, kb, (Fld.same W4 (Fv.ext E2)).other W8 (Or.inr (Ne.symm cne)), (Kq.other W4 (Ne.symm nxt)).other W8 (Ne.symm nxt)⟩
  refine ⟨_, _, castTop (efE4 m x b 0 0) ?_, hrun, hended, _, _, rfl, ⟨rfl, N6, ?_, ?_⟩, ?_, own_w hW (by decide) (by decide)⟩
  · show Steps p.tables e below (s₁.setTop (mkF m 0 #[.val (.ref x), .val (.ref b), .val (.int (0 : Int32)), .val (.int (0 : Int32)), .val .null, .unset] [])) _
    refine sg1 _ ?_
    show Steps p.tables e below (s₁.setTop (mkF m 1 #[.val (.ref x), .val (.ref b), .val (.int (0 : Int32)), .val (.int (0 : Int32)), .val .null, .unset] [(.ref x)])) _
    refine st1 _ ?_
    show Steps p.tables e below (T1.setTop (mkF m 4 #[.val (.ref x), .val (.ref b), .val (.int (0 : Int32)), .val (.int (0 : Int32)), .val .null, .unset] [])) _
    refine sg2 _ ?_
    show Steps p.tables e below (T1.setTop (mkF m 9 #[.val (.ref x), .val (.ref b), .val (.int (0 : Int32)), .val (.int (0 : Int32)), .val .null, .unset] [(.ref x)])) _
    refine st2 _ ?_
    show Steps p.tables e below (T2.setTop (mkF m 11 #[.val (.ref x), .val (.ref b), .val (.int (0 : Int32)), .val (.int (0 : Int32)), .val .null, .unset] [(.ref q), (.ref x)])) _
    refine st3 _ ?_
    show Steps p.tables e below (T3.setTop (mkF m 14 #[.val (.ref x), .val (.ref b), .val (.int (0 : Int32)), .val (.int (0 : Int32)), .val .null, .unset] [(.ref t), (.ref x)])) _
    refine st4 _ ?_
    show Steps p.tables e below (T4.setTop (mkF m 17 #[.val (.ref x), .val (.ref b), .val (.int (0 : Int32)), .val (.int (0 : Int32)), .val .null, .unset] [])) _
    refine sg5 _ ?_
    show Steps p.tables e below (T4.setTop (mkF m 18 #[.val (.ref x), .val (.ref b), .val (.int (0 : Int32)), .val (.int (0 : Int32)), .val .null, .unset] [(.ref x)])) _
    refine st6 _ ?_
    show Steps p.tables e below (T4.setTop (mkF m 20 #[.val (.ref x), .val (.ref b), .val (.int (0 : Int32)), .val (.int (0 : Int32)), .val .null, .unset] [(.ref q), (.ref x)])) _
    refine st7 _ ?_
    show Steps p.tables e below (T7.setTop (mkF m 23 #[.val (.ref x), .val (.ref b), .val (.int (0 : Int32)), .val (.int (0 : Int32)), .val .null, .unset] [(.int (0 : Int32)), (.ref x)])) _
    refine st8 _ ?_
    show Steps p.tables e below (T8.setTop (mkF m 26 #[.val (.ref x), .val (.ref b), .val (.int (0 : Int32)), .val (.int (0 : Int32)), .val .null, .unset] [])) _
    exact X8.returnOut hx Bd.returns (hb hby dE4_26) hr
  · show Keep h0 T8.heap [x]
    rw [e8]; exact K6
  · show own_Str Z T8.heap x []
    rw [e8]; exact Sx
  · show CHr Z EL s.vm s.heap T8.vm T8.heap
    rw [e8, hh]; exact (R2.trans R6).trans R7
set_option maxRecDepth 65536 in
set_option maxHeartbeats 40000000 in
theorem own_E1 (l : Launch) (Z : State) (a0 : Array Value) (hw : ∀ d ∈ tables_1, d.before a0 Z = true) (EL : List (String × Nat)) (hEL : EW Z a0 EL) (hmem : ("java/lang/String", 7) ∈ EL) (x b : Addr) (h0 : Heap) (n0 : Nat) (ge : n0 ≤ x) (Ex : Exa Z h0 x "java/lang/String") (Fv : Fld Z h0 x "java/lang/String" "value" "[B" .null) (Fc : Fld Z h0 x "java/lang/String" "coder" "B" (.int (0 : Int32))) (kb : ClassId) (Kb : Arv Z h0 b kb .char (0 : Int32) [] (.int (0 : Int32))) :
    MetFree l (⟨"java/lang/String", "<init>", "([C)V"⟩ : MethodName) (head1 [Jvm.Cond.code (⟨"java/lang/String", "<init>", "([C)V"⟩ : MethodName) jdk_42_method_3_code 2 none] ({ frames := 2, cells := 2, slots := 4, locals := 37 } : Room)) (fun a U => a = #[(.ref x), (.ref b)] ∧ Z.Warmed39 U.vm ∧ U.heap = h0 ∧ CHv Z EL U.vm h0) (fun _ _ _ _ _ => True) (fun _ U o U' => ∃ v L, o = .returned v ∧ own_QE Z x h0 n0 v U'.heap L ∧ CHr Z EL U.vm U.heap U'.vm U'.heap ∧ ReturnedEndW U o U' L ({ frames := 2, cells := 2, slots := 4, locals := 37 } : Room).cells ({ frames := 2, cells := 2, slots := 4, locals := 37 } : Room).slots) := by
  refine MetFree.of_bodySF (plainFor_of_name pn_S) hisR ?_
  intro p e s m args below meth c s₁ Bd hml0 hP hK
  obtain ⟨rfl, hZ, hh, H0⟩ := hP
  have hx := Bd.exec
  have hby := Bd.bytes
  have hml : c.maxLocals = 2 := hml0
  have hown : s.vm.findClass "java/lang/String" = some m.cls := findClass_of_methodNamed Bd.named
  have X0 : Stand p l e ({ frames := 2, cells := 2, slots := 4, locals := 37 } : Room) s m #[(.ref x), (.ref b)] below meth c s₁ [] 0 0 := Stand.of_body Bd
  have e0 : s₁.heap = h0 := by rw [← hh, Bd.state]; rfl
  obtain ⟨cl, Ab, -, Sb, Mb, -, -⟩ := Kb
  have sg1 : ∀ target, Steps p.tables e below (s₁.setTop (mkF m 6 #[.val (.ref x), .val (.ref b)] [.null, (.int (0 : Int32)), (.int (0 : Int32)), (.ref b), (.ref x)])) target → Steps p.tables e below (s₁.setTop (mkF m 0 #[.val (.ref x), .val (.ref b)] [])) target := by
    intro target kt
    show Steps p.tables e below (s₁.setTop (mkF m 0 #[.val (.ref x), .val (.ref b)] [])) _
    refine XS.aloadN X0.here hx rfl (hb hby dE1_0) rfl rfl ?_
    show Steps p.tables e below (s₁.setTop (mkF m 1 #[.val (.ref x), .val (.ref b)] [(.ref x)])) _
    refine XS.aloadN X0.here hx rfl (hb hby dE1_1) rfl rfl ?_
    show Steps p.tables e below (s₁.setTop (mkF m 2 #[.val (.ref x), .val (.ref b)] [(.ref b), (.ref x)])) _
    refine XS.iconst X0.here hx rfl (hb hby dE1_2) ?_
    show Steps p.tables e below (s₁.setTop (mkF m 3 #[.val (.ref x), .val (.ref b)] [(.int (0 : Int32)), (.ref b), (.ref x)])) _
    refine XS.aloadN X0.here hx rfl (hb hby dE1_3) rfl rfl ?_
    show Steps p.tables e below (s₁.setTop (mkF m 4 #[.val (.ref x), .val (.ref b)] [(.ref b), (.int (0 : Int32)), (.ref b), (.ref x)])) _
    refine X0.arraylength hx (cell := cl) (by rw [e0]; exact Ab.1) (State.isArrayOf_alike hZ.alike Ab.2.1) (g := (mkF m 4 #[.val (.ref x), .val (.ref b)] [(.ref b), (.int (0 : Int32)), (.ref b), (.ref x)])) rfl (rest := [(.int (0 : Int32)), (.ref b), (.ref x)]) rfl (hb hby dE1_4) _ ?_
    rw [len_of Sb Mb]
    show Steps p.tables e below (s₁.setTop (mkF m 5 #[.val (.ref x), .val (.ref b)] [(.int (0 : Int32)), (.int (0 : Int32)), (.ref b), (.ref x)])) _
    refine XS.aconstNull X0.here hx rfl (hb hby dE1_5) ?_
    show Steps p.tables e below (s₁.setTop (mkF m 6 #[.val (.ref x), .val (.ref b)] [.null, (.int (0 : Int32)), (.int (0 : Int32)), (.ref b), (.ref x)])) _
    exact kt
  obtain ⟨_, _, ⟨T1, L1, k1, n1⟩, -, X1, hS1, gr1, ⟨Lc1, hQ1, l1, y1, z1, R1⟩, st1⟩ := X0.specialBackS hx (y := (⟨"java/lang/String", "<init>", "([CIILjava/lang/Void;)V"⟩ : MethodName)) rfl hown (mvT hZ (hw _ (List.mem_of_getElem? (i := 58) rfl))) (mvT hZ (hw _ (List.mem_of_getElem? (i := 59) rfl))) (mvT hZ (hw _ (List.mem_of_getElem? (i := 61) rfl))) (by decide) (backOfSH (W := 0) (own_E4 l Z a0 hw EL hEL hmem x b h0 n0 ge Ex Fv Fc) hZ (hw _ (List.mem_of_getElem? (i := 61) rfl)) (hw _ (List.mem_of_getElem? (i := 32) rfl)) (by decide) (by decide) hEL H0) (g := (mkF m 6 #[.val (.ref x), .val (.ref b)] [.null, (.int (0 : Int32)), (.int (0 : Int32)), (.ref b), (.ref x)])) rfl (by rw [hml]; rfl) (Steps.refl _) (a := x) (argsL := [(.ref b), (.int (0 : Int32)), (.int (0 : Int32)), .null]) (rest := []) (lenOf pdE4 rfl) rfl (by show 2 * 0 + _ ≤ _; exact Nat.le_of_eq rfl) (hb hby dE1_6) (fun _ _ => ⟨rfl, e0, Nat.le_of_ble_eq_true rfl, Nat.le_of_ble_eq_true rfl⟩)
  dsimp only [Pt.U, Pt.locs, Pt.cells, Pt.slots] at X1 hS1 gr1 l1 y1 z1 R1 st1 hQ1
  subst l1 y1 z1
  obtain ⟨rfl, N1, K1, S1⟩ := hQ1
  have hZ1 : Z.Warmed39 T1.vm := State.Warmed39.trans (t := s) hZ hS1.1
  have R7 := CHv.at X1 hZ1 hEL R1.1
  obtain ⟨fs, hr, hrun, hended, hW⟩ := X1.leaveW hS1 (Nat.le_refl _) (v := none) (fun _ => rfl)
  refine ⟨_, _, castTop (efE1 m x b) ?_, hrun, hended, _, _, rfl, ⟨rfl, N1, K1, S1⟩, ?_, own_w hW (by decide) (by decide)⟩
  · show Steps p.tables e below (s₁.setTop (mkF m 0 #[.val (.ref x), .val (.ref b)] [])) _
    refine sg1 _ ?_
    show Steps p.tables e below (s₁.setTop (mkF m 6 #[.val (.ref x), .val (.ref b)] [.null, (.int (0 : Int32)), (.int (0 : Int32)), (.ref b), (.ref x)])) _
    refine st1.trans ?_
    show Steps p.tables e below (T1.setTop (mkF m 9 #[.val (.ref x), .val (.ref b)] [])) _
    exact X1.returnOut hx Bd.returns (hb hby dE1_9) hr
  · show CHr Z EL s.vm s.heap T1.vm T1.heap
    rw [hh]; exact R1
theorem own_nar {c : Int32} (h : ¬ c < 0 ∧ ¬ (255 : Int32) < c) : nar .char c = c := by
  have h1 := c_i2c c
  have e0 : (0 : Int32).toInt = 0 := rfl
  have e1 : (255 : Int32).toInt = 255 := rfl
  obtain ⟨h2, h3⟩ := h
  rw [Int32.lt_iff_toInt_lt] at h2 h3
  show c.toUInt32.toUInt16.toUInt32.toInt32 = c
  rw [← Int32.toInt_inj]
  omega
theorem own_ch8 (x : Int32) : ¬ ((x &&& (255 : Int32)).toUInt32.toUInt16.toUInt32.toInt32) < 0 ∧ ¬ (255 : Int32) < ((x &&& (255 : Int32)).toUInt32.toUInt16.toUInt32.toInt32) := by
  have h1 := c_i2c (x &&& (255 : Int32))
  have h2 := c_and x 255 (by decide)
  have e0 : (0 : Int32).toInt = 0 := rfl
  have e1 : (255 : Int32).toInt = 255 := rfl
  rw [Int32.lt_iff_toInt_lt, Int32.lt_iff_toInt_lt]
  omega
theorem own_fc {c : Int32} (h : ¬ c < 0 ∧ ¬ (255 : Int32) < c) : fits .char (.int c) = true := by
  have q := fits_nar_char c
  rwa [own_nar h] at q
theorem own_hws : ∀ d ∈ StrChars.Road.words, d ∈ tables_1 := by decide +kernel
theorem own_heq : ∀ d ∈ StrChars.Road.wordsEq, d ∈ tables_1 := by decide +kernel
theorem own_cod {cs : List Int32} (h : own_lat cs) : StrChars.Road.CodA cs 0 (Int32.ofNat cs.length) ((cs.map fun c => c.toInt8.toInt32).map Value.int) := StrChars.Road.codOf rfl (fun c hc => (h c hc).2)
def own_QS (n0 : Nat) (w : Value) (h0 : Heap) (v : Option Value) (h : Heap) (L : List Loc) : Prop := v = some w ∧ Fr n0 L ∧ h = h0
abbrev own_P : List Int32 := [80, 75, 67]
abbrev own_Q : List Int32 := [81, 67, 47, 83, 83, 67, 68]
theorem own_l0 : own_lat [] := fun _ q => absurd q List.not_mem_nil
theorem own_lP : own_lat own_P := by unfold own_lat; decide
theorem own_lQ : own_lat own_Q := by unfold own_lat; decide
theorem pn_L : plainName "com/example/ombudsign/ombudsign/dss/CertTypeFromValuePinLaw" = true := by first | (simp [plainName, overriddenIn]; done) | decide +kernel
theorem pn_C : plainName "com/example/ombudsign/ombudsign/dss/CertType" = true := by first | (simp [plainName, overriddenIn]; done) | decide +kernel
theorem pn_O : plainName "java/util/Objects" = true := by first | (simp [plainName, overriddenIn]; done) | decide +kernel
theorem pn_P : plainName "java/util/Optional" = true := by first | (simp [plainName, overriddenIn]; done) | decide +kernel
def own_QC (n0 : Nat) (h0 : Heap) (v : Option Value) (h : Heap) (L : List Loc) : Prop := ∃ r : Int32, v = some (.int r) ∧ (¬ r < 0 ∧ ¬ (255 : Int32) < r) ∧ Fr n0 L ∧ h = h0
theorem dD_0 : decode method_3_code 0 = .ok (.iload_n 0, 1) := by decide +kernel
theorem dD_1 : decode method_3_code 1 = .ok (.iconst 4, 1) := by decide +kernel
theorem dD_2 : decode method_3_code 2 = .ok (.if_icmp .ge 7, 3) := by decide +kernel
theorem dD_5 : decode method_3_code 5 = .ok (.iload_n 1, 1) := by decide +kernel
theorem dD_6 : decode method_3_code 6 = .ok (.goto 4, 3) := by decide +kernel
theorem dD_9 : decode method_3_code 9 = .ok (.iload_n 2, 1) := by decide +kernel
theorem dD_10 : decode method_3_code 10 = .ok (.istore_n 3, 1) := by decide +kernel
theorem dD_11 : decode method_3_code 11 = .ok (.iload_n 3, 1) := by decide +kernel
theorem dD_12 : decode method_3_code 12 = .ok (.bipush 8, 2) := by decide +kernel
theorem dD_14 : decode method_3_code 14 = .ok (.iload_n 0, 1) := by decide +kernel
theorem dD_15 : decode method_3_code 15 = .ok (.iconst 3, 1) := by decide +kernel
theorem dD_16 : decode method_3_code 16 = .ok (.iand, 1) := by decide +kernel
theorem dD_17 : decode method_3_code 17 = .ok (.imul, 1) := by decide +kernel
theorem dD_18 : decode method_3_code 18 = .ok (.iushr, 1) := by decide +kernel
theorem dD_19 : decode method_3_code 19 = .ok (.sipush 255, 3) := by decide +kernel
theorem dD_22 : decode method_3_code 22 = .ok (.iand, 1) := by decide +kernel
theorem dD_23 : decode method_3_code 23 = .ok (.i2c, 1) := by decide +kernel
theorem dD_24 : decode method_3_code 24 = .ok (.ireturn, 1) := by decide +kernel
theorem efD (m : MethodId) (x0 : Int32) (x1 : Int32) (x2 : Int32) : entryFrame m #[(.int x0), (.int x1), (.int x2)] 4 = mkF m 0 #[.val (.int x0), .val (.int x1), .val (.int x2), .unset] [] := by first | (simp [entryFrame, mkF, argsToLocals, Value.category, maxLocals]; done) | rfl
theorem pdD : parseMethodDescriptor "(III)C" = some ⟨[.int, .int, .int], some .char⟩ := by decide +kernel
set_option maxRecDepth 65536 in
set_option maxHeartbeats 40000000 in
theorem rmD (l : Launch) (Z : State) (a0 : Array Value) (hw : ∀ d ∈ tables_1, d.before a0 Z = true) (i a b : Int32) (h0 : Heap) (n0 : Nat) :
    MetFree l (⟨"com/example/ombudsign/ombudsign/dss/CertTypeFromValuePinLaw", "drawn", "(III)C"⟩ : MethodName) (head1 [Jvm.Cond.code (⟨"com/example/ombudsign/ombudsign/dss/CertTypeFromValuePinLaw", "drawn", "(III)C"⟩ : MethodName) method_3_code 4 (some .char)] ({ frames := 0, cells := 0, slots := 0, locals := 0 } : Room)) (fun q_ U => q_ = #[(.int i), (.int a), (.int b)] ∧ Z.Warmed39 U.vm ∧ U.heap = h0) (fun _ _ _ _ _ => True) (fun _ U o U' => ∃ v L, o = .returned v ∧ own_QC n0 h0 v U'.heap L ∧ FrameEnd U o U' L ({ frames := 0, cells := 0, slots := 0, locals := 0 } : Room).cells ({ frames := 0, cells := 0, slots := 0, locals := 0 } : Room).slots) := by
  refine MetFree.of_bodySF (plainFor_of_name pn_L) hisR ?_
  intro p e s m args below meth c s₁ Bd hml0 hP hK
  obtain ⟨rfl, hZ, hh⟩ := hP
  have hx := Bd.exec
  have hby := Bd.bytes
  have hml : c.maxLocals = 4 := hml0
  have hown : s.vm.findClass "com/example/ombudsign/ombudsign/dss/CertTypeFromValuePinLaw" = some m.cls := findClass_of_methodNamed Bd.named
  have hnm := (name_of_methodNamed Bd.named Bd.method).1
  have X0 : Stand p l e ({ frames := 0, cells := 0, slots := 0, locals := 0 } : Room) s m #[(.int i), (.int a), (.int b)] below meth c s₁ [] 0 0 := Stand.of_body Bd
  have e0 : s₁.heap = h0 := by rw [← hh, Bd.state]; rfl
  by_cases h4 : i < 4
  · obtain ⟨r, er⟩ : ∃ r, r = ((((((a).toUInt32 >>> (((8 : Int32) * (i &&& (3 : Int32))) &&& 31).toUInt32).toInt32) &&& (255 : Int32))).toUInt32.toUInt16.toUInt32.toInt32) := ⟨_, rfl⟩
    have hl : ¬ r < 0 ∧ ¬ (255 : Int32) < r := by rw [er]; exact own_ch8 _
    have sg1 : ∀ target, Steps p.tables e below (s₁.setTop (mkF m 24 #[.val (.int i), .val (.int a), .val (.int b), .val (.int a)] [(.int r)])) target → Steps p.tables e below (s₁.setTop (mkF m 0 #[.val (.int i), .val (.int a), .val (.int b), .unset] [])) target := by
      intro target kt
      show Steps p.tables e below (s₁.setTop (mkF m 0 #[.val (.int i), .val (.int a), .val (.int b), .unset] [])) _
      refine XS.iloadN X0.here hx rfl (hb hby dD_0) rfl ?_
      show Steps p.tables e below (s₁.setTop (mkF m 1 #[.val (.int i), .val (.int a), .val (.int b), .unset] [(.int i)])) _
      refine XS.iconst X0.here hx rfl (hb hby dD_1) ?_
      show Steps p.tables e below (s₁.setTop (mkF m 2 #[.val (.int i), .val (.int a), .val (.int b), .unset] [(.int (4 : Int32)), (.int i)])) _
      refine XS.icmpNo X0.here hx rfl (hb hby dD_2) rfl (tlt h4).2.1 ?_
      show Steps p.tables e below (s₁.setTop (mkF m 5 #[.val (.int i), .val (.int a), .val (.int b), .unset] [])) _
      refine XS.iloadN X0.here hx rfl (hb hby dD_5) rfl ?_
      show Steps p.tables e below (s₁.setTop (mkF m 6 #[.val (.int i), .val (.int a), .val (.int b), .unset] [(.int a)])) _
      refine XS.goto X0.here hx rfl (pc0 := 6) (pc' := 10) rfl (hb hby dD_6) (by decide) (by decide) ?_
      show Steps p.tables e below (s₁.setTop (mkF m 10 #[.val (.int i), .val (.int a), .val (.int b), .unset] [(.int a)])) _
      refine XS.istoreN X0.here hx rfl (hb hby dD_10) rfl (l' := #[.val (.int i), .val (.int a), .val (.int b), .val (.int a)]) rfl ?_
      show Steps p.tables e below (s₁.setTop (mkF m 11 #[.val (.int i), .val (.int a), .val (.int b), .val (.int a)] [])) _
      refine XS.iloadN X0.here hx rfl (hb hby dD_11) rfl ?_
      show Steps p.tables e below (s₁.setTop (mkF m 12 #[.val (.int i), .val (.int a), .val (.int b), .val (.int a)] [(.int a)])) _
      refine XS.bipush X0.here hx rfl (hb hby dD_12) ?_
      show Steps p.tables e below (s₁.setTop (mkF m 14 #[.val (.int i), .val (.int a), .val (.int b), .val (.int a)] [(.int (8 : Int32)), (.int a)])) _
      refine XS.iloadN X0.here hx rfl (hb hby dD_14) rfl ?_
      show Steps p.tables e below (s₁.setTop (mkF m 15 #[.val (.int i), .val (.int a), .val (.int b), .val (.int a)] [(.int i), (.int (8 : Int32)), (.int a)])) _
      refine XS.iconst X0.here hx rfl (hb hby dD_15) ?_
      show Steps p.tables e below (s₁.setTop (mkF m 16 #[.val (.int i), .val (.int a), .val (.int b), .val (.int a)] [(.int (3 : Int32)), (.int i), (.int (8 : Int32)), (.int a)])) _
      refine XS.iand X0.here hx rfl (hb hby dD_16) rfl ?_
      show Steps p.tables e below (s₁.setTop (mkF m 17 #[.val (.int i), .val (.int a), .val (.int b), .val (.int a)] [(.int (i &&& (3 : Int32))), (.int (8 : Int32)), (.int a)])) _
      refine XS.imul X0.here hx rfl (hb hby dD_17) rfl ?_
      show Steps p.tables e below (s₁.setTop (mkF m 18 #[.val (.int i), .val (.int a), .val (.int b), .val (.int a)] [(.int ((8 : Int32) * (i &&& (3 : Int32)))), (.int a)])) _
      refine XS.iushr X0.here hx rfl (hb hby dD_18) rfl ?_
      show Steps p.tables e below (s₁.setTop (mkF m 19 #[.val (.int i), .val (.int a), .val (.int b), .val (.int a)] [(.int (((a).toUInt32 >>> (((8 : Int32) * (i &&& (3 : Int32))) &&& 31).toUInt32).toInt32))])) _
      refine XS.sipush X0.here hx rfl (hb hby dD_19) ?_
      show Steps p.tables e below (s₁.setTop (mkF m 22 #[.val (.int i), .val (.int a), .val (.int b), .val (.int a)] [(.int (255 : Int32)), (.int (((a).toUInt32 >>> (((8 : Int32) * (i &&& (3 : Int32))) &&& 31).toUInt32).toInt32))])) _
      refine XS.iand X0.here hx rfl (hb hby dD_22) rfl ?_
      show Steps p.tables e below (s₁.setTop (mkF m 23 #[.val (.int i), .val (.int a), .val (.int b), .val (.int a)] [(.int ((((a).toUInt32 >>> (((8 : Int32) * (i &&& (3 : Int32))) &&& 31).toUInt32).toInt32) &&& (255 : Int32)))])) _
      refine XS.i2c X0.here hx rfl (hb hby dD_23) rfl ?_
      show Steps p.tables e below (s₁.setTop (mkF m 24 #[.val (.int i), .val (.int a), .val (.int b), .val (.int a)] [(.int ((((((a).toUInt32 >>> (((8 : Int32) * (i &&& (3 : Int32))) &&& 31).toUInt32).toInt32) &&& (255 : Int32))).toUInt32.toUInt16.toUInt32.toInt32))])) _
      rw [← er]
      show Steps p.tables e below (s₁.setTop (mkF m 24 #[.val (.int i), .val (.int a), .val (.int b), .val (.int a)] [(.int r)])) _
      exact kt
    obtain ⟨fs, hr, hrun, hended, hW, hsame⟩ := X0.leave (v := some (.int r)) (fun h => by rw [Bd.returns] at h; cases h)
    refine ⟨_, _, castTop (efD m i a b) ?_, hrun, hended, _, _, rfl, ?_, ⟨_, rfl⟩, hW, hsame.mono (by decide) (by decide)⟩
    · show Steps p.tables e below (s₁.setTop (mkF m 0 #[.val (.int i), .val (.int a), .val (.int b), .unset] [])) _
      refine sg1 _ ?_
      show Steps p.tables e below (s₁.setTop (mkF m 24 #[.val (.int i), .val (.int a), .val (.int b), .val (.int a)] [(.int r)])) _
      exact retN X0 hx (t := .char) Bd.returns (by simp) (hb hby dD_24) (by show ∀ (f : JFrame) (acts : List Action), f.method = m → f.locked = none → f.entered = [] → (doReturn e (s₁.setTop f) acts (some (.int (nar .char r)))).1 = _; rw [own_nar hl]; exact hr)
    · show _
      exact ⟨r, rfl, hl, Fr.nil n0, e0⟩
  · obtain ⟨r, er⟩ : ∃ r, r = ((((((b).toUInt32 >>> (((8 : Int32) * (i &&& (3 : Int32))) &&& 31).toUInt32).toInt32) &&& (255 : Int32))).toUInt32.toUInt16.toUInt32.toInt32) := ⟨_, rfl⟩
    have hl : ¬ r < 0 ∧ ¬ (255 : Int32) < r := by rw [er]; exact own_ch8 _
    have sg1 : ∀ target, Steps p.tables e below (s₁.setTop (mkF m 24 #[.val (.int i), .val (.int a), .val (.int b), .val (.int b)] [(.int r)])) target → Steps p.tables e below (s₁.setTop (mkF m 0 #[.val (.int i), .val (.int a), .val (.int b), .unset] [])) target := by
      intro target kt
      show Steps p.tables e below (s₁.setTop (mkF m 0 #[.val (.int i), .val (.int a), .val (.int b), .unset] [])) _
      refine XS.iloadN X0.here hx rfl (hb hby dD_0) rfl ?_
      show Steps p.tables e below (s₁.setTop (mkF m 1 #[.val (.int i), .val (.int a), .val (.int b), .unset] [(.int i)])) _
      refine XS.iconst X0.here hx rfl (hb hby dD_1) ?_
      show Steps p.tables e below (s₁.setTop (mkF m 2 #[.val (.int i), .val (.int a), .val (.int b), .unset] [(.int (4 : Int32)), (.int i)])) _
      refine XS.icmpYes X0.here hx rfl (pc0 := 2) (pc' := 9) rfl (hb hby dD_2) rfl (flt h4).2.1 (by decide) (by decide) ?_
      show Steps p.tables e below (s₁.setTop (mkF m 9 #[.val (.int i), .val (.int a), .val (.int b), .unset] [])) _
      refine XS.iloadN X0.here hx rfl (hb hby dD_9) rfl ?_
      show Steps p.tables e below (s₁.setTop (mkF m 10 #[.val (.int i), .val (.int a), .val (.int b), .unset] [(.int b)])) _
      refine XS.istoreN X0.here hx rfl (hb hby dD_10) rfl (l' := #[.val (.int i), .val (.int a), .val (.int b), .val (.int b)]) rfl ?_
      show Steps p.tables e below (s₁.setTop (mkF m 11 #[.val (.int i), .val (.int a), .val (.int b), .val (.int b)] [])) _
      refine XS.iloadN X0.here hx rfl (hb hby dD_11) rfl ?_
      show Steps p.tables e below (s₁.setTop (mkF m 12 #[.val (.int i), .val (.int a), .val (.int b), .val (.int b)] [(.int b)])) _
      refine XS.bipush X0.here hx rfl (hb hby dD_12) ?_
      show Steps p.tables e below (s₁.setTop (mkF m 14 #[.val (.int i), .val (.int a), .val (.int b), .val (.int b)] [(.int (8 : Int32)), (.int b)])) _
      refine XS.iloadN X0.here hx rfl (hb hby dD_14) rfl ?_
      show Steps p.tables e below (s₁.setTop (mkF m 15 #[.val (.int i), .val (.int a), .val (.int b), .val (.int b)] [(.int i), (.int (8 : Int32)), (.int b)])) _
      refine XS.iconst X0.here hx rfl (hb hby dD_15) ?_
      show Steps p.tables e below (s₁.setTop (mkF m 16 #[.val (.int i), .val (.int a), .val (.int b), .val (.int b)] [(.int (3 : Int32)), (.int i), (.int (8 : Int32)), (.int b)])) _
      refine XS.iand X0.here hx rfl (hb hby dD_16) rfl ?_
      show Steps p.tables e below (s₁.setTop (mkF m 17 #[.val (.int i), .val (.int a), .val (.int b), .val (.int b)] [(.int (i &&& (3 : Int32))), (.int (8 : Int32)), (.int b)])) _
      refine XS.imul X0.here hx rfl (hb hby dD_17) rfl ?_
      show Steps p.tables e below (s₁.setTop (mkF m 18 #[.val (.int i), .val (.int a), .val (.int b), .val (.int b)] [(.int ((8 : Int32) * (i &&& (3 : Int32)))), (.int b)])) _
      refine XS.iushr X0.here hx rfl (hb hby dD_18) rfl ?_
      show Steps p.tables e below (s₁.setTop (mkF m 19 #[.val (.int i), .val (.int a), .val (.int b), .val (.int b)] [(.int (((b).toUInt32 >>> (((8 : Int32) * (i &&& (3 : Int32))) &&& 31).toUInt32).toInt32))])) _
      refine XS.sipush X0.here hx rfl (hb hby dD_19) ?_
      show Steps p.tables e below (s₁.setTop (mkF m 22 #[.val (.int i), .val (.int a), .val (.int b), .val (.int b)] [(.int (255 : Int32)), (.int (((b).toUInt32 >>> (((8 : Int32) * (i &&& (3 : Int32))) &&& 31).toUInt32).toInt32))])) _
      refine XS.iand X0.here hx rfl (hb hby dD_22) rfl ?_
      show Steps p.tables e below (s₁.setTop (mkF m 23 #[.val (.int i), .val (.int a), .val (.int b), .val (.int b)] [(.int ((((b).toUInt32 >>> (((8 : Int32) * (i &&& (3 : Int32))) &&& 31).toUInt32).toInt32) &&& (255 : Int32)))])) _
      refine XS.i2c X0.here hx rfl (hb hby dD_23) rfl ?_
      show Steps p.tables e below (s₁.setTop (mkF m 24 #[.val (.int i), .val (.int a), .val (.int b), .val (.int b)] [(.int ((((((b).toUInt32 >>> (((8 : Int32) * (i &&& (3 : Int32))) &&& 31).toUInt32).toInt32) &&& (255 : Int32))).toUInt32.toUInt16.toUInt32.toInt32))])) _
      rw [← er]
      show Steps p.tables e below (s₁.setTop (mkF m 24 #[.val (.int i), .val (.int a), .val (.int b), .val (.int b)] [(.int r)])) _
      exact kt
    obtain ⟨fs, hr, hrun, hended, hW, hsame⟩ := X0.leave (v := some (.int r)) (fun h => by rw [Bd.returns] at h; cases h)
    refine ⟨_, _, castTop (efD m i a b) ?_, hrun, hended, _, _, rfl, ?_, ⟨_, rfl⟩, hW, hsame.mono (by decide) (by decide)⟩
    · show Steps p.tables e below (s₁.setTop (mkF m 0 #[.val (.int i), .val (.int a), .val (.int b), .unset] [])) _
      refine sg1 _ ?_
      show Steps p.tables e below (s₁.setTop (mkF m 24 #[.val (.int i), .val (.int a), .val (.int b), .val (.int b)] [(.int r)])) _
      exact retN X0 hx (t := .char) Bd.returns (by simp) (hb hby dD_24) (by show ∀ (f : JFrame) (acts : List Action), f.method = m → f.locked = none → f.entered = [] → (doReturn e (s₁.setTop f) acts (some (.int (nar .char r)))).1 = _; rw [own_nar hl]; exact hr)
    · show _
      exact ⟨r, rfl, hl, Fr.nil n0, e0⟩
theorem dC_0 : decode method_4_code 0 = .ok (.iload_n 2, 1) := by decide +kernel
theorem dC_1 : decode method_4_code 1 = .ok (.iload_n 0, 1) := by decide +kernel
theorem dC_2 : decode method_4_code 2 = .ok (.iushr, 1) := by decide +kernel
theorem dC_3 : decode method_4_code 3 = .ok (.iconst 1, 1) := by decide +kernel
theorem dC_4 : decode method_4_code 4 = .ok (.iand, 1) := by decide +kernel
theorem dC_5 : decode method_4_code 5 = .ok (.ifCond .eq 11, 3) := by decide +kernel
theorem dC_8 : decode method_4_code 8 = .ok (.iload_n 0, 1) := by decide +kernel
theorem dC_9 : decode method_4_code 9 = .ok (.iload_n 3, 1) := by decide +kernel
theorem dC_10 : decode method_4_code 10 = .ok (.iload 4, 2) := by decide +kernel
theorem dC_12 : decode method_4_code 12 = .ok (.invokestatic 42, 3) := by decide +kernel
theorem dC_15 : decode method_4_code 15 = .ok (.ireturn, 1) := by decide +kernel
theorem dC_16 : decode method_4_code 16 = .ok (.iload_n 1, 1) := by decide +kernel
theorem dC_17 : decode method_4_code 17 = .ok (.ireturn, 1) := by decide +kernel
theorem efC (m : MethodId) (x0 : Int32) (x1 : Int32) (x2 : Int32) (x3 : Int32) (x4 : Int32) : entryFrame m #[(.int x0), (.int x1), (.int x2), (.int x3), (.int x4)] 5 = mkF m 0 #[.val (.int x0), .val (.int x1), .val (.int x2), .val (.int x3), .val (.int x4)] [] := by first | (simp [entryFrame, mkF, argsToLocals, Value.category, maxLocals]; done) | rfl
theorem pdC : parseMethodDescriptor "(ICIII)C" = some ⟨[.int, .char, .int, .int, .int], some .char⟩ := by decide +kernel
set_option maxRecDepth 65536 in
set_option maxHeartbeats 40000000 in
theorem rmC (l : Launch) (Z : State) (a0 : Array Value) (hw : ∀ d ∈ tables_1, d.before a0 Z = true) (i t sel a b : Int32) (ht : ¬ t < 0 ∧ ¬ (255 : Int32) < t) (h0 : Heap) (n0 : Nat) :
    MetFree l (⟨"com/example/ombudsign/ombudsign/dss/CertTypeFromValuePinLaw", "ch", "(ICIII)C"⟩ : MethodName) (head1 [Jvm.Cond.code (⟨"com/example/ombudsign/ombudsign/dss/CertTypeFromValuePinLaw", "ch", "(ICIII)C"⟩ : MethodName) method_4_code 5 (some .char)] ({ frames := 1, cells := 0, slots := 0, locals := 15 } : Room)) (fun q_ U => q_ = #[(.int i), (.int t), (.int sel), (.int a), (.int b)] ∧ Z.Warmed39 U.vm ∧ U.heap = h0) (fun _ _ _ _ _ => True) (fun _ U o U' => ∃ v L, o = .returned v ∧ own_QC n0 h0 v U'.heap L ∧ FrameEnd U o U' L ({ frames := 1, cells := 0, slots := 0, locals := 15 } : Room).cells ({ frames := 1, cells := 0, slots := 0, locals := 15 } : Room).slots) := by
  refine MetFree.of_bodySF (plainFor_of_name pn_L) hisR ?_
  intro p e s m args below meth c s₁ Bd hml0 hP hK
  obtain ⟨rfl, hZ, hh⟩ := hP
  have hx := Bd.exec
  have hby := Bd.bytes
  have hml : c.maxLocals = 5 := hml0
  have hown : s.vm.findClass "com/example/ombudsign/ombudsign/dss/CertTypeFromValuePinLaw" = some m.cls := findClass_of_methodNamed Bd.named
  have hnm := (name_of_methodNamed Bd.named Bd.method).1
  have X0 : Stand p l e ({ frames := 1, cells := 0, slots := 0, locals := 15 } : Room) s m #[(.int i), (.int t), (.int sel), (.int a), (.int b)] below meth c s₁ [] 0 0 := Stand.of_body Bd
  have e0 : s₁.heap = h0 := by rw [← hh, Bd.state]; rfl
  have sg1 : ∀ target, Steps p.tables e below (s₁.setTop (mkF m 5 #[.val (.int i), .val (.int t), .val (.int sel), .val (.int a), .val (.int b)] [(.int ((((sel).toUInt32 >>> (i &&& 31).toUInt32).toInt32) &&& (1 : Int32)))])) target → Steps p.tables e below (s₁.setTop (mkF m 0 #[.val (.int i), .val (.int t), .val (.int sel), .val (.int a), .val (.int b)] [])) target := by
    intro target kt
    show Steps p.tables e below (s₁.setTop (mkF m 0 #[.val (.int i), .val (.int t), .val (.int sel), .val (.int a), .val (.int b)] [])) _
    refine XS.iloadN X0.here hx rfl (hb hby dC_0) rfl ?_
    show Steps p.tables e below (s₁.setTop (mkF m 1 #[.val (.int i), .val (.int t), .val (.int sel), .val (.int a), .val (.int b)] [(.int sel)])) _
    refine XS.iloadN X0.here hx rfl (hb hby dC_1) rfl ?_
    show Steps p.tables e below (s₁.setTop (mkF m 2 #[.val (.int i), .val (.int t), .val (.int sel), .val (.int a), .val (.int b)] [(.int i), (.int sel)])) _
    refine XS.iushr X0.here hx rfl (hb hby dC_2) rfl ?_
    show Steps p.tables e below (s₁.setTop (mkF m 3 #[.val (.int i), .val (.int t), .val (.int sel), .val (.int a), .val (.int b)] [(.int (((sel).toUInt32 >>> (i &&& 31).toUInt32).toInt32))])) _
    refine XS.iconst X0.here hx rfl (hb hby dC_3) ?_
    show Steps p.tables e below (s₁.setTop (mkF m 4 #[.val (.int i), .val (.int t), .val (.int sel), .val (.int a), .val (.int b)] [(.int (1 : Int32)), (.int (((sel).toUInt32 >>> (i &&& 31).toUInt32).toInt32))])) _
    refine XS.iand X0.here hx rfl (hb hby dC_4) rfl ?_
    show Steps p.tables e below (s₁.setTop (mkF m 5 #[.val (.int i), .val (.int t), .val (.int sel), .val (.int a), .val (.int b)] [(.int ((((sel).toUInt32 >>> (i &&& 31).toUInt32).toInt32) &&& (1 : Int32)))])) _
    exact kt
  by_cases hc : ((((sel).toUInt32 >>> (i &&& 31).toUInt32).toInt32) &&& (1 : Int32)) = 0
  · have sg2 : ∀ target, Steps p.tables e below (s₁.setTop (mkF m 17 #[.val (.int i), .val (.int t), .val (.int sel), .val (.int a), .val (.int b)] [(.int t)])) target → Steps p.tables e below (s₁.setTop (mkF m 5 #[.val (.int i), .val (.int t), .val (.int sel), .val (.int a), .val (.int b)] [(.int ((((sel).toUInt32 >>> (i &&& 31).toUInt32).toInt32) &&& (1 : Int32)))])) target := by
      intro target kt
      show Steps p.tables e below (s₁.setTop (mkF m 5 #[.val (.int i), .val (.int t), .val (.int sel), .val (.int a), .val (.int b)] [(.int ((((sel).toUInt32 >>> (i &&& 31).toUInt32).toInt32) &&& (1 : Int32)))])) _
      refine XS.ifYes X0.here hx rfl (pc0 := 5) (pc' := 16) rfl (hb hby dC_5) rfl (by rw [if0]; exact (teq hc).1) (by decide) (by decide) ?_
      show Steps p.tables e below (s₁.setTop (mkF m 16 #[.val (.int i), .val (.int t), .val (.int sel), .val (.int a), .val (.int b)] [])) _
      refine XS.iloadN X0.here hx rfl (hb hby dC_16) rfl ?_
      show Steps p.tables e below (s₁.setTop (mkF m 17 #[.val (.int i), .val (.int t), .val (.int sel), .val (.int a), .val (.int b)] [(.int t)])) _
      exact kt
    obtain ⟨fs, hr, hrun, hended, hW, hsame⟩ := X0.leave (v := some (.int t)) (fun h => by rw [Bd.returns] at h; cases h)
    refine ⟨_, _, castTop (efC m i t sel a b) ?_, hrun, hended, _, _, rfl, ?_, ⟨_, rfl⟩, hW, hsame.mono (by decide) (by decide)⟩
    · show Steps p.tables e below (s₁.setTop (mkF m 0 #[.val (.int i), .val (.int t), .val (.int sel), .val (.int a), .val (.int b)] [])) _
      refine sg1 _ ?_
      show Steps p.tables e below (s₁.setTop (mkF m 5 #[.val (.int i), .val (.int t), .val (.int sel), .val (.int a), .val (.int b)] [(.int ((((sel).toUInt32 >>> (i &&& 31).toUInt32).toInt32) &&& (1 : Int32)))])) _
      refine sg2 _ ?_
      show Steps p.tables e below (s₁.setTop (mkF m 17 #[.val (.int i), .val (.int t), .val (.int sel), .val (.int a), .val (.int b)] [(.int t)])) _
      exact retN X0 hx (t := .char) Bd.returns (by simp) (hb hby dC_17) (by show ∀ (f : JFrame) (acts : List Action), f.method = m → f.locked = none → f.entered = [] → (doReturn e (s₁.setTop f) acts (some (.int (nar .char t)))).1 = _; rw [own_nar ht]; exact hr)
    · show _
      exact ⟨t, rfl, ht, Fr.nil n0, e0⟩
  · have sg2 : ∀ target, Steps p.tables e below (s₁.setTop (mkF m 12 #[.val (.int i), .val (.int t), .val (.int sel), .val (.int a), .val (.int b)] [(.int b), (.int a), (.int i)])) target → Steps p.tables e below (s₁.setTop (mkF m 5 #[.val (.int i), .val (.int t), .val (.int sel), .val (.int a), .val (.int b)] [(.int ((((sel).toUInt32 >>> (i &&& 31).toUInt32).toInt32) &&& (1 : Int32)))])) target := by
      intro target kt
      show Steps p.tables e below (s₁.setTop (mkF m 5 #[.val (.int i), .val (.int t), .val (.int sel), .val (.int a), .val (.int b)] [(.int ((((sel).toUInt32 >>> (i &&& 31).toUInt32).toInt32) &&& (1 : Int32)))])) _
      refine XS.ifNo X0.here hx rfl (hb hby dC_5) rfl (by rw [if0]; exact (feq hc).1) ?_
      show Steps p.tables e below (s₁.setTop (mkF m 8 #[.val (.int i), .val (.int t), .val (.int sel), .val (.int a), .val (.int b)] [])) _
      refine XS.iloadN X0.here hx rfl (hb hby dC_8) rfl ?_
      show Steps p.tables e below (s₁.setTop (mkF m 9 #[.val (.int i), .val (.int t), .val (.int sel), .val (.int a), .val (.int b)] [(.int i)])) _
      refine XS.iloadN X0.here hx rfl (hb hby dC_9) rfl ?_
      show Steps p.tables e below (s₁.setTop (mkF m 10 #[.val (.int i), .val (.int t), .val (.int sel), .val (.int a), .val (.int b)] [(.int a), (.int i)])) _
      refine XS.iload X0.here hx rfl (hb hby dC_10) rfl ?_
      show Steps p.tables e below (s₁.setTop (mkF m 12 #[.val (.int i), .val (.int t), .val (.int sel), .val (.int a), .val (.int b)] [(.int b), (.int a), (.int i)])) _
      exact kt
    obtain ⟨_, _, ⟨TA, LA, kA, nA⟩, -, XA, ⟨LcA, hQA, lA, yA, zA⟩, stA⟩ := Jvm.LawKit.callS X0 hx (y := (⟨"com/example/ombudsign/ombudsign/dss/CertTypeFromValuePinLaw", "drawn", "(III)C"⟩ : MethodName)) hown (mvT hZ (hw _ (List.mem_of_getElem? (i := 50) rfl))) (mvT hZ (hw _ (List.mem_of_getElem? (i := 51) rfl))) (mvT hZ (hw _ (List.mem_of_getElem? (i := 3) rfl))) (mvT hZ (hw _ (List.mem_of_getElem? (i := 52) rfl))) (by decide) (backOf (W := 0) (rmD l Z a0 hw i a b h0 n0) hZ (hw _ (List.mem_of_getElem? (i := 52) rfl)) (hw _ (List.mem_of_getElem? (i := 3) rfl)) (by decide) (by decide)) (g := (mkF m 12 #[.val (.int i), .val (.int t), .val (.int sel), .val (.int a), .val (.int b)] [(.int b), (.int a), (.int i)])) rfl (by rw [hml]; rfl) (argsL := [(.int i), (.int a), (.int b)]) (rest := []) (lenOf pdD rfl) rfl (by show 2 * 0 + _ ≤ _; exact Nat.le_of_eq rfl) (hb hby dC_12) (fun _ _ => ⟨rfl, e0, Nat.le_of_ble_eq_true rfl, Nat.le_of_ble_eq_true rfl⟩)
    dsimp only [Pt.U, Pt.locs, Pt.cells, Pt.slots] at XA lA yA zA stA hQA
    subst lA yA zA
    obtain ⟨r, rfl, hl, NA, eA⟩ := hQA
    obtain ⟨fs, hr, hrun, hended, hW, hsame⟩ := XA.leave (v := some (.int r)) (fun h => by rw [Bd.returns] at h; cases h)
    refine ⟨_, _, castTop (efC m i t sel a b) ?_, hrun, hended, _, _, rfl, ?_, ⟨_, rfl⟩, hW, hsame.mono (by decide) (by decide)⟩
    · show Steps p.tables e below (s₁.setTop (mkF m 0 #[.val (.int i), .val (.int t), .val (.int sel), .val (.int a), .val (.int b)] [])) _
      refine sg1 _ ?_
      show Steps p.tables e below (s₁.setTop (mkF m 5 #[.val (.int i), .val (.int t), .val (.int sel), .val (.int a), .val (.int b)] [(.int ((((sel).toUInt32 >>> (i &&& 31).toUInt32).toInt32) &&& (1 : Int32)))])) _
      refine sg2 _ ?_
      show Steps p.tables e below (s₁.setTop (mkF m 12 #[.val (.int i), .val (.int t), .val (.int sel), .val (.int a), .val (.int b)] [(.int b), (.int a), (.int i)])) _
      refine stA _ ?_
      show Steps p.tables e below (TA.setTop (mkF m 15 #[.val (.int i), .val (.int t), .val (.int sel), .val (.int a), .val (.int b)] [(.int r)])) _
      exact retN XA hx (t := .char) Bd.returns (by simp) (hb hby dC_15) (by show ∀ (f : JFrame) (acts : List Action), f.method = m → f.locked = none → f.entered = [] → (doReturn e (TA.setTop f) acts (some (.int (nar .char r)))).1 = _; rw [own_nar hl]; exact hr)
    · show _
      exact ⟨r, rfl, hl, NA, eA⟩
theorem dK_0 : decode method_5_code 0 = .ok (.iload_n 0, 1) := by decide +kernel
theorem dK_1 : decode method_5_code 1 = .ok (.ifCond .ne 5, 3) := by decide +kernel
theorem dK_4 : decode method_5_code 4 = .ok (.aconst_null, 1) := by decide +kernel
theorem dK_5 : decode method_5_code 5 = .ok (.areturn, 1) := by decide +kernel
theorem dK_6 : decode method_5_code 6 = .ok (.iload_n 0, 1) := by decide +kernel
theorem dK_7 : decode method_5_code 7 = .ok (.iconst 1, 1) := by decide +kernel
theorem dK_8 : decode method_5_code 8 = .ok (.if_icmp .ne 14, 3) := by decide +kernel
theorem dK_11 : decode method_5_code 11 = .ok (.new 17, 3) := by decide +kernel
theorem dK_14 : decode method_5_code 14 = .ok (.dup, 1) := by decide +kernel
theorem dK_15 : decode method_5_code 15 = .ok (.iconst 0, 1) := by decide +kernel
theorem dK_16 : decode method_5_code 16 = .ok (.newarray .char, 2) := by decide +kernel
theorem dK_18 : decode method_5_code 18 = .ok (.invokespecial 46, 3) := by decide +kernel
theorem dK_21 : decode method_5_code 21 = .ok (.areturn, 1) := by decide +kernel
theorem dK_22 : decode method_5_code 22 = .ok (.iload_n 0, 1) := by decide +kernel
theorem dK_23 : decode method_5_code 23 = .ok (.iconst 2, 1) := by decide +kernel
theorem dK_24 : decode method_5_code 24 = .ok (.if_icmp .ne 31, 3) := by decide +kernel
theorem dK_27 : decode method_5_code 27 = .ok (.iconst 1, 1) := by decide +kernel
theorem dK_28 : decode method_5_code 28 = .ok (.newarray .char, 2) := by decide +kernel
theorem dK_30 : decode method_5_code 30 = .ok (.astore 4, 2) := by decide +kernel
theorem dK_32 : decode method_5_code 32 = .ok (.aload 4, 2) := by decide +kernel
theorem dK_34 : decode method_5_code 34 = .ok (.iconst 0, 1) := by decide +kernel
theorem dK_35 : decode method_5_code 35 = .ok (.iconst 0, 1) := by decide +kernel
theorem dK_36 : decode method_5_code 36 = .ok (.bipush 80, 2) := by decide +kernel
theorem dK_38 : decode method_5_code 38 = .ok (.iload_n 1, 1) := by decide +kernel
theorem dK_39 : decode method_5_code 39 = .ok (.iload_n 2, 1) := by decide +kernel
theorem dK_40 : decode method_5_code 40 = .ok (.iload_n 3, 1) := by decide +kernel
theorem dK_41 : decode method_5_code 41 = .ok (.invokestatic 49, 3) := by decide +kernel
theorem dK_44 : decode method_5_code 44 = .ok (.castore, 1) := by decide +kernel
theorem dK_45 : decode method_5_code 45 = .ok (.new 17, 3) := by decide +kernel
theorem dK_48 : decode method_5_code 48 = .ok (.dup, 1) := by decide +kernel
theorem dK_49 : decode method_5_code 49 = .ok (.aload 4, 2) := by decide +kernel
theorem dK_51 : decode method_5_code 51 = .ok (.invokespecial 46, 3) := by decide +kernel
theorem dK_54 : decode method_5_code 54 = .ok (.areturn, 1) := by decide +kernel
theorem dK_55 : decode method_5_code 55 = .ok (.iload_n 0, 1) := by decide +kernel
theorem dK_56 : decode method_5_code 56 = .ok (.iconst 3, 1) := by decide +kernel
theorem dK_57 : decode method_5_code 57 = .ok (.if_icmp .ne 44, 3) := by decide +kernel
theorem dK_60 : decode method_5_code 60 = .ok (.iconst 2, 1) := by decide +kernel
theorem dK_61 : decode method_5_code 61 = .ok (.newarray .char, 2) := by decide +kernel
theorem dK_63 : decode method_5_code 63 = .ok (.astore 4, 2) := by decide +kernel
theorem dK_65 : decode method_5_code 65 = .ok (.aload 4, 2) := by decide +kernel
theorem dK_67 : decode method_5_code 67 = .ok (.iconst 0, 1) := by decide +kernel
theorem dK_68 : decode method_5_code 68 = .ok (.iconst 0, 1) := by decide +kernel
theorem dK_69 : decode method_5_code 69 = .ok (.bipush 80, 2) := by decide +kernel
theorem dK_71 : decode method_5_code 71 = .ok (.iload_n 1, 1) := by decide +kernel
theorem dK_72 : decode method_5_code 72 = .ok (.iload_n 2, 1) := by decide +kernel
theorem dK_73 : decode method_5_code 73 = .ok (.iload_n 3, 1) := by decide +kernel
theorem dK_74 : decode method_5_code 74 = .ok (.invokestatic 49, 3) := by decide +kernel
theorem dK_77 : decode method_5_code 77 = .ok (.castore, 1) := by decide +kernel
theorem dK_78 : decode method_5_code 78 = .ok (.aload 4, 2) := by decide +kernel
theorem dK_80 : decode method_5_code 80 = .ok (.iconst 1, 1) := by decide +kernel
theorem dK_81 : decode method_5_code 81 = .ok (.iconst 1, 1) := by decide +kernel
theorem dK_82 : decode method_5_code 82 = .ok (.bipush 75, 2) := by decide +kernel
theorem dK_84 : decode method_5_code 84 = .ok (.iload_n 1, 1) := by decide +kernel
theorem dK_85 : decode method_5_code 85 = .ok (.iload_n 2, 1) := by decide +kernel
theorem dK_86 : decode method_5_code 86 = .ok (.iload_n 3, 1) := by decide +kernel
theorem dK_87 : decode method_5_code 87 = .ok (.invokestatic 49, 3) := by decide +kernel
theorem dK_90 : decode method_5_code 90 = .ok (.castore, 1) := by decide +kernel
theorem dK_91 : decode method_5_code 91 = .ok (.new 17, 3) := by decide +kernel
theorem dK_94 : decode method_5_code 94 = .ok (.dup, 1) := by decide +kernel
theorem dK_95 : decode method_5_code 95 = .ok (.aload 4, 2) := by decide +kernel
theorem dK_97 : decode method_5_code 97 = .ok (.invokespecial 46, 3) := by decide +kernel
theorem dK_100 : decode method_5_code 100 = .ok (.areturn, 1) := by decide +kernel
theorem dK_101 : decode method_5_code 101 = .ok (.iload_n 0, 1) := by decide +kernel
theorem dK_102 : decode method_5_code 102 = .ok (.iconst 4, 1) := by decide +kernel
theorem dK_103 : decode method_5_code 103 = .ok (.if_icmp .ne 57, 3) := by decide +kernel
theorem dK_106 : decode method_5_code 106 = .ok (.iconst 3, 1) := by decide +kernel
theorem dK_107 : decode method_5_code 107 = .ok (.newarray .char, 2) := by decide +kernel
theorem dK_109 : decode method_5_code 109 = .ok (.astore 4, 2) := by decide +kernel
theorem dK_111 : decode method_5_code 111 = .ok (.aload 4, 2) := by decide +kernel
theorem dK_113 : decode method_5_code 113 = .ok (.iconst 0, 1) := by decide +kernel
theorem dK_114 : decode method_5_code 114 = .ok (.iconst 0, 1) := by decide +kernel
theorem dK_115 : decode method_5_code 115 = .ok (.bipush 80, 2) := by decide +kernel
theorem dK_117 : decode method_5_code 117 = .ok (.iload_n 1, 1) := by decide +kernel
theorem dK_118 : decode method_5_code 118 = .ok (.iload_n 2, 1) := by decide +kernel
theorem dK_119 : decode method_5_code 119 = .ok (.iload_n 3, 1) := by decide +kernel
theorem dK_120 : decode method_5_code 120 = .ok (.invokestatic 49, 3) := by decide +kernel
theorem dK_123 : decode method_5_code 123 = .ok (.castore, 1) := by decide +kernel
theorem dK_124 : decode method_5_code 124 = .ok (.aload 4, 2) := by decide +kernel
theorem dK_126 : decode method_5_code 126 = .ok (.iconst 1, 1) := by decide +kernel
theorem dK_127 : decode method_5_code 127 = .ok (.iconst 1, 1) := by decide +kernel
theorem dK_128 : decode method_5_code 128 = .ok (.bipush 75, 2) := by decide +kernel
theorem dK_130 : decode method_5_code 130 = .ok (.iload_n 1, 1) := by decide +kernel
theorem dK_131 : decode method_5_code 131 = .ok (.iload_n 2, 1) := by decide +kernel
theorem dK_132 : decode method_5_code 132 = .ok (.iload_n 3, 1) := by decide +kernel
theorem dK_133 : decode method_5_code 133 = .ok (.invokestatic 49, 3) := by decide +kernel
theorem dK_136 : decode method_5_code 136 = .ok (.castore, 1) := by decide +kernel
theorem dK_137 : decode method_5_code 137 = .ok (.aload 4, 2) := by decide +kernel
theorem dK_139 : decode method_5_code 139 = .ok (.iconst 2, 1) := by decide +kernel
theorem dK_140 : decode method_5_code 140 = .ok (.iconst 2, 1) := by decide +kernel
theorem dK_141 : decode method_5_code 141 = .ok (.bipush 67, 2) := by decide +kernel
theorem dK_143 : decode method_5_code 143 = .ok (.iload_n 1, 1) := by decide +kernel
theorem dK_144 : decode method_5_code 144 = .ok (.iload_n 2, 1) := by decide +kernel
theorem dK_145 : decode method_5_code 145 = .ok (.iload_n 3, 1) := by decide +kernel
theorem dK_146 : decode method_5_code 146 = .ok (.invokestatic 49, 3) := by decide +kernel
theorem dK_149 : decode method_5_code 149 = .ok (.castore, 1) := by decide +kernel
theorem dK_150 : decode method_5_code 150 = .ok (.new 17, 3) := by decide +kernel
theorem dK_153 : decode method_5_code 153 = .ok (.dup, 1) := by decide +kernel
theorem dK_154 : decode method_5_code 154 = .ok (.aload 4, 2) := by decide +kernel
theorem dK_156 : decode method_5_code 156 = .ok (.invokespecial 46, 3) := by decide +kernel
theorem dK_159 : decode method_5_code 159 = .ok (.areturn, 1) := by decide +kernel
theorem dK_160 : decode method_5_code 160 = .ok (.iload_n 0, 1) := by decide +kernel
theorem dK_161 : decode method_5_code 161 = .ok (.iconst 5, 1) := by decide +kernel
theorem dK_162 : decode method_5_code 162 = .ok (.if_icmp .ne 67, 3) := by decide +kernel
theorem dK_165 : decode method_5_code 165 = .ok (.iconst 4, 1) := by decide +kernel
theorem dK_166 : decode method_5_code 166 = .ok (.newarray .char, 2) := by decide +kernel
theorem dK_168 : decode method_5_code 168 = .ok (.astore 4, 2) := by decide +kernel
theorem dK_170 : decode method_5_code 170 = .ok (.aload 4, 2) := by decide +kernel
theorem dK_172 : decode method_5_code 172 = .ok (.iconst 0, 1) := by decide +kernel
theorem dK_173 : decode method_5_code 173 = .ok (.iconst 0, 1) := by decide +kernel
theorem dK_174 : decode method_5_code 174 = .ok (.bipush 80, 2) := by decide +kernel
theorem dK_176 : decode method_5_code 176 = .ok (.iload_n 1, 1) := by decide +kernel
theorem dK_177 : decode method_5_code 177 = .ok (.iload_n 2, 1) := by decide +kernel
theorem dK_178 : decode method_5_code 178 = .ok (.iload_n 3, 1) := by decide +kernel
theorem dK_179 : decode method_5_code 179 = .ok (.invokestatic 49, 3) := by decide +kernel
theorem dK_182 : decode method_5_code 182 = .ok (.castore, 1) := by decide +kernel
theorem dK_183 : decode method_5_code 183 = .ok (.aload 4, 2) := by decide +kernel
theorem dK_185 : decode method_5_code 185 = .ok (.iconst 1, 1) := by decide +kernel
theorem dK_186 : decode method_5_code 186 = .ok (.iconst 1, 1) := by decide +kernel
theorem dK_187 : decode method_5_code 187 = .ok (.bipush 75, 2) := by decide +kernel
theorem dK_189 : decode method_5_code 189 = .ok (.iload_n 1, 1) := by decide +kernel
theorem dK_190 : decode method_5_code 190 = .ok (.iload_n 2, 1) := by decide +kernel
theorem dK_191 : decode method_5_code 191 = .ok (.iload_n 3, 1) := by decide +kernel
theorem dK_192 : decode method_5_code 192 = .ok (.invokestatic 49, 3) := by decide +kernel
theorem dK_195 : decode method_5_code 195 = .ok (.castore, 1) := by decide +kernel
theorem dK_196 : decode method_5_code 196 = .ok (.aload 4, 2) := by decide +kernel
theorem dK_198 : decode method_5_code 198 = .ok (.iconst 2, 1) := by decide +kernel
theorem dK_199 : decode method_5_code 199 = .ok (.iconst 2, 1) := by decide +kernel
theorem dK_200 : decode method_5_code 200 = .ok (.bipush 67, 2) := by decide +kernel
theorem dK_202 : decode method_5_code 202 = .ok (.iload_n 1, 1) := by decide +kernel
theorem dK_203 : decode method_5_code 203 = .ok (.iload_n 2, 1) := by decide +kernel
theorem dK_204 : decode method_5_code 204 = .ok (.iload_n 3, 1) := by decide +kernel
theorem dK_205 : decode method_5_code 205 = .ok (.invokestatic 49, 3) := by decide +kernel
theorem dK_208 : decode method_5_code 208 = .ok (.castore, 1) := by decide +kernel
theorem dK_209 : decode method_5_code 209 = .ok (.aload 4, 2) := by decide +kernel
theorem dK_211 : decode method_5_code 211 = .ok (.iconst 3, 1) := by decide +kernel
theorem dK_212 : decode method_5_code 212 = .ok (.iconst 3, 1) := by decide +kernel
theorem dK_213 : decode method_5_code 213 = .ok (.iload_n 2, 1) := by decide +kernel
theorem dK_214 : decode method_5_code 214 = .ok (.iload_n 3, 1) := by decide +kernel
theorem dK_215 : decode method_5_code 215 = .ok (.invokestatic 42, 3) := by decide +kernel
theorem dK_218 : decode method_5_code 218 = .ok (.castore, 1) := by decide +kernel
theorem dK_219 : decode method_5_code 219 = .ok (.new 17, 3) := by decide +kernel
theorem dK_222 : decode method_5_code 222 = .ok (.dup, 1) := by decide +kernel
theorem dK_223 : decode method_5_code 223 = .ok (.aload 4, 2) := by decide +kernel
theorem dK_225 : decode method_5_code 225 = .ok (.invokespecial 46, 3) := by decide +kernel
theorem dK_228 : decode method_5_code 228 = .ok (.areturn, 1) := by decide +kernel
theorem dK_229 : decode method_5_code 229 = .ok (.iload_n 0, 1) := by decide +kernel
theorem dK_230 : decode method_5_code 230 = .ok (.bipush 6, 2) := by decide +kernel
theorem dK_232 : decode method_5_code 232 = .ok (.if_icmp .ne 97, 3) := by decide +kernel
theorem dK_235 : decode method_5_code 235 = .ok (.bipush 6, 2) := by decide +kernel
theorem dK_237 : decode method_5_code 237 = .ok (.newarray .char, 2) := by decide +kernel
theorem dK_239 : decode method_5_code 239 = .ok (.astore 4, 2) := by decide +kernel
theorem dK_241 : decode method_5_code 241 = .ok (.aload 4, 2) := by decide +kernel
theorem dK_243 : decode method_5_code 243 = .ok (.iconst 0, 1) := by decide +kernel
theorem dK_244 : decode method_5_code 244 = .ok (.iconst 0, 1) := by decide +kernel
theorem dK_245 : decode method_5_code 245 = .ok (.bipush 81, 2) := by decide +kernel
theorem dK_247 : decode method_5_code 247 = .ok (.iload_n 1, 1) := by decide +kernel
theorem dK_248 : decode method_5_code 248 = .ok (.iload_n 2, 1) := by decide +kernel
theorem dK_249 : decode method_5_code 249 = .ok (.iload_n 3, 1) := by decide +kernel
theorem dK_250 : decode method_5_code 250 = .ok (.invokestatic 49, 3) := by decide +kernel
theorem dK_253 : decode method_5_code 253 = .ok (.castore, 1) := by decide +kernel
theorem dK_254 : decode method_5_code 254 = .ok (.aload 4, 2) := by decide +kernel
theorem dK_256 : decode method_5_code 256 = .ok (.iconst 1, 1) := by decide +kernel
theorem dK_257 : decode method_5_code 257 = .ok (.iconst 1, 1) := by decide +kernel
theorem dK_258 : decode method_5_code 258 = .ok (.bipush 67, 2) := by decide +kernel
theorem dK_260 : decode method_5_code 260 = .ok (.iload_n 1, 1) := by decide +kernel
theorem dK_261 : decode method_5_code 261 = .ok (.iload_n 2, 1) := by decide +kernel
theorem dK_262 : decode method_5_code 262 = .ok (.iload_n 3, 1) := by decide +kernel
theorem dK_263 : decode method_5_code 263 = .ok (.invokestatic 49, 3) := by decide +kernel
theorem dK_266 : decode method_5_code 266 = .ok (.castore, 1) := by decide +kernel
theorem dK_267 : decode method_5_code 267 = .ok (.aload 4, 2) := by decide +kernel
theorem dK_269 : decode method_5_code 269 = .ok (.iconst 2, 1) := by decide +kernel
theorem dK_270 : decode method_5_code 270 = .ok (.iconst 2, 1) := by decide +kernel
theorem dK_271 : decode method_5_code 271 = .ok (.bipush 47, 2) := by decide +kernel
theorem dK_273 : decode method_5_code 273 = .ok (.iload_n 1, 1) := by decide +kernel
theorem dK_274 : decode method_5_code 274 = .ok (.iload_n 2, 1) := by decide +kernel
theorem dK_275 : decode method_5_code 275 = .ok (.iload_n 3, 1) := by decide +kernel
theorem dK_276 : decode method_5_code 276 = .ok (.invokestatic 49, 3) := by decide +kernel
theorem dK_279 : decode method_5_code 279 = .ok (.castore, 1) := by decide +kernel
theorem dK_280 : decode method_5_code 280 = .ok (.aload 4, 2) := by decide +kernel
theorem dK_282 : decode method_5_code 282 = .ok (.iconst 3, 1) := by decide +kernel
theorem dK_283 : decode method_5_code 283 = .ok (.iconst 3, 1) := by decide +kernel
theorem dK_284 : decode method_5_code 284 = .ok (.bipush 83, 2) := by decide +kernel
theorem dK_286 : decode method_5_code 286 = .ok (.iload_n 1, 1) := by decide +kernel
theorem dK_287 : decode method_5_code 287 = .ok (.iload_n 2, 1) := by decide +kernel
theorem dK_288 : decode method_5_code 288 = .ok (.iload_n 3, 1) := by decide +kernel
theorem dK_289 : decode method_5_code 289 = .ok (.invokestatic 49, 3) := by decide +kernel
theorem dK_292 : decode method_5_code 292 = .ok (.castore, 1) := by decide +kernel
theorem dK_293 : decode method_5_code 293 = .ok (.aload 4, 2) := by decide +kernel
theorem dK_295 : decode method_5_code 295 = .ok (.iconst 4, 1) := by decide +kernel
theorem dK_296 : decode method_5_code 296 = .ok (.iconst 4, 1) := by decide +kernel
theorem dK_297 : decode method_5_code 297 = .ok (.bipush 83, 2) := by decide +kernel
theorem dK_299 : decode method_5_code 299 = .ok (.iload_n 1, 1) := by decide +kernel
theorem dK_300 : decode method_5_code 300 = .ok (.iload_n 2, 1) := by decide +kernel
theorem dK_301 : decode method_5_code 301 = .ok (.iload_n 3, 1) := by decide +kernel
theorem dK_302 : decode method_5_code 302 = .ok (.invokestatic 49, 3) := by decide +kernel
theorem dK_305 : decode method_5_code 305 = .ok (.castore, 1) := by decide +kernel
theorem dK_306 : decode method_5_code 306 = .ok (.aload 4, 2) := by decide +kernel
theorem dK_308 : decode method_5_code 308 = .ok (.iconst 5, 1) := by decide +kernel
theorem dK_309 : decode method_5_code 309 = .ok (.iconst 5, 1) := by decide +kernel
theorem dK_310 : decode method_5_code 310 = .ok (.bipush 67, 2) := by decide +kernel
theorem dK_312 : decode method_5_code 312 = .ok (.iload_n 1, 1) := by decide +kernel
theorem dK_313 : decode method_5_code 313 = .ok (.iload_n 2, 1) := by decide +kernel
theorem dK_314 : decode method_5_code 314 = .ok (.iload_n 3, 1) := by decide +kernel
theorem dK_315 : decode method_5_code 315 = .ok (.invokestatic 49, 3) := by decide +kernel
theorem dK_318 : decode method_5_code 318 = .ok (.castore, 1) := by decide +kernel
theorem dK_319 : decode method_5_code 319 = .ok (.new 17, 3) := by decide +kernel
theorem dK_322 : decode method_5_code 322 = .ok (.dup, 1) := by decide +kernel
theorem dK_323 : decode method_5_code 323 = .ok (.aload 4, 2) := by decide +kernel
theorem dK_325 : decode method_5_code 325 = .ok (.invokespecial 46, 3) := by decide +kernel
theorem dK_328 : decode method_5_code 328 = .ok (.areturn, 1) := by decide +kernel
theorem dK_329 : decode method_5_code 329 = .ok (.iload_n 0, 1) := by decide +kernel
theorem dK_330 : decode method_5_code 330 = .ok (.bipush 7, 2) := by decide +kernel
theorem dK_332 : decode method_5_code 332 = .ok (.if_icmp .ne 112, 3) := by decide +kernel
theorem dK_335 : decode method_5_code 335 = .ok (.bipush 7, 2) := by decide +kernel
theorem dK_337 : decode method_5_code 337 = .ok (.newarray .char, 2) := by decide +kernel
theorem dK_339 : decode method_5_code 339 = .ok (.astore 4, 2) := by decide +kernel
theorem dK_341 : decode method_5_code 341 = .ok (.aload 4, 2) := by decide +kernel
theorem dK_343 : decode method_5_code 343 = .ok (.iconst 0, 1) := by decide +kernel
theorem dK_344 : decode method_5_code 344 = .ok (.iconst 0, 1) := by decide +kernel
theorem dK_345 : decode method_5_code 345 = .ok (.bipush 81, 2) := by decide +kernel
theorem dK_347 : decode method_5_code 347 = .ok (.iload_n 1, 1) := by decide +kernel
theorem dK_348 : decode method_5_code 348 = .ok (.iload_n 2, 1) := by decide +kernel
theorem dK_349 : decode method_5_code 349 = .ok (.iload_n 3, 1) := by decide +kernel
theorem dK_350 : decode method_5_code 350 = .ok (.invokestatic 49, 3) := by decide +kernel
theorem dK_353 : decode method_5_code 353 = .ok (.castore, 1) := by decide +kernel
theorem dK_354 : decode method_5_code 354 = .ok (.aload 4, 2) := by decide +kernel
theorem dK_356 : decode method_5_code 356 = .ok (.iconst 1, 1) := by decide +kernel
theorem dK_357 : decode method_5_code 357 = .ok (.iconst 1, 1) := by decide +kernel
theorem dK_358 : decode method_5_code 358 = .ok (.bipush 67, 2) := by decide +kernel
theorem dK_360 : decode method_5_code 360 = .ok (.iload_n 1, 1) := by decide +kernel
theorem dK_361 : decode method_5_code 361 = .ok (.iload_n 2, 1) := by decide +kernel
theorem dK_362 : decode method_5_code 362 = .ok (.iload_n 3, 1) := by decide +kernel
theorem dK_363 : decode method_5_code 363 = .ok (.invokestatic 49, 3) := by decide +kernel
theorem dK_366 : decode method_5_code 366 = .ok (.castore, 1) := by decide +kernel
theorem dK_367 : decode method_5_code 367 = .ok (.aload 4, 2) := by decide +kernel
theorem dK_369 : decode method_5_code 369 = .ok (.iconst 2, 1) := by decide +kernel
theorem dK_370 : decode method_5_code 370 = .ok (.iconst 2, 1) := by decide +kernel
theorem dK_371 : decode method_5_code 371 = .ok (.bipush 47, 2) := by decide +kernel
theorem dK_373 : decode method_5_code 373 = .ok (.iload_n 1, 1) := by decide +kernel
theorem dK_374 : decode method_5_code 374 = .ok (.iload_n 2, 1) := by decide +kernel
theorem dK_375 : decode method_5_code 375 = .ok (.iload_n 3, 1) := by decide +kernel
theorem dK_376 : decode method_5_code 376 = .ok (.invokestatic 49, 3) := by decide +kernel
theorem dK_379 : decode method_5_code 379 = .ok (.castore, 1) := by decide +kernel
theorem dK_380 : decode method_5_code 380 = .ok (.aload 4, 2) := by decide +kernel
theorem dK_382 : decode method_5_code 382 = .ok (.iconst 3, 1) := by decide +kernel
theorem dK_383 : decode method_5_code 383 = .ok (.iconst 3, 1) := by decide +kernel
theorem dK_384 : decode method_5_code 384 = .ok (.bipush 83, 2) := by decide +kernel
theorem dK_386 : decode method_5_code 386 = .ok (.iload_n 1, 1) := by decide +kernel
theorem dK_387 : decode method_5_code 387 = .ok (.iload_n 2, 1) := by decide +kernel
theorem dK_388 : decode method_5_code 388 = .ok (.iload_n 3, 1) := by decide +kernel
theorem dK_389 : decode method_5_code 389 = .ok (.invokestatic 49, 3) := by decide +kernel
theorem dK_392 : decode method_5_code 392 = .ok (.castore, 1) := by decide +kernel
theorem dK_393 : decode method_5_code 393 = .ok (.aload 4, 2) := by decide +kernel
theorem dK_395 : decode method_5_code 395 = .ok (.iconst 4, 1) := by decide +kernel
theorem dK_396 : decode method_5_code 396 = .ok (.iconst 4, 1) := by decide +kernel
theorem dK_397 : decode method_5_code 397 = .ok (.bipush 83, 2) := by decide +kernel
theorem dK_399 : decode method_5_code 399 = .ok (.iload_n 1, 1) := by decide +kernel
theorem dK_400 : decode method_5_code 400 = .ok (.iload_n 2, 1) := by decide +kernel
theorem dK_401 : decode method_5_code 401 = .ok (.iload_n 3, 1) := by decide +kernel
theorem dK_402 : decode method_5_code 402 = .ok (.invokestatic 49, 3) := by decide +kernel
theorem dK_405 : decode method_5_code 405 = .ok (.castore, 1) := by decide +kernel
theorem dK_406 : decode method_5_code 406 = .ok (.aload 4, 2) := by decide +kernel
theorem dK_408 : decode method_5_code 408 = .ok (.iconst 5, 1) := by decide +kernel
theorem dK_409 : decode method_5_code 409 = .ok (.iconst 5, 1) := by decide +kernel
theorem dK_410 : decode method_5_code 410 = .ok (.bipush 67, 2) := by decide +kernel
theorem dK_412 : decode method_5_code 412 = .ok (.iload_n 1, 1) := by decide +kernel
theorem dK_413 : decode method_5_code 413 = .ok (.iload_n 2, 1) := by decide +kernel
theorem dK_414 : decode method_5_code 414 = .ok (.iload_n 3, 1) := by decide +kernel
theorem dK_415 : decode method_5_code 415 = .ok (.invokestatic 49, 3) := by decide +kernel
theorem dK_418 : decode method_5_code 418 = .ok (.castore, 1) := by decide +kernel
theorem dK_419 : decode method_5_code 419 = .ok (.aload 4, 2) := by decide +kernel
theorem dK_421 : decode method_5_code 421 = .ok (.bipush 6, 2) := by decide +kernel
theorem dK_423 : decode method_5_code 423 = .ok (.bipush 6, 2) := by decide +kernel
theorem dK_425 : decode method_5_code 425 = .ok (.bipush 68, 2) := by decide +kernel
theorem dK_427 : decode method_5_code 427 = .ok (.iload_n 1, 1) := by decide +kernel
theorem dK_428 : decode method_5_code 428 = .ok (.iload_n 2, 1) := by decide +kernel
theorem dK_429 : decode method_5_code 429 = .ok (.iload_n 3, 1) := by decide +kernel
theorem dK_430 : decode method_5_code 430 = .ok (.invokestatic 49, 3) := by decide +kernel
theorem dK_433 : decode method_5_code 433 = .ok (.castore, 1) := by decide +kernel
theorem dK_434 : decode method_5_code 434 = .ok (.new 17, 3) := by decide +kernel
theorem dK_437 : decode method_5_code 437 = .ok (.dup, 1) := by decide +kernel
theorem dK_438 : decode method_5_code 438 = .ok (.aload 4, 2) := by decide +kernel
theorem dK_440 : decode method_5_code 440 = .ok (.invokespecial 46, 3) := by decide +kernel
theorem dK_443 : decode method_5_code 443 = .ok (.areturn, 1) := by decide +kernel
theorem dK_444 : decode method_5_code 444 = .ok (.bipush 8, 2) := by decide +kernel
theorem dK_446 : decode method_5_code 446 = .ok (.newarray .char, 2) := by decide +kernel
theorem dK_448 : decode method_5_code 448 = .ok (.astore 4, 2) := by decide +kernel
theorem dK_450 : decode method_5_code 450 = .ok (.aload 4, 2) := by decide +kernel
theorem dK_452 : decode method_5_code 452 = .ok (.iconst 0, 1) := by decide +kernel
theorem dK_453 : decode method_5_code 453 = .ok (.iconst 0, 1) := by decide +kernel
theorem dK_454 : decode method_5_code 454 = .ok (.bipush 81, 2) := by decide +kernel
theorem dK_456 : decode method_5_code 456 = .ok (.iload_n 1, 1) := by decide +kernel
theorem dK_457 : decode method_5_code 457 = .ok (.iload_n 2, 1) := by decide +kernel
theorem dK_458 : decode method_5_code 458 = .ok (.iload_n 3, 1) := by decide +kernel
theorem dK_459 : decode method_5_code 459 = .ok (.invokestatic 49, 3) := by decide +kernel
theorem dK_462 : decode method_5_code 462 = .ok (.castore, 1) := by decide +kernel
theorem dK_463 : decode method_5_code 463 = .ok (.aload 4, 2) := by decide +kernel
theorem dK_465 : decode method_5_code 465 = .ok (.iconst 1, 1) := by decide +kernel
theorem dK_466 : decode method_5_code 466 = .ok (.iconst 1, 1) := by decide +kernel
theorem dK_467 : decode method_5_code 467 = .ok (.bipush 67, 2) := by decide +kernel
theorem dK_469 : decode method_5_code 469 = .ok (.iload_n 1, 1) := by decide +kernel
theorem dK_470 : decode method_5_code 470 = .ok (.iload_n 2, 1) := by decide +kernel
theorem dK_471 : decode method_5_code 471 = .ok (.iload_n 3, 1) := by decide +kernel
theorem dK_472 : decode method_5_code 472 = .ok (.invokestatic 49, 3) := by decide +kernel
theorem dK_475 : decode method_5_code 475 = .ok (.castore, 1) := by decide +kernel
theorem dK_476 : decode method_5_code 476 = .ok (.aload 4, 2) := by decide +kernel
theorem dK_478 : decode method_5_code 478 = .ok (.iconst 2, 1) := by decide +kernel
theorem dK_479 : decode method_5_code 479 = .ok (.iconst 2, 1) := by decide +kernel
theorem dK_480 : decode method_5_code 480 = .ok (.bipush 47, 2) := by decide +kernel
theorem dK_482 : decode method_5_code 482 = .ok (.iload_n 1, 1) := by decide +kernel
theorem dK_483 : decode method_5_code 483 = .ok (.iload_n 2, 1) := by decide +kernel
theorem dK_484 : decode method_5_code 484 = .ok (.iload_n 3, 1) := by decide +kernel
theorem dK_485 : decode method_5_code 485 = .ok (.invokestatic 49, 3) := by decide +kernel
theorem dK_488 : decode method_5_code 488 = .ok (.castore, 1) := by decide +kernel
theorem dK_489 : decode method_5_code 489 = .ok (.aload 4, 2) := by decide +kernel
theorem dK_491 : decode method_5_code 491 = .ok (.iconst 3, 1) := by decide +kernel
theorem dK_492 : decode method_5_code 492 = .ok (.iconst 3, 1) := by decide +kernel
theorem dK_493 : decode method_5_code 493 = .ok (.bipush 83, 2) := by decide +kernel
theorem dK_495 : decode method_5_code 495 = .ok (.iload_n 1, 1) := by decide +kernel
theorem dK_496 : decode method_5_code 496 = .ok (.iload_n 2, 1) := by decide +kernel
theorem dK_497 : decode method_5_code 497 = .ok (.iload_n 3, 1) := by decide +kernel
theorem dK_498 : decode method_5_code 498 = .ok (.invokestatic 49, 3) := by decide +kernel
theorem dK_501 : decode method_5_code 501 = .ok (.castore, 1) := by decide +kernel
theorem dK_502 : decode method_5_code 502 = .ok (.aload 4, 2) := by decide +kernel
theorem dK_504 : decode method_5_code 504 = .ok (.iconst 4, 1) := by decide +kernel
theorem dK_505 : decode method_5_code 505 = .ok (.iconst 4, 1) := by decide +kernel
theorem dK_506 : decode method_5_code 506 = .ok (.bipush 83, 2) := by decide +kernel
theorem dK_508 : decode method_5_code 508 = .ok (.iload_n 1, 1) := by decide +kernel
theorem dK_509 : decode method_5_code 509 = .ok (.iload_n 2, 1) := by decide +kernel
theorem dK_510 : decode method_5_code 510 = .ok (.iload_n 3, 1) := by decide +kernel
theorem dK_511 : decode method_5_code 511 = .ok (.invokestatic 49, 3) := by decide +kernel
theorem dK_514 : decode method_5_code 514 = .ok (.castore, 1) := by decide +kernel
theorem dK_515 : decode method_5_code 515 = .ok (.aload 4, 2) := by decide +kernel
theorem dK_517 : decode method_5_code 517 = .ok (.iconst 5, 1) := by decide +kernel
theorem dK_518 : decode method_5_code 518 = .ok (.iconst 5, 1) := by decide +kernel
theorem dK_519 : decode method_5_code 519 = .ok (.bipush 67, 2) := by decide +kernel
theorem dK_521 : decode method_5_code 521 = .ok (.iload_n 1, 1) := by decide +kernel
theorem dK_522 : decode method_5_code 522 = .ok (.iload_n 2, 1) := by decide +kernel
theorem dK_523 : decode method_5_code 523 = .ok (.iload_n 3, 1) := by decide +kernel
theorem dK_524 : decode method_5_code 524 = .ok (.invokestatic 49, 3) := by decide +kernel
theorem dK_527 : decode method_5_code 527 = .ok (.castore, 1) := by decide +kernel
theorem dK_528 : decode method_5_code 528 = .ok (.aload 4, 2) := by decide +kernel
theorem dK_530 : decode method_5_code 530 = .ok (.bipush 6, 2) := by decide +kernel
theorem dK_532 : decode method_5_code 532 = .ok (.bipush 6, 2) := by decide +kernel
theorem dK_534 : decode method_5_code 534 = .ok (.bipush 68, 2) := by decide +kernel
theorem dK_536 : decode method_5_code 536 = .ok (.iload_n 1, 1) := by decide +kernel
theorem dK_537 : decode method_5_code 537 = .ok (.iload_n 2, 1) := by decide +kernel
theorem dK_538 : decode method_5_code 538 = .ok (.iload_n 3, 1) := by decide +kernel
theorem dK_539 : decode method_5_code 539 = .ok (.invokestatic 49, 3) := by decide +kernel
theorem dK_542 : decode method_5_code 542 = .ok (.castore, 1) := by decide +kernel
theorem dK_543 : decode method_5_code 543 = .ok (.aload 4, 2) := by decide +kernel
theorem dK_545 : decode method_5_code 545 = .ok (.bipush 7, 2) := by decide +kernel
theorem dK_547 : decode method_5_code 547 = .ok (.bipush 7, 2) := by decide +kernel
theorem dK_549 : decode method_5_code 549 = .ok (.iload_n 2, 1) := by decide +kernel
theorem dK_550 : decode method_5_code 550 = .ok (.iload_n 3, 1) := by decide +kernel
theorem dK_551 : decode method_5_code 551 = .ok (.invokestatic 42, 3) := by decide +kernel
theorem dK_554 : decode method_5_code 554 = .ok (.castore, 1) := by decide +kernel
theorem dK_555 : decode method_5_code 555 = .ok (.new 17, 3) := by decide +kernel
theorem dK_558 : decode method_5_code 558 = .ok (.dup, 1) := by decide +kernel
theorem dK_559 : decode method_5_code 559 = .ok (.aload 4, 2) := by decide +kernel
theorem dK_561 : decode method_5_code 561 = .ok (.invokespecial 46, 3) := by decide +kernel
theorem dK_564 : decode method_5_code 564 = .ok (.areturn, 1) := by decide +kernel
theorem efK (m : MethodId) (x0 : Int32) (x1 : Int32) (x2 : Int32) (x3 : Int32) : entryFrame m #[(.int x0), (.int x1), (.int x2), (.int x3)] 5 = mkF m 0 #[.val (.int x0), .val (.int x1), .val (.int x2), .val (.int x3), .unset] [] := by first | (simp [entryFrame, mkF, argsToLocals, Value.category, maxLocals]; done) | rfl
theorem pdK : parseMethodDescriptor "(IIII)Ljava/lang/String;" = some ⟨[.int, .int, .int, .int], some (.object "java/lang/String")⟩ := by decide +kernel
def own_QK (Z : State) (h0 : Heap) (n0 : Nat) (v : Option Value) (h : Heap) (L : List Loc) : Prop := Fr n0 L ∧ Ext h0 h ∧ (v = some .null ∨ ∃ a cs, v = some (.ref a) ∧ own_lat cs ∧ cs.length ≤ 4000 ∧ own_Str Z h a cs)
set_option maxRecDepth 65536 in
set_option maxHeartbeats 40000000 in
theorem rmK0 (l : Launch) (Z : State) (a0 : Array Value) (hw : ∀ d ∈ tables_1, d.before a0 Z = true) (EL : List (String × Nat)) (hEL : EW Z a0 EL) (hmem : ("java/lang/String", 7) ∈ EL) (sel c0 c1 : Int32) (G : Int32) (h0 : Heap) (n0 : Nat) (Z0 : n0 ≤ h0.size) (O : Sta Z h0 "java/lang/String" "COMPACT_STRINGS" "Z" (.int G)) (hG : ¬ G = 0) :
    MetFree l (⟨"com/example/ombudsign/ombudsign/dss/CertTypeFromValuePinLaw", "make", "(IIII)Ljava/lang/String;"⟩ : MethodName) (head1 [Jvm.Cond.code (⟨"com/example/ombudsign/ombudsign/dss/CertTypeFromValuePinLaw", "make", "(IIII)Ljava/lang/String;"⟩ : MethodName) method_5_code 5 (some (.object "java/lang/String"))] ({ frames := 4, cells := 4, slots := 20, locals := 66 } : Room)) (fun q_ U => q_ = #[(.int (0 : Int32)), (.int sel), (.int c0), (.int c1)] ∧ Z.Warmed39 U.vm ∧ U.heap = h0 ∧ CHv Z EL U.vm h0) (fun _ _ _ _ _ => True) (fun _ U o U' => ∃ v L, o = .returned v ∧ own_QK Z h0 n0 v U'.heap L ∧ CHr Z EL U.vm U.heap U'.vm U'.heap ∧ ReturnedEndW U o U' L ({ frames := 4, cells := 4, slots := 20, locals := 66 } : Room).cells ({ frames := 4, cells := 4, slots := 20, locals := 66 } : Room).slots) := by
  refine MetFree.of_bodySF (plainFor_of_name pn_L) hisR ?_
  intro p e s m args below meth c s₁ Bd hml0 hP hK
  obtain ⟨rfl, hZ, hh, H0⟩ := hP
  have hx := Bd.exec
  have hby := Bd.bytes
  have hml : c.maxLocals = 5 := hml0
  have hown : s.vm.findClass "com/example/ombudsign/ombudsign/dss/CertTypeFromValuePinLaw" = some m.cls := findClass_of_methodNamed Bd.named
  have hnm := (name_of_methodNamed Bd.named Bd.method).1
  have X0 : Stand p l e ({ frames := 4, cells := 4, slots := 20, locals := 66 } : Room) (s.setVm s.vm) m #[(.int (0 : Int32)), (.int sel), (.int c0), (.int c1)] below meth c s₁ [] 0 0 := Stand.of_body Bd
  have e0 : s₁.heap = h0 := by rw [← hh, Bd.state]; rfl
  have hS0 : s.Since s.vm s.heap.size := (State.WarmedH.refl s).since _
  have hws : ∀ d ∈ StrChars.Road.words, d.before a0 Z = true := fun d hd => hw d (own_hws d hd)
  have sg1 : ∀ target, Steps p.tables e below (s₁.setTop (mkF m 5 #[.val (.int (0 : Int32)), .val (.int sel), .val (.int c0), .val (.int c1), .unset] [.null])) target → Steps p.tables e below (s₁.setTop (mkF m 0 #[.val (.int (0 : Int32)), .val (.int sel), .val (.int c0), .val (.int c1), .unset] [])) target := by
    intro target kt
    show Steps p.tables e below (s₁.setTop (mkF m 0 #[.val (.int (0 : Int32)), .val (.int sel), .val (.int c0), .val (.int c1), .unset] [])) _
    refine XS.iloadN X0.here hx rfl (hb hby dK_0) rfl ?_
    show Steps p.tables e below (s₁.setTop (mkF m 1 #[.val (.int (0 : Int32)), .val (.int sel), .val (.int c0), .val (.int c1), .unset] [(.int (0 : Int32))])) _
    refine XS.ifNo X0.here hx rfl (hb hby dK_1) rfl (by decide) ?_
    show Steps p.tables e below (s₁.setTop (mkF m 4 #[.val (.int (0 : Int32)), .val (.int sel), .val (.int c0), .val (.int c1), .unset] [])) _
    refine XS.aconstNull X0.here hx rfl (hb hby dK_4) ?_
    show Steps p.tables e below (s₁.setTop (mkF m 5 #[.val (.int (0 : Int32)), .val (.int sel), .val (.int c0), .val (.int c1), .unset] [.null])) _
    exact kt
  obtain ⟨fs, hr, hrun, hended, hW⟩ := X0.leaveW (n := s.heap.size) hS0 (Nat.le_of_eq (by rw [e0, hh])) (v := some .null) (fun h => by rw [Bd.returns] at h; cases h)
  refine ⟨_, _, castTop (efK m 0 sel c0 c1) ?_, hrun, hended, _, _, rfl, ⟨Fr.nil n0, ?_, Or.inl rfl⟩, ?_, own_w hW (by decide) (by decide)⟩
  · show Steps p.tables e below (s₁.setTop (mkF m 0 #[.val (.int (0 : Int32)), .val (.int sel), .val (.int c0), .val (.int c1), .unset] [])) _
    refine sg1 _ ?_
    show Steps p.tables e below (s₁.setTop (mkF m 5 #[.val (.int (0 : Int32)), .val (.int sel), .val (.int c0), .val (.int c1), .unset] [.null])) _
    exact retOut X0 hx (t := .object "java/lang/String") Bd.returns rfl (Or.inr (Or.inr (Or.inr (Or.inr ⟨rfl, rfl, rfl⟩)))) (hb hby dK_5) hr
  · show Ext h0 s₁.heap
    rw [e0]; exact own_ext_refl _
  · show CHr Z EL s.vm s.heap s₁.vm s₁.heap
    rw [hh, e0]; exact CHv.at X0 hZ hEL H0
set_option maxRecDepth 65536 in
set_option maxHeartbeats 40000000 in
theorem rmK1 (l : Launch) (Z : State) (a0 : Array Value) (hw : ∀ d ∈ tables_1, d.before a0 Z = true) (EL : List (String × Nat)) (hEL : EW Z a0 EL) (hmem : ("java/lang/String", 7) ∈ EL) (sel c0 c1 : Int32) (G : Int32) (h0 : Heap) (n0 : Nat) (Z0 : n0 ≤ h0.size) (O : Sta Z h0 "java/lang/String" "COMPACT_STRINGS" "Z" (.int G)) (hG : ¬ G = 0) :
    MetFree l (⟨"com/example/ombudsign/ombudsign/dss/CertTypeFromValuePinLaw", "make", "(IIII)Ljava/lang/String;"⟩ : MethodName) (head1 [Jvm.Cond.code (⟨"com/example/ombudsign/ombudsign/dss/CertTypeFromValuePinLaw", "make", "(IIII)Ljava/lang/String;"⟩ : MethodName) method_5_code 5 (some (.object "java/lang/String"))] ({ frames := 4, cells := 4, slots := 20, locals := 66 } : Room)) (fun q_ U => q_ = #[(.int (1 : Int32)), (.int sel), (.int c0), (.int c1)] ∧ Z.Warmed39 U.vm ∧ U.heap = h0 ∧ CHv Z EL U.vm h0) (fun _ _ _ _ _ => True) (fun _ U o U' => ∃ v L, o = .returned v ∧ own_QK Z h0 n0 v U'.heap L ∧ CHr Z EL U.vm U.heap U'.vm U'.heap ∧ ReturnedEndW U o U' L ({ frames := 4, cells := 4, slots := 20, locals := 66 } : Room).cells ({ frames := 4, cells := 4, slots := 20, locals := 66 } : Room).slots) := by
  refine MetFree.of_bodySF (plainFor_of_name pn_L) hisR ?_
  intro p e s m args below meth c s₁ Bd hml0 hP hK
  obtain ⟨rfl, hZ, hh, H0⟩ := hP
  have hx := Bd.exec
  have hby := Bd.bytes
  have hml : c.maxLocals = 5 := hml0
  have hown : s.vm.findClass "com/example/ombudsign/ombudsign/dss/CertTypeFromValuePinLaw" = some m.cls := findClass_of_methodNamed Bd.named
  have hnm := (name_of_methodNamed Bd.named Bd.method).1
  have X0 : Stand p l e ({ frames := 4, cells := 4, slots := 20, locals := 66 } : Room) (s.setVm s.vm) m #[(.int (1 : Int32)), (.int sel), (.int c0), (.int c1)] below meth c s₁ [] 0 0 := Stand.of_body Bd
  have e0 : s₁.heap = h0 := by rw [← hh, Bd.state]; rfl
  have hS0 : s.Since s.vm s.heap.size := (State.WarmedH.refl s).since _
  have hws : ∀ d ∈ StrChars.Road.words, d.before a0 Z = true := fun d hd => hw d (own_hws d hd)
  have sg1 : ∀ target, Steps p.tables e below (s₁.setTop (mkF m 11 #[.val (.int (1 : Int32)), .val (.int sel), .val (.int c0), .val (.int c1), .unset] [])) target → Steps p.tables e below (s₁.setTop (mkF m 0 #[.val (.int (1 : Int32)), .val (.int sel), .val (.int c0), .val (.int c1), .unset] [])) target := by
    intro target kt
    show Steps p.tables e below (s₁.setTop (mkF m 0 #[.val (.int (1 : Int32)), .val (.int sel), .val (.int c0), .val (.int c1), .unset] [])) _
    refine XS.iloadN X0.here hx rfl (hb hby dK_0) rfl ?_
    show Steps p.tables e below (s₁.setTop (mkF m 1 #[.val (.int (1 : Int32)), .val (.int sel), .val (.int c0), .val (.int c1), .unset] [(.int (1 : Int32))])) _
    refine XS.ifYes X0.here hx rfl (pc0 := 1) (pc' := 6) rfl (hb hby dK_1) rfl (by decide) (by decide) (by decide) ?_
    show Steps p.tables e below (s₁.setTop (mkF m 6 #[.val (.int (1 : Int32)), .val (.int sel), .val (.int c0), .val (.int c1), .unset] [])) _
    refine XS.iloadN X0.here hx rfl (hb hby dK_6) rfl ?_
    show Steps p.tables e below (s₁.setTop (mkF m 7 #[.val (.int (1 : Int32)), .val (.int sel), .val (.int c0), .val (.int c1), .unset] [(.int (1 : Int32))])) _
    refine XS.iconst X0.here hx rfl (hb hby dK_7) ?_
    show Steps p.tables e below (s₁.setTop (mkF m 8 #[.val (.int (1 : Int32)), .val (.int sel), .val (.int c0), .val (.int c1), .unset] [(.int (1 : Int32)), (.int (1 : Int32))])) _
    refine XS.icmpNo X0.here hx rfl (hb hby dK_8) rfl (by decide) ?_
    show Steps p.tables e below (s₁.setTop (mkF m 11 #[.val (.int (1 : Int32)), .val (.int sel), .val (.int c0), .val (.int c1), .unset] [])) _
    exact kt
  obtain ⟨T2, h2, X2, e2, E2, A2, D2, -, st2⟩ := newO X0 hx hZ hown (hw _ (List.mem_of_getElem? (i := 53) rfl)) (hw _ (List.mem_of_getElem? (i := 54) rfl)) (hw _ (List.mem_of_getElem? (i := 32) rfl)) e0 (g := (mkF m 11 #[.val (.int (1 : Int32)), .val (.int sel), .val (.int c0), .val (.int c1), .unset] [])) rfl (hb hby dK_11) (by decide) (by decide)
  obtain ⟨a2, g2⟩ : ∃ z, z = h0.size := ⟨_, rfl⟩
  rw [← g2] at A2 D2 st2
  have sg3 : ∀ target, Steps p.tables e below (T2.setTop (mkF m 16 #[.val (.int (1 : Int32)), .val (.int sel), .val (.int c0), .val (.int c1), .unset] [(.int (0 : Int32)), (.ref a2), (.ref a2)])) target → Steps p.tables e below (T2.setTop (mkF m 14 #[.val (.int (1 : Int32)), .val (.int sel), .val (.int c0), .val (.int c1), .unset] [(.ref a2)])) target := by
    intro target kt
    show Steps p.tables e below (T2.setTop (mkF m 14 #[.val (.int (1 : Int32)), .val (.int sel), .val (.int c0), .val (.int c1), .unset] [(.ref a2)])) _
    refine XS.dup X2.here hx rfl (hb hby dK_14) rfl rfl ?_
    show Steps p.tables e below (T2.setTop (mkF m 15 #[.val (.int (1 : Int32)), .val (.int sel), .val (.int c0), .val (.int c1), .unset] [(.ref a2), (.ref a2)])) _
    refine XS.iconst X2.here hx rfl (hb hby dK_15) ?_
    show Steps p.tables e below (T2.setTop (mkF m 16 #[.val (.int (1 : Int32)), .val (.int sel), .val (.int c0), .val (.int c1), .unset] [(.int (0 : Int32)), (.ref a2), (.ref a2)])) _
    exact kt
  obtain ⟨T4, h4, k4, X4, e4, E4, A4, st4⟩ := newP X2 hx hZ (hw _ (List.mem_of_getElem? (i := 46) rfl)) e2 (g := (mkF m 16 #[.val (.int (1 : Int32)), .val (.int sel), .val (.int c0), .val (.int c1), .unset] [(.int (0 : Int32)), (.ref a2), (.ref a2)])) rfl (hb hby dK_16) rfl (by decide) (cap := 0) (by decide) (by decide) (by decide) (by decide)
  obtain ⟨a4, g4⟩ : ∃ z, z = h2.size := ⟨_, rfl⟩
  rw [← g4] at A4 st4
  have En : Ext h0 h4 := own_ext_trans E2 E4
  have gx : n0 ≤ a2 := by rw [g2]; exact Z0
  have gx0 : h0.size ≤ a2 := by rw [g2]; exact Nat.le_refl _
  have V4 : Arv Z h4 a4 k4 .char (0 : Int32) [] (.int (0 : Int32)) := Arv.new A4 (by decide)
  have Fv : Fld Z h4 a2 "java/lang/String" "value" "[B" .null := (D2 (Or.inr (hw _ (List.mem_of_getElem? (i := 80) rfl))) (ty := (.array .byte)) (by decide)).ext E4
  have Fc : Fld Z h4 a2 "java/lang/String" "coder" "B" (.int (0 : Int32)) := (D2 (Or.inr (hw _ (List.mem_of_getElem? (i := 78) rfl))) (ty := .byte) (by decide)).ext E4
  have Ex : Exa Z h4 a2 "java/lang/String" := (A2.ext E4)
  obtain ⟨_, _, ⟨TJ9, LJ9, kJ9, nJ9⟩, -, XJ9, hSJ9, grJ9, ⟨LcJ9, hQJ9, lJ9, yJ9, zJ9, RJ9⟩, stJ9⟩ := X4.specialBackS hx (y := (⟨"java/lang/String", "<init>", "([C)V"⟩ : MethodName)) rfl hown (mvT hZ (hw _ (List.mem_of_getElem? (i := 55) rfl))) (mvT hZ (hw _ (List.mem_of_getElem? (i := 56) rfl))) (mvT hZ (hw _ (List.mem_of_getElem? (i := 57) rfl))) (by decide) (backOfSH (vm0 := s.vm) (W := 1) (own_E1 l Z a0 hw EL hEL hmem a2 a4 h4 n0 gx Ex Fv Fc k4 V4) hZ (hw _ (List.mem_of_getElem? (i := 57) rfl)) (hw _ (List.mem_of_getElem? (i := 32) rfl)) (by decide) (by decide) hEL (H0.ext En)) (g := (mkF m 18 #[.val (.int (1 : Int32)), .val (.int sel), .val (.int c0), .val (.int c1), .unset] [(.ref a4), (.ref a2), (.ref a2)])) rfl (by rw [hml]; rfl) (Steps.refl _) (a := a2) (argsL := [(.ref a4)]) (rest := [(.ref a2)]) (lenOf pdE1 rfl) rfl (by show 2 * 0 + _ ≤ _; exact Nat.le_of_eq rfl) (hb hby dK_18) (fun _ _ => ⟨rfl, e4, Nat.le_of_ble_eq_true rfl, Nat.le_of_ble_eq_true rfl⟩)
  dsimp only [Pt.U, Pt.locs, Pt.cells, Pt.slots] at XJ9 hSJ9 grJ9 lJ9 yJ9 zJ9 RJ9 stJ9 hQJ9
  subst lJ9 yJ9 zJ9
  obtain ⟨rfl, NJ9, KJ9, SJ9⟩ := hQJ9
  have EJ9 : Ext h0 TJ9.heap := own_ext_keep En KJ9 (allS gx0 all0)
  obtain ⟨fs, hr, hrun, hended, hW⟩ := XJ9.leaveW hSJ9 (Nat.le_refl _) (v := some (.ref a2)) (fun h => by rw [Bd.returns] at h; cases h)
  have RR : CHr Z EL s.vm h0 TJ9.vm TJ9.heap := (CHr.ext En H0).trans RJ9
  refine ⟨_, _, castTop (efK m 1 sel c0 c1) ?_, hrun, hended, _, _, rfl, ⟨Fr.app (Fr.nil n0) NJ9, EJ9, Or.inr ⟨a2, [], rfl, own_l0, Nat.le_of_ble_eq_true rfl, SJ9⟩⟩, ?_, own_w hW (by decide) (by decide)⟩
  · show Steps p.tables e below (s₁.setTop (mkF m 0 #[.val (.int (1 : Int32)), .val (.int sel), .val (.int c0), .val (.int c1), .unset] [])) _
    refine sg1 _ ?_
    show Steps p.tables e below (s₁.setTop (mkF m 11 #[.val (.int (1 : Int32)), .val (.int sel), .val (.int c0), .val (.int c1), .unset] [])) _
    refine st2 _ ?_
    show Steps p.tables e below (T2.setTop (mkF m 14 #[.val (.int (1 : Int32)), .val (.int sel), .val (.int c0), .val (.int c1), .unset] [(.ref a2)])) _
    refine sg3 _ ?_
    show Steps p.tables e below (T2.setTop (mkF m 16 #[.val (.int (1 : Int32)), .val (.int sel), .val (.int c0), .val (.int c1), .unset] [(.int (0 : Int32)), (.ref a2), (.ref a2)])) _
    refine st4 _ ?_
    show Steps p.tables e below (T4.setTop (mkF m 18 #[.val (.int (1 : Int32)), .val (.int sel), .val (.int c0), .val (.int c1), .unset] [(.ref a4), (.ref a2), (.ref a2)])) _
    refine stJ9.trans ?_
    show Steps p.tables e below (TJ9.setTop (mkF m 21 #[.val (.int (1 : Int32)), .val (.int sel), .val (.int c0), .val (.int c1), .unset] [(.ref a2)])) _
    exact retOut XJ9 hx (t := .object "java/lang/String") Bd.returns rfl (Or.inr (Or.inr (Or.inr (Or.inr ⟨rfl, rfl, rfl⟩)))) (hb hby dK_21) hr
  · show CHr Z EL s.vm s.heap TJ9.vm TJ9.heap
    rw [hh]; exact RR
set_option maxRecDepth 65536 in
set_option maxHeartbeats 40000000 in
theorem rmK2 (l : Launch) (Z : State) (a0 : Array Value) (hw : ∀ d ∈ tables_1, d.before a0 Z = true) (EL : List (String × Nat)) (hEL : EW Z a0 EL) (hmem : ("java/lang/String", 7) ∈ EL) (sel c0 c1 : Int32) (G : Int32) (h0 : Heap) (n0 : Nat) (Z0 : n0 ≤ h0.size) (O : Sta Z h0 "java/lang/String" "COMPACT_STRINGS" "Z" (.int G)) (hG : ¬ G = 0) :
    MetFree l (⟨"com/example/ombudsign/ombudsign/dss/CertTypeFromValuePinLaw", "make", "(IIII)Ljava/lang/String;"⟩ : MethodName) (head1 [Jvm.Cond.code (⟨"com/example/ombudsign/ombudsign/dss/CertTypeFromValuePinLaw", "make", "(IIII)Ljava/lang/String;"⟩ : MethodName) method_5_code 5 (some (.object "java/lang/String"))] ({ frames := 4, cells := 4, slots := 20, locals := 66 } : Room)) (fun q_ U => q_ = #[(.int (2 : Int32)), (.int sel), (.int c0), (.int c1)] ∧ Z.Warmed39 U.vm ∧ U.heap = h0 ∧ CHv Z EL U.vm h0) (fun _ _ _ _ _ => True) (fun _ U o U' => ∃ v L, o = .returned v ∧ own_QK Z h0 n0 v U'.heap L ∧ CHr Z EL U.vm U.heap U'.vm U'.heap ∧ ReturnedEndW U o U' L ({ frames := 4, cells := 4, slots := 20, locals := 66 } : Room).cells ({ frames := 4, cells := 4, slots := 20, locals := 66 } : Room).slots) := by
  refine MetFree.of_bodySF (plainFor_of_name pn_L) hisR ?_
  intro p e s m args below meth c s₁ Bd hml0 hP hK
  obtain ⟨rfl, hZ, hh, H0⟩ := hP
  have hx := Bd.exec
  have hby := Bd.bytes
  have hml : c.maxLocals = 5 := hml0
  have hown : s.vm.findClass "com/example/ombudsign/ombudsign/dss/CertTypeFromValuePinLaw" = some m.cls := findClass_of_methodNamed Bd.named
  have hnm := (name_of_methodNamed Bd.named Bd.method).1
  have X0 : Stand p l e ({ frames := 4, cells := 4, slots := 20, locals := 66 } : Room) (s.setVm s.vm) m #[(.int (2 : Int32)), (.int sel), (.int c0), (.int c1)] below meth c s₁ [] 0 0 := Stand.of_body Bd
  have e0 : s₁.heap = h0 := by rw [← hh, Bd.state]; rfl
  have hS0 : s.Since s.vm s.heap.size := (State.WarmedH.refl s).since _
  have hws : ∀ d ∈ StrChars.Road.words, d.before a0 Z = true := fun d hd => hw d (own_hws d hd)
  have sg1 : ∀ target, Steps p.tables e below (s₁.setTop (mkF m 28 #[.val (.int (2 : Int32)), .val (.int sel), .val (.int c0), .val (.int c1), .unset] [(.int (1 : Int32))])) target → Steps p.tables e below (s₁.setTop (mkF m 0 #[.val (.int (2 : Int32)), .val (.int sel), .val (.int c0), .val (.int c1), .unset] [])) target := by
    intro target kt
    show Steps p.tables e below (s₁.setTop (mkF m 0 #[.val (.int (2 : Int32)), .val (.int sel), .val (.int c0), .val (.int c1), .unset] [])) _
    refine XS.iloadN X0.here hx rfl (hb hby dK_0) rfl ?_
    show Steps p.tables e below (s₁.setTop (mkF m 1 #[.val (.int (2 : Int32)), .val (.int sel), .val (.int c0), .val (.int c1), .unset] [(.int (2 : Int32))])) _
    refine XS.ifYes X0.here hx rfl (pc0 := 1) (pc' := 6) rfl (hb hby dK_1) rfl (by decide) (by decide) (by decide) ?_
    show Steps p.tables e below (s₁.setTop (mkF m 6 #[.val (.int (2 : Int32)), .val (.int sel), .val (.int c0), .val (.int c1), .unset] [])) _
    refine XS.iloadN X0.here hx rfl (hb hby dK_6) rfl ?_
    show Steps p.tables e below (s₁.setTop (mkF m 7 #[.val (.int (2 : Int32)), .val (.int sel), .val (.int c0), .val (.int c1), .unset] [(.int (2 : Int32))])) _
    refine XS.iconst X0.here hx rfl (hb hby dK_7) ?_
    show Steps p.tables e below (s₁.setTop (mkF m 8 #[.val (.int (2 : Int32)), .val (.int sel), .val (.int c0), .val (.int c1), .unset] [(.int (1 : Int32)), (.int (2 : Int32))])) _
    refine XS.icmpYes X0.here hx rfl (pc0 := 8) (pc' := 22) rfl (hb hby dK_8) rfl (by decide) (by decide) (by decide) ?_
    show Steps p.tables e below (s₁.setTop (mkF m 22 #[.val (.int (2 : Int32)), .val (.int sel), .val (.int c0), .val (.int c1), .unset] [])) _
    refine XS.iloadN X0.here hx rfl (hb hby dK_22) rfl ?_
    show Steps p.tables e below (s₁.setTop (mkF m 23 #[.val (.int (2 : Int32)), .val (.int sel), .val (.int c0), .val (.int c1), .unset] [(.int (2 : Int32))])) _
    refine XS.iconst X0.here hx rfl (hb hby dK_23) ?_
    show Steps p.tables e below (s₁.setTop (mkF m 24 #[.val (.int (2 : Int32)), .val (.int sel), .val (.int c0), .val (.int c1), .unset] [(.int (2 : Int32)), (.int (2 : Int32))])) _
    refine XS.icmpNo X0.here hx rfl (hb hby dK_24) rfl (by decide) ?_
    show Steps p.tables e below (s₁.setTop (mkF m 27 #[.val (.int (2 : Int32)), .val (.int sel), .val (.int c0), .val (.int c1), .unset] [])) _
    refine XS.iconst X0.here hx rfl (hb hby dK_27) ?_
    show Steps p.tables e below (s₁.setTop (mkF m 28 #[.val (.int (2 : Int32)), .val (.int sel), .val (.int c0), .val (.int c1), .unset] [(.int (1 : Int32))])) _
    exact kt
  obtain ⟨T2, h2, k2, X2, e2, E2, A2, st2⟩ := newP X0 hx hZ (hw _ (List.mem_of_getElem? (i := 46) rfl)) e0 (g := (mkF m 28 #[.val (.int (2 : Int32)), .val (.int sel), .val (.int c0), .val (.int c1), .unset] [(.int (1 : Int32))])) rfl (hb hby dK_28) rfl (by decide) (cap := 1) (by decide) (by decide) (by decide) (by decide)
  obtain ⟨a2, g2⟩ : ∃ z, z = h0.size := ⟨_, rfl⟩
  rw [← g2] at A2 st2
  have gb : h0.size ≤ a2 := by rw [g2]; exact Nat.le_refl _
  have V2 : Arv Z h2 a2 k2 .char (1 : Int32) [] (.int (0 : Int32)) := Arv.new A2 (by decide)
  have sg3 : ∀ target, Steps p.tables e below (T2.setTop (mkF m 41 #[.val (.int (2 : Int32)), .val (.int sel), .val (.int c0), .val (.int c1), .val (.ref a2)] [(.int c1), (.int c0), (.int sel), (.int (80 : Int32)), (.int (0 : Int32)), (.int (0 : Int32)), (.ref a2)])) target → Steps p.tables e below (T2.setTop (mkF m 30 #[.val (.int (2 : Int32)), .val (.int sel), .val (.int c0), .val (.int c1), .unset] [(.ref a2)])) target := by
    intro target kt
    show Steps p.tables e below (T2.setTop (mkF m 30 #[.val (.int (2 : Int32)), .val (.int sel), .val (.int c0), .val (.int c1), .unset] [(.ref a2)])) _
    refine XS.astore X2.here hx rfl (hb hby dK_30) rfl rfl (l' := #[.val (.int (2 : Int32)), .val (.int sel), .val (.int c0), .val (.int c1), .val (.ref a2)]) rfl ?_
    show Steps p.tables e below (T2.setTop (mkF m 32 #[.val (.int (2 : Int32)), .val (.int sel), .val (.int c0), .val (.int c1), .val (.ref a2)] [])) _
    refine XS.aload X2.here hx rfl (hb hby dK_32) rfl rfl ?_
    show Steps p.tables e below (T2.setTop (mkF m 34 #[.val (.int (2 : Int32)), .val (.int sel), .val (.int c0), .val (.int c1), .val (.ref a2)] [(.ref a2)])) _
    refine XS.iconst X2.here hx rfl (hb hby dK_34) ?_
    show Steps p.tables e below (T2.setTop (mkF m 35 #[.val (.int (2 : Int32)), .val (.int sel), .val (.int c0), .val (.int c1), .val (.ref a2)] [(.int (0 : Int32)), (.ref a2)])) _
    refine XS.iconst X2.here hx rfl (hb hby dK_35) ?_
    show Steps p.tables e below (T2.setTop (mkF m 36 #[.val (.int (2 : Int32)), .val (.int sel), .val (.int c0), .val (.int c1), .val (.ref a2)] [(.int (0 : Int32)), (.int (0 : Int32)), (.ref a2)])) _
    refine XS.bipush X2.here hx rfl (hb hby dK_36) ?_
    show Steps p.tables e below (T2.setTop (mkF m 38 #[.val (.int (2 : Int32)), .val (.int sel), .val (.int c0), .val (.int c1), .val (.ref a2)] [(.int (80 : Int32)), (.int (0 : Int32)), (.int (0 : Int32)), (.ref a2)])) _
    refine XS.iloadN X2.here hx rfl (hb hby dK_38) rfl ?_
    show Steps p.tables e below (T2.setTop (mkF m 39 #[.val (.int (2 : Int32)), .val (.int sel), .val (.int c0), .val (.int c1), .val (.ref a2)] [(.int sel), (.int (80 : Int32)), (.int (0 : Int32)), (.int (0 : Int32)), (.ref a2)])) _
    refine XS.iloadN X2.here hx rfl (hb hby dK_39) rfl ?_
    show Steps p.tables e below (T2.setTop (mkF m 40 #[.val (.int (2 : Int32)), .val (.int sel), .val (.int c0), .val (.int c1), .val (.ref a2)] [(.int c0), (.int sel), (.int (80 : Int32)), (.int (0 : Int32)), (.int (0 : Int32)), (.ref a2)])) _
    refine XS.iloadN X2.here hx rfl (hb hby dK_40) rfl ?_
    show Steps p.tables e below (T2.setTop (mkF m 41 #[.val (.int (2 : Int32)), .val (.int sel), .val (.int c0), .val (.int c1), .val (.ref a2)] [(.int c1), (.int c0), (.int sel), (.int (80 : Int32)), (.int (0 : Int32)), (.int (0 : Int32)), (.ref a2)])) _
    exact kt
  obtain ⟨_, _, ⟨TC0, LC0, kC0, nC0⟩, -, XC0, ⟨LcC0, hQC0, lC0, yC0, zC0⟩, stC0⟩ := Jvm.LawKit.callS X2 hx (y := (⟨"com/example/ombudsign/ombudsign/dss/CertTypeFromValuePinLaw", "ch", "(ICIII)C"⟩ : MethodName)) hown (mvT hZ (hw _ (List.mem_of_getElem? (i := 47) rfl))) (mvT hZ (hw _ (List.mem_of_getElem? (i := 48) rfl))) (mvT hZ (hw _ (List.mem_of_getElem? (i := 3) rfl))) (mvT hZ (hw _ (List.mem_of_getElem? (i := 49) rfl))) (by decide) (backOf (W := 2) (rmC l Z a0 hw (0 : Int32) (80 : Int32) sel c0 c1 (by decide) h2 n0) hZ (hw _ (List.mem_of_getElem? (i := 49) rfl)) (hw _ (List.mem_of_getElem? (i := 3) rfl)) (by decide) (by decide)) (g := (mkF m 41 #[.val (.int (2 : Int32)), .val (.int sel), .val (.int c0), .val (.int c1), .val (.ref a2)] [(.int c1), (.int c0), (.int sel), (.int (80 : Int32)), (.int (0 : Int32)), (.int (0 : Int32)), (.ref a2)])) rfl (by rw [hml]; rfl) (argsL := [(.int (0 : Int32)), (.int (80 : Int32)), (.int sel), (.int c0), (.int c1)]) (rest := [(.int (0 : Int32)), (.ref a2)]) (lenOf pdC rfl) rfl (by show 2 * 0 + _ ≤ _; exact Nat.le_of_eq rfl) (hb hby dK_41) (fun _ _ => ⟨rfl, e2, Nat.le_of_ble_eq_true rfl, Nat.le_of_ble_eq_true rfl⟩)
  dsimp only [Pt.U, Pt.locs, Pt.cells, Pt.slots] at XC0 lC0 yC0 zC0 stC0 hQC0
  subst lC0 yC0 zC0
  obtain ⟨r0, rfl, lr0, NC0, eC0⟩ := hQC0
  have MC0 := Fr.app (Fr.nil n0) NC0
  have P4 := V2.pad (pad_rep [] (.int (0 : Int32)) 1)
  obtain ⟨c4, B4, q4, S4, M4, H4, U4⟩ := P4
  obtain ⟨T4, h4, X4, e4, W4, st4⟩ := stC XC0 hx hZ eC0 B4 (j := (0 : Int32)) (inb_of S4 ⟨by decide, by decide⟩) (g := (mkF m 44 #[.val (.int (2 : Int32)), .val (.int sel), .val (.int c0), .val (.int c1), .val (.ref a2)] [(.int r0), (.int (0 : Int32)), (.ref a2)])) rfl rfl (hb hby dK_44)
  rw [own_nar lr0] at W4
  have V4 : Arv Z h4 a2 k2 .char (1 : Int32) [(.int r0)] (.int (0 : Int32)) := Arv.set B4 q4 S4 M4 H4 U4 (own_fc lr0) W4 0 rfl (Nat.le_of_ble_eq_true rfl)
  have N4 := Fr.snoc X4 (MC0) (Nat.le_trans Z0 gb)
  have En0 : Ext h0 h4 := own_ext_wr E2 W4 gb
  obtain ⟨T5, h5, X5, e5, E5, A5, D5, -, st5⟩ := newO X4 hx hZ hown (hw _ (List.mem_of_getElem? (i := 53) rfl)) (hw _ (List.mem_of_getElem? (i := 54) rfl)) (hw _ (List.mem_of_getElem? (i := 32) rfl)) e4 (g := (mkF m 45 #[.val (.int (2 : Int32)), .val (.int sel), .val (.int c0), .val (.int c1), .val (.ref a2)] [])) rfl (hb hby dK_45) (by decide) (by decide)
  obtain ⟨a5, g5⟩ : ∃ z, z = h4.size := ⟨_, rfl⟩
  rw [← g5] at A5 D5 st5
  have En : Ext h0 h5 := own_ext_trans En0 E5
  have gx0 : h0.size ≤ a5 := by rw [g5]; exact En0.1
  have gx : n0 ≤ a5 := Nat.le_trans Z0 gx0
  have VV := V4.ext E5
  have sg6 : ∀ target, Steps p.tables e below (T5.setTop (mkF m 51 #[.val (.int (2 : Int32)), .val (.int sel), .val (.int c0), .val (.int c1), .val (.ref a2)] [(.ref a2), (.ref a5), (.ref a5)])) target → Steps p.tables e below (T5.setTop (mkF m 48 #[.val (.int (2 : Int32)), .val (.int sel), .val (.int c0), .val (.int c1), .val (.ref a2)] [(.ref a5)])) target := by
    intro target kt
    show Steps p.tables e below (T5.setTop (mkF m 48 #[.val (.int (2 : Int32)), .val (.int sel), .val (.int c0), .val (.int c1), .val (.ref a2)] [(.ref a5)])) _
    refine XS.dup X5.here hx rfl (hb hby dK_48) rfl rfl ?_
    show Steps p.tables e below (T5.setTop (mkF m 49 #[.val (.int (2 : Int32)), .val (.int sel), .val (.int c0), .val (.int c1), .val (.ref a2)] [(.ref a5), (.ref a5)])) _
    refine XS.aload X5.here hx rfl (hb hby dK_49) rfl rfl ?_
    show Steps p.tables e below (T5.setTop (mkF m 51 #[.val (.int (2 : Int32)), .val (.int sel), .val (.int c0), .val (.int c1), .val (.ref a2)] [(.ref a2), (.ref a5), (.ref a5)])) _
    exact kt
  have Fv : Fld Z h5 a5 "java/lang/String" "value" "[B" .null := D5 (Or.inr (hw _ (List.mem_of_getElem? (i := 80) rfl))) (ty := (.array .byte)) (by decide)
  have Fc : Fld Z h5 a5 "java/lang/String" "coder" "B" (.int (0 : Int32)) := D5 (Or.inr (hw _ (List.mem_of_getElem? (i := 78) rfl))) (ty := .byte) (by decide)
  have Ex : Exa Z h5 a5 "java/lang/String" := A5
  have hp : own_lat [r0] := by
    intro c hc
    simp only [List.mem_cons, List.not_mem_nil, or_false] at hc
    rcases hc with rfl <;> assumption
  obtain ⟨_, _, ⟨TJ9, LJ9, kJ9, nJ9⟩, -, XJ9, ⟨LcJ9, hQJ9, lJ9, yJ9, zJ9⟩, stJ9⟩ := X5.specialBack hx (y := (⟨"java/lang/String", "<init>", "([C)V"⟩ : MethodName)) rfl hown (mvT hZ (hw _ (List.mem_of_getElem? (i := 55) rfl))) (mvT hZ (hw _ (List.mem_of_getElem? (i := 56) rfl))) (mvT hZ (hw _ (List.mem_of_getElem? (i := 57) rfl))) (by decide) (StrChars.Road.backV (W := 1) hZ hws (kI := 4) (hw _ (List.mem_of_getElem? (i := 54) rfl)) (cs := ([r0] : List Int32)) (bs := ([r0] : List Int32).map (fun c => c.toInt8.toInt32)) (n := 1) gx (Nat.le_trans Z0 En.1) Ex Fv Fc VV (O.ext En) hG rfl rfl (by decide) (by decide) hp rfl (by decide) (by decide)) (g := (mkF m 51 #[.val (.int (2 : Int32)), .val (.int sel), .val (.int c0), .val (.int c1), .val (.ref a2)] [(.ref a2), (.ref a5), (.ref a5)])) rfl (by rw [hml]; rfl) (Steps.refl _) (a := a5) (argsL := [(.ref a2)]) (rest := [(.ref a5)]) (lenOf pdE1 rfl) rfl (by show 2 * 0 + _ ≤ _; exact Nat.le_of_eq rfl) (hb hby dK_51) (fun _ _ => ⟨rfl, e5, Nat.le_of_ble_eq_true rfl, Nat.le_of_ble_eq_true rfl⟩)
  dsimp only [Pt.U, Pt.locs, Pt.cells, Pt.slots] at XJ9 lJ9 yJ9 zJ9 stJ9 hQJ9
  subst lJ9 yJ9 zJ9
  obtain ⟨rfl, NJ9, KJ9, gJ9a, gJ9c, tJ9, kbJ9, uJ9, vJ9, wJ9, gJ9v, gJ9b⟩ := hQJ9
  have EJ9 : Ext h0 TJ9.heap := own_ext_keep En KJ9 (allS gx0 all0)
  obtain ⟨fs, hr, hrun, hended, hW⟩ := XJ9.leaveW (n := s.heap.size) hS0 (by rw [hh]; exact EJ9.1) (v := some (.ref a5)) (fun h => by rw [Bd.returns] at h; cases h)
  have RR : CHr Z EL s.vm h0 TJ9.vm TJ9.heap := (CHr.ext EJ9 H0).trans (CHv.at XJ9 hZ hEL (H0.ext EJ9))
  refine ⟨_, _, castTop (efK m 2 sel c0 c1) ?_, hrun, hended, _, _, rfl, ⟨Fr.app (N4) NJ9, EJ9, Or.inr ⟨a5, [r0], rfl, hp, Nat.le_of_ble_eq_true rfl, ⟨gJ9a, gJ9c, tJ9, kbJ9, gJ9v, gJ9b⟩⟩⟩, ?_, own_w hW (by decide) (by decide)⟩
  · show Steps p.tables e below (s₁.setTop (mkF m 0 #[.val (.int (2 : Int32)), .val (.int sel), .val (.int c0), .val (.int c1), .unset] [])) _
    refine sg1 _ ?_
    show Steps p.tables e below (s₁.setTop (mkF m 28 #[.val (.int (2 : Int32)), .val (.int sel), .val (.int c0), .val (.int c1), .unset] [(.int (1 : Int32))])) _
    refine st2 _ ?_
    show Steps p.tables e below (T2.setTop (mkF m 30 #[.val (.int (2 : Int32)), .val (.int sel), .val (.int c0), .val (.int c1), .unset] [(.ref a2)])) _
    refine sg3 _ ?_
    show Steps p.tables e below (T2.setTop (mkF m 41 #[.val (.int (2 : Int32)), .val (.int sel), .val (.int c0), .val (.int c1), .val (.ref a2)] [(.int c1), (.int c0), (.int sel), (.int (80 : Int32)), (.int (0 : Int32)), (.int (0 : Int32)), (.ref a2)])) _
    refine stC0 _ ?_
    show Steps p.tables e below (TC0.setTop (mkF m 44 #[.val (.int (2 : Int32)), .val (.int sel), .val (.int c0), .val (.int c1), .val (.ref a2)] [(.int r0), (.int (0 : Int32)), (.ref a2)])) _
    refine st4 _ ?_
    show Steps p.tables e below (T4.setTop (mkF m 45 #[.val (.int (2 : Int32)), .val (.int sel), .val (.int c0), .val (.int c1), .val (.ref a2)] [])) _
    refine st5 _ ?_
    show Steps p.tables e below (T5.setTop (mkF m 48 #[.val (.int (2 : Int32)), .val (.int sel), .val (.int c0), .val (.int c1), .val (.ref a2)] [(.ref a5)])) _
    refine sg6 _ ?_
    show Steps p.tables e below (T5.setTop (mkF m 51 #[.val (.int (2 : Int32)), .val (.int sel), .val (.int c0), .val (.int c1), .val (.ref a2)] [(.ref a2), (.ref a5), (.ref a5)])) _
    refine stJ9.trans ?_
    show Steps p.tables e below (TJ9.setTop (mkF m 54 #[.val (.int (2 : Int32)), .val (.int sel), .val (.int c0), .val (.int c1), .val (.ref a2)] [(.ref a5)])) _
    exact retOut XJ9 hx (t := .object "java/lang/String") Bd.returns rfl (Or.inr (Or.inr (Or.inr (Or.inr ⟨rfl, rfl, rfl⟩)))) (hb hby dK_54) hr
  · show CHr Z EL s.vm s.heap TJ9.vm TJ9.heap
    rw [hh]; exact RR
set_option maxRecDepth 65536 in
set_option maxHeartbeats 40000000 in
theorem rmK3 (l : Launch) (Z : State) (a0 : Array Value) (hw : ∀ d ∈ tables_1, d.before a0 Z = true) (EL : List (String × Nat)) (hEL : EW Z a0 EL) (hmem : ("java/lang/String", 7) ∈ EL) (sel c0 c1 : Int32) (G : Int32) (h0 : Heap) (n0 : Nat) (Z0 : n0 ≤ h0.size) (O : Sta Z h0 "java/lang/String" "COMPACT_STRINGS" "Z" (.int G)) (hG : ¬ G = 0) :
    MetFree l (⟨"com/example/ombudsign/ombudsign/dss/CertTypeFromValuePinLaw", "make", "(IIII)Ljava/lang/String;"⟩ : MethodName) (head1 [Jvm.Cond.code (⟨"com/example/ombudsign/ombudsign/dss/CertTypeFromValuePinLaw", "make", "(IIII)Ljava/lang/String;"⟩ : MethodName) method_5_code 5 (some (.object "java/lang/String"))] ({ frames := 4, cells := 4, slots := 20, locals := 66 } : Room)) (fun q_ U => q_ = #[(.int (3 : Int32)), (.int sel), (.int c0), (.int c1)] ∧ Z.Warmed39 U.vm ∧ U.heap = h0 ∧ CHv Z EL U.vm h0) (fun _ _ _ _ _ => True) (fun _ U o U' => ∃ v L, o = .returned v ∧ own_QK Z h0 n0 v U'.heap L ∧ CHr Z EL U.vm U.heap U'.vm U'.heap ∧ ReturnedEndW U o U' L ({ frames := 4, cells := 4, slots := 20, locals := 66 } : Room).cells ({ frames := 4, cells := 4, slots := 20, locals := 66 } : Room).slots) := by
  refine MetFree.of_bodySF (plainFor_of_name pn_L) hisR ?_
  intro p e s m args below meth c s₁ Bd hml0 hP hK
  obtain ⟨rfl, hZ, hh, H0⟩ := hP
  have hx := Bd.exec
  have hby := Bd.bytes
  have hml : c.maxLocals = 5 := hml0
  have hown : s.vm.findClass "com/example/ombudsign/ombudsign/dss/CertTypeFromValuePinLaw" = some m.cls := findClass_of_methodNamed Bd.named
  have hnm := (name_of_methodNamed Bd.named Bd.method).1
  have X0 : Stand p l e ({ frames := 4, cells := 4, slots := 20, locals := 66 } : Room) (s.setVm s.vm) m #[(.int (3 : Int32)), (.int sel), (.int c0), (.int c1)] below meth c s₁ [] 0 0 := Stand.of_body Bd
  have e0 : s₁.heap = h0 := by rw [← hh, Bd.state]; rfl
  have hS0 : s.Since s.vm s.heap.size := (State.WarmedH.refl s).since _
  have hws : ∀ d ∈ StrChars.Road.words, d.before a0 Z = true := fun d hd => hw d (own_hws d hd)
  have sg1 : ∀ target, Steps p.tables e below (s₁.setTop (mkF m 61 #[.val (.int (3 : Int32)), .val (.int sel), .val (.int c0), .val (.int c1), .unset] [(.int (2 : Int32))])) target → Steps p.tables e below (s₁.setTop (mkF m 0 #[.val (.int (3 : Int32)), .val (.int sel), .val (.int c0), .val (.int c1), .unset] [])) target := by
    intro target kt
    show Steps p.tables e below (s₁.setTop (mkF m 0 #[.val (.int (3 : Int32)), .val (.int sel), .val (.int c0), .val (.int c1), .unset] [])) _
    refine XS.iloadN X0.here hx rfl (hb hby dK_0) rfl ?_
    show Steps p.tables e below (s₁.setTop (mkF m 1 #[.val (.int (3 : Int32)), .val (.int sel), .val (.int c0), .val (.int c1), .unset] [(.int (3 : Int32))])) _
    refine XS.ifYes X0.here hx rfl (pc0 := 1) (pc' := 6) rfl (hb hby dK_1) rfl (by decide) (by decide) (by decide) ?_
    show Steps p.tables e below (s₁.setTop (mkF m 6 #[.val (.int (3 : Int32)), .val (.int sel), .val (.int c0), .val (.int c1), .unset] [])) _
    refine XS.iloadN X0.here hx rfl (hb hby dK_6) rfl ?_
    show Steps p.tables e below (s₁.setTop (mkF m 7 #[.val (.int (3 : Int32)), .val (.int sel), .val (.int c0), .val (.int c1), .unset] [(.int (3 : Int32))])) _
    refine XS.iconst X0.here hx rfl (hb hby dK_7) ?_
    show Steps p.tables e below (s₁.setTop (mkF m 8 #[.val (.int (3 : Int32)), .val (.int sel), .val (.int c0), .val (.int c1), .unset] [(.int (1 : Int32)), (.int (3 : Int32))])) _
    refine XS.icmpYes X0.here hx rfl (pc0 := 8) (pc' := 22) rfl (hb hby dK_8) rfl (by decide) (by decide) (by decide) ?_
    show Steps p.tables e below (s₁.setTop (mkF m 22 #[.val (.int (3 : Int32)), .val (.int sel), .val (.int c0), .val (.int c1), .unset] [])) _
    refine XS.iloadN X0.here hx rfl (hb hby dK_22) rfl ?_
    show Steps p.tables e below (s₁.setTop (mkF m 23 #[.val (.int (3 : Int32)), .val (.int sel), .val (.int c0), .val (.int c1), .unset] [(.int (3 : Int32))])) _
    refine XS.iconst X0.here hx rfl (hb hby dK_23) ?_
    show Steps p.tables e below (s₁.setTop (mkF m 24 #[.val (.int (3 : Int32)), .val (.int sel), .val (.int c0), .val (.int c1), .unset] [(.int (2 : Int32)), (.int (3 : Int32))])) _
    refine XS.icmpYes X0.here hx rfl (pc0 := 24) (pc' := 55) rfl (hb hby dK_24) rfl (by decide) (by decide) (by decide) ?_
    show Steps p.tables e below (s₁.setTop (mkF m 55 #[.val (.int (3 : Int32)), .val (.int sel), .val (.int c0), .val (.int c1), .unset] [])) _
    refine XS.iloadN X0.here hx rfl (hb hby dK_55) rfl ?_
    show Steps p.tables e below (s₁.setTop (mkF m 56 #[.val (.int (3 : Int32)), .val (.int sel), .val (.int c0), .val (.int c1), .unset] [(.int (3 : Int32))])) _
    refine XS.iconst X0.here hx rfl (hb hby dK_56) ?_
    show Steps p.tables e below (s₁.setTop (mkF m 57 #[.val (.int (3 : Int32)), .val (.int sel), .val (.int c0), .val (.int c1), .unset] [(.int (3 : Int32)), (.int (3 : Int32))])) _
    refine XS.icmpNo X0.here hx rfl (hb hby dK_57) rfl (by decide) ?_
    show Steps p.tables e below (s₁.setTop (mkF m 60 #[.val (.int (3 : Int32)), .val (.int sel), .val (.int c0), .val (.int c1), .unset] [])) _
    refine XS.iconst X0.here hx rfl (hb hby dK_60) ?_
    show Steps p.tables e below (s₁.setTop (mkF m 61 #[.val (.int (3 : Int32)), .val (.int sel), .val (.int c0), .val (.int c1), .unset] [(.int (2 : Int32))])) _
    exact kt
  obtain ⟨T2, h2, k2, X2, e2, E2, A2, st2⟩ := newP X0 hx hZ (hw _ (List.mem_of_getElem? (i := 46) rfl)) e0 (g := (mkF m 61 #[.val (.int (3 : Int32)), .val (.int sel), .val (.int c0), .val (.int c1), .unset] [(.int (2 : Int32))])) rfl (hb hby dK_61) rfl (by decide) (cap := 2) (by decide) (by decide) (by decide) (by decide)
  obtain ⟨a2, g2⟩ : ∃ z, z = h0.size := ⟨_, rfl⟩
  rw [← g2] at A2 st2
  have gb : h0.size ≤ a2 := by rw [g2]; exact Nat.le_refl _
  have V2 : Arv Z h2 a2 k2 .char (2 : Int32) [] (.int (0 : Int32)) := Arv.new A2 (by decide)
  have sg3 : ∀ target, Steps p.tables e below (T2.setTop (mkF m 74 #[.val (.int (3 : Int32)), .val (.int sel), .val (.int c0), .val (.int c1), .val (.ref a2)] [(.int c1), (.int c0), (.int sel), (.int (80 : Int32)), (.int (0 : Int32)), (.int (0 : Int32)), (.ref a2)])) target → Steps p.tables e below (T2.setTop (mkF m 63 #[.val (.int (3 : Int32)), .val (.int sel), .val (.int c0), .val (.int c1), .unset] [(.ref a2)])) target := by
    intro target kt
    show Steps p.tables e below (T2.setTop (mkF m 63 #[.val (.int (3 : Int32)), .val (.int sel), .val (.int c0), .val (.int c1), .unset] [(.ref a2)])) _
    refine XS.astore X2.here hx rfl (hb hby dK_63) rfl rfl (l' := #[.val (.int (3 : Int32)), .val (.int sel), .val (.int c0), .val (.int c1), .val (.ref a2)]) rfl ?_
    show Steps p.tables e below (T2.setTop (mkF m 65 #[.val (.int (3 : Int32)), .val (.int sel), .val (.int c0), .val (.int c1), .val (.ref a2)] [])) _
    refine XS.aload X2.here hx rfl (hb hby dK_65) rfl rfl ?_
    show Steps p.tables e below (T2.setTop (mkF m 67 #[.val (.int (3 : Int32)), .val (.int sel), .val (.int c0), .val (.int c1), .val (.ref a2)] [(.ref a2)])) _
    refine XS.iconst X2.here hx rfl (hb hby dK_67) ?_
    show Steps p.tables e below (T2.setTop (mkF m 68 #[.val (.int (3 : Int32)), .val (.int sel), .val (.int c0), .val (.int c1), .val (.ref a2)] [(.int (0 : Int32)), (.ref a2)])) _
    refine XS.iconst X2.here hx rfl (hb hby dK_68) ?_
    show Steps p.tables e below (T2.setTop (mkF m 69 #[.val (.int (3 : Int32)), .val (.int sel), .val (.int c0), .val (.int c1), .val (.ref a2)] [(.int (0 : Int32)), (.int (0 : Int32)), (.ref a2)])) _
    refine XS.bipush X2.here hx rfl (hb hby dK_69) ?_
    show Steps p.tables e below (T2.setTop (mkF m 71 #[.val (.int (3 : Int32)), .val (.int sel), .val (.int c0), .val (.int c1), .val (.ref a2)] [(.int (80 : Int32)), (.int (0 : Int32)), (.int (0 : Int32)), (.ref a2)])) _
    refine XS.iloadN X2.here hx rfl (hb hby dK_71) rfl ?_
    show Steps p.tables e below (T2.setTop (mkF m 72 #[.val (.int (3 : Int32)), .val (.int sel), .val (.int c0), .val (.int c1), .val (.ref a2)] [(.int sel), (.int (80 : Int32)), (.int (0 : Int32)), (.int (0 : Int32)), (.ref a2)])) _
    refine XS.iloadN X2.here hx rfl (hb hby dK_72) rfl ?_
    show Steps p.tables e below (T2.setTop (mkF m 73 #[.val (.int (3 : Int32)), .val (.int sel), .val (.int c0), .val (.int c1), .val (.ref a2)] [(.int c0), (.int sel), (.int (80 : Int32)), (.int (0 : Int32)), (.int (0 : Int32)), (.ref a2)])) _
    refine XS.iloadN X2.here hx rfl (hb hby dK_73) rfl ?_
    show Steps p.tables e below (T2.setTop (mkF m 74 #[.val (.int (3 : Int32)), .val (.int sel), .val (.int c0), .val (.int c1), .val (.ref a2)] [(.int c1), (.int c0), (.int sel), (.int (80 : Int32)), (.int (0 : Int32)), (.int (0 : Int32)), (.ref a2)])) _
    exact kt
  obtain ⟨_, _, ⟨TC0, LC0, kC0, nC0⟩, -, XC0, ⟨LcC0, hQC0, lC0, yC0, zC0⟩, stC0⟩ := Jvm.LawKit.callS X2 hx (y := (⟨"com/example/ombudsign/ombudsign/dss/CertTypeFromValuePinLaw", "ch", "(ICIII)C"⟩ : MethodName)) hown (mvT hZ (hw _ (List.mem_of_getElem? (i := 47) rfl))) (mvT hZ (hw _ (List.mem_of_getElem? (i := 48) rfl))) (mvT hZ (hw _ (List.mem_of_getElem? (i := 3) rfl))) (mvT hZ (hw _ (List.mem_of_getElem? (i := 49) rfl))) (by decide) (backOf (W := 2) (rmC l Z a0 hw (0 : Int32) (80 : Int32) sel c0 c1 (by decide) h2 n0) hZ (hw _ (List.mem_of_getElem? (i := 49) rfl)) (hw _ (List.mem_of_getElem? (i := 3) rfl)) (by decide) (by decide)) (g := (mkF m 74 #[.val (.int (3 : Int32)), .val (.int sel), .val (.int c0), .val (.int c1), .val (.ref a2)] [(.int c1), (.int c0), (.int sel), (.int (80 : Int32)), (.int (0 : Int32)), (.int (0 : Int32)), (.ref a2)])) rfl (by rw [hml]; rfl) (argsL := [(.int (0 : Int32)), (.int (80 : Int32)), (.int sel), (.int c0), (.int c1)]) (rest := [(.int (0 : Int32)), (.ref a2)]) (lenOf pdC rfl) rfl (by show 2 * 0 + _ ≤ _; exact Nat.le_of_eq rfl) (hb hby dK_74) (fun _ _ => ⟨rfl, e2, Nat.le_of_ble_eq_true rfl, Nat.le_of_ble_eq_true rfl⟩)
  dsimp only [Pt.U, Pt.locs, Pt.cells, Pt.slots] at XC0 lC0 yC0 zC0 stC0 hQC0
  subst lC0 yC0 zC0
  obtain ⟨r0, rfl, lr0, NC0, eC0⟩ := hQC0
  have MC0 := Fr.app (Fr.nil n0) NC0
  have P4 := V2.pad (pad_rep [] (.int (0 : Int32)) 1)
  obtain ⟨c4, B4, q4, S4, M4, H4, U4⟩ := P4
  obtain ⟨T4, h4, X4, e4, W4, st4⟩ := stC XC0 hx hZ eC0 B4 (j := (0 : Int32)) (inb_of S4 ⟨by decide, by decide⟩) (g := (mkF m 77 #[.val (.int (3 : Int32)), .val (.int sel), .val (.int c0), .val (.int c1), .val (.ref a2)] [(.int r0), (.int (0 : Int32)), (.ref a2)])) rfl rfl (hb hby dK_77)
  rw [own_nar lr0] at W4
  have V4 : Arv Z h4 a2 k2 .char (2 : Int32) [(.int r0)] (.int (0 : Int32)) := Arv.set B4 q4 S4 M4 H4 U4 (own_fc lr0) W4 0 rfl (Nat.le_of_ble_eq_true rfl)
  have N4 := Fr.snoc X4 (MC0) (Nat.le_trans Z0 gb)
  have En0 : Ext h0 h4 := own_ext_wr E2 W4 gb
  have sg5 : ∀ target, Steps p.tables e below (T4.setTop (mkF m 87 #[.val (.int (3 : Int32)), .val (.int sel), .val (.int c0), .val (.int c1), .val (.ref a2)] [(.int c1), (.int c0), (.int sel), (.int (75 : Int32)), (.int (1 : Int32)), (.int (1 : Int32)), (.ref a2)])) target → Steps p.tables e below (T4.setTop (mkF m 78 #[.val (.int (3 : Int32)), .val (.int sel), .val (.int c0), .val (.int c1), .val (.ref a2)] [])) target := by
    intro target kt
    show Steps p.tables e below (T4.setTop (mkF m 78 #[.val (.int (3 : Int32)), .val (.int sel), .val (.int c0), .val (.int c1), .val (.ref a2)] [])) _
    refine XS.aload X4.here hx rfl (hb hby dK_78) rfl rfl ?_
    show Steps p.tables e below (T4.setTop (mkF m 80 #[.val (.int (3 : Int32)), .val (.int sel), .val (.int c0), .val (.int c1), .val (.ref a2)] [(.ref a2)])) _
    refine XS.iconst X4.here hx rfl (hb hby dK_80) ?_
    show Steps p.tables e below (T4.setTop (mkF m 81 #[.val (.int (3 : Int32)), .val (.int sel), .val (.int c0), .val (.int c1), .val (.ref a2)] [(.int (1 : Int32)), (.ref a2)])) _
    refine XS.iconst X4.here hx rfl (hb hby dK_81) ?_
    show Steps p.tables e below (T4.setTop (mkF m 82 #[.val (.int (3 : Int32)), .val (.int sel), .val (.int c0), .val (.int c1), .val (.ref a2)] [(.int (1 : Int32)), (.int (1 : Int32)), (.ref a2)])) _
    refine XS.bipush X4.here hx rfl (hb hby dK_82) ?_
    show Steps p.tables e below (T4.setTop (mkF m 84 #[.val (.int (3 : Int32)), .val (.int sel), .val (.int c0), .val (.int c1), .val (.ref a2)] [(.int (75 : Int32)), (.int (1 : Int32)), (.int (1 : Int32)), (.ref a2)])) _
    refine XS.iloadN X4.here hx rfl (hb hby dK_84) rfl ?_
    show Steps p.tables e below (T4.setTop (mkF m 85 #[.val (.int (3 : Int32)), .val (.int sel), .val (.int c0), .val (.int c1), .val (.ref a2)] [(.int sel), (.int (75 : Int32)), (.int (1 : Int32)), (.int (1 : Int32)), (.ref a2)])) _
    refine XS.iloadN X4.here hx rfl (hb hby dK_85) rfl ?_
    show Steps p.tables e below (T4.setTop (mkF m 86 #[.val (.int (3 : Int32)), .val (.int sel), .val (.int c0), .val (.int c1), .val (.ref a2)] [(.int c0), (.int sel), (.int (75 : Int32)), (.int (1 : Int32)), (.int (1 : Int32)), (.ref a2)])) _
    refine XS.iloadN X4.here hx rfl (hb hby dK_86) rfl ?_
    show Steps p.tables e below (T4.setTop (mkF m 87 #[.val (.int (3 : Int32)), .val (.int sel), .val (.int c0), .val (.int c1), .val (.ref a2)] [(.int c1), (.int c0), (.int sel), (.int (75 : Int32)), (.int (1 : Int32)), (.int (1 : Int32)), (.ref a2)])) _
    exact kt
  obtain ⟨_, _, ⟨TC1, LC1, kC1, nC1⟩, -, XC1, ⟨LcC1, hQC1, lC1, yC1, zC1⟩, stC1⟩ := Jvm.LawKit.callS X4 hx (y := (⟨"com/example/ombudsign/ombudsign/dss/CertTypeFromValuePinLaw", "ch", "(ICIII)C"⟩ : MethodName)) hown (mvT hZ (hw _ (List.mem_of_getElem? (i := 47) rfl))) (mvT hZ (hw _ (List.mem_of_getElem? (i := 48) rfl))) (mvT hZ (hw _ (List.mem_of_getElem? (i := 3) rfl))) (mvT hZ (hw _ (List.mem_of_getElem? (i := 49) rfl))) (by decide) (backOf (W := 2) (rmC l Z a0 hw (1 : Int32) (75 : Int32) sel c0 c1 (by decide) h4 n0) hZ (hw _ (List.mem_of_getElem? (i := 49) rfl)) (hw _ (List.mem_of_getElem? (i := 3) rfl)) (by decide) (by decide)) (g := (mkF m 87 #[.val (.int (3 : Int32)), .val (.int sel), .val (.int c0), .val (.int c1), .val (.ref a2)] [(.int c1), (.int c0), (.int sel), (.int (75 : Int32)), (.int (1 : Int32)), (.int (1 : Int32)), (.ref a2)])) rfl (by rw [hml]; rfl) (argsL := [(.int (1 : Int32)), (.int (75 : Int32)), (.int sel), (.int c0), (.int c1)]) (rest := [(.int (1 : Int32)), (.ref a2)]) (lenOf pdC rfl) rfl (by show 2 * 0 + _ ≤ _; exact Nat.le_of_eq rfl) (hb hby dK_87) (fun _ _ => ⟨rfl, e4, Nat.le_of_ble_eq_true rfl, Nat.le_of_ble_eq_true rfl⟩)
  dsimp only [Pt.U, Pt.locs, Pt.cells, Pt.slots] at XC1 lC1 yC1 zC1 stC1 hQC1
  subst lC1 yC1 zC1
  obtain ⟨r1, rfl, lr1, NC1, eC1⟩ := hQC1
  have MC1 := Fr.app (N4) NC1
  have P6 := V4.pad (pad_rep [(.int r0)] (.int (0 : Int32)) 1)
  obtain ⟨c6, B6, q6, S6, M6, H6, U6⟩ := P6
  obtain ⟨T6, h6, X6, e6, W6, st6⟩ := stC XC1 hx hZ eC1 B6 (j := (1 : Int32)) (inb_of S6 ⟨by decide, by decide⟩) (g := (mkF m 90 #[.val (.int (3 : Int32)), .val (.int sel), .val (.int c0), .val (.int c1), .val (.ref a2)] [(.int r1), (.int (1 : Int32)), (.ref a2)])) rfl rfl (hb hby dK_90)
  rw [own_nar lr1] at W6
  have V6 : Arv Z h6 a2 k2 .char (2 : Int32) [(.int r0), (.int r1)] (.int (0 : Int32)) := Arv.set B6 q6 S6 M6 H6 U6 (own_fc lr1) W6 1 rfl (Nat.le_of_ble_eq_true rfl)
  have N6 := Fr.snoc X6 (MC1) (Nat.le_trans Z0 gb)
  have En1 : Ext h0 h6 := own_ext_wr En0 W6 gb
  obtain ⟨T7, h7, X7, e7, E7, A7, D7, -, st7⟩ := newO X6 hx hZ hown (hw _ (List.mem_of_getElem? (i := 53) rfl)) (hw _ (List.mem_of_getElem? (i := 54) rfl)) (hw _ (List.mem_of_getElem? (i := 32) rfl)) e6 (g := (mkF m 91 #[.val (.int (3 : Int32)), .val (.int sel), .val (.int c0), .val (.int c1), .val (.ref a2)] [])) rfl (hb hby dK_91) (by decide) (by decide)
  obtain ⟨a7, g7⟩ : ∃ z, z = h6.size := ⟨_, rfl⟩
  rw [← g7] at A7 D7 st7
  have En : Ext h0 h7 := own_ext_trans En1 E7
  have gx0 : h0.size ≤ a7 := by rw [g7]; exact En1.1
  have gx : n0 ≤ a7 := Nat.le_trans Z0 gx0
  have VV := V6.ext E7
  have sg8 : ∀ target, Steps p.tables e below (T7.setTop (mkF m 97 #[.val (.int (3 : Int32)), .val (.int sel), .val (.int c0), .val (.int c1), .val (.ref a2)] [(.ref a2), (.ref a7), (.ref a7)])) target → Steps p.tables e below (T7.setTop (mkF m 94 #[.val (.int (3 : Int32)), .val (.int sel), .val (.int c0), .val (.int c1), .val (.ref a2)] [(.ref a7)])) target := by
    intro target kt
    show Steps p.tables e below (T7.setTop (mkF m 94 #[.val (.int (3 : Int32)), .val (.int sel), .val (.int c0), .val (.int c1), .val (.ref a2)] [(.ref a7)])) _
    refine XS.dup X7.here hx rfl (hb hby dK_94) rfl rfl ?_
    show Steps p.tables e below (T7.setTop (mkF m 95 #[.val (.int (3 : Int32)), .val (.int sel), .val (.int c0), .val (.int c1), .val (.ref a2)] [(.ref a7), (.ref a7)])) _
    refine XS.aload X7.here hx rfl (hb hby dK_95) rfl rfl ?_
    show Steps p.tables e below (T7.setTop (mkF m 97 #[.val (.int (3 : Int32)), .val (.int sel), .val (.int c0), .val (.int c1), .val (.ref a2)] [(.ref a2), (.ref a7), (.ref a7)])) _
    exact kt
  have Fv : Fld Z h7 a7 "java/lang/String" "value" "[B" .null := D7 (Or.inr (hw _ (List.mem_of_getElem? (i := 80) rfl))) (ty := (.array .byte)) (by decide)
  have Fc : Fld Z h7 a7 "java/lang/String" "coder" "B" (.int (0 : Int32)) := D7 (Or.inr (hw _ (List.mem_of_getElem? (i := 78) rfl))) (ty := .byte) (by decide)
  have Ex : Exa Z h7 a7 "java/lang/String" := A7
  have hp : own_lat [r0, r1] := by
    intro c hc
    simp only [List.mem_cons, List.not_mem_nil, or_false] at hc
    rcases hc with rfl | rfl <;> assumption
  obtain ⟨_, _, ⟨TJ9, LJ9, kJ9, nJ9⟩, -, XJ9, ⟨LcJ9, hQJ9, lJ9, yJ9, zJ9⟩, stJ9⟩ := X7.specialBack hx (y := (⟨"java/lang/String", "<init>", "([C)V"⟩ : MethodName)) rfl hown (mvT hZ (hw _ (List.mem_of_getElem? (i := 55) rfl))) (mvT hZ (hw _ (List.mem_of_getElem? (i := 56) rfl))) (mvT hZ (hw _ (List.mem_of_getElem? (i := 57) rfl))) (by decide) (StrChars.Road.backV (W := 1) hZ hws (kI := 4) (hw _ (List.mem_of_getElem? (i := 54) rfl)) (cs := ([r0, r1] : List Int32)) (bs := ([r0, r1] : List Int32).map (fun c => c.toInt8.toInt32)) (n := 2) gx (Nat.le_trans Z0 En.1) Ex Fv Fc VV (O.ext En) hG rfl rfl (by decide) (by decide) hp rfl (by decide) (by decide)) (g := (mkF m 97 #[.val (.int (3 : Int32)), .val (.int sel), .val (.int c0), .val (.int c1), .val (.ref a2)] [(.ref a2), (.ref a7), (.ref a7)])) rfl (by rw [hml]; rfl) (Steps.refl _) (a := a7) (argsL := [(.ref a2)]) (rest := [(.ref a7)]) (lenOf pdE1 rfl) rfl (by show 2 * 0 + _ ≤ _; exact Nat.le_of_eq rfl) (hb hby dK_97) (fun _ _ => ⟨rfl, e7, Nat.le_of_ble_eq_true rfl, Nat.le_of_ble_eq_true rfl⟩)
  dsimp only [Pt.U, Pt.locs, Pt.cells, Pt.slots] at XJ9 lJ9 yJ9 zJ9 stJ9 hQJ9
  subst lJ9 yJ9 zJ9
  obtain ⟨rfl, NJ9, KJ9, gJ9a, gJ9c, tJ9, kbJ9, uJ9, vJ9, wJ9, gJ9v, gJ9b⟩ := hQJ9
  have EJ9 : Ext h0 TJ9.heap := own_ext_keep En KJ9 (allS gx0 all0)
  obtain ⟨fs, hr, hrun, hended, hW⟩ := XJ9.leaveW (n := s.heap.size) hS0 (by rw [hh]; exact EJ9.1) (v := some (.ref a7)) (fun h => by rw [Bd.returns] at h; cases h)
  have RR : CHr Z EL s.vm h0 TJ9.vm TJ9.heap := (CHr.ext EJ9 H0).trans (CHv.at XJ9 hZ hEL (H0.ext EJ9))
  refine ⟨_, _, castTop (efK m 3 sel c0 c1) ?_, hrun, hended, _, _, rfl, ⟨Fr.app (N6) NJ9, EJ9, Or.inr ⟨a7, [r0, r1], rfl, hp, Nat.le_of_ble_eq_true rfl, ⟨gJ9a, gJ9c, tJ9, kbJ9, gJ9v, gJ9b⟩⟩⟩, ?_, own_w hW (by decide) (by decide)⟩
  · show Steps p.tables e below (s₁.setTop (mkF m 0 #[.val (.int (3 : Int32)), .val (.int sel), .val (.int c0), .val (.int c1), .unset] [])) _
    refine sg1 _ ?_
    show Steps p.tables e below (s₁.setTop (mkF m 61 #[.val (.int (3 : Int32)), .val (.int sel), .val (.int c0), .val (.int c1), .unset] [(.int (2 : Int32))])) _
    refine st2 _ ?_
    show Steps p.tables e below (T2.setTop (mkF m 63 #[.val (.int (3 : Int32)), .val (.int sel), .val (.int c0), .val (.int c1), .unset] [(.ref a2)])) _
    refine sg3 _ ?_
    show Steps p.tables e below (T2.setTop (mkF m 74 #[.val (.int (3 : Int32)), .val (.int sel), .val (.int c0), .val (.int c1), .val (.ref a2)] [(.int c1), (.int c0), (.int sel), (.int (80 : Int32)), (.int (0 : Int32)), (.int (0 : Int32)), (.ref a2)])) _
    refine stC0 _ ?_
    show Steps p.tables e below (TC0.setTop (mkF m 77 #[.val (.int (3 : Int32)), .val (.int sel), .val (.int c0), .val (.int c1), .val (.ref a2)] [(.int r0), (.int (0 : Int32)), (.ref a2)])) _
    refine st4 _ ?_
    show Steps p.tables e below (T4.setTop (mkF m 78 #[.val (.int (3 : Int32)), .val (.int sel), .val (.int c0), .val (.int c1), .val (.ref a2)] [])) _
    refine sg5 _ ?_
    show Steps p.tables e below (T4.setTop (mkF m 87 #[.val (.int (3 : Int32)), .val (.int sel), .val (.int c0), .val (.int c1), .val (.ref a2)] [(.int c1), (.int c0), (.int sel), (.int (75 : Int32)), (.int (1 : Int32)), (.int (1 : Int32)), (.ref a2)])) _
    refine stC1 _ ?_
    show Steps p.tables e below (TC1.setTop (mkF m 90 #[.val (.int (3 : Int32)), .val (.int sel), .val (.int c0), .val (.int c1), .val (.ref a2)] [(.int r1), (.int (1 : Int32)), (.ref a2)])) _
    refine st6 _ ?_
    show Steps p.tables e below (T6.setTop (mkF m 91 #[.val (.int (3 : Int32)), .val (.int sel), .val (.int c0), .val (.int c1), .val (.ref a2)] [])) _
    refine st7 _ ?_
    show Steps p.tables e below (T7.setTop (mkF m 94 #[.val (.int (3 : Int32)), .val (.int sel), .val (.int c0), .val (.int c1), .val (.ref a2)] [(.ref a7)])) _
    refine sg8 _ ?_
    show Steps p.tables e below (T7.setTop (mkF m 97 #[.val (.int (3 : Int32)), .val (.int sel), .val (.int c0), .val (.int c1), .val (.ref a2)] [(.ref a2), (.ref a7), (.ref a7)])) _
    refine stJ9.trans ?_
    show Steps p.tables e below (TJ9.setTop (mkF m 100 #[.val (.int (3 : Int32)), .val (.int sel), .val (.int c0), .val (.int c1), .val (.ref a2)] [(.ref a7)])) _
    exact retOut XJ9 hx (t := .object "java/lang/String") Bd.returns rfl (Or.inr (Or.inr (Or.inr (Or.inr ⟨rfl, rfl, rfl⟩)))) (hb hby dK_100) hr
  · show CHr Z EL s.vm s.heap TJ9.vm TJ9.heap
    rw [hh]; exact RR
set_option maxRecDepth 65536 in
set_option maxHeartbeats 40000000 in
theorem rmK4 (l : Launch) (Z : State) (a0 : Array Value) (hw : ∀ d ∈ tables_1, d.before a0 Z = true) (EL : List (String × Nat)) (hEL : EW Z a0 EL) (hmem : ("java/lang/String", 7) ∈ EL) (sel c0 c1 : Int32) (G : Int32) (h0 : Heap) (n0 : Nat) (Z0 : n0 ≤ h0.size) (O : Sta Z h0 "java/lang/String" "COMPACT_STRINGS" "Z" (.int G)) (hG : ¬ G = 0) :
    MetFree l (⟨"com/example/ombudsign/ombudsign/dss/CertTypeFromValuePinLaw", "make", "(IIII)Ljava/lang/String;"⟩ : MethodName) (head1 [Jvm.Cond.code (⟨"com/example/ombudsign/ombudsign/dss/CertTypeFromValuePinLaw", "make", "(IIII)Ljava/lang/String;"⟩ : MethodName) method_5_code 5 (some (.object "java/lang/String"))] ({ frames := 4, cells := 4, slots := 20, locals := 66 } : Room)) (fun q_ U => q_ = #[(.int (4 : Int32)), (.int sel), (.int c0), (.int c1)] ∧ Z.Warmed39 U.vm ∧ U.heap = h0 ∧ CHv Z EL U.vm h0) (fun _ _ _ _ _ => True) (fun _ U o U' => ∃ v L, o = .returned v ∧ own_QK Z h0 n0 v U'.heap L ∧ CHr Z EL U.vm U.heap U'.vm U'.heap ∧ ReturnedEndW U o U' L ({ frames := 4, cells := 4, slots := 20, locals := 66 } : Room).cells ({ frames := 4, cells := 4, slots := 20, locals := 66 } : Room).slots) := by
  refine MetFree.of_bodySF (plainFor_of_name pn_L) hisR ?_
  intro p e s m args below meth c s₁ Bd hml0 hP hK
  obtain ⟨rfl, hZ, hh, H0⟩ := hP
  have hx := Bd.exec
  have hby := Bd.bytes
  have hml : c.maxLocals = 5 := hml0
  have hown : s.vm.findClass "com/example/ombudsign/ombudsign/dss/CertTypeFromValuePinLaw" = some m.cls := findClass_of_methodNamed Bd.named
  have hnm := (name_of_methodNamed Bd.named Bd.method).1
  have X0 : Stand p l e ({ frames := 4, cells := 4, slots := 20, locals := 66 } : Room) (s.setVm s.vm) m #[(.int (4 : Int32)), (.int sel), (.int c0), (.int c1)] below meth c s₁ [] 0 0 := Stand.of_body Bd
  have e0 : s₁.heap = h0 := by rw [← hh, Bd.state]; rfl
  have hS0 : s.Since s.vm s.heap.size := (State.WarmedH.refl s).since _
  have hws : ∀ d ∈ StrChars.Road.words, d.before a0 Z = true := fun d hd => hw d (own_hws d hd)
  have sg1 : ∀ target, Steps p.tables e below (s₁.setTop (mkF m 107 #[.val (.int (4 : Int32)), .val (.int sel), .val (.int c0), .val (.int c1), .unset] [(.int (3 : Int32))])) target → Steps p.tables e below (s₁.setTop (mkF m 0 #[.val (.int (4 : Int32)), .val (.int sel), .val (.int c0), .val (.int c1), .unset] [])) target := by
    intro target kt
    show Steps p.tables e below (s₁.setTop (mkF m 0 #[.val (.int (4 : Int32)), .val (.int sel), .val (.int c0), .val (.int c1), .unset] [])) _
    refine XS.iloadN X0.here hx rfl (hb hby dK_0) rfl ?_
    show Steps p.tables e below (s₁.setTop (mkF m 1 #[.val (.int (4 : Int32)), .val (.int sel), .val (.int c0), .val (.int c1), .unset] [(.int (4 : Int32))])) _
    refine XS.ifYes X0.here hx rfl (pc0 := 1) (pc' := 6) rfl (hb hby dK_1) rfl (by decide) (by decide) (by decide) ?_
    show Steps p.tables e below (s₁.setTop (mkF m 6 #[.val (.int (4 : Int32)), .val (.int sel), .val (.int c0), .val (.int c1), .unset] [])) _
    refine XS.iloadN X0.here hx rfl (hb hby dK_6) rfl ?_
    show Steps p.tables e below (s₁.setTop (mkF m 7 #[.val (.int (4 : Int32)), .val (.int sel), .val (.int c0), .val (.int c1), .unset] [(.int (4 : Int32))])) _
    refine XS.iconst X0.here hx rfl (hb hby dK_7) ?_
    show Steps p.tables e below (s₁.setTop (mkF m 8 #[.val (.int (4 : Int32)), .val (.int sel), .val (.int c0), .val (.int c1), .unset] [(.int (1 : Int32)), (.int (4 : Int32))])) _
    refine XS.icmpYes X0.here hx rfl (pc0 := 8) (pc' := 22) rfl (hb hby dK_8) rfl (by decide) (by decide) (by decide) ?_
    show Steps p.tables e below (s₁.setTop (mkF m 22 #[.val (.int (4 : Int32)), .val (.int sel), .val (.int c0), .val (.int c1), .unset] [])) _
    refine XS.iloadN X0.here hx rfl (hb hby dK_22) rfl ?_
    show Steps p.tables e below (s₁.setTop (mkF m 23 #[.val (.int (4 : Int32)), .val (.int sel), .val (.int c0), .val (.int c1), .unset] [(.int (4 : Int32))])) _
    refine XS.iconst X0.here hx rfl (hb hby dK_23) ?_
    show Steps p.tables e below (s₁.setTop (mkF m 24 #[.val (.int (4 : Int32)), .val (.int sel), .val (.int c0), .val (.int c1), .unset] [(.int (2 : Int32)), (.int (4 : Int32))])) _
    refine XS.icmpYes X0.here hx rfl (pc0 := 24) (pc' := 55) rfl (hb hby dK_24) rfl (by decide) (by decide) (by decide) ?_
    show Steps p.tables e below (s₁.setTop (mkF m 55 #[.val (.int (4 : Int32)), .val (.int sel), .val (.int c0), .val (.int c1), .unset] [])) _
    refine XS.iloadN X0.here hx rfl (hb hby dK_55) rfl ?_
    show Steps p.tables e below (s₁.setTop (mkF m 56 #[.val (.int (4 : Int32)), .val (.int sel), .val (.int c0), .val (.int c1), .unset] [(.int (4 : Int32))])) _
    refine XS.iconst X0.here hx rfl (hb hby dK_56) ?_
    show Steps p.tables e below (s₁.setTop (mkF m 57 #[.val (.int (4 : Int32)), .val (.int sel), .val (.int c0), .val (.int c1), .unset] [(.int (3 : Int32)), (.int (4 : Int32))])) _
    refine XS.icmpYes X0.here hx rfl (pc0 := 57) (pc' := 101) rfl (hb hby dK_57) rfl (by decide) (by decide) (by decide) ?_
    show Steps p.tables e below (s₁.setTop (mkF m 101 #[.val (.int (4 : Int32)), .val (.int sel), .val (.int c0), .val (.int c1), .unset] [])) _
    refine XS.iloadN X0.here hx rfl (hb hby dK_101) rfl ?_
    show Steps p.tables e below (s₁.setTop (mkF m 102 #[.val (.int (4 : Int32)), .val (.int sel), .val (.int c0), .val (.int c1), .unset] [(.int (4 : Int32))])) _
    refine XS.iconst X0.here hx rfl (hb hby dK_102) ?_
    show Steps p.tables e below (s₁.setTop (mkF m 103 #[.val (.int (4 : Int32)), .val (.int sel), .val (.int c0), .val (.int c1), .unset] [(.int (4 : Int32)), (.int (4 : Int32))])) _
    refine XS.icmpNo X0.here hx rfl (hb hby dK_103) rfl (by decide) ?_
    show Steps p.tables e below (s₁.setTop (mkF m 106 #[.val (.int (4 : Int32)), .val (.int sel), .val (.int c0), .val (.int c1), .unset] [])) _
    refine XS.iconst X0.here hx rfl (hb hby dK_106) ?_
    show Steps p.tables e below (s₁.setTop (mkF m 107 #[.val (.int (4 : Int32)), .val (.int sel), .val (.int c0), .val (.int c1), .unset] [(.int (3 : Int32))])) _
    exact kt
  obtain ⟨T2, h2, k2, X2, e2, E2, A2, st2⟩ := newP X0 hx hZ (hw _ (List.mem_of_getElem? (i := 46) rfl)) e0 (g := (mkF m 107 #[.val (.int (4 : Int32)), .val (.int sel), .val (.int c0), .val (.int c1), .unset] [(.int (3 : Int32))])) rfl (hb hby dK_107) rfl (by decide) (cap := 3) (by decide) (by decide) (by decide) (by decide)
  obtain ⟨a2, g2⟩ : ∃ z, z = h0.size := ⟨_, rfl⟩
  rw [← g2] at A2 st2
  have gb : h0.size ≤ a2 := by rw [g2]; exact Nat.le_refl _
  have V2 : Arv Z h2 a2 k2 .char (3 : Int32) [] (.int (0 : Int32)) := Arv.new A2 (by decide)
  have sg3 : ∀ target, Steps p.tables e below (T2.setTop (mkF m 120 #[.val (.int (4 : Int32)), .val (.int sel), .val (.int c0), .val (.int c1), .val (.ref a2)] [(.int c1), (.int c0), (.int sel), (.int (80 : Int32)), (.int (0 : Int32)), (.int (0 : Int32)), (.ref a2)])) target → Steps p.tables e below (T2.setTop (mkF m 109 #[.val (.int (4 : Int32)), .val (.int sel), .val (.int c0), .val (.int c1), .unset] [(.ref a2)])) target := by
    intro target kt
    show Steps p.tables e below (T2.setTop (mkF m 109 #[.val (.int (4 : Int32)), .val (.int sel), .val (.int c0), .val (.int c1), .unset] [(.ref a2)])) _
    refine XS.astore X2.here hx rfl (hb hby dK_109) rfl rfl (l' := #[.val (.int (4 : Int32)), .val (.int sel), .val (.int c0), .val (.int c1), .val (.ref a2)]) rfl ?_
    show Steps p.tables e below (T2.setTop (mkF m 111 #[.val (.int (4 : Int32)), .val (.int sel), .val (.int c0), .val (.int c1), .val (.ref a2)] [])) _
    refine XS.aload X2.here hx rfl (hb hby dK_111) rfl rfl ?_
    show Steps p.tables e below (T2.setTop (mkF m 113 #[.val (.int (4 : Int32)), .val (.int sel), .val (.int c0), .val (.int c1), .val (.ref a2)] [(.ref a2)])) _
    refine XS.iconst X2.here hx rfl (hb hby dK_113) ?_
    show Steps p.tables e below (T2.setTop (mkF m 114 #[.val (.int (4 : Int32)), .val (.int sel), .val (.int c0), .val (.int c1), .val (.ref a2)] [(.int (0 : Int32)), (.ref a2)])) _
    refine XS.iconst X2.here hx rfl (hb hby dK_114) ?_
    show Steps p.tables e below (T2.setTop (mkF m 115 #[.val (.int (4 : Int32)), .val (.int sel), .val (.int c0), .val (.int c1), .val (.ref a2)] [(.int (0 : Int32)), (.int (0 : Int32)), (.ref a2)])) _
    refine XS.bipush X2.here hx rfl (hb hby dK_115) ?_
    show Steps p.tables e below (T2.setTop (mkF m 117 #[.val (.int (4 : Int32)), .val (.int sel), .val (.int c0), .val (.int c1), .val (.ref a2)] [(.int (80 : Int32)), (.int (0 : Int32)), (.int (0 : Int32)), (.ref a2)])) _
    refine XS.iloadN X2.here hx rfl (hb hby dK_117) rfl ?_
    show Steps p.tables e below (T2.setTop (mkF m 118 #[.val (.int (4 : Int32)), .val (.int sel), .val (.int c0), .val (.int c1), .val (.ref a2)] [(.int sel), (.int (80 : Int32)), (.int (0 : Int32)), (.int (0 : Int32)), (.ref a2)])) _
    refine XS.iloadN X2.here hx rfl (hb hby dK_118) rfl ?_
    show Steps p.tables e below (T2.setTop (mkF m 119 #[.val (.int (4 : Int32)), .val (.int sel), .val (.int c0), .val (.int c1), .val (.ref a2)] [(.int c0), (.int sel), (.int (80 : Int32)), (.int (0 : Int32)), (.int (0 : Int32)), (.ref a2)])) _
    refine XS.iloadN X2.here hx rfl (hb hby dK_119) rfl ?_
    show Steps p.tables e below (T2.setTop (mkF m 120 #[.val (.int (4 : Int32)), .val (.int sel), .val (.int c0), .val (.int c1), .val (.ref a2)] [(.int c1), (.int c0), (.int sel), (.int (80 : Int32)), (.int (0 : Int32)), (.int (0 : Int32)), (.ref a2)])) _
    exact kt
  obtain ⟨_, _, ⟨TC0, LC0, kC0, nC0⟩, -, XC0, ⟨LcC0, hQC0, lC0, yC0, zC0⟩, stC0⟩ := Jvm.LawKit.callS X2 hx (y := (⟨"com/example/ombudsign/ombudsign/dss/CertTypeFromValuePinLaw", "ch", "(ICIII)C"⟩ : MethodName)) hown (mvT hZ (hw _ (List.mem_of_getElem? (i := 47) rfl))) (mvT hZ (hw _ (List.mem_of_getElem? (i := 48) rfl))) (mvT hZ (hw _ (List.mem_of_getElem? (i := 3) rfl))) (mvT hZ (hw _ (List.mem_of_getElem? (i := 49) rfl))) (by decide) (backOf (W := 2) (rmC l Z a0 hw (0 : Int32) (80 : Int32) sel c0 c1 (by decide) h2 n0) hZ (hw _ (List.mem_of_getElem? (i := 49) rfl)) (hw _ (List.mem_of_getElem? (i := 3) rfl)) (by decide) (by decide)) (g := (mkF m 120 #[.val (.int (4 : Int32)), .val (.int sel), .val (.int c0), .val (.int c1), .val (.ref a2)] [(.int c1), (.int c0), (.int sel), (.int (80 : Int32)), (.int (0 : Int32)), (.int (0 : Int32)), (.ref a2)])) rfl (by rw [hml]; rfl) (argsL := [(.int (0 : Int32)), (.int (80 : Int32)), (.int sel), (.int c0), (.int c1)]) (rest := [(.int (0 : Int32)), (.ref a2)]) (lenOf pdC rfl) rfl (by show 2 * 0 + _ ≤ _; exact Nat.le_of_eq rfl) (hb hby dK_120) (fun _ _ => ⟨rfl, e2, Nat.le_of_ble_eq_true rfl, Nat.le_of_ble_eq_true rfl⟩)
  dsimp only [Pt.U, Pt.locs, Pt.cells, Pt.slots] at XC0 lC0 yC0 zC0 stC0 hQC0
  subst lC0 yC0 zC0
  obtain ⟨r0, rfl, lr0, NC0, eC0⟩ := hQC0
  have MC0 := Fr.app (Fr.nil n0) NC0
  have P4 := V2.pad (pad_rep [] (.int (0 : Int32)) 1)
  obtain ⟨c4, B4, q4, S4, M4, H4, U4⟩ := P4
  obtain ⟨T4, h4, X4, e4, W4, st4⟩ := stC XC0 hx hZ eC0 B4 (j := (0 : Int32)) (inb_of S4 ⟨by decide, by decide⟩) (g := (mkF m 123 #[.val (.int (4 : Int32)), .val (.int sel), .val (.int c0), .val (.int c1), .val (.ref a2)] [(.int r0), (.int (0 : Int32)), (.ref a2)])) rfl rfl (hb hby dK_123)
  rw [own_nar lr0] at W4
  have V4 : Arv Z h4 a2 k2 .char (3 : Int32) [(.int r0)] (.int (0 : Int32)) := Arv.set B4 q4 S4 M4 H4 U4 (own_fc lr0) W4 0 rfl (Nat.le_of_ble_eq_true rfl)
  have N4 := Fr.snoc X4 (MC0) (Nat.le_trans Z0 gb)
  have En0 : Ext h0 h4 := own_ext_wr E2 W4 gb
  have sg5 : ∀ target, Steps p.tables e below (T4.setTop (mkF m 133 #[.val (.int (4 : Int32)), .val (.int sel), .val (.int c0), .val (.int c1), .val (.ref a2)] [(.int c1), (.int c0), (.int sel), (.int (75 : Int32)), (.int (1 : Int32)), (.int (1 : Int32)), (.ref a2)])) target → Steps p.tables e below (T4.setTop (mkF m 124 #[.val (.int (4 : Int32)), .val (.int sel), .val (.int c0), .val (.int c1), .val (.ref a2)] [])) target := by
    intro target kt
    show Steps p.tables e below (T4.setTop (mkF m 124 #[.val (.int (4 : Int32)), .val (.int sel), .val (.int c0), .val (.int c1), .val (.ref a2)] [])) _
    refine XS.aload X4.here hx rfl (hb hby dK_124) rfl rfl ?_
    show Steps p.tables e below (T4.setTop (mkF m 126 #[.val (.int (4 : Int32)), .val (.int sel), .val (.int c0), .val (.int c1), .val (.ref a2)] [(.ref a2)])) _
    refine XS.iconst X4.here hx rfl (hb hby dK_126) ?_
    show Steps p.tables e below (T4.setTop (mkF m 127 #[.val (.int (4 : Int32)), .val (.int sel), .val (.int c0), .val (.int c1), .val (.ref a2)] [(.int (1 : Int32)), (.ref a2)])) _
    refine XS.iconst X4.here hx rfl (hb hby dK_127) ?_
    show Steps p.tables e below (T4.setTop (mkF m 128 #[.val (.int (4 : Int32)), .val (.int sel), .val (.int c0), .val (.int c1), .val (.ref a2)] [(.int (1 : Int32)), (.int (1 : Int32)), (.ref a2)])) _
    refine XS.bipush X4.here hx rfl (hb hby dK_128) ?_
    show Steps p.tables e below (T4.setTop (mkF m 130 #[.val (.int (4 : Int32)), .val (.int sel), .val (.int c0), .val (.int c1), .val (.ref a2)] [(.int (75 : Int32)), (.int (1 : Int32)), (.int (1 : Int32)), (.ref a2)])) _
    refine XS.iloadN X4.here hx rfl (hb hby dK_130) rfl ?_
    show Steps p.tables e below (T4.setTop (mkF m 131 #[.val (.int (4 : Int32)), .val (.int sel), .val (.int c0), .val (.int c1), .val (.ref a2)] [(.int sel), (.int (75 : Int32)), (.int (1 : Int32)), (.int (1 : Int32)), (.ref a2)])) _
    refine XS.iloadN X4.here hx rfl (hb hby dK_131) rfl ?_
    show Steps p.tables e below (T4.setTop (mkF m 132 #[.val (.int (4 : Int32)), .val (.int sel), .val (.int c0), .val (.int c1), .val (.ref a2)] [(.int c0), (.int sel), (.int (75 : Int32)), (.int (1 : Int32)), (.int (1 : Int32)), (.ref a2)])) _
    refine XS.iloadN X4.here hx rfl (hb hby dK_132) rfl ?_
    show Steps p.tables e below (T4.setTop (mkF m 133 #[.val (.int (4 : Int32)), .val (.int sel), .val (.int c0), .val (.int c1), .val (.ref a2)] [(.int c1), (.int c0), (.int sel), (.int (75 : Int32)), (.int (1 : Int32)), (.int (1 : Int32)), (.ref a2)])) _
    exact kt
  obtain ⟨_, _, ⟨TC1, LC1, kC1, nC1⟩, -, XC1, ⟨LcC1, hQC1, lC1, yC1, zC1⟩, stC1⟩ := Jvm.LawKit.callS X4 hx (y := (⟨"com/example/ombudsign/ombudsign/dss/CertTypeFromValuePinLaw", "ch", "(ICIII)C"⟩ : MethodName)) hown (mvT hZ (hw _ (List.mem_of_getElem? (i := 47) rfl))) (mvT hZ (hw _ (List.mem_of_getElem? (i := 48) rfl))) (mvT hZ (hw _ (List.mem_of_getElem? (i := 3) rfl))) (mvT hZ (hw _ (List.mem_of_getElem? (i := 49) rfl))) (by decide) (backOf (W := 2) (rmC l Z a0 hw (1 : Int32) (75 : Int32) sel c0 c1 (by decide) h4 n0) hZ (hw _ (List.mem_of_getElem? (i := 49) rfl)) (hw _ (List.mem_of_getElem? (i := 3) rfl)) (by decide) (by decide)) (g := (mkF m 133 #[.val (.int (4 : Int32)), .val (.int sel), .val (.int c0), .val (.int c1), .val (.ref a2)] [(.int c1), (.int c0), (.int sel), (.int (75 : Int32)), (.int (1 : Int32)), (.int (1 : Int32)), (.ref a2)])) rfl (by rw [hml]; rfl) (argsL := [(.int (1 : Int32)), (.int (75 : Int32)), (.int sel), (.int c0), (.int c1)]) (rest := [(.int (1 : Int32)), (.ref a2)]) (lenOf pdC rfl) rfl (by show 2 * 0 + _ ≤ _; exact Nat.le_of_eq rfl) (hb hby dK_133) (fun _ _ => ⟨rfl, e4, Nat.le_of_ble_eq_true rfl, Nat.le_of_ble_eq_true rfl⟩)
  dsimp only [Pt.U, Pt.locs, Pt.cells, Pt.slots] at XC1 lC1 yC1 zC1 stC1 hQC1
  subst lC1 yC1 zC1
  obtain ⟨r1, rfl, lr1, NC1, eC1⟩ := hQC1
  have MC1 := Fr.app (N4) NC1
  have P6 := V4.pad (pad_rep [(.int r0)] (.int (0 : Int32)) 1)
  obtain ⟨c6, B6, q6, S6, M6, H6, U6⟩ := P6
  obtain ⟨T6, h6, X6, e6, W6, st6⟩ := stC XC1 hx hZ eC1 B6 (j := (1 : Int32)) (inb_of S6 ⟨by decide, by decide⟩) (g := (mkF m 136 #[.val (.int (4 : Int32)), .val (.int sel), .val (.int c0), .val (.int c1), .val (.ref a2)] [(.int r1), (.int (1 : Int32)), (.ref a2)])) rfl rfl (hb hby dK_136)
  rw [own_nar lr1] at W6
  have V6 : Arv Z h6 a2 k2 .char (3 : Int32) [(.int r0), (.int r1)] (.int (0 : Int32)) := Arv.set B6 q6 S6 M6 H6 U6 (own_fc lr1) W6 1 rfl (Nat.le_of_ble_eq_true rfl)
  have N6 := Fr.snoc X6 (MC1) (Nat.le_trans Z0 gb)
  have En1 : Ext h0 h6 := own_ext_wr En0 W6 gb
  have sg7 : ∀ target, Steps p.tables e below (T6.setTop (mkF m 146 #[.val (.int (4 : Int32)), .val (.int sel), .val (.int c0), .val (.int c1), .val (.ref a2)] [(.int c1), (.int c0), (.int sel), (.int (67 : Int32)), (.int (2 : Int32)), (.int (2 : Int32)), (.ref a2)])) target → Steps p.tables e below (T6.setTop (mkF m 137 #[.val (.int (4 : Int32)), .val (.int sel), .val (.int c0), .val (.int c1), .val (.ref a2)] [])) target := by
    intro target kt
    show Steps p.tables e below (T6.setTop (mkF m 137 #[.val (.int (4 : Int32)), .val (.int sel), .val (.int c0), .val (.int c1), .val (.ref a2)] [])) _
    refine XS.aload X6.here hx rfl (hb hby dK_137) rfl rfl ?_
    show Steps p.tables e below (T6.setTop (mkF m 139 #[.val (.int (4 : Int32)), .val (.int sel), .val (.int c0), .val (.int c1), .val (.ref a2)] [(.ref a2)])) _
    refine XS.iconst X6.here hx rfl (hb hby dK_139) ?_
    show Steps p.tables e below (T6.setTop (mkF m 140 #[.val (.int (4 : Int32)), .val (.int sel), .val (.int c0), .val (.int c1), .val (.ref a2)] [(.int (2 : Int32)), (.ref a2)])) _
    refine XS.iconst X6.here hx rfl (hb hby dK_140) ?_
    show Steps p.tables e below (T6.setTop (mkF m 141 #[.val (.int (4 : Int32)), .val (.int sel), .val (.int c0), .val (.int c1), .val (.ref a2)] [(.int (2 : Int32)), (.int (2 : Int32)), (.ref a2)])) _
    refine XS.bipush X6.here hx rfl (hb hby dK_141) ?_
    show Steps p.tables e below (T6.setTop (mkF m 143 #[.val (.int (4 : Int32)), .val (.int sel), .val (.int c0), .val (.int c1), .val (.ref a2)] [(.int (67 : Int32)), (.int (2 : Int32)), (.int (2 : Int32)), (.ref a2)])) _
    refine XS.iloadN X6.here hx rfl (hb hby dK_143) rfl ?_
    show Steps p.tables e below (T6.setTop (mkF m 144 #[.val (.int (4 : Int32)), .val (.int sel), .val (.int c0), .val (.int c1), .val (.ref a2)] [(.int sel), (.int (67 : Int32)), (.int (2 : Int32)), (.int (2 : Int32)), (.ref a2)])) _
    refine XS.iloadN X6.here hx rfl (hb hby dK_144) rfl ?_
    show Steps p.tables e below (T6.setTop (mkF m 145 #[.val (.int (4 : Int32)), .val (.int sel), .val (.int c0), .val (.int c1), .val (.ref a2)] [(.int c0), (.int sel), (.int (67 : Int32)), (.int (2 : Int32)), (.int (2 : Int32)), (.ref a2)])) _
    refine XS.iloadN X6.here hx rfl (hb hby dK_145) rfl ?_
    show Steps p.tables e below (T6.setTop (mkF m 146 #[.val (.int (4 : Int32)), .val (.int sel), .val (.int c0), .val (.int c1), .val (.ref a2)] [(.int c1), (.int c0), (.int sel), (.int (67 : Int32)), (.int (2 : Int32)), (.int (2 : Int32)), (.ref a2)])) _
    exact kt
  obtain ⟨_, _, ⟨TC2, LC2, kC2, nC2⟩, -, XC2, ⟨LcC2, hQC2, lC2, yC2, zC2⟩, stC2⟩ := Jvm.LawKit.callS X6 hx (y := (⟨"com/example/ombudsign/ombudsign/dss/CertTypeFromValuePinLaw", "ch", "(ICIII)C"⟩ : MethodName)) hown (mvT hZ (hw _ (List.mem_of_getElem? (i := 47) rfl))) (mvT hZ (hw _ (List.mem_of_getElem? (i := 48) rfl))) (mvT hZ (hw _ (List.mem_of_getElem? (i := 3) rfl))) (mvT hZ (hw _ (List.mem_of_getElem? (i := 49) rfl))) (by decide) (backOf (W := 2) (rmC l Z a0 hw (2 : Int32) (67 : Int32) sel c0 c1 (by decide) h6 n0) hZ (hw _ (List.mem_of_getElem? (i := 49) rfl)) (hw _ (List.mem_of_getElem? (i := 3) rfl)) (by decide) (by decide)) (g := (mkF m 146 #[.val (.int (4 : Int32)), .val (.int sel), .val (.int c0), .val (.int c1), .val (.ref a2)] [(.int c1), (.int c0), (.int sel), (.int (67 : Int32)), (.int (2 : Int32)), (.int (2 : Int32)), (.ref a2)])) rfl (by rw [hml]; rfl) (argsL := [(.int (2 : Int32)), (.int (67 : Int32)), (.int sel), (.int c0), (.int c1)]) (rest := [(.int (2 : Int32)), (.ref a2)]) (lenOf pdC rfl) rfl (by show 2 * 0 + _ ≤ _; exact Nat.le_of_eq rfl) (hb hby dK_146) (fun _ _ => ⟨rfl, e6, Nat.le_of_ble_eq_true rfl, Nat.le_of_ble_eq_true rfl⟩)
  dsimp only [Pt.U, Pt.locs, Pt.cells, Pt.slots] at XC2 lC2 yC2 zC2 stC2 hQC2
  subst lC2 yC2 zC2
  obtain ⟨r2, rfl, lr2, NC2, eC2⟩ := hQC2
  have MC2 := Fr.app (N6) NC2
  have P8 := V6.pad (pad_rep [(.int r0), (.int r1)] (.int (0 : Int32)) 1)
  obtain ⟨c8, B8, q8, S8, M8, H8, U8⟩ := P8
  obtain ⟨T8, h8, X8, e8, W8, st8⟩ := stC XC2 hx hZ eC2 B8 (j := (2 : Int32)) (inb_of S8 ⟨by decide, by decide⟩) (g := (mkF m 149 #[.val (.int (4 : Int32)), .val (.int sel), .val (.int c0), .val (.int c1), .val (.ref a2)] [(.int r2), (.int (2 : Int32)), (.ref a2)])) rfl rfl (hb hby dK_149)
  rw [own_nar lr2] at W8
  have V8 : Arv Z h8 a2 k2 .char (3 : Int32) [(.int r0), (.int r1), (.int r2)] (.int (0 : Int32)) := Arv.set B8 q8 S8 M8 H8 U8 (own_fc lr2) W8 2 rfl (Nat.le_of_ble_eq_true rfl)
  have N8 := Fr.snoc X8 (MC2) (Nat.le_trans Z0 gb)
  have En2 : Ext h0 h8 := own_ext_wr En1 W8 gb
  obtain ⟨T9, h9, X9, e9, E9, A9, D9, -, st9⟩ := newO X8 hx hZ hown (hw _ (List.mem_of_getElem? (i := 53) rfl)) (hw _ (List.mem_of_getElem? (i := 54) rfl)) (hw _ (List.mem_of_getElem? (i := 32) rfl)) e8 (g := (mkF m 150 #[.val (.int (4 : Int32)), .val (.int sel), .val (.int c0), .val (.int c1), .val (.ref a2)] [])) rfl (hb hby dK_150) (by decide) (by decide)
  obtain ⟨a9, g9⟩ : ∃ z, z = h8.size := ⟨_, rfl⟩
  rw [← g9] at A9 D9 st9
  have En : Ext h0 h9 := own_ext_trans En2 E9
  have gx0 : h0.size ≤ a9 := by rw [g9]; exact En2.1
  have gx : n0 ≤ a9 := Nat.le_trans Z0 gx0
  have VV := V8.ext E9
  have sg10 : ∀ target, Steps p.tables e below (T9.setTop (mkF m 156 #[.val (.int (4 : Int32)), .val (.int sel), .val (.int c0), .val (.int c1), .val (.ref a2)] [(.ref a2), (.ref a9), (.ref a9)])) target → Steps p.tables e below (T9.setTop (mkF m 153 #[.val (.int (4 : Int32)), .val (.int sel), .val (.int c0), .val (.int c1), .val (.ref a2)] [(.ref a9)])) target := by
    intro target kt
    show Steps p.tables e below (T9.setTop (mkF m 153 #[.val (.int (4 : Int32)), .val (.int sel), .val (.int c0), .val (.int c1), .val (.ref a2)] [(.ref a9)])) _
    refine XS.dup X9.here hx rfl (hb hby dK_153) rfl rfl ?_
    show Steps p.tables e below (T9.setTop (mkF m 154 #[.val (.int (4 : Int32)), .val (.int sel), .val (.int c0), .val (.int c1), .val (.ref a2)] [(.ref a9), (.ref a9)])) _
    refine XS.aload X9.here hx rfl (hb hby dK_154) rfl rfl ?_
    show Steps p.tables e below (T9.setTop (mkF m 156 #[.val (.int (4 : Int32)), .val (.int sel), .val (.int c0), .val (.int c1), .val (.ref a2)] [(.ref a2), (.ref a9), (.ref a9)])) _
    exact kt
  have Fv : Fld Z h9 a9 "java/lang/String" "value" "[B" .null := D9 (Or.inr (hw _ (List.mem_of_getElem? (i := 80) rfl))) (ty := (.array .byte)) (by decide)
  have Fc : Fld Z h9 a9 "java/lang/String" "coder" "B" (.int (0 : Int32)) := D9 (Or.inr (hw _ (List.mem_of_getElem? (i := 78) rfl))) (ty := .byte) (by decide)
  have Ex : Exa Z h9 a9 "java/lang/String" := A9
  have hp : own_lat [r0, r1, r2] := by
    intro c hc
    simp only [List.mem_cons, List.not_mem_nil, or_false] at hc
    rcases hc with rfl | rfl | rfl <;> assumption
  obtain ⟨_, _, ⟨TJ9, LJ9, kJ9, nJ9⟩, -, XJ9, ⟨LcJ9, hQJ9, lJ9, yJ9, zJ9⟩, stJ9⟩ := X9.specialBack hx (y := (⟨"java/lang/String", "<init>", "([C)V"⟩ : MethodName)) rfl hown (mvT hZ (hw _ (List.mem_of_getElem? (i := 55) rfl))) (mvT hZ (hw _ (List.mem_of_getElem? (i := 56) rfl))) (mvT hZ (hw _ (List.mem_of_getElem? (i := 57) rfl))) (by decide) (StrChars.Road.backV (W := 1) hZ hws (kI := 4) (hw _ (List.mem_of_getElem? (i := 54) rfl)) (cs := ([r0, r1, r2] : List Int32)) (bs := ([r0, r1, r2] : List Int32).map (fun c => c.toInt8.toInt32)) (n := 3) gx (Nat.le_trans Z0 En.1) Ex Fv Fc VV (O.ext En) hG rfl rfl (by decide) (by decide) hp rfl (by decide) (by decide)) (g := (mkF m 156 #[.val (.int (4 : Int32)), .val (.int sel), .val (.int c0), .val (.int c1), .val (.ref a2)] [(.ref a2), (.ref a9), (.ref a9)])) rfl (by rw [hml]; rfl) (Steps.refl _) (a := a9) (argsL := [(.ref a2)]) (rest := [(.ref a9)]) (lenOf pdE1 rfl) rfl (by show 2 * 0 + _ ≤ _; exact Nat.le_of_eq rfl) (hb hby dK_156) (fun _ _ => ⟨rfl, e9, Nat.le_of_ble_eq_true rfl, Nat.le_of_ble_eq_true rfl⟩)
  dsimp only [Pt.U, Pt.locs, Pt.cells, Pt.slots] at XJ9 lJ9 yJ9 zJ9 stJ9 hQJ9
  subst lJ9 yJ9 zJ9
  obtain ⟨rfl, NJ9, KJ9, gJ9a, gJ9c, tJ9, kbJ9, uJ9, vJ9, wJ9, gJ9v, gJ9b⟩ := hQJ9
  have EJ9 : Ext h0 TJ9.heap := own_ext_keep En KJ9 (allS gx0 all0)
  obtain ⟨fs, hr, hrun, hended, hW⟩ := XJ9.leaveW (n := s.heap.size) hS0 (by rw [hh]; exact EJ9.1) (v := some (.ref a9)) (fun h => by rw [Bd.returns] at h; cases h)
  have RR : CHr Z EL s.vm h0 TJ9.vm TJ9.heap := (CHr.ext EJ9 H0).trans (CHv.at XJ9 hZ hEL (H0.ext EJ9))
  refine ⟨_, _, castTop (efK m 4 sel c0 c1) ?_, hrun, hended, _, _, rfl, ⟨Fr.app (N8) NJ9, EJ9, Or.inr ⟨a9, [r0, r1, r2], rfl, hp, Nat.le_of_ble_eq_true rfl, ⟨gJ9a, gJ9c, tJ9, kbJ9, gJ9v, gJ9b⟩⟩⟩, ?_, own_w hW (by decide) (by decide)⟩
  · show Steps p.tables e below (s₁.setTop (mkF m 0 #[.val (.int (4 : Int32)), .val (.int sel), .val (.int c0), .val (.int c1), .unset] [])) _
    refine sg1 _ ?_
    show Steps p.tables e below (s₁.setTop (mkF m 107 #[.val (.int (4 : Int32)), .val (.int sel), .val (.int c0), .val (.int c1), .unset] [(.int (3 : Int32))])) _
    refine st2 _ ?_
    show Steps p.tables e below (T2.setTop (mkF m 109 #[.val (.int (4 : Int32)), .val (.int sel), .val (.int c0), .val (.int c1), .unset] [(.ref a2)])) _
    refine sg3 _ ?_
    show Steps p.tables e below (T2.setTop (mkF m 120 #[.val (.int (4 : Int32)), .val (.int sel), .val (.int c0), .val (.int c1), .val (.ref a2)] [(.int c1), (.int c0), (.int sel), (.int (80 : Int32)), (.int (0 : Int32)), (.int (0 : Int32)), (.ref a2)])) _
    refine stC0 _ ?_
    show Steps p.tables e below (TC0.setTop (mkF m 123 #[.val (.int (4 : Int32)), .val (.int sel), .val (.int c0), .val (.int c1), .val (.ref a2)] [(.int r0), (.int (0 : Int32)), (.ref a2)])) _
    refine st4 _ ?_
    show Steps p.tables e below (T4.setTop (mkF m 124 #[.val (.int (4 : Int32)), .val (.int sel), .val (.int c0), .val (.int c1), .val (.ref a2)] [])) _
    refine sg5 _ ?_
    show Steps p.tables e below (T4.setTop (mkF m 133 #[.val (.int (4 : Int32)), .val (.int sel), .val (.int c0), .val (.int c1), .val (.ref a2)] [(.int c1), (.int c0), (.int sel), (.int (75 : Int32)), (.int (1 : Int32)), (.int (1 : Int32)), (.ref a2)])) _
    refine stC1 _ ?_
    show Steps p.tables e below (TC1.setTop (mkF m 136 #[.val (.int (4 : Int32)), .val (.int sel), .val (.int c0), .val (.int c1), .val (.ref a2)] [(.int r1), (.int (1 : Int32)), (.ref a2)])) _
    refine st6 _ ?_
    show Steps p.tables e below (T6.setTop (mkF m 137 #[.val (.int (4 : Int32)), .val (.int sel), .val (.int c0), .val (.int c1), .val (.ref a2)] [])) _
    refine sg7 _ ?_
    show Steps p.tables e below (T6.setTop (mkF m 146 #[.val (.int (4 : Int32)), .val (.int sel), .val (.int c0), .val (.int c1), .val (.ref a2)] [(.int c1), (.int c0), (.int sel), (.int (67 : Int32)), (.int (2 : Int32)), (.int (2 : Int32)), (.ref a2)])) _
    refine stC2 _ ?_
    show Steps p.tables e below (TC2.setTop (mkF m 149 #[.val (.int (4 : Int32)), .val (.int sel), .val (.int c0), .val (.int c1), .val (.ref a2)] [(.int r2), (.int (2 : Int32)), (.ref a2)])) _
    refine st8 _ ?_
    show Steps p.tables e below (T8.setTop (mkF m 150 #[.val (.int (4 : Int32)), .val (.int sel), .val (.int c0), .val (.int c1), .val (.ref a2)] [])) _
    refine st9 _ ?_
    show Steps p.tables e below (T9.setTop (mkF m 153 #[.val (.int (4 : Int32)), .val (.int sel), .val (.int c0), .val (.int c1), .val (.ref a2)] [(.ref a9)])) _
    refine sg10 _ ?_
    show Steps p.tables e below (T9.setTop (mkF m 156 #[.val (.int (4 : Int32)), .val (.int sel), .val (.int c0), .val (.int c1), .val (.ref a2)] [(.ref a2), (.ref a9), (.ref a9)])) _
    refine stJ9.trans ?_
    show Steps p.tables e below (TJ9.setTop (mkF m 159 #[.val (.int (4 : Int32)), .val (.int sel), .val (.int c0), .val (.int c1), .val (.ref a2)] [(.ref a9)])) _
    exact retOut XJ9 hx (t := .object "java/lang/String") Bd.returns rfl (Or.inr (Or.inr (Or.inr (Or.inr ⟨rfl, rfl, rfl⟩)))) (hb hby dK_159) hr
  · show CHr Z EL s.vm s.heap TJ9.vm TJ9.heap
    rw [hh]; exact RR
set_option maxRecDepth 65536 in
set_option maxHeartbeats 40000000 in
theorem rmK5 (l : Launch) (Z : State) (a0 : Array Value) (hw : ∀ d ∈ tables_1, d.before a0 Z = true) (EL : List (String × Nat)) (hEL : EW Z a0 EL) (hmem : ("java/lang/String", 7) ∈ EL) (sel c0 c1 : Int32) (G : Int32) (h0 : Heap) (n0 : Nat) (Z0 : n0 ≤ h0.size) (O : Sta Z h0 "java/lang/String" "COMPACT_STRINGS" "Z" (.int G)) (hG : ¬ G = 0) :
    MetFree l (⟨"com/example/ombudsign/ombudsign/dss/CertTypeFromValuePinLaw", "make", "(IIII)Ljava/lang/String;"⟩ : MethodName) (head1 [Jvm.Cond.code (⟨"com/example/ombudsign/ombudsign/dss/CertTypeFromValuePinLaw", "make", "(IIII)Ljava/lang/String;"⟩ : MethodName) method_5_code 5 (some (.object "java/lang/String"))] ({ frames := 4, cells := 4, slots := 20, locals := 66 } : Room)) (fun q_ U => q_ = #[(.int (5 : Int32)), (.int sel), (.int c0), (.int c1)] ∧ Z.Warmed39 U.vm ∧ U.heap = h0 ∧ CHv Z EL U.vm h0) (fun _ _ _ _ _ => True) (fun _ U o U' => ∃ v L, o = .returned v ∧ own_QK Z h0 n0 v U'.heap L ∧ CHr Z EL U.vm U.heap U'.vm U'.heap ∧ ReturnedEndW U o U' L ({ frames := 4, cells := 4, slots := 20, locals := 66 } : Room).cells ({ frames := 4, cells := 4, slots := 20, locals := 66 } : Room).slots) := by
  refine MetFree.of_bodySF (plainFor_of_name pn_L) hisR ?_
  intro p e s m args below meth c s₁ Bd hml0 hP hK
  obtain ⟨rfl, hZ, hh, H0⟩ := hP
  have hx := Bd.exec
  have hby := Bd.bytes
  have hml : c.maxLocals = 5 := hml0
  have hown : s.vm.findClass "com/example/ombudsign/ombudsign/dss/CertTypeFromValuePinLaw" = some m.cls := findClass_of_methodNamed Bd.named
  have hnm := (name_of_methodNamed Bd.named Bd.method).1
  have X0 : Stand p l e ({ frames := 4, cells := 4, slots := 20, locals := 66 } : Room) (s.setVm s.vm) m #[(.int (5 : Int32)), (.int sel), (.int c0), (.int c1)] below meth c s₁ [] 0 0 := Stand.of_body Bd
  have e0 : s₁.heap = h0 := by rw [← hh, Bd.state]; rfl
  have hS0 : s.Since s.vm s.heap.size := (State.WarmedH.refl s).since _
  have hws : ∀ d ∈ StrChars.Road.words, d.before a0 Z = true := fun d hd => hw d (own_hws d hd)
  have sg1 : ∀ target, Steps p.tables e below (s₁.setTop (mkF m 166 #[.val (.int (5 : Int32)), .val (.int sel), .val (.int c0), .val (.int c1), .unset] [(.int (4 : Int32))])) target → Steps p.tables e below (s₁.setTop (mkF m 0 #[.val (.int (5 : Int32)), .val (.int sel), .val (.int c0), .val (.int c1), .unset] [])) target := by
    intro target kt
    show Steps p.tables e below (s₁.setTop (mkF m 0 #[.val (.int (5 : Int32)), .val (.int sel), .val (.int c0), .val (.int c1), .unset] [])) _
    refine XS.iloadN X0.here hx rfl (hb hby dK_0) rfl ?_
    show Steps p.tables e below (s₁.setTop (mkF m 1 #[.val (.int (5 : Int32)), .val (.int sel), .val (.int c0), .val (.int c1), .unset] [(.int (5 : Int32))])) _
    refine XS.ifYes X0.here hx rfl (pc0 := 1) (pc' := 6) rfl (hb hby dK_1) rfl (by decide) (by decide) (by decide) ?_
    show Steps p.tables e below (s₁.setTop (mkF m 6 #[.val (.int (5 : Int32)), .val (.int sel), .val (.int c0), .val (.int c1), .unset] [])) _
    refine XS.iloadN X0.here hx rfl (hb hby dK_6) rfl ?_
    show Steps p.tables e below (s₁.setTop (mkF m 7 #[.val (.int (5 : Int32)), .val (.int sel), .val (.int c0), .val (.int c1), .unset] [(.int (5 : Int32))])) _
    refine XS.iconst X0.here hx rfl (hb hby dK_7) ?_
    show Steps p.tables e below (s₁.setTop (mkF m 8 #[.val (.int (5 : Int32)), .val (.int sel), .val (.int c0), .val (.int c1), .unset] [(.int (1 : Int32)), (.int (5 : Int32))])) _
    refine XS.icmpYes X0.here hx rfl (pc0 := 8) (pc' := 22) rfl (hb hby dK_8) rfl (by decide) (by decide) (by decide) ?_
    show Steps p.tables e below (s₁.setTop (mkF m 22 #[.val (.int (5 : Int32)), .val (.int sel), .val (.int c0), .val (.int c1), .unset] [])) _
    refine XS.iloadN X0.here hx rfl (hb hby dK_22) rfl ?_
    show Steps p.tables e below (s₁.setTop (mkF m 23 #[.val (.int (5 : Int32)), .val (.int sel), .val (.int c0), .val (.int c1), .unset] [(.int (5 : Int32))])) _
    refine XS.iconst X0.here hx rfl (hb hby dK_23) ?_
    show Steps p.tables e below (s₁.setTop (mkF m 24 #[.val (.int (5 : Int32)), .val (.int sel), .val (.int c0), .val (.int c1), .unset] [(.int (2 : Int32)), (.int (5 : Int32))])) _
    refine XS.icmpYes X0.here hx rfl (pc0 := 24) (pc' := 55) rfl (hb hby dK_24) rfl (by decide) (by decide) (by decide) ?_
    show Steps p.tables e below (s₁.setTop (mkF m 55 #[.val (.int (5 : Int32)), .val (.int sel), .val (.int c0), .val (.int c1), .unset] [])) _
    refine XS.iloadN X0.here hx rfl (hb hby dK_55) rfl ?_
    show Steps p.tables e below (s₁.setTop (mkF m 56 #[.val (.int (5 : Int32)), .val (.int sel), .val (.int c0), .val (.int c1), .unset] [(.int (5 : Int32))])) _
    refine XS.iconst X0.here hx rfl (hb hby dK_56) ?_
    show Steps p.tables e below (s₁.setTop (mkF m 57 #[.val (.int (5 : Int32)), .val (.int sel), .val (.int c0), .val (.int c1), .unset] [(.int (3 : Int32)), (.int (5 : Int32))])) _
    refine XS.icmpYes X0.here hx rfl (pc0 := 57) (pc' := 101) rfl (hb hby dK_57) rfl (by decide) (by decide) (by decide) ?_
    show Steps p.tables e below (s₁.setTop (mkF m 101 #[.val (.int (5 : Int32)), .val (.int sel), .val (.int c0), .val (.int c1), .unset] [])) _
    refine XS.iloadN X0.here hx rfl (hb hby dK_101) rfl ?_
    show Steps p.tables e below (s₁.setTop (mkF m 102 #[.val (.int (5 : Int32)), .val (.int sel), .val (.int c0), .val (.int c1), .unset] [(.int (5 : Int32))])) _
    refine XS.iconst X0.here hx rfl (hb hby dK_102) ?_
    show Steps p.tables e below (s₁.setTop (mkF m 103 #[.val (.int (5 : Int32)), .val (.int sel), .val (.int c0), .val (.int c1), .unset] [(.int (4 : Int32)), (.int (5 : Int32))])) _
    refine XS.icmpYes X0.here hx rfl (pc0 := 103) (pc' := 160) rfl (hb hby dK_103) rfl (by decide) (by decide) (by decide) ?_
    show Steps p.tables e below (s₁.setTop (mkF m 160 #[.val (.int (5 : Int32)), .val (.int sel), .val (.int c0), .val (.int c1), .unset] [])) _
    refine XS.iloadN X0.here hx rfl (hb hby dK_160) rfl ?_
    show Steps p.tables e below (s₁.setTop (mkF m 161 #[.val (.int (5 : Int32)), .val (.int sel), .val (.int c0), .val (.int c1), .unset] [(.int (5 : Int32))])) _
    refine XS.iconst X0.here hx rfl (hb hby dK_161) ?_
    show Steps p.tables e below (s₁.setTop (mkF m 162 #[.val (.int (5 : Int32)), .val (.int sel), .val (.int c0), .val (.int c1), .unset] [(.int (5 : Int32)), (.int (5 : Int32))])) _
    refine XS.icmpNo X0.here hx rfl (hb hby dK_162) rfl (by decide) ?_
    show Steps p.tables e below (s₁.setTop (mkF m 165 #[.val (.int (5 : Int32)), .val (.int sel), .val (.int c0), .val (.int c1), .unset] [])) _
    refine XS.iconst X0.here hx rfl (hb hby dK_165) ?_
    show Steps p.tables e below (s₁.setTop (mkF m 166 #[.val (.int (5 : Int32)), .val (.int sel), .val (.int c0), .val (.int c1), .unset] [(.int (4 : Int32))])) _
    exact kt
  obtain ⟨T2, h2, k2, X2, e2, E2, A2, st2⟩ := newP X0 hx hZ (hw _ (List.mem_of_getElem? (i := 46) rfl)) e0 (g := (mkF m 166 #[.val (.int (5 : Int32)), .val (.int sel), .val (.int c0), .val (.int c1), .unset] [(.int (4 : Int32))])) rfl (hb hby dK_166) rfl (by decide) (cap := 4) (by decide) (by decide) (by decide) (by decide)
  obtain ⟨a2, g2⟩ : ∃ z, z = h0.size := ⟨_, rfl⟩
  rw [← g2] at A2 st2
  have gb : h0.size ≤ a2 := by rw [g2]; exact Nat.le_refl _
  have V2 : Arv Z h2 a2 k2 .char (4 : Int32) [] (.int (0 : Int32)) := Arv.new A2 (by decide)
  have sg3 : ∀ target, Steps p.tables e below (T2.setTop (mkF m 179 #[.val (.int (5 : Int32)), .val (.int sel), .val (.int c0), .val (.int c1), .val (.ref a2)] [(.int c1), (.int c0), (.int sel), (.int (80 : Int32)), (.int (0 : Int32)), (.int (0 : Int32)), (.ref a2)])) target → Steps p.tables e below (T2.setTop (mkF m 168 #[.val (.int (5 : Int32)), .val (.int sel), .val (.int c0), .val (.int c1), .unset] [(.ref a2)])) target := by
    intro target kt
    show Steps p.tables e below (T2.setTop (mkF m 168 #[.val (.int (5 : Int32)), .val (.int sel), .val (.int c0), .val (.int c1), .unset] [(.ref a2)])) _
    refine XS.astore X2.here hx rfl (hb hby dK_168) rfl rfl (l' := #[.val (.int (5 : Int32)), .val (.int sel), .val (.int c0), .val (.int c1), .val (.ref a2)]) rfl ?_
    show Steps p.tables e below (T2.setTop (mkF m 170 #[.val (.int (5 : Int32)), .val (.int sel), .val (.int c0), .val (.int c1), .val (.ref a2)] [])) _
    refine XS.aload X2.here hx rfl (hb hby dK_170) rfl rfl ?_
    show Steps p.tables e below (T2.setTop (mkF m 172 #[.val (.int (5 : Int32)), .val (.int sel), .val (.int c0), .val (.int c1), .val (.ref a2)] [(.ref a2)])) _
    refine XS.iconst X2.here hx rfl (hb hby dK_172) ?_
    show Steps p.tables e below (T2.setTop (mkF m 173 #[.val (.int (5 : Int32)), .val (.int sel), .val (.int c0), .val (.int c1), .val (.ref a2)] [(.int (0 : Int32)), (.ref a2)])) _
    refine XS.iconst X2.here hx rfl (hb hby dK_173) ?_
    show Steps p.tables e below (T2.setTop (mkF m 174 #[.val (.int (5 : Int32)), .val (.int sel), .val (.int c0), .val (.int c1), .val (.ref a2)] [(.int (0 : Int32)), (.int (0 : Int32)), (.ref a2)])) _
    refine XS.bipush X2.here hx rfl (hb hby dK_174) ?_
    show Steps p.tables e below (T2.setTop (mkF m 176 #[.val (.int (5 : Int32)), .val (.int sel), .val (.int c0), .val (.int c1), .val (.ref a2)] [(.int (80 : Int32)), (.int (0 : Int32)), (.int (0 : Int32)), (.ref a2)])) _
    refine XS.iloadN X2.here hx rfl (hb hby dK_176) rfl ?_
    show Steps p.tables e below (T2.setTop (mkF m 177 #[.val (.int (5 : Int32)), .val (.int sel), .val (.int c0), .val (.int c1), .val (.ref a2)] [(.int sel), (.int (80 : Int32)), (.int (0 : Int32)), (.int (0 : Int32)), (.ref a2)])) _
    refine XS.iloadN X2.here hx rfl (hb hby dK_177) rfl ?_
    show Steps p.tables e below (T2.setTop (mkF m 178 #[.val (.int (5 : Int32)), .val (.int sel), .val (.int c0), .val (.int c1), .val (.ref a2)] [(.int c0), (.int sel), (.int (80 : Int32)), (.int (0 : Int32)), (.int (0 : Int32)), (.ref a2)])) _
    refine XS.iloadN X2.here hx rfl (hb hby dK_178) rfl ?_
    show Steps p.tables e below (T2.setTop (mkF m 179 #[.val (.int (5 : Int32)), .val (.int sel), .val (.int c0), .val (.int c1), .val (.ref a2)] [(.int c1), (.int c0), (.int sel), (.int (80 : Int32)), (.int (0 : Int32)), (.int (0 : Int32)), (.ref a2)])) _
    exact kt
  obtain ⟨_, _, ⟨TC0, LC0, kC0, nC0⟩, -, XC0, ⟨LcC0, hQC0, lC0, yC0, zC0⟩, stC0⟩ := Jvm.LawKit.callS X2 hx (y := (⟨"com/example/ombudsign/ombudsign/dss/CertTypeFromValuePinLaw", "ch", "(ICIII)C"⟩ : MethodName)) hown (mvT hZ (hw _ (List.mem_of_getElem? (i := 47) rfl))) (mvT hZ (hw _ (List.mem_of_getElem? (i := 48) rfl))) (mvT hZ (hw _ (List.mem_of_getElem? (i := 3) rfl))) (mvT hZ (hw _ (List.mem_of_getElem? (i := 49) rfl))) (by decide) (backOf (W := 2) (rmC l Z a0 hw (0 : Int32) (80 : Int32) sel c0 c1 (by decide) h2 n0) hZ (hw _ (List.mem_of_getElem? (i := 49) rfl)) (hw _ (List.mem_of_getElem? (i := 3) rfl)) (by decide) (by decide)) (g := (mkF m 179 #[.val (.int (5 : Int32)), .val (.int sel), .val (.int c0), .val (.int c1), .val (.ref a2)] [(.int c1), (.int c0), (.int sel), (.int (80 : Int32)), (.int (0 : Int32)), (.int (0 : Int32)), (.ref a2)])) rfl (by rw [hml]; rfl) (argsL := [(.int (0 : Int32)), (.int (80 : Int32)), (.int sel), (.int c0), (.int c1)]) (rest := [(.int (0 : Int32)), (.ref a2)]) (lenOf pdC rfl) rfl (by show 2 * 0 + _ ≤ _; exact Nat.le_of_eq rfl) (hb hby dK_179) (fun _ _ => ⟨rfl, e2, Nat.le_of_ble_eq_true rfl, Nat.le_of_ble_eq_true rfl⟩)
  dsimp only [Pt.U, Pt.locs, Pt.cells, Pt.slots] at XC0 lC0 yC0 zC0 stC0 hQC0
  subst lC0 yC0 zC0
  obtain ⟨r0, rfl, lr0, NC0, eC0⟩ := hQC0
  have MC0 := Fr.app (Fr.nil n0) NC0
  have P4 := V2.pad (pad_rep [] (.int (0 : Int32)) 1)
  obtain ⟨c4, B4, q4, S4, M4, H4, U4⟩ := P4
  obtain ⟨T4, h4, X4, e4, W4, st4⟩ := stC XC0 hx hZ eC0 B4 (j := (0 : Int32)) (inb_of S4 ⟨by decide, by decide⟩) (g := (mkF m 182 #[.val (.int (5 : Int32)), .val (.int sel), .val (.int c0), .val (.int c1), .val (.ref a2)] [(.int r0), (.int (0 : Int32)), (.ref a2)])) rfl rfl (hb hby dK_182)
  rw [own_nar lr0] at W4
  have V4 : Arv Z h4 a2 k2 .char (4 : Int32) [(.int r0)] (.int (0 : Int32)) := Arv.set B4 q4 S4 M4 H4 U4 (own_fc lr0) W4 0 rfl (Nat.le_of_ble_eq_true rfl)
  have N4 := Fr.snoc X4 (MC0) (Nat.le_trans Z0 gb)
  have En0 : Ext h0 h4 := own_ext_wr E2 W4 gb
  have sg5 : ∀ target, Steps p.tables e below (T4.setTop (mkF m 192 #[.val (.int (5 : Int32)), .val (.int sel), .val (.int c0), .val (.int c1), .val (.ref a2)] [(.int c1), (.int c0), (.int sel), (.int (75 : Int32)), (.int (1 : Int32)), (.int (1 : Int32)), (.ref a2)])) target → Steps p.tables e below (T4.setTop (mkF m 183 #[.val (.int (5 : Int32)), .val (.int sel), .val (.int c0), .val (.int c1), .val (.ref a2)] [])) target := by
    intro target kt
    show Steps p.tables e below (T4.setTop (mkF m 183 #[.val (.int (5 : Int32)), .val (.int sel), .val (.int c0), .val (.int c1), .val (.ref a2)] [])) _
    refine XS.aload X4.here hx rfl (hb hby dK_183) rfl rfl ?_
    show Steps p.tables e below (T4.setTop (mkF m 185 #[.val (.int (5 : Int32)), .val (.int sel), .val (.int c0), .val (.int c1), .val (.ref a2)] [(.ref a2)])) _
    refine XS.iconst X4.here hx rfl (hb hby dK_185) ?_
    show Steps p.tables e below (T4.setTop (mkF m 186 #[.val (.int (5 : Int32)), .val (.int sel), .val (.int c0), .val (.int c1), .val (.ref a2)] [(.int (1 : Int32)), (.ref a2)])) _
    refine XS.iconst X4.here hx rfl (hb hby dK_186) ?_
    show Steps p.tables e below (T4.setTop (mkF m 187 #[.val (.int (5 : Int32)), .val (.int sel), .val (.int c0), .val (.int c1), .val (.ref a2)] [(.int (1 : Int32)), (.int (1 : Int32)), (.ref a2)])) _
    refine XS.bipush X4.here hx rfl (hb hby dK_187) ?_
    show Steps p.tables e below (T4.setTop (mkF m 189 #[.val (.int (5 : Int32)), .val (.int sel), .val (.int c0), .val (.int c1), .val (.ref a2)] [(.int (75 : Int32)), (.int (1 : Int32)), (.int (1 : Int32)), (.ref a2)])) _
    refine XS.iloadN X4.here hx rfl (hb hby dK_189) rfl ?_
    show Steps p.tables e below (T4.setTop (mkF m 190 #[.val (.int (5 : Int32)), .val (.int sel), .val (.int c0), .val (.int c1), .val (.ref a2)] [(.int sel), (.int (75 : Int32)), (.int (1 : Int32)), (.int (1 : Int32)), (.ref a2)])) _
    refine XS.iloadN X4.here hx rfl (hb hby dK_190) rfl ?_
    show Steps p.tables e below (T4.setTop (mkF m 191 #[.val (.int (5 : Int32)), .val (.int sel), .val (.int c0), .val (.int c1), .val (.ref a2)] [(.int c0), (.int sel), (.int (75 : Int32)), (.int (1 : Int32)), (.int (1 : Int32)), (.ref a2)])) _
    refine XS.iloadN X4.here hx rfl (hb hby dK_191) rfl ?_
    show Steps p.tables e below (T4.setTop (mkF m 192 #[.val (.int (5 : Int32)), .val (.int sel), .val (.int c0), .val (.int c1), .val (.ref a2)] [(.int c1), (.int c0), (.int sel), (.int (75 : Int32)), (.int (1 : Int32)), (.int (1 : Int32)), (.ref a2)])) _
    exact kt
  obtain ⟨_, _, ⟨TC1, LC1, kC1, nC1⟩, -, XC1, ⟨LcC1, hQC1, lC1, yC1, zC1⟩, stC1⟩ := Jvm.LawKit.callS X4 hx (y := (⟨"com/example/ombudsign/ombudsign/dss/CertTypeFromValuePinLaw", "ch", "(ICIII)C"⟩ : MethodName)) hown (mvT hZ (hw _ (List.mem_of_getElem? (i := 47) rfl))) (mvT hZ (hw _ (List.mem_of_getElem? (i := 48) rfl))) (mvT hZ (hw _ (List.mem_of_getElem? (i := 3) rfl))) (mvT hZ (hw _ (List.mem_of_getElem? (i := 49) rfl))) (by decide) (backOf (W := 2) (rmC l Z a0 hw (1 : Int32) (75 : Int32) sel c0 c1 (by decide) h4 n0) hZ (hw _ (List.mem_of_getElem? (i := 49) rfl)) (hw _ (List.mem_of_getElem? (i := 3) rfl)) (by decide) (by decide)) (g := (mkF m 192 #[.val (.int (5 : Int32)), .val (.int sel), .val (.int c0), .val (.int c1), .val (.ref a2)] [(.int c1), (.int c0), (.int sel), (.int (75 : Int32)), (.int (1 : Int32)), (.int (1 : Int32)), (.ref a2)])) rfl (by rw [hml]; rfl) (argsL := [(.int (1 : Int32)), (.int (75 : Int32)), (.int sel), (.int c0), (.int c1)]) (rest := [(.int (1 : Int32)), (.ref a2)]) (lenOf pdC rfl) rfl (by show 2 * 0 + _ ≤ _; exact Nat.le_of_eq rfl) (hb hby dK_192) (fun _ _ => ⟨rfl, e4, Nat.le_of_ble_eq_true rfl, Nat.le_of_ble_eq_true rfl⟩)
  dsimp only [Pt.U, Pt.locs, Pt.cells, Pt.slots] at XC1 lC1 yC1 zC1 stC1 hQC1
  subst lC1 yC1 zC1
  obtain ⟨r1, rfl, lr1, NC1, eC1⟩ := hQC1
  have MC1 := Fr.app (N4) NC1
  have P6 := V4.pad (pad_rep [(.int r0)] (.int (0 : Int32)) 1)
  obtain ⟨c6, B6, q6, S6, M6, H6, U6⟩ := P6
  obtain ⟨T6, h6, X6, e6, W6, st6⟩ := stC XC1 hx hZ eC1 B6 (j := (1 : Int32)) (inb_of S6 ⟨by decide, by decide⟩) (g := (mkF m 195 #[.val (.int (5 : Int32)), .val (.int sel), .val (.int c0), .val (.int c1), .val (.ref a2)] [(.int r1), (.int (1 : Int32)), (.ref a2)])) rfl rfl (hb hby dK_195)
  rw [own_nar lr1] at W6
  have V6 : Arv Z h6 a2 k2 .char (4 : Int32) [(.int r0), (.int r1)] (.int (0 : Int32)) := Arv.set B6 q6 S6 M6 H6 U6 (own_fc lr1) W6 1 rfl (Nat.le_of_ble_eq_true rfl)
  have N6 := Fr.snoc X6 (MC1) (Nat.le_trans Z0 gb)
  have En1 : Ext h0 h6 := own_ext_wr En0 W6 gb
  have sg7 : ∀ target, Steps p.tables e below (T6.setTop (mkF m 205 #[.val (.int (5 : Int32)), .val (.int sel), .val (.int c0), .val (.int c1), .val (.ref a2)] [(.int c1), (.int c0), (.int sel), (.int (67 : Int32)), (.int (2 : Int32)), (.int (2 : Int32)), (.ref a2)])) target → Steps p.tables e below (T6.setTop (mkF m 196 #[.val (.int (5 : Int32)), .val (.int sel), .val (.int c0), .val (.int c1), .val (.ref a2)] [])) target := by
    intro target kt
    show Steps p.tables e below (T6.setTop (mkF m 196 #[.val (.int (5 : Int32)), .val (.int sel), .val (.int c0), .val (.int c1), .val (.ref a2)] [])) _
    refine XS.aload X6.here hx rfl (hb hby dK_196) rfl rfl ?_
    show Steps p.tables e below (T6.setTop (mkF m 198 #[.val (.int (5 : Int32)), .val (.int sel), .val (.int c0), .val (.int c1), .val (.ref a2)] [(.ref a2)])) _
    refine XS.iconst X6.here hx rfl (hb hby dK_198) ?_
    show Steps p.tables e below (T6.setTop (mkF m 199 #[.val (.int (5 : Int32)), .val (.int sel), .val (.int c0), .val (.int c1), .val (.ref a2)] [(.int (2 : Int32)), (.ref a2)])) _
    refine XS.iconst X6.here hx rfl (hb hby dK_199) ?_
    show Steps p.tables e below (T6.setTop (mkF m 200 #[.val (.int (5 : Int32)), .val (.int sel), .val (.int c0), .val (.int c1), .val (.ref a2)] [(.int (2 : Int32)), (.int (2 : Int32)), (.ref a2)])) _
    refine XS.bipush X6.here hx rfl (hb hby dK_200) ?_
    show Steps p.tables e below (T6.setTop (mkF m 202 #[.val (.int (5 : Int32)), .val (.int sel), .val (.int c0), .val (.int c1), .val (.ref a2)] [(.int (67 : Int32)), (.int (2 : Int32)), (.int (2 : Int32)), (.ref a2)])) _
    refine XS.iloadN X6.here hx rfl (hb hby dK_202) rfl ?_
    show Steps p.tables e below (T6.setTop (mkF m 203 #[.val (.int (5 : Int32)), .val (.int sel), .val (.int c0), .val (.int c1), .val (.ref a2)] [(.int sel), (.int (67 : Int32)), (.int (2 : Int32)), (.int (2 : Int32)), (.ref a2)])) _
    refine XS.iloadN X6.here hx rfl (hb hby dK_203) rfl ?_
    show Steps p.tables e below (T6.setTop (mkF m 204 #[.val (.int (5 : Int32)), .val (.int sel), .val (.int c0), .val (.int c1), .val (.ref a2)] [(.int c0), (.int sel), (.int (67 : Int32)), (.int (2 : Int32)), (.int (2 : Int32)), (.ref a2)])) _
    refine XS.iloadN X6.here hx rfl (hb hby dK_204) rfl ?_
    show Steps p.tables e below (T6.setTop (mkF m 205 #[.val (.int (5 : Int32)), .val (.int sel), .val (.int c0), .val (.int c1), .val (.ref a2)] [(.int c1), (.int c0), (.int sel), (.int (67 : Int32)), (.int (2 : Int32)), (.int (2 : Int32)), (.ref a2)])) _
    exact kt
  obtain ⟨_, _, ⟨TC2, LC2, kC2, nC2⟩, -, XC2, ⟨LcC2, hQC2, lC2, yC2, zC2⟩, stC2⟩ := Jvm.LawKit.callS X6 hx (y := (⟨"com/example/ombudsign/ombudsign/dss/CertTypeFromValuePinLaw", "ch", "(ICIII)C"⟩ : MethodName)) hown (mvT hZ (hw _ (List.mem_of_getElem? (i := 47) rfl))) (mvT hZ (hw _ (List.mem_of_getElem? (i := 48) rfl))) (mvT hZ (hw _ (List.mem_of_getElem? (i := 3) rfl))) (mvT hZ (hw _ (List.mem_of_getElem? (i := 49) rfl))) (by decide) (backOf (W := 2) (rmC l Z a0 hw (2 : Int32) (67 : Int32) sel c0 c1 (by decide) h6 n0) hZ (hw _ (List.mem_of_getElem? (i := 49) rfl)) (hw _ (List.mem_of_getElem? (i := 3) rfl)) (by decide) (by decide)) (g := (mkF m 205 #[.val (.int (5 : Int32)), .val (.int sel), .val (.int c0), .val (.int c1), .val (.ref a2)] [(.int c1), (.int c0), (.int sel), (.int (67 : Int32)), (.int (2 : Int32)), (.int (2 : Int32)), (.ref a2)])) rfl (by rw [hml]; rfl) (argsL := [(.int (2 : Int32)), (.int (67 : Int32)), (.int sel), (.int c0), (.int c1)]) (rest := [(.int (2 : Int32)), (.ref a2)]) (lenOf pdC rfl) rfl (by show 2 * 0 + _ ≤ _; exact Nat.le_of_eq rfl) (hb hby dK_205) (fun _ _ => ⟨rfl, e6, Nat.le_of_ble_eq_true rfl, Nat.le_of_ble_eq_true rfl⟩)
  dsimp only [Pt.U, Pt.locs, Pt.cells, Pt.slots] at XC2 lC2 yC2 zC2 stC2 hQC2
  subst lC2 yC2 zC2
  obtain ⟨r2, rfl, lr2, NC2, eC2⟩ := hQC2
  have MC2 := Fr.app (N6) NC2
  have P8 := V6.pad (pad_rep [(.int r0), (.int r1)] (.int (0 : Int32)) 1)
  obtain ⟨c8, B8, q8, S8, M8, H8, U8⟩ := P8
  obtain ⟨T8, h8, X8, e8, W8, st8⟩ := stC XC2 hx hZ eC2 B8 (j := (2 : Int32)) (inb_of S8 ⟨by decide, by decide⟩) (g := (mkF m 208 #[.val (.int (5 : Int32)), .val (.int sel), .val (.int c0), .val (.int c1), .val (.ref a2)] [(.int r2), (.int (2 : Int32)), (.ref a2)])) rfl rfl (hb hby dK_208)
  rw [own_nar lr2] at W8
  have V8 : Arv Z h8 a2 k2 .char (4 : Int32) [(.int r0), (.int r1), (.int r2)] (.int (0 : Int32)) := Arv.set B8 q8 S8 M8 H8 U8 (own_fc lr2) W8 2 rfl (Nat.le_of_ble_eq_true rfl)
  have N8 := Fr.snoc X8 (MC2) (Nat.le_trans Z0 gb)
  have En2 : Ext h0 h8 := own_ext_wr En1 W8 gb
  have sg9 : ∀ target, Steps p.tables e below (T8.setTop (mkF m 215 #[.val (.int (5 : Int32)), .val (.int sel), .val (.int c0), .val (.int c1), .val (.ref a2)] [(.int c1), (.int c0), (.int (3 : Int32)), (.int (3 : Int32)), (.ref a2)])) target → Steps p.tables e below (T8.setTop (mkF m 209 #[.val (.int (5 : Int32)), .val (.int sel), .val (.int c0), .val (.int c1), .val (.ref a2)] [])) target := by
    intro target kt
    show Steps p.tables e below (T8.setTop (mkF m 209 #[.val (.int (5 : Int32)), .val (.int sel), .val (.int c0), .val (.int c1), .val (.ref a2)] [])) _
    refine XS.aload X8.here hx rfl (hb hby dK_209) rfl rfl ?_
    show Steps p.tables e below (T8.setTop (mkF m 211 #[.val (.int (5 : Int32)), .val (.int sel), .val (.int c0), .val (.int c1), .val (.ref a2)] [(.ref a2)])) _
    refine XS.iconst X8.here hx rfl (hb hby dK_211) ?_
    show Steps p.tables e below (T8.setTop (mkF m 212 #[.val (.int (5 : Int32)), .val (.int sel), .val (.int c0), .val (.int c1), .val (.ref a2)] [(.int (3 : Int32)), (.ref a2)])) _
    refine XS.iconst X8.here hx rfl (hb hby dK_212) ?_
    show Steps p.tables e below (T8.setTop (mkF m 213 #[.val (.int (5 : Int32)), .val (.int sel), .val (.int c0), .val (.int c1), .val (.ref a2)] [(.int (3 : Int32)), (.int (3 : Int32)), (.ref a2)])) _
    refine XS.iloadN X8.here hx rfl (hb hby dK_213) rfl ?_
    show Steps p.tables e below (T8.setTop (mkF m 214 #[.val (.int (5 : Int32)), .val (.int sel), .val (.int c0), .val (.int c1), .val (.ref a2)] [(.int c0), (.int (3 : Int32)), (.int (3 : Int32)), (.ref a2)])) _
    refine XS.iloadN X8.here hx rfl (hb hby dK_214) rfl ?_
    show Steps p.tables e below (T8.setTop (mkF m 215 #[.val (.int (5 : Int32)), .val (.int sel), .val (.int c0), .val (.int c1), .val (.ref a2)] [(.int c1), (.int c0), (.int (3 : Int32)), (.int (3 : Int32)), (.ref a2)])) _
    exact kt
  obtain ⟨_, _, ⟨TC3, LC3, kC3, nC3⟩, -, XC3, ⟨LcC3, hQC3, lC3, yC3, zC3⟩, stC3⟩ := Jvm.LawKit.callS X8 hx (y := (⟨"com/example/ombudsign/ombudsign/dss/CertTypeFromValuePinLaw", "drawn", "(III)C"⟩ : MethodName)) hown (mvT hZ (hw _ (List.mem_of_getElem? (i := 50) rfl))) (mvT hZ (hw _ (List.mem_of_getElem? (i := 51) rfl))) (mvT hZ (hw _ (List.mem_of_getElem? (i := 3) rfl))) (mvT hZ (hw _ (List.mem_of_getElem? (i := 52) rfl))) (by decide) (backOf (W := 2) (rmD l Z a0 hw (3 : Int32) c0 c1 h8 n0) hZ (hw _ (List.mem_of_getElem? (i := 52) rfl)) (hw _ (List.mem_of_getElem? (i := 3) rfl)) (by decide) (by decide)) (g := (mkF m 215 #[.val (.int (5 : Int32)), .val (.int sel), .val (.int c0), .val (.int c1), .val (.ref a2)] [(.int c1), (.int c0), (.int (3 : Int32)), (.int (3 : Int32)), (.ref a2)])) rfl (by rw [hml]; rfl) (argsL := [(.int (3 : Int32)), (.int c0), (.int c1)]) (rest := [(.int (3 : Int32)), (.ref a2)]) (lenOf pdD rfl) rfl (by show 2 * 0 + _ ≤ _; exact Nat.le_of_eq rfl) (hb hby dK_215) (fun _ _ => ⟨rfl, e8, Nat.le_of_ble_eq_true rfl, Nat.le_of_ble_eq_true rfl⟩)
  dsimp only [Pt.U, Pt.locs, Pt.cells, Pt.slots] at XC3 lC3 yC3 zC3 stC3 hQC3
  subst lC3 yC3 zC3
  obtain ⟨r3, rfl, lr3, NC3, eC3⟩ := hQC3
  have MC3 := Fr.app (N8) NC3
  have P10 := V8.pad (pad_rep [(.int r0), (.int r1), (.int r2)] (.int (0 : Int32)) 1)
  obtain ⟨c10, B10, q10, S10, M10, H10, U10⟩ := P10
  obtain ⟨T10, h10, X10, e10, W10, st10⟩ := stC XC3 hx hZ eC3 B10 (j := (3 : Int32)) (inb_of S10 ⟨by decide, by decide⟩) (g := (mkF m 218 #[.val (.int (5 : Int32)), .val (.int sel), .val (.int c0), .val (.int c1), .val (.ref a2)] [(.int r3), (.int (3 : Int32)), (.ref a2)])) rfl rfl (hb hby dK_218)
  rw [own_nar lr3] at W10
  have V10 : Arv Z h10 a2 k2 .char (4 : Int32) [(.int r0), (.int r1), (.int r2), (.int r3)] (.int (0 : Int32)) := Arv.set B10 q10 S10 M10 H10 U10 (own_fc lr3) W10 3 rfl (Nat.le_of_ble_eq_true rfl)
  have N10 := Fr.snoc X10 (MC3) (Nat.le_trans Z0 gb)
  have En3 : Ext h0 h10 := own_ext_wr En2 W10 gb
  obtain ⟨T11, h11, X11, e11, E11, A11, D11, -, st11⟩ := newO X10 hx hZ hown (hw _ (List.mem_of_getElem? (i := 53) rfl)) (hw _ (List.mem_of_getElem? (i := 54) rfl)) (hw _ (List.mem_of_getElem? (i := 32) rfl)) e10 (g := (mkF m 219 #[.val (.int (5 : Int32)), .val (.int sel), .val (.int c0), .val (.int c1), .val (.ref a2)] [])) rfl (hb hby dK_219) (by decide) (by decide)
  obtain ⟨a11, g11⟩ : ∃ z, z = h10.size := ⟨_, rfl⟩
  rw [← g11] at A11 D11 st11
  have En : Ext h0 h11 := own_ext_trans En3 E11
  have gx0 : h0.size ≤ a11 := by rw [g11]; exact En3.1
  have gx : n0 ≤ a11 := Nat.le_trans Z0 gx0
  have VV := V10.ext E11
  have sg12 : ∀ target, Steps p.tables e below (T11.setTop (mkF m 225 #[.val (.int (5 : Int32)), .val (.int sel), .val (.int c0), .val (.int c1), .val (.ref a2)] [(.ref a2), (.ref a11), (.ref a11)])) target → Steps p.tables e below (T11.setTop (mkF m 222 #[.val (.int (5 : Int32)), .val (.int sel), .val (.int c0), .val (.int c1), .val (.ref a2)] [(.ref a11)])) target := by
    intro target kt
    show Steps p.tables e below (T11.setTop (mkF m 222 #[.val (.int (5 : Int32)), .val (.int sel), .val (.int c0), .val (.int c1), .val (.ref a2)] [(.ref a11)])) _
    refine XS.dup X11.here hx rfl (hb hby dK_222) rfl rfl ?_
    show Steps p.tables e below (T11.setTop (mkF m 223 #[.val (.int (5 : Int32)), .val (.int sel), .val (.int c0), .val (.int c1), .val (.ref a2)] [(.ref a11), (.ref a11)])) _
    refine XS.aload X11.here hx rfl (hb hby dK_223) rfl rfl ?_
    show Steps p.tables e below (T11.setTop (mkF m 225 #[.val (.int (5 : Int32)), .val (.int sel), .val (.int c0), .val (.int c1), .val (.ref a2)] [(.ref a2), (.ref a11), (.ref a11)])) _
    exact kt
  have Fv : Fld Z h11 a11 "java/lang/String" "value" "[B" .null := D11 (Or.inr (hw _ (List.mem_of_getElem? (i := 80) rfl))) (ty := (.array .byte)) (by decide)
  have Fc : Fld Z h11 a11 "java/lang/String" "coder" "B" (.int (0 : Int32)) := D11 (Or.inr (hw _ (List.mem_of_getElem? (i := 78) rfl))) (ty := .byte) (by decide)
  have Ex : Exa Z h11 a11 "java/lang/String" := A11
  have hp : own_lat [r0, r1, r2, r3] := by
    intro c hc
    simp only [List.mem_cons, List.not_mem_nil, or_false] at hc
    rcases hc with rfl | rfl | rfl | rfl <;> assumption
  obtain ⟨_, _, ⟨TJ9, LJ9, kJ9, nJ9⟩, -, XJ9, ⟨LcJ9, hQJ9, lJ9, yJ9, zJ9⟩, stJ9⟩ := X11.specialBack hx (y := (⟨"java/lang/String", "<init>", "([C)V"⟩ : MethodName)) rfl hown (mvT hZ (hw _ (List.mem_of_getElem? (i := 55) rfl))) (mvT hZ (hw _ (List.mem_of_getElem? (i := 56) rfl))) (mvT hZ (hw _ (List.mem_of_getElem? (i := 57) rfl))) (by decide) (StrChars.Road.backV (W := 1) hZ hws (kI := 4) (hw _ (List.mem_of_getElem? (i := 54) rfl)) (cs := ([r0, r1, r2, r3] : List Int32)) (bs := ([r0, r1, r2, r3] : List Int32).map (fun c => c.toInt8.toInt32)) (n := 4) gx (Nat.le_trans Z0 En.1) Ex Fv Fc VV (O.ext En) hG rfl rfl (by decide) (by decide) hp rfl (by decide) (by decide)) (g := (mkF m 225 #[.val (.int (5 : Int32)), .val (.int sel), .val (.int c0), .val (.int c1), .val (.ref a2)] [(.ref a2), (.ref a11), (.ref a11)])) rfl (by rw [hml]; rfl) (Steps.refl _) (a := a11) (argsL := [(.ref a2)]) (rest := [(.ref a11)]) (lenOf pdE1 rfl) rfl (by show 2 * 0 + _ ≤ _; exact Nat.le_of_eq rfl) (hb hby dK_225) (fun _ _ => ⟨rfl, e11, Nat.le_of_ble_eq_true rfl, Nat.le_of_ble_eq_true rfl⟩)
  dsimp only [Pt.U, Pt.locs, Pt.cells, Pt.slots] at XJ9 lJ9 yJ9 zJ9 stJ9 hQJ9
  subst lJ9 yJ9 zJ9
  obtain ⟨rfl, NJ9, KJ9, gJ9a, gJ9c, tJ9, kbJ9, uJ9, vJ9, wJ9, gJ9v, gJ9b⟩ := hQJ9
  have EJ9 : Ext h0 TJ9.heap := own_ext_keep En KJ9 (allS gx0 all0)
  obtain ⟨fs, hr, hrun, hended, hW⟩ := XJ9.leaveW (n := s.heap.size) hS0 (by rw [hh]; exact EJ9.1) (v := some (.ref a11)) (fun h => by rw [Bd.returns] at h; cases h)
  have RR : CHr Z EL s.vm h0 TJ9.vm TJ9.heap := (CHr.ext EJ9 H0).trans (CHv.at XJ9 hZ hEL (H0.ext EJ9))
  refine ⟨_, _, castTop (efK m 5 sel c0 c1) ?_, hrun, hended, _, _, rfl, ⟨Fr.app (N10) NJ9, EJ9, Or.inr ⟨a11, [r0, r1, r2, r3], rfl, hp, Nat.le_of_ble_eq_true rfl, ⟨gJ9a, gJ9c, tJ9, kbJ9, gJ9v, gJ9b⟩⟩⟩, ?_, own_w hW (by decide) (by decide)⟩
  · show Steps p.tables e below (s₁.setTop (mkF m 0 #[.val (.int (5 : Int32)), .val (.int sel), .val (.int c0), .val (.int c1), .unset] [])) _
    refine sg1 _ ?_
    show Steps p.tables e below (s₁.setTop (mkF m 166 #[.val (.int (5 : Int32)), .val (.int sel), .val (.int c0), .val (.int c1), .unset] [(.int (4 : Int32))])) _
    refine st2 _ ?_
    show Steps p.tables e below (T2.setTop (mkF m 168 #[.val (.int (5 : Int32)), .val (.int sel), .val (.int c0), .val (.int c1), .unset] [(.ref a2)])) _
    refine sg3 _ ?_
    show Steps p.tables e below (T2.setTop (mkF m 179 #[.val (.int (5 : Int32)), .val (.int sel), .val (.int c0), .val (.int c1), .val (.ref a2)] [(.int c1), (.int c0), (.int sel), (.int (80 : Int32)), (.int (0 : Int32)), (.int (0 : Int32)), (.ref a2)])) _
    refine stC0 _ ?_
    show Steps p.tables e below (TC0.setTop (mkF m 182 #[.val (.int (5 : Int32)), .val (.int sel), .val (.int c0), .val (.int c1), .val (.ref a2)] [(.int r0), (.int (0 : Int32)), (.ref a2)])) _
    refine st4 _ ?_
    show Steps p.tables e below (T4.setTop (mkF m 183 #[.val (.int (5 : Int32)), .val (.int sel), .val (.int c0), .val (.int c1), .val (.ref a2)] [])) _
    refine sg5 _ ?_
    show Steps p.tables e below (T4.setTop (mkF m 192 #[.val (.int (5 : Int32)), .val (.int sel), .val (.int c0), .val (.int c1), .val (.ref a2)] [(.int c1), (.int c0), (.int sel), (.int (75 : Int32)), (.int (1 : Int32)), (.int (1 : Int32)), (.ref a2)])) _
    refine stC1 _ ?_
    show Steps p.tables e below (TC1.setTop (mkF m 195 #[.val (.int (5 : Int32)), .val (.int sel), .val (.int c0), .val (.int c1), .val (.ref a2)] [(.int r1), (.int (1 : Int32)), (.ref a2)])) _
    refine st6 _ ?_
    show Steps p.tables e below (T6.setTop (mkF m 196 #[.val (.int (5 : Int32)), .val (.int sel), .val (.int c0), .val (.int c1), .val (.ref a2)] [])) _
    refine sg7 _ ?_
    show Steps p.tables e below (T6.setTop (mkF m 205 #[.val (.int (5 : Int32)), .val (.int sel), .val (.int c0), .val (.int c1), .val (.ref a2)] [(.int c1), (.int c0), (.int sel), (.int (67 : Int32)), (.int (2 : Int32)), (.int (2 : Int32)), (.ref a2)])) _
    refine stC2 _ ?_
    show Steps p.tables e below (TC2.setTop (mkF m 208 #[.val (.int (5 : Int32)), .val (.int sel), .val (.int c0), .val (.int c1), .val (.ref a2)] [(.int r2), (.int (2 : Int32)), (.ref a2)])) _
    refine st8 _ ?_
    show Steps p.tables e below (T8.setTop (mkF m 209 #[.val (.int (5 : Int32)), .val (.int sel), .val (.int c0), .val (.int c1), .val (.ref a2)] [])) _
    refine sg9 _ ?_
    show Steps p.tables e below (T8.setTop (mkF m 215 #[.val (.int (5 : Int32)), .val (.int sel), .val (.int c0), .val (.int c1), .val (.ref a2)] [(.int c1), (.int c0), (.int (3 : Int32)), (.int (3 : Int32)), (.ref a2)])) _
    refine stC3 _ ?_
    show Steps p.tables e below (TC3.setTop (mkF m 218 #[.val (.int (5 : Int32)), .val (.int sel), .val (.int c0), .val (.int c1), .val (.ref a2)] [(.int r3), (.int (3 : Int32)), (.ref a2)])) _
    refine st10 _ ?_
    show Steps p.tables e below (T10.setTop (mkF m 219 #[.val (.int (5 : Int32)), .val (.int sel), .val (.int c0), .val (.int c1), .val (.ref a2)] [])) _
    refine st11 _ ?_
    show Steps p.tables e below (T11.setTop (mkF m 222 #[.val (.int (5 : Int32)), .val (.int sel), .val (.int c0), .val (.int c1), .val (.ref a2)] [(.ref a11)])) _
    refine sg12 _ ?_
    show Steps p.tables e below (T11.setTop (mkF m 225 #[.val (.int (5 : Int32)), .val (.int sel), .val (.int c0), .val (.int c1), .val (.ref a2)] [(.ref a2), (.ref a11), (.ref a11)])) _
    refine stJ9.trans ?_
    show Steps p.tables e below (TJ9.setTop (mkF m 228 #[.val (.int (5 : Int32)), .val (.int sel), .val (.int c0), .val (.int c1), .val (.ref a2)] [(.ref a11)])) _
    exact retOut XJ9 hx (t := .object "java/lang/String") Bd.returns rfl (Or.inr (Or.inr (Or.inr (Or.inr ⟨rfl, rfl, rfl⟩)))) (hb hby dK_228) hr
  · show CHr Z EL s.vm s.heap TJ9.vm TJ9.heap
    rw [hh]; exact RR
set_option maxRecDepth 65536 in
set_option maxHeartbeats 40000000 in
theorem rmK6 (l : Launch) (Z : State) (a0 : Array Value) (hw : ∀ d ∈ tables_1, d.before a0 Z = true) (EL : List (String × Nat)) (hEL : EW Z a0 EL) (hmem : ("java/lang/String", 7) ∈ EL) (sel c0 c1 : Int32) (G : Int32) (h0 : Heap) (n0 : Nat) (Z0 : n0 ≤ h0.size) (O : Sta Z h0 "java/lang/String" "COMPACT_STRINGS" "Z" (.int G)) (hG : ¬ G = 0) :
    MetFree l (⟨"com/example/ombudsign/ombudsign/dss/CertTypeFromValuePinLaw", "make", "(IIII)Ljava/lang/String;"⟩ : MethodName) (head1 [Jvm.Cond.code (⟨"com/example/ombudsign/ombudsign/dss/CertTypeFromValuePinLaw", "make", "(IIII)Ljava/lang/String;"⟩ : MethodName) method_5_code 5 (some (.object "java/lang/String"))] ({ frames := 4, cells := 4, slots := 20, locals := 66 } : Room)) (fun q_ U => q_ = #[(.int (6 : Int32)), (.int sel), (.int c0), (.int c1)] ∧ Z.Warmed39 U.vm ∧ U.heap = h0 ∧ CHv Z EL U.vm h0) (fun _ _ _ _ _ => True) (fun _ U o U' => ∃ v L, o = .returned v ∧ own_QK Z h0 n0 v U'.heap L ∧ CHr Z EL U.vm U.heap U'.vm U'.heap ∧ ReturnedEndW U o U' L ({ frames := 4, cells := 4, slots := 20, locals := 66 } : Room).cells ({ frames := 4, cells := 4, slots := 20, locals := 66 } : Room).slots) := by
  refine MetFree.of_bodySF (plainFor_of_name pn_L) hisR ?_
  intro p e s m args below meth c s₁ Bd hml0 hP hK
  obtain ⟨rfl, hZ, hh, H0⟩ := hP
  have hx := Bd.exec
  have hby := Bd.bytes
  have hml : c.maxLocals = 5 := hml0
  have hown : s.vm.findClass "com/example/ombudsign/ombudsign/dss/CertTypeFromValuePinLaw" = some m.cls := findClass_of_methodNamed Bd.named
  have hnm := (name_of_methodNamed Bd.named Bd.method).1
  have X0 : Stand p l e ({ frames := 4, cells := 4, slots := 20, locals := 66 } : Room) (s.setVm s.vm) m #[(.int (6 : Int32)), (.int sel), (.int c0), (.int c1)] below meth c s₁ [] 0 0 := Stand.of_body Bd
  have e0 : s₁.heap = h0 := by rw [← hh, Bd.state]; rfl
  have hS0 : s.Since s.vm s.heap.size := (State.WarmedH.refl s).since _
  have hws : ∀ d ∈ StrChars.Road.words, d.before a0 Z = true := fun d hd => hw d (own_hws d hd)
  have sg1 : ∀ target, Steps p.tables e below (s₁.setTop (mkF m 237 #[.val (.int (6 : Int32)), .val (.int sel), .val (.int c0), .val (.int c1), .unset] [(.int (6 : Int32))])) target → Steps p.tables e below (s₁.setTop (mkF m 0 #[.val (.int (6 : Int32)), .val (.int sel), .val (.int c0), .val (.int c1), .unset] [])) target := by
    intro target kt
    show Steps p.tables e below (s₁.setTop (mkF m 0 #[.val (.int (6 : Int32)), .val (.int sel), .val (.int c0), .val (.int c1), .unset] [])) _
    refine XS.iloadN X0.here hx rfl (hb hby dK_0) rfl ?_
    show Steps p.tables e below (s₁.setTop (mkF m 1 #[.val (.int (6 : Int32)), .val (.int sel), .val (.int c0), .val (.int c1), .unset] [(.int (6 : Int32))])) _
    refine XS.ifYes X0.here hx rfl (pc0 := 1) (pc' := 6) rfl (hb hby dK_1) rfl (by decide) (by decide) (by decide) ?_
    show Steps p.tables e below (s₁.setTop (mkF m 6 #[.val (.int (6 : Int32)), .val (.int sel), .val (.int c0), .val (.int c1), .unset] [])) _
    refine XS.iloadN X0.here hx rfl (hb hby dK_6) rfl ?_
    show Steps p.tables e below (s₁.setTop (mkF m 7 #[.val (.int (6 : Int32)), .val (.int sel), .val (.int c0), .val (.int c1), .unset] [(.int (6 : Int32))])) _
    refine XS.iconst X0.here hx rfl (hb hby dK_7) ?_
    show Steps p.tables e below (s₁.setTop (mkF m 8 #[.val (.int (6 : Int32)), .val (.int sel), .val (.int c0), .val (.int c1), .unset] [(.int (1 : Int32)), (.int (6 : Int32))])) _
    refine XS.icmpYes X0.here hx rfl (pc0 := 8) (pc' := 22) rfl (hb hby dK_8) rfl (by decide) (by decide) (by decide) ?_
    show Steps p.tables e below (s₁.setTop (mkF m 22 #[.val (.int (6 : Int32)), .val (.int sel), .val (.int c0), .val (.int c1), .unset] [])) _
    refine XS.iloadN X0.here hx rfl (hb hby dK_22) rfl ?_
    show Steps p.tables e below (s₁.setTop (mkF m 23 #[.val (.int (6 : Int32)), .val (.int sel), .val (.int c0), .val (.int c1), .unset] [(.int (6 : Int32))])) _
    refine XS.iconst X0.here hx rfl (hb hby dK_23) ?_
    show Steps p.tables e below (s₁.setTop (mkF m 24 #[.val (.int (6 : Int32)), .val (.int sel), .val (.int c0), .val (.int c1), .unset] [(.int (2 : Int32)), (.int (6 : Int32))])) _
    refine XS.icmpYes X0.here hx rfl (pc0 := 24) (pc' := 55) rfl (hb hby dK_24) rfl (by decide) (by decide) (by decide) ?_
    show Steps p.tables e below (s₁.setTop (mkF m 55 #[.val (.int (6 : Int32)), .val (.int sel), .val (.int c0), .val (.int c1), .unset] [])) _
    refine XS.iloadN X0.here hx rfl (hb hby dK_55) rfl ?_
    show Steps p.tables e below (s₁.setTop (mkF m 56 #[.val (.int (6 : Int32)), .val (.int sel), .val (.int c0), .val (.int c1), .unset] [(.int (6 : Int32))])) _
    refine XS.iconst X0.here hx rfl (hb hby dK_56) ?_
    show Steps p.tables e below (s₁.setTop (mkF m 57 #[.val (.int (6 : Int32)), .val (.int sel), .val (.int c0), .val (.int c1), .unset] [(.int (3 : Int32)), (.int (6 : Int32))])) _
    refine XS.icmpYes X0.here hx rfl (pc0 := 57) (pc' := 101) rfl (hb hby dK_57) rfl (by decide) (by decide) (by decide) ?_
    show Steps p.tables e below (s₁.setTop (mkF m 101 #[.val (.int (6 : Int32)), .val (.int sel), .val (.int c0), .val (.int c1), .unset] [])) _
    refine XS.iloadN X0.here hx rfl (hb hby dK_101) rfl ?_
    show Steps p.tables e below (s₁.setTop (mkF m 102 #[.val (.int (6 : Int32)), .val (.int sel), .val (.int c0), .val (.int c1), .unset] [(.int (6 : Int32))])) _
    refine XS.iconst X0.here hx rfl (hb hby dK_102) ?_
    show Steps p.tables e below (s₁.setTop (mkF m 103 #[.val (.int (6 : Int32)), .val (.int sel), .val (.int c0), .val (.int c1), .unset] [(.int (4 : Int32)), (.int (6 : Int32))])) _
    refine XS.icmpYes X0.here hx rfl (pc0 := 103) (pc' := 160) rfl (hb hby dK_103) rfl (by decide) (by decide) (by decide) ?_
    show Steps p.tables e below (s₁.setTop (mkF m 160 #[.val (.int (6 : Int32)), .val (.int sel), .val (.int c0), .val (.int c1), .unset] [])) _
    refine XS.iloadN X0.here hx rfl (hb hby dK_160) rfl ?_
    show Steps p.tables e below (s₁.setTop (mkF m 161 #[.val (.int (6 : Int32)), .val (.int sel), .val (.int c0), .val (.int c1), .unset] [(.int (6 : Int32))])) _
    refine XS.iconst X0.here hx rfl (hb hby dK_161) ?_
    show Steps p.tables e below (s₁.setTop (mkF m 162 #[.val (.int (6 : Int32)), .val (.int sel), .val (.int c0), .val (.int c1), .unset] [(.int (5 : Int32)), (.int (6 : Int32))])) _
    refine XS.icmpYes X0.here hx rfl (pc0 := 162) (pc' := 229) rfl (hb hby dK_162) rfl (by decide) (by decide) (by decide) ?_
    show Steps p.tables e below (s₁.setTop (mkF m 229 #[.val (.int (6 : Int32)), .val (.int sel), .val (.int c0), .val (.int c1), .unset] [])) _
    refine XS.iloadN X0.here hx rfl (hb hby dK_229) rfl ?_
    show Steps p.tables e below (s₁.setTop (mkF m 230 #[.val (.int (6 : Int32)), .val (.int sel), .val (.int c0), .val (.int c1), .unset] [(.int (6 : Int32))])) _
    refine XS.bipush X0.here hx rfl (hb hby dK_230) ?_
    show Steps p.tables e below (s₁.setTop (mkF m 232 #[.val (.int (6 : Int32)), .val (.int sel), .val (.int c0), .val (.int c1), .unset] [(.int (6 : Int32)), (.int (6 : Int32))])) _
    refine XS.icmpNo X0.here hx rfl (hb hby dK_232) rfl (by decide) ?_
    show Steps p.tables e below (s₁.setTop (mkF m 235 #[.val (.int (6 : Int32)), .val (.int sel), .val (.int c0), .val (.int c1), .unset] [])) _
    refine XS.bipush X0.here hx rfl (hb hby dK_235) ?_
    show Steps p.tables e below (s₁.setTop (mkF m 237 #[.val (.int (6 : Int32)), .val (.int sel), .val (.int c0), .val (.int c1), .unset] [(.int (6 : Int32))])) _
    exact kt
  obtain ⟨T2, h2, k2, X2, e2, E2, A2, st2⟩ := newP X0 hx hZ (hw _ (List.mem_of_getElem? (i := 46) rfl)) e0 (g := (mkF m 237 #[.val (.int (6 : Int32)), .val (.int sel), .val (.int c0), .val (.int c1), .unset] [(.int (6 : Int32))])) rfl (hb hby dK_237) rfl (by decide) (cap := 6) (by decide) (by decide) (by decide) (by decide)
  obtain ⟨a2, g2⟩ : ∃ z, z = h0.size := ⟨_, rfl⟩
  rw [← g2] at A2 st2
  have gb : h0.size ≤ a2 := by rw [g2]; exact Nat.le_refl _
  have V2 : Arv Z h2 a2 k2 .char (6 : Int32) [] (.int (0 : Int32)) := Arv.new A2 (by decide)
  have sg3 : ∀ target, Steps p.tables e below (T2.setTop (mkF m 250 #[.val (.int (6 : Int32)), .val (.int sel), .val (.int c0), .val (.int c1), .val (.ref a2)] [(.int c1), (.int c0), (.int sel), (.int (81 : Int32)), (.int (0 : Int32)), (.int (0 : Int32)), (.ref a2)])) target → Steps p.tables e below (T2.setTop (mkF m 239 #[.val (.int (6 : Int32)), .val (.int sel), .val (.int c0), .val (.int c1), .unset] [(.ref a2)])) target := by
    intro target kt
    show Steps p.tables e below (T2.setTop (mkF m 239 #[.val (.int (6 : Int32)), .val (.int sel), .val (.int c0), .val (.int c1), .unset] [(.ref a2)])) _
    refine XS.astore X2.here hx rfl (hb hby dK_239) rfl rfl (l' := #[.val (.int (6 : Int32)), .val (.int sel), .val (.int c0), .val (.int c1), .val (.ref a2)]) rfl ?_
    show Steps p.tables e below (T2.setTop (mkF m 241 #[.val (.int (6 : Int32)), .val (.int sel), .val (.int c0), .val (.int c1), .val (.ref a2)] [])) _
    refine XS.aload X2.here hx rfl (hb hby dK_241) rfl rfl ?_
    show Steps p.tables e below (T2.setTop (mkF m 243 #[.val (.int (6 : Int32)), .val (.int sel), .val (.int c0), .val (.int c1), .val (.ref a2)] [(.ref a2)])) _
    refine XS.iconst X2.here hx rfl (hb hby dK_243) ?_
    show Steps p.tables e below (T2.setTop (mkF m 244 #[.val (.int (6 : Int32)), .val (.int sel), .val (.int c0), .val (.int c1), .val (.ref a2)] [(.int (0 : Int32)), (.ref a2)])) _
    refine XS.iconst X2.here hx rfl (hb hby dK_244) ?_
    show Steps p.tables e below (T2.setTop (mkF m 245 #[.val (.int (6 : Int32)), .val (.int sel), .val (.int c0), .val (.int c1), .val (.ref a2)] [(.int (0 : Int32)), (.int (0 : Int32)), (.ref a2)])) _
    refine XS.bipush X2.here hx rfl (hb hby dK_245) ?_
    show Steps p.tables e below (T2.setTop (mkF m 247 #[.val (.int (6 : Int32)), .val (.int sel), .val (.int c0), .val (.int c1), .val (.ref a2)] [(.int (81 : Int32)), (.int (0 : Int32)), (.int (0 : Int32)), (.ref a2)])) _
    refine XS.iloadN X2.here hx rfl (hb hby dK_247) rfl ?_
    show Steps p.tables e below (T2.setTop (mkF m 248 #[.val (.int (6 : Int32)), .val (.int sel), .val (.int c0), .val (.int c1), .val (.ref a2)] [(.int sel), (.int (81 : Int32)), (.int (0 : Int32)), (.int (0 : Int32)), (.ref a2)])) _
    refine XS.iloadN X2.here hx rfl (hb hby dK_248) rfl ?_
    show Steps p.tables e below (T2.setTop (mkF m 249 #[.val (.int (6 : Int32)), .val (.int sel), .val (.int c0), .val (.int c1), .val (.ref a2)] [(.int c0), (.int sel), (.int (81 : Int32)), (.int (0 : Int32)), (.int (0 : Int32)), (.ref a2)])) _
    refine XS.iloadN X2.here hx rfl (hb hby dK_249) rfl ?_
    show Steps p.tables e below (T2.setTop (mkF m 250 #[.val (.int (6 : Int32)), .val (.int sel), .val (.int c0), .val (.int c1), .val (.ref a2)] [(.int c1), (.int c0), (.int sel), (.int (81 : Int32)), (.int (0 : Int32)), (.int (0 : Int32)), (.ref a2)])) _
    exact kt
  obtain ⟨_, _, ⟨TC0, LC0, kC0, nC0⟩, -, XC0, ⟨LcC0, hQC0, lC0, yC0, zC0⟩, stC0⟩ := Jvm.LawKit.callS X2 hx (y := (⟨"com/example/ombudsign/ombudsign/dss/CertTypeFromValuePinLaw", "ch", "(ICIII)C"⟩ : MethodName)) hown (mvT hZ (hw _ (List.mem_of_getElem? (i := 47) rfl))) (mvT hZ (hw _ (List.mem_of_getElem? (i := 48) rfl))) (mvT hZ (hw _ (List.mem_of_getElem? (i := 3) rfl))) (mvT hZ (hw _ (List.mem_of_getElem? (i := 49) rfl))) (by decide) (backOf (W := 2) (rmC l Z a0 hw (0 : Int32) (81 : Int32) sel c0 c1 (by decide) h2 n0) hZ (hw _ (List.mem_of_getElem? (i := 49) rfl)) (hw _ (List.mem_of_getElem? (i := 3) rfl)) (by decide) (by decide)) (g := (mkF m 250 #[.val (.int (6 : Int32)), .val (.int sel), .val (.int c0), .val (.int c1), .val (.ref a2)] [(.int c1), (.int c0), (.int sel), (.int (81 : Int32)), (.int (0 : Int32)), (.int (0 : Int32)), (.ref a2)])) rfl (by rw [hml]; rfl) (argsL := [(.int (0 : Int32)), (.int (81 : Int32)), (.int sel), (.int c0), (.int c1)]) (rest := [(.int (0 : Int32)), (.ref a2)]) (lenOf pdC rfl) rfl (by show 2 * 0 + _ ≤ _; exact Nat.le_of_eq rfl) (hb hby dK_250) (fun _ _ => ⟨rfl, e2, Nat.le_of_ble_eq_true rfl, Nat.le_of_ble_eq_true rfl⟩)
  dsimp only [Pt.U, Pt.locs, Pt.cells, Pt.slots] at XC0 lC0 yC0 zC0 stC0 hQC0
  subst lC0 yC0 zC0
  obtain ⟨r0, rfl, lr0, NC0, eC0⟩ := hQC0
  have MC0 := Fr.app (Fr.nil n0) NC0
  have P4 := V2.pad (pad_rep [] (.int (0 : Int32)) 1)
  obtain ⟨c4, B4, q4, S4, M4, H4, U4⟩ := P4
  obtain ⟨T4, h4, X4, e4, W4, st4⟩ := stC XC0 hx hZ eC0 B4 (j := (0 : Int32)) (inb_of S4 ⟨by decide, by decide⟩) (g := (mkF m 253 #[.val (.int (6 : Int32)), .val (.int sel), .val (.int c0), .val (.int c1), .val (.ref a2)] [(.int r0), (.int (0 : Int32)), (.ref a2)])) rfl rfl (hb hby dK_253)
  rw [own_nar lr0] at W4
  have V4 : Arv Z h4 a2 k2 .char (6 : Int32) [(.int r0)] (.int (0 : Int32)) := Arv.set B4 q4 S4 M4 H4 U4 (own_fc lr0) W4 0 rfl (Nat.le_of_ble_eq_true rfl)
  have N4 := Fr.snoc X4 (MC0) (Nat.le_trans Z0 gb)
  have En0 : Ext h0 h4 := own_ext_wr E2 W4 gb
  have sg5 : ∀ target, Steps p.tables e below (T4.setTop (mkF m 263 #[.val (.int (6 : Int32)), .val (.int sel), .val (.int c0), .val (.int c1), .val (.ref a2)] [(.int c1), (.int c0), (.int sel), (.int (67 : Int32)), (.int (1 : Int32)), (.int (1 : Int32)), (.ref a2)])) target → Steps p.tables e below (T4.setTop (mkF m 254 #[.val (.int (6 : Int32)), .val (.int sel), .val (.int c0), .val (.int c1), .val (.ref a2)] [])) target := by
    intro target kt
    show Steps p.tables e below (T4.setTop (mkF m 254 #[.val (.int (6 : Int32)), .val (.int sel), .val (.int c0), .val (.int c1), .val (.ref a2)] [])) _
    refine XS.aload X4.here hx rfl (hb hby dK_254) rfl rfl ?_
    show Steps p.tables e below (T4.setTop (mkF m 256 #[.val (.int (6 : Int32)), .val (.int sel), .val (.int c0), .val (.int c1), .val (.ref a2)] [(.ref a2)])) _
    refine XS.iconst X4.here hx rfl (hb hby dK_256) ?_
    show Steps p.tables e below (T4.setTop (mkF m 257 #[.val (.int (6 : Int32)), .val (.int sel), .val (.int c0), .val (.int c1), .val (.ref a2)] [(.int (1 : Int32)), (.ref a2)])) _
    refine XS.iconst X4.here hx rfl (hb hby dK_257) ?_
    show Steps p.tables e below (T4.setTop (mkF m 258 #[.val (.int (6 : Int32)), .val (.int sel), .val (.int c0), .val (.int c1), .val (.ref a2)] [(.int (1 : Int32)), (.int (1 : Int32)), (.ref a2)])) _
    refine XS.bipush X4.here hx rfl (hb hby dK_258) ?_
    show Steps p.tables e below (T4.setTop (mkF m 260 #[.val (.int (6 : Int32)), .val (.int sel), .val (.int c0), .val (.int c1), .val (.ref a2)] [(.int (67 : Int32)), (.int (1 : Int32)), (.int (1 : Int32)), (.ref a2)])) _
    refine XS.iloadN X4.here hx rfl (hb hby dK_260) rfl ?_
    show Steps p.tables e below (T4.setTop (mkF m 261 #[.val (.int (6 : Int32)), .val (.int sel), .val (.int c0), .val (.int c1), .val (.ref a2)] [(.int sel), (.int (67 : Int32)), (.int (1 : Int32)), (.int (1 : Int32)), (.ref a2)])) _
    refine XS.iloadN X4.here hx rfl (hb hby dK_261) rfl ?_
    show Steps p.tables e below (T4.setTop (mkF m 262 #[.val (.int (6 : Int32)), .val (.int sel), .val (.int c0), .val (.int c1), .val (.ref a2)] [(.int c0), (.int sel), (.int (67 : Int32)), (.int (1 : Int32)), (.int (1 : Int32)), (.ref a2)])) _
    refine XS.iloadN X4.here hx rfl (hb hby dK_262) rfl ?_
    show Steps p.tables e below (T4.setTop (mkF m 263 #[.val (.int (6 : Int32)), .val (.int sel), .val (.int c0), .val (.int c1), .val (.ref a2)] [(.int c1), (.int c0), (.int sel), (.int (67 : Int32)), (.int (1 : Int32)), (.int (1 : Int32)), (.ref a2)])) _
    exact kt
  obtain ⟨_, _, ⟨TC1, LC1, kC1, nC1⟩, -, XC1, ⟨LcC1, hQC1, lC1, yC1, zC1⟩, stC1⟩ := Jvm.LawKit.callS X4 hx (y := (⟨"com/example/ombudsign/ombudsign/dss/CertTypeFromValuePinLaw", "ch", "(ICIII)C"⟩ : MethodName)) hown (mvT hZ (hw _ (List.mem_of_getElem? (i := 47) rfl))) (mvT hZ (hw _ (List.mem_of_getElem? (i := 48) rfl))) (mvT hZ (hw _ (List.mem_of_getElem? (i := 3) rfl))) (mvT hZ (hw _ (List.mem_of_getElem? (i := 49) rfl))) (by decide) (backOf (W := 2) (rmC l Z a0 hw (1 : Int32) (67 : Int32) sel c0 c1 (by decide) h4 n0) hZ (hw _ (List.mem_of_getElem? (i := 49) rfl)) (hw _ (List.mem_of_getElem? (i := 3) rfl)) (by decide) (by decide)) (g := (mkF m 263 #[.val (.int (6 : Int32)), .val (.int sel), .val (.int c0), .val (.int c1), .val (.ref a2)] [(.int c1), (.int c0), (.int sel), (.int (67 : Int32)), (.int (1 : Int32)), (.int (1 : Int32)), (.ref a2)])) rfl (by rw [hml]; rfl) (argsL := [(.int (1 : Int32)), (.int (67 : Int32)), (.int sel), (.int c0), (.int c1)]) (rest := [(.int (1 : Int32)), (.ref a2)]) (lenOf pdC rfl) rfl (by show 2 * 0 + _ ≤ _; exact Nat.le_of_eq rfl) (hb hby dK_263) (fun _ _ => ⟨rfl, e4, Nat.le_of_ble_eq_true rfl, Nat.le_of_ble_eq_true rfl⟩)
  dsimp only [Pt.U, Pt.locs, Pt.cells, Pt.slots] at XC1 lC1 yC1 zC1 stC1 hQC1
  subst lC1 yC1 zC1
  obtain ⟨r1, rfl, lr1, NC1, eC1⟩ := hQC1
  have MC1 := Fr.app (N4) NC1
  have P6 := V4.pad (pad_rep [(.int r0)] (.int (0 : Int32)) 1)
  obtain ⟨c6, B6, q6, S6, M6, H6, U6⟩ := P6
  obtain ⟨T6, h6, X6, e6, W6, st6⟩ := stC XC1 hx hZ eC1 B6 (j := (1 : Int32)) (inb_of S6 ⟨by decide, by decide⟩) (g := (mkF m 266 #[.val (.int (6 : Int32)), .val (.int sel), .val (.int c0), .val (.int c1), .val (.ref a2)] [(.int r1), (.int (1 : Int32)), (.ref a2)])) rfl rfl (hb hby dK_266)
  rw [own_nar lr1] at W6
  have V6 : Arv Z h6 a2 k2 .char (6 : Int32) [(.int r0), (.int r1)] (.int (0 : Int32)) := Arv.set B6 q6 S6 M6 H6 U6 (own_fc lr1) W6 1 rfl (Nat.le_of_ble_eq_true rfl)
  have N6 := Fr.snoc X6 (MC1) (Nat.le_trans Z0 gb)
  have En1 : Ext h0 h6 := own_ext_wr En0 W6 gb
  have sg7 : ∀ target, Steps p.tables e below (T6.setTop (mkF m 276 #[.val (.int (6 : Int32)), .val (.int sel), .val (.int c0), .val (.int c1), .val (.ref a2)] [(.int c1), (.int c0), (.int sel), (.int (47 : Int32)), (.int (2 : Int32)), (.int (2 : Int32)), (.ref a2)])) target → Steps p.tables e below (T6.setTop (mkF m 267 #[.val (.int (6 : Int32)), .val (.int sel), .val (.int c0), .val (.int c1), .val (.ref a2)] [])) target := by
    intro target kt
    show Steps p.tables e below (T6.setTop (mkF m 267 #[.val (.int (6 : Int32)), .val (.int sel), .val (.int c0), .val (.int c1), .val (.ref a2)] [])) _
    refine XS.aload X6.here hx rfl (hb hby dK_267) rfl rfl ?_
    show Steps p.tables e below (T6.setTop (mkF m 269 #[.val (.int (6 : Int32)), .val (.int sel), .val (.int c0), .val (.int c1), .val (.ref a2)] [(.ref a2)])) _
    refine XS.iconst X6.here hx rfl (hb hby dK_269) ?_
    show Steps p.tables e below (T6.setTop (mkF m 270 #[.val (.int (6 : Int32)), .val (.int sel), .val (.int c0), .val (.int c1), .val (.ref a2)] [(.int (2 : Int32)), (.ref a2)])) _
    refine XS.iconst X6.here hx rfl (hb hby dK_270) ?_
    show Steps p.tables e below (T6.setTop (mkF m 271 #[.val (.int (6 : Int32)), .val (.int sel), .val (.int c0), .val (.int c1), .val (.ref a2)] [(.int (2 : Int32)), (.int (2 : Int32)), (.ref a2)])) _
    refine XS.bipush X6.here hx rfl (hb hby dK_271) ?_
    show Steps p.tables e below (T6.setTop (mkF m 273 #[.val (.int (6 : Int32)), .val (.int sel), .val (.int c0), .val (.int c1), .val (.ref a2)] [(.int (47 : Int32)), (.int (2 : Int32)), (.int (2 : Int32)), (.ref a2)])) _
    refine XS.iloadN X6.here hx rfl (hb hby dK_273) rfl ?_
    show Steps p.tables e below (T6.setTop (mkF m 274 #[.val (.int (6 : Int32)), .val (.int sel), .val (.int c0), .val (.int c1), .val (.ref a2)] [(.int sel), (.int (47 : Int32)), (.int (2 : Int32)), (.int (2 : Int32)), (.ref a2)])) _
    refine XS.iloadN X6.here hx rfl (hb hby dK_274) rfl ?_
    show Steps p.tables e below (T6.setTop (mkF m 275 #[.val (.int (6 : Int32)), .val (.int sel), .val (.int c0), .val (.int c1), .val (.ref a2)] [(.int c0), (.int sel), (.int (47 : Int32)), (.int (2 : Int32)), (.int (2 : Int32)), (.ref a2)])) _
    refine XS.iloadN X6.here hx rfl (hb hby dK_275) rfl ?_
    show Steps p.tables e below (T6.setTop (mkF m 276 #[.val (.int (6 : Int32)), .val (.int sel), .val (.int c0), .val (.int c1), .val (.ref a2)] [(.int c1), (.int c0), (.int sel), (.int (47 : Int32)), (.int (2 : Int32)), (.int (2 : Int32)), (.ref a2)])) _
    exact kt
  obtain ⟨_, _, ⟨TC2, LC2, kC2, nC2⟩, -, XC2, ⟨LcC2, hQC2, lC2, yC2, zC2⟩, stC2⟩ := Jvm.LawKit.callS X6 hx (y := (⟨"com/example/ombudsign/ombudsign/dss/CertTypeFromValuePinLaw", "ch", "(ICIII)C"⟩ : MethodName)) hown (mvT hZ (hw _ (List.mem_of_getElem? (i := 47) rfl))) (mvT hZ (hw _ (List.mem_of_getElem? (i := 48) rfl))) (mvT hZ (hw _ (List.mem_of_getElem? (i := 3) rfl))) (mvT hZ (hw _ (List.mem_of_getElem? (i := 49) rfl))) (by decide) (backOf (W := 2) (rmC l Z a0 hw (2 : Int32) (47 : Int32) sel c0 c1 (by decide) h6 n0) hZ (hw _ (List.mem_of_getElem? (i := 49) rfl)) (hw _ (List.mem_of_getElem? (i := 3) rfl)) (by decide) (by decide)) (g := (mkF m 276 #[.val (.int (6 : Int32)), .val (.int sel), .val (.int c0), .val (.int c1), .val (.ref a2)] [(.int c1), (.int c0), (.int sel), (.int (47 : Int32)), (.int (2 : Int32)), (.int (2 : Int32)), (.ref a2)])) rfl (by rw [hml]; rfl) (argsL := [(.int (2 : Int32)), (.int (47 : Int32)), (.int sel), (.int c0), (.int c1)]) (rest := [(.int (2 : Int32)), (.ref a2)]) (lenOf pdC rfl) rfl (by show 2 * 0 + _ ≤ _; exact Nat.le_of_eq rfl) (hb hby dK_276) (fun _ _ => ⟨rfl, e6, Nat.le_of_ble_eq_true rfl, Nat.le_of_ble_eq_true rfl⟩)
  dsimp only [Pt.U, Pt.locs, Pt.cells, Pt.slots] at XC2 lC2 yC2 zC2 stC2 hQC2
  subst lC2 yC2 zC2
  obtain ⟨r2, rfl, lr2, NC2, eC2⟩ := hQC2
  have MC2 := Fr.app (N6) NC2
  have P8 := V6.pad (pad_rep [(.int r0), (.int r1)] (.int (0 : Int32)) 1)
  obtain ⟨c8, B8, q8, S8, M8, H8, U8⟩ := P8
  obtain ⟨T8, h8, X8, e8, W8, st8⟩ := stC XC2 hx hZ eC2 B8 (j := (2 : Int32)) (inb_of S8 ⟨by decide, by decide⟩) (g := (mkF m 279 #[.val (.int (6 : Int32)), .val (.int sel), .val (.int c0), .val (.int c1), .val (.ref a2)] [(.int r2), (.int (2 : Int32)), (.ref a2)])) rfl rfl (hb hby dK_279)
  rw [own_nar lr2] at W8
  have V8 : Arv Z h8 a2 k2 .char (6 : Int32) [(.int r0), (.int r1), (.int r2)] (.int (0 : Int32)) := Arv.set B8 q8 S8 M8 H8 U8 (own_fc lr2) W8 2 rfl (Nat.le_of_ble_eq_true rfl)
  have N8 := Fr.snoc X8 (MC2) (Nat.le_trans Z0 gb)
  have En2 : Ext h0 h8 := own_ext_wr En1 W8 gb
  have sg9 : ∀ target, Steps p.tables e below (T8.setTop (mkF m 289 #[.val (.int (6 : Int32)), .val (.int sel), .val (.int c0), .val (.int c1), .val (.ref a2)] [(.int c1), (.int c0), (.int sel), (.int (83 : Int32)), (.int (3 : Int32)), (.int (3 : Int32)), (.ref a2)])) target → Steps p.tables e below (T8.setTop (mkF m 280 #[.val (.int (6 : Int32)), .val (.int sel), .val (.int c0), .val (.int c1), .val (.ref a2)] [])) target := by
    intro target kt
    show Steps p.tables e below (T8.setTop (mkF m 280 #[.val (.int (6 : Int32)), .val (.int sel), .val (.int c0), .val (.int c1), .val (.ref a2)] [])) _
    refine XS.aload X8.here hx rfl (hb hby dK_280) rfl rfl ?_
    show Steps p.tables e below (T8.setTop (mkF m 282 #[.val (.int (6 : Int32)), .val (.int sel), .val (.int c0), .val (.int c1), .val (.ref a2)] [(.ref a2)])) _
    refine XS.iconst X8.here hx rfl (hb hby dK_282) ?_
    show Steps p.tables e below (T8.setTop (mkF m 283 #[.val (.int (6 : Int32)), .val (.int sel), .val (.int c0), .val (.int c1), .val (.ref a2)] [(.int (3 : Int32)), (.ref a2)])) _
    refine XS.iconst X8.here hx rfl (hb hby dK_283) ?_
    show Steps p.tables e below (T8.setTop (mkF m 284 #[.val (.int (6 : Int32)), .val (.int sel), .val (.int c0), .val (.int c1), .val (.ref a2)] [(.int (3 : Int32)), (.int (3 : Int32)), (.ref a2)])) _
    refine XS.bipush X8.here hx rfl (hb hby dK_284) ?_
    show Steps p.tables e below (T8.setTop (mkF m 286 #[.val (.int (6 : Int32)), .val (.int sel), .val (.int c0), .val (.int c1), .val (.ref a2)] [(.int (83 : Int32)), (.int (3 : Int32)), (.int (3 : Int32)), (.ref a2)])) _
    refine XS.iloadN X8.here hx rfl (hb hby dK_286) rfl ?_
    show Steps p.tables e below (T8.setTop (mkF m 287 #[.val (.int (6 : Int32)), .val (.int sel), .val (.int c0), .val (.int c1), .val (.ref a2)] [(.int sel), (.int (83 : Int32)), (.int (3 : Int32)), (.int (3 : Int32)), (.ref a2)])) _
    refine XS.iloadN X8.here hx rfl (hb hby dK_287) rfl ?_
    show Steps p.tables e below (T8.setTop (mkF m 288 #[.val (.int (6 : Int32)), .val (.int sel), .val (.int c0), .val (.int c1), .val (.ref a2)] [(.int c0), (.int sel), (.int (83 : Int32)), (.int (3 : Int32)), (.int (3 : Int32)), (.ref a2)])) _
    refine XS.iloadN X8.here hx rfl (hb hby dK_288) rfl ?_
    show Steps p.tables e below (T8.setTop (mkF m 289 #[.val (.int (6 : Int32)), .val (.int sel), .val (.int c0), .val (.int c1), .val (.ref a2)] [(.int c1), (.int c0), (.int sel), (.int (83 : Int32)), (.int (3 : Int32)), (.int (3 : Int32)), (.ref a2)])) _
    exact kt
  obtain ⟨_, _, ⟨TC3, LC3, kC3, nC3⟩, -, XC3, ⟨LcC3, hQC3, lC3, yC3, zC3⟩, stC3⟩ := Jvm.LawKit.callS X8 hx (y := (⟨"com/example/ombudsign/ombudsign/dss/CertTypeFromValuePinLaw", "ch", "(ICIII)C"⟩ : MethodName)) hown (mvT hZ (hw _ (List.mem_of_getElem? (i := 47) rfl))) (mvT hZ (hw _ (List.mem_of_getElem? (i := 48) rfl))) (mvT hZ (hw _ (List.mem_of_getElem? (i := 3) rfl))) (mvT hZ (hw _ (List.mem_of_getElem? (i := 49) rfl))) (by decide) (backOf (W := 2) (rmC l Z a0 hw (3 : Int32) (83 : Int32) sel c0 c1 (by decide) h8 n0) hZ (hw _ (List.mem_of_getElem? (i := 49) rfl)) (hw _ (List.mem_of_getElem? (i := 3) rfl)) (by decide) (by decide)) (g := (mkF m 289 #[.val (.int (6 : Int32)), .val (.int sel), .val (.int c0), .val (.int c1), .val (.ref a2)] [(.int c1), (.int c0), (.int sel), (.int (83 : Int32)), (.int (3 : Int32)), (.int (3 : Int32)), (.ref a2)])) rfl (by rw [hml]; rfl) (argsL := [(.int (3 : Int32)), (.int (83 : Int32)), (.int sel), (.int c0), (.int c1)]) (rest := [(.int (3 : Int32)), (.ref a2)]) (lenOf pdC rfl) rfl (by show 2 * 0 + _ ≤ _; exact Nat.le_of_eq rfl) (hb hby dK_289) (fun _ _ => ⟨rfl, e8, Nat.le_of_ble_eq_true rfl, Nat.le_of_ble_eq_true rfl⟩)
  dsimp only [Pt.U, Pt.locs, Pt.cells, Pt.slots] at XC3 lC3 yC3 zC3 stC3 hQC3
  subst lC3 yC3 zC3
  obtain ⟨r3, rfl, lr3, NC3, eC3⟩ := hQC3
  have MC3 := Fr.app (N8) NC3
  have P10 := V8.pad (pad_rep [(.int r0), (.int r1), (.int r2)] (.int (0 : Int32)) 1)
  obtain ⟨c10, B10, q10, S10, M10, H10, U10⟩ := P10
  obtain ⟨T10, h10, X10, e10, W10, st10⟩ := stC XC3 hx hZ eC3 B10 (j := (3 : Int32)) (inb_of S10 ⟨by decide, by decide⟩) (g := (mkF m 292 #[.val (.int (6 : Int32)), .val (.int sel), .val (.int c0), .val (.int c1), .val (.ref a2)] [(.int r3), (.int (3 : Int32)), (.ref a2)])) rfl rfl (hb hby dK_292)
  rw [own_nar lr3] at W10
  have V10 : Arv Z h10 a2 k2 .char (6 : Int32) [(.int r0), (.int r1), (.int r2), (.int r3)] (.int (0 : Int32)) := Arv.set B10 q10 S10 M10 H10 U10 (own_fc lr3) W10 3 rfl (Nat.le_of_ble_eq_true rfl)
  have N10 := Fr.snoc X10 (MC3) (Nat.le_trans Z0 gb)
  have En3 : Ext h0 h10 := own_ext_wr En2 W10 gb
  have sg11 : ∀ target, Steps p.tables e below (T10.setTop (mkF m 302 #[.val (.int (6 : Int32)), .val (.int sel), .val (.int c0), .val (.int c1), .val (.ref a2)] [(.int c1), (.int c0), (.int sel), (.int (83 : Int32)), (.int (4 : Int32)), (.int (4 : Int32)), (.ref a2)])) target → Steps p.tables e below (T10.setTop (mkF m 293 #[.val (.int (6 : Int32)), .val (.int sel), .val (.int c0), .val (.int c1), .val (.ref a2)] [])) target := by
    intro target kt
    show Steps p.tables e below (T10.setTop (mkF m 293 #[.val (.int (6 : Int32)), .val (.int sel), .val (.int c0), .val (.int c1), .val (.ref a2)] [])) _
    refine XS.aload X10.here hx rfl (hb hby dK_293) rfl rfl ?_
    show Steps p.tables e below (T10.setTop (mkF m 295 #[.val (.int (6 : Int32)), .val (.int sel), .val (.int c0), .val (.int c1), .val (.ref a2)] [(.ref a2)])) _
    refine XS.iconst X10.here hx rfl (hb hby dK_295) ?_
    show Steps p.tables e below (T10.setTop (mkF m 296 #[.val (.int (6 : Int32)), .val (.int sel), .val (.int c0), .val (.int c1), .val (.ref a2)] [(.int (4 : Int32)), (.ref a2)])) _
    refine XS.iconst X10.here hx rfl (hb hby dK_296) ?_
    show Steps p.tables e below (T10.setTop (mkF m 297 #[.val (.int (6 : Int32)), .val (.int sel), .val (.int c0), .val (.int c1), .val (.ref a2)] [(.int (4 : Int32)), (.int (4 : Int32)), (.ref a2)])) _
    refine XS.bipush X10.here hx rfl (hb hby dK_297) ?_
    show Steps p.tables e below (T10.setTop (mkF m 299 #[.val (.int (6 : Int32)), .val (.int sel), .val (.int c0), .val (.int c1), .val (.ref a2)] [(.int (83 : Int32)), (.int (4 : Int32)), (.int (4 : Int32)), (.ref a2)])) _
    refine XS.iloadN X10.here hx rfl (hb hby dK_299) rfl ?_
    show Steps p.tables e below (T10.setTop (mkF m 300 #[.val (.int (6 : Int32)), .val (.int sel), .val (.int c0), .val (.int c1), .val (.ref a2)] [(.int sel), (.int (83 : Int32)), (.int (4 : Int32)), (.int (4 : Int32)), (.ref a2)])) _
    refine XS.iloadN X10.here hx rfl (hb hby dK_300) rfl ?_
    show Steps p.tables e below (T10.setTop (mkF m 301 #[.val (.int (6 : Int32)), .val (.int sel), .val (.int c0), .val (.int c1), .val (.ref a2)] [(.int c0), (.int sel), (.int (83 : Int32)), (.int (4 : Int32)), (.int (4 : Int32)), (.ref a2)])) _
    refine XS.iloadN X10.here hx rfl (hb hby dK_301) rfl ?_
    show Steps p.tables e below (T10.setTop (mkF m 302 #[.val (.int (6 : Int32)), .val (.int sel), .val (.int c0), .val (.int c1), .val (.ref a2)] [(.int c1), (.int c0), (.int sel), (.int (83 : Int32)), (.int (4 : Int32)), (.int (4 : Int32)), (.ref a2)])) _
    exact kt
  obtain ⟨_, _, ⟨TC4, LC4, kC4, nC4⟩, -, XC4, ⟨LcC4, hQC4, lC4, yC4, zC4⟩, stC4⟩ := Jvm.LawKit.callS X10 hx (y := (⟨"com/example/ombudsign/ombudsign/dss/CertTypeFromValuePinLaw", "ch", "(ICIII)C"⟩ : MethodName)) hown (mvT hZ (hw _ (List.mem_of_getElem? (i := 47) rfl))) (mvT hZ (hw _ (List.mem_of_getElem? (i := 48) rfl))) (mvT hZ (hw _ (List.mem_of_getElem? (i := 3) rfl))) (mvT hZ (hw _ (List.mem_of_getElem? (i := 49) rfl))) (by decide) (backOf (W := 2) (rmC l Z a0 hw (4 : Int32) (83 : Int32) sel c0 c1 (by decide) h10 n0) hZ (hw _ (List.mem_of_getElem? (i := 49) rfl)) (hw _ (List.mem_of_getElem? (i := 3) rfl)) (by decide) (by decide)) (g := (mkF m 302 #[.val (.int (6 : Int32)), .val (.int sel), .val (.int c0), .val (.int c1), .val (.ref a2)] [(.int c1), (.int c0), (.int sel), (.int (83 : Int32)), (.int (4 : Int32)), (.int (4 : Int32)), (.ref a2)])) rfl (by rw [hml]; rfl) (argsL := [(.int (4 : Int32)), (.int (83 : Int32)), (.int sel), (.int c0), (.int c1)]) (rest := [(.int (4 : Int32)), (.ref a2)]) (lenOf pdC rfl) rfl (by show 2 * 0 + _ ≤ _; exact Nat.le_of_eq rfl) (hb hby dK_302) (fun _ _ => ⟨rfl, e10, Nat.le_of_ble_eq_true rfl, Nat.le_of_ble_eq_true rfl⟩)
  dsimp only [Pt.U, Pt.locs, Pt.cells, Pt.slots] at XC4 lC4 yC4 zC4 stC4 hQC4
  subst lC4 yC4 zC4
  obtain ⟨r4, rfl, lr4, NC4, eC4⟩ := hQC4
  have MC4 := Fr.app (N10) NC4
  have P12 := V10.pad (pad_rep [(.int r0), (.int r1), (.int r2), (.int r3)] (.int (0 : Int32)) 1)
  obtain ⟨c12, B12, q12, S12, M12, H12, U12⟩ := P12
  obtain ⟨T12, h12, X12, e12, W12, st12⟩ := stC XC4 hx hZ eC4 B12 (j := (4 : Int32)) (inb_of S12 ⟨by decide, by decide⟩) (g := (mkF m 305 #[.val (.int (6 : Int32)), .val (.int sel), .val (.int c0), .val (.int c1), .val (.ref a2)] [(.int r4), (.int (4 : Int32)), (.ref a2)])) rfl rfl (hb hby dK_305)
  rw [own_nar lr4] at W12
  have V12 : Arv Z h12 a2 k2 .char (6 : Int32) [(.int r0), (.int r1), (.int r2), (.int r3), (.int r4)] (.int (0 : Int32)) := Arv.set B12 q12 S12 M12 H12 U12 (own_fc lr4) W12 4 rfl (Nat.le_of_ble_eq_true rfl)
  have N12 := Fr.snoc X12 (MC4) (Nat.le_trans Z0 gb)
  have En4 : Ext h0 h12 := own_ext_wr En3 W12 gb
  have sg13 : ∀ target, Steps p.tables e below (T12.setTop (mkF m 315 #[.val (.int (6 : Int32)), .val (.int sel), .val (.int c0), .val (.int c1), .val (.ref a2)] [(.int c1), (.int c0), (.int sel), (.int (67 : Int32)), (.int (5 : Int32)), (.int (5 : Int32)), (.ref a2)])) target → Steps p.tables e below (T12.setTop (mkF m 306 #[.val (.int (6 : Int32)), .val (.int sel), .val (.int c0), .val (.int c1), .val (.ref a2)] [])) target := by
    intro target kt
    show Steps p.tables e below (T12.setTop (mkF m 306 #[.val (.int (6 : Int32)), .val (.int sel), .val (.int c0), .val (.int c1), .val (.ref a2)] [])) _
    refine XS.aload X12.here hx rfl (hb hby dK_306) rfl rfl ?_
    show Steps p.tables e below (T12.setTop (mkF m 308 #[.val (.int (6 : Int32)), .val (.int sel), .val (.int c0), .val (.int c1), .val (.ref a2)] [(.ref a2)])) _
    refine XS.iconst X12.here hx rfl (hb hby dK_308) ?_
    show Steps p.tables e below (T12.setTop (mkF m 309 #[.val (.int (6 : Int32)), .val (.int sel), .val (.int c0), .val (.int c1), .val (.ref a2)] [(.int (5 : Int32)), (.ref a2)])) _
    refine XS.iconst X12.here hx rfl (hb hby dK_309) ?_
    show Steps p.tables e below (T12.setTop (mkF m 310 #[.val (.int (6 : Int32)), .val (.int sel), .val (.int c0), .val (.int c1), .val (.ref a2)] [(.int (5 : Int32)), (.int (5 : Int32)), (.ref a2)])) _
    refine XS.bipush X12.here hx rfl (hb hby dK_310) ?_
    show Steps p.tables e below (T12.setTop (mkF m 312 #[.val (.int (6 : Int32)), .val (.int sel), .val (.int c0), .val (.int c1), .val (.ref a2)] [(.int (67 : Int32)), (.int (5 : Int32)), (.int (5 : Int32)), (.ref a2)])) _
    refine XS.iloadN X12.here hx rfl (hb hby dK_312) rfl ?_
    show Steps p.tables e below (T12.setTop (mkF m 313 #[.val (.int (6 : Int32)), .val (.int sel), .val (.int c0), .val (.int c1), .val (.ref a2)] [(.int sel), (.int (67 : Int32)), (.int (5 : Int32)), (.int (5 : Int32)), (.ref a2)])) _
    refine XS.iloadN X12.here hx rfl (hb hby dK_313) rfl ?_
    show Steps p.tables e below (T12.setTop (mkF m 314 #[.val (.int (6 : Int32)), .val (.int sel), .val (.int c0), .val (.int c1), .val (.ref a2)] [(.int c0), (.int sel), (.int (67 : Int32)), (.int (5 : Int32)), (.int (5 : Int32)), (.ref a2)])) _
    refine XS.iloadN X12.here hx rfl (hb hby dK_314) rfl ?_
    show Steps p.tables e below (T12.setTop (mkF m 315 #[.val (.int (6 : Int32)), .val (.int sel), .val (.int c0), .val (.int c1), .val (.ref a2)] [(.int c1), (.int c0), (.int sel), (.int (67 : Int32)), (.int (5 : Int32)), (.int (5 : Int32)), (.ref a2)])) _
    exact kt
  obtain ⟨_, _, ⟨TC5, LC5, kC5, nC5⟩, -, XC5, ⟨LcC5, hQC5, lC5, yC5, zC5⟩, stC5⟩ := Jvm.LawKit.callS X12 hx (y := (⟨"com/example/ombudsign/ombudsign/dss/CertTypeFromValuePinLaw", "ch", "(ICIII)C"⟩ : MethodName)) hown (mvT hZ (hw _ (List.mem_of_getElem? (i := 47) rfl))) (mvT hZ (hw _ (List.mem_of_getElem? (i := 48) rfl))) (mvT hZ (hw _ (List.mem_of_getElem? (i := 3) rfl))) (mvT hZ (hw _ (List.mem_of_getElem? (i := 49) rfl))) (by decide) (backOf (W := 2) (rmC l Z a0 hw (5 : Int32) (67 : Int32) sel c0 c1 (by decide) h12 n0) hZ (hw _ (List.mem_of_getElem? (i := 49) rfl)) (hw _ (List.mem_of_getElem? (i := 3) rfl)) (by decide) (by decide)) (g := (mkF m 315 #[.val (.int (6 : Int32)), .val (.int sel), .val (.int c0), .val (.int c1), .val (.ref a2)] [(.int c1), (.int c0), (.int sel), (.int (67 : Int32)), (.int (5 : Int32)), (.int (5 : Int32)), (.ref a2)])) rfl (by rw [hml]; rfl) (argsL := [(.int (5 : Int32)), (.int (67 : Int32)), (.int sel), (.int c0), (.int c1)]) (rest := [(.int (5 : Int32)), (.ref a2)]) (lenOf pdC rfl) rfl (by show 2 * 0 + _ ≤ _; exact Nat.le_of_eq rfl) (hb hby dK_315) (fun _ _ => ⟨rfl, e12, Nat.le_of_ble_eq_true rfl, Nat.le_of_ble_eq_true rfl⟩)
  dsimp only [Pt.U, Pt.locs, Pt.cells, Pt.slots] at XC5 lC5 yC5 zC5 stC5 hQC5
  subst lC5 yC5 zC5
  obtain ⟨r5, rfl, lr5, NC5, eC5⟩ := hQC5
  have MC5 := Fr.app (N12) NC5
  have P14 := V12.pad (pad_rep [(.int r0), (.int r1), (.int r2), (.int r3), (.int r4)] (.int (0 : Int32)) 1)
  obtain ⟨c14, B14, q14, S14, M14, H14, U14⟩ := P14
  obtain ⟨T14, h14, X14, e14, W14, st14⟩ := stC XC5 hx hZ eC5 B14 (j := (5 : Int32)) (inb_of S14 ⟨by decide, by decide⟩) (g := (mkF m 318 #[.val (.int (6 : Int32)), .val (.int sel), .val (.int c0), .val (.int c1), .val (.ref a2)] [(.int r5), (.int (5 : Int32)), (.ref a2)])) rfl rfl (hb hby dK_318)
  rw [own_nar lr5] at W14
  have V14 : Arv Z h14 a2 k2 .char (6 : Int32) [(.int r0), (.int r1), (.int r2), (.int r3), (.int r4), (.int r5)] (.int (0 : Int32)) := Arv.set B14 q14 S14 M14 H14 U14 (own_fc lr5) W14 5 rfl (Nat.le_of_ble_eq_true rfl)
  have N14 := Fr.snoc X14 (MC5) (Nat.le_trans Z0 gb)
  have En5 : Ext h0 h14 := own_ext_wr En4 W14 gb
  obtain ⟨T15, h15, X15, e15, E15, A15, D15, -, st15⟩ := newO X14 hx hZ hown (hw _ (List.mem_of_getElem? (i := 53) rfl)) (hw _ (List.mem_of_getElem? (i := 54) rfl)) (hw _ (List.mem_of_getElem? (i := 32) rfl)) e14 (g := (mkF m 319 #[.val (.int (6 : Int32)), .val (.int sel), .val (.int c0), .val (.int c1), .val (.ref a2)] [])) rfl (hb hby dK_319) (by decide) (by decide)
  obtain ⟨a15, g15⟩ : ∃ z, z = h14.size := ⟨_, rfl⟩
  rw [← g15] at A15 D15 st15
  have En : Ext h0 h15 := own_ext_trans En5 E15
  have gx0 : h0.size ≤ a15 := by rw [g15]; exact En5.1
  have gx : n0 ≤ a15 := Nat.le_trans Z0 gx0
  have VV := V14.ext E15
  have sg16 : ∀ target, Steps p.tables e below (T15.setTop (mkF m 325 #[.val (.int (6 : Int32)), .val (.int sel), .val (.int c0), .val (.int c1), .val (.ref a2)] [(.ref a2), (.ref a15), (.ref a15)])) target → Steps p.tables e below (T15.setTop (mkF m 322 #[.val (.int (6 : Int32)), .val (.int sel), .val (.int c0), .val (.int c1), .val (.ref a2)] [(.ref a15)])) target := by
    intro target kt
    show Steps p.tables e below (T15.setTop (mkF m 322 #[.val (.int (6 : Int32)), .val (.int sel), .val (.int c0), .val (.int c1), .val (.ref a2)] [(.ref a15)])) _
    refine XS.dup X15.here hx rfl (hb hby dK_322) rfl rfl ?_
    show Steps p.tables e below (T15.setTop (mkF m 323 #[.val (.int (6 : Int32)), .val (.int sel), .val (.int c0), .val (.int c1), .val (.ref a2)] [(.ref a15), (.ref a15)])) _
    refine XS.aload X15.here hx rfl (hb hby dK_323) rfl rfl ?_
    show Steps p.tables e below (T15.setTop (mkF m 325 #[.val (.int (6 : Int32)), .val (.int sel), .val (.int c0), .val (.int c1), .val (.ref a2)] [(.ref a2), (.ref a15), (.ref a15)])) _
    exact kt
  have Fv : Fld Z h15 a15 "java/lang/String" "value" "[B" .null := D15 (Or.inr (hw _ (List.mem_of_getElem? (i := 80) rfl))) (ty := (.array .byte)) (by decide)
  have Fc : Fld Z h15 a15 "java/lang/String" "coder" "B" (.int (0 : Int32)) := D15 (Or.inr (hw _ (List.mem_of_getElem? (i := 78) rfl))) (ty := .byte) (by decide)
  have Ex : Exa Z h15 a15 "java/lang/String" := A15
  have hp : own_lat [r0, r1, r2, r3, r4, r5] := by
    intro c hc
    simp only [List.mem_cons, List.not_mem_nil, or_false] at hc
    rcases hc with rfl | rfl | rfl | rfl | rfl | rfl <;> assumption
  obtain ⟨_, _, ⟨TJ9, LJ9, kJ9, nJ9⟩, -, XJ9, ⟨LcJ9, hQJ9, lJ9, yJ9, zJ9⟩, stJ9⟩ := X15.specialBack hx (y := (⟨"java/lang/String", "<init>", "([C)V"⟩ : MethodName)) rfl hown (mvT hZ (hw _ (List.mem_of_getElem? (i := 55) rfl))) (mvT hZ (hw _ (List.mem_of_getElem? (i := 56) rfl))) (mvT hZ (hw _ (List.mem_of_getElem? (i := 57) rfl))) (by decide) (StrChars.Road.backV (W := 1) hZ hws (kI := 4) (hw _ (List.mem_of_getElem? (i := 54) rfl)) (cs := ([r0, r1, r2, r3, r4, r5] : List Int32)) (bs := ([r0, r1, r2, r3, r4, r5] : List Int32).map (fun c => c.toInt8.toInt32)) (n := 6) gx (Nat.le_trans Z0 En.1) Ex Fv Fc VV (O.ext En) hG rfl rfl (by decide) (by decide) hp rfl (by decide) (by decide)) (g := (mkF m 325 #[.val (.int (6 : Int32)), .val (.int sel), .val (.int c0), .val (.int c1), .val (.ref a2)] [(.ref a2), (.ref a15), (.ref a15)])) rfl (by rw [hml]; rfl) (Steps.refl _) (a := a15) (argsL := [(.ref a2)]) (rest := [(.ref a15)]) (lenOf pdE1 rfl) rfl (by show 2 * 0 + _ ≤ _; exact Nat.le_of_eq rfl) (hb hby dK_325) (fun _ _ => ⟨rfl, e15, Nat.le_of_ble_eq_true rfl, Nat.le_of_ble_eq_true rfl⟩)
  dsimp only [Pt.U, Pt.locs, Pt.cells, Pt.slots] at XJ9 lJ9 yJ9 zJ9 stJ9 hQJ9
  subst lJ9 yJ9 zJ9
  obtain ⟨rfl, NJ9, KJ9, gJ9a, gJ9c, tJ9, kbJ9, uJ9, vJ9, wJ9, gJ9v, gJ9b⟩ := hQJ9
  have EJ9 : Ext h0 TJ9.heap := own_ext_keep En KJ9 (allS gx0 all0)
  obtain ⟨fs, hr, hrun, hended, hW⟩ := XJ9.leaveW (n := s.heap.size) hS0 (by rw [hh]; exact EJ9.1) (v := some (.ref a15)) (fun h => by rw [Bd.returns] at h; cases h)
  have RR : CHr Z EL s.vm h0 TJ9.vm TJ9.heap := (CHr.ext EJ9 H0).trans (CHv.at XJ9 hZ hEL (H0.ext EJ9))
  refine ⟨_, _, castTop (efK m 6 sel c0 c1) ?_, hrun, hended, _, _, rfl, ⟨Fr.app (N14) NJ9, EJ9, Or.inr ⟨a15, [r0, r1, r2, r3, r4, r5], rfl, hp, Nat.le_of_ble_eq_true rfl, ⟨gJ9a, gJ9c, tJ9, kbJ9, gJ9v, gJ9b⟩⟩⟩, ?_, own_w hW (by decide) (by decide)⟩
  · show Steps p.tables e below (s₁.setTop (mkF m 0 #[.val (.int (6 : Int32)), .val (.int sel), .val (.int c0), .val (.int c1), .unset] [])) _
    refine sg1 _ ?_
    show Steps p.tables e below (s₁.setTop (mkF m 237 #[.val (.int (6 : Int32)), .val (.int sel), .val (.int c0), .val (.int c1), .unset] [(.int (6 : Int32))])) _
    refine st2 _ ?_
    show Steps p.tables e below (T2.setTop (mkF m 239 #[.val (.int (6 : Int32)), .val (.int sel), .val (.int c0), .val (.int c1), .unset] [(.ref a2)])) _
    refine sg3 _ ?_
    show Steps p.tables e below (T2.setTop (mkF m 250 #[.val (.int (6 : Int32)), .val (.int sel), .val (.int c0), .val (.int c1), .val (.ref a2)] [(.int c1), (.int c0), (.int sel), (.int (81 : Int32)), (.int (0 : Int32)), (.int (0 : Int32)), (.ref a2)])) _
    refine stC0 _ ?_
    show Steps p.tables e below (TC0.setTop (mkF m 253 #[.val (.int (6 : Int32)), .val (.int sel), .val (.int c0), .val (.int c1), .val (.ref a2)] [(.int r0), (.int (0 : Int32)), (.ref a2)])) _
    refine st4 _ ?_
    show Steps p.tables e below (T4.setTop (mkF m 254 #[.val (.int (6 : Int32)), .val (.int sel), .val (.int c0), .val (.int c1), .val (.ref a2)] [])) _
    refine sg5 _ ?_
    show Steps p.tables e below (T4.setTop (mkF m 263 #[.val (.int (6 : Int32)), .val (.int sel), .val (.int c0), .val (.int c1), .val (.ref a2)] [(.int c1), (.int c0), (.int sel), (.int (67 : Int32)), (.int (1 : Int32)), (.int (1 : Int32)), (.ref a2)])) _
    refine stC1 _ ?_
    show Steps p.tables e below (TC1.setTop (mkF m 266 #[.val (.int (6 : Int32)), .val (.int sel), .val (.int c0), .val (.int c1), .val (.ref a2)] [(.int r1), (.int (1 : Int32)), (.ref a2)])) _
    refine st6 _ ?_
    show Steps p.tables e below (T6.setTop (mkF m 267 #[.val (.int (6 : Int32)), .val (.int sel), .val (.int c0), .val (.int c1), .val (.ref a2)] [])) _
    refine sg7 _ ?_
    show Steps p.tables e below (T6.setTop (mkF m 276 #[.val (.int (6 : Int32)), .val (.int sel), .val (.int c0), .val (.int c1), .val (.ref a2)] [(.int c1), (.int c0), (.int sel), (.int (47 : Int32)), (.int (2 : Int32)), (.int (2 : Int32)), (.ref a2)])) _
    refine stC2 _ ?_
    show Steps p.tables e below (TC2.setTop (mkF m 279 #[.val (.int (6 : Int32)), .val (.int sel), .val (.int c0), .val (.int c1), .val (.ref a2)] [(.int r2), (.int (2 : Int32)), (.ref a2)])) _
    refine st8 _ ?_
    show Steps p.tables e below (T8.setTop (mkF m 280 #[.val (.int (6 : Int32)), .val (.int sel), .val (.int c0), .val (.int c1), .val (.ref a2)] [])) _
    refine sg9 _ ?_
    show Steps p.tables e below (T8.setTop (mkF m 289 #[.val (.int (6 : Int32)), .val (.int sel), .val (.int c0), .val (.int c1), .val (.ref a2)] [(.int c1), (.int c0), (.int sel), (.int (83 : Int32)), (.int (3 : Int32)), (.int (3 : Int32)), (.ref a2)])) _
    refine stC3 _ ?_
    show Steps p.tables e below (TC3.setTop (mkF m 292 #[.val (.int (6 : Int32)), .val (.int sel), .val (.int c0), .val (.int c1), .val (.ref a2)] [(.int r3), (.int (3 : Int32)), (.ref a2)])) _
    refine st10 _ ?_
    show Steps p.tables e below (T10.setTop (mkF m 293 #[.val (.int (6 : Int32)), .val (.int sel), .val (.int c0), .val (.int c1), .val (.ref a2)] [])) _
    refine sg11 _ ?_
    show Steps p.tables e below (T10.setTop (mkF m 302 #[.val (.int (6 : Int32)), .val (.int sel), .val (.int c0), .val (.int c1), .val (.ref a2)] [(.int c1), (.int c0), (.int sel), (.int (83 : Int32)), (.int (4 : Int32)), (.int (4 : Int32)), (.ref a2)])) _
    refine stC4 _ ?_
    show Steps p.tables e below (TC4.setTop (mkF m 305 #[.val (.int (6 : Int32)), .val (.int sel), .val (.int c0), .val (.int c1), .val (.ref a2)] [(.int r4), (.int (4 : Int32)), (.ref a2)])) _
    refine st12 _ ?_
    show Steps p.tables e below (T12.setTop (mkF m 306 #[.val (.int (6 : Int32)), .val (.int sel), .val (.int c0), .val (.int c1), .val (.ref a2)] [])) _
    refine sg13 _ ?_
    show Steps p.tables e below (T12.setTop (mkF m 315 #[.val (.int (6 : Int32)), .val (.int sel), .val (.int c0), .val (.int c1), .val (.ref a2)] [(.int c1), (.int c0), (.int sel), (.int (67 : Int32)), (.int (5 : Int32)), (.int (5 : Int32)), (.ref a2)])) _
    refine stC5 _ ?_
    show Steps p.tables e below (TC5.setTop (mkF m 318 #[.val (.int (6 : Int32)), .val (.int sel), .val (.int c0), .val (.int c1), .val (.ref a2)] [(.int r5), (.int (5 : Int32)), (.ref a2)])) _
    refine st14 _ ?_
    show Steps p.tables e below (T14.setTop (mkF m 319 #[.val (.int (6 : Int32)), .val (.int sel), .val (.int c0), .val (.int c1), .val (.ref a2)] [])) _
    refine st15 _ ?_
    show Steps p.tables e below (T15.setTop (mkF m 322 #[.val (.int (6 : Int32)), .val (.int sel), .val (.int c0), .val (.int c1), .val (.ref a2)] [(.ref a15)])) _
    refine sg16 _ ?_
    show Steps p.tables e below (T15.setTop (mkF m 325 #[.val (.int (6 : Int32)), .val (.int sel), .val (.int c0), .val (.int c1), .val (.ref a2)] [(.ref a2), (.ref a15), (.ref a15)])) _
    refine stJ9.trans ?_
    show Steps p.tables e below (TJ9.setTop (mkF m 328 #[.val (.int (6 : Int32)), .val (.int sel), .val (.int c0), .val (.int c1), .val (.ref a2)] [(.ref a15)])) _
    exact retOut XJ9 hx (t := .object "java/lang/String") Bd.returns rfl (Or.inr (Or.inr (Or.inr (Or.inr ⟨rfl, rfl, rfl⟩)))) (hb hby dK_328) hr
  · show CHr Z EL s.vm s.heap TJ9.vm TJ9.heap
    rw [hh]; exact RR
set_option maxRecDepth 65536 in
set_option maxHeartbeats 40000000 in
theorem rmK7 (l : Launch) (Z : State) (a0 : Array Value) (hw : ∀ d ∈ tables_1, d.before a0 Z = true) (EL : List (String × Nat)) (hEL : EW Z a0 EL) (hmem : ("java/lang/String", 7) ∈ EL) (sel c0 c1 : Int32) (G : Int32) (h0 : Heap) (n0 : Nat) (Z0 : n0 ≤ h0.size) (O : Sta Z h0 "java/lang/String" "COMPACT_STRINGS" "Z" (.int G)) (hG : ¬ G = 0) :
    MetFree l (⟨"com/example/ombudsign/ombudsign/dss/CertTypeFromValuePinLaw", "make", "(IIII)Ljava/lang/String;"⟩ : MethodName) (head1 [Jvm.Cond.code (⟨"com/example/ombudsign/ombudsign/dss/CertTypeFromValuePinLaw", "make", "(IIII)Ljava/lang/String;"⟩ : MethodName) method_5_code 5 (some (.object "java/lang/String"))] ({ frames := 4, cells := 4, slots := 20, locals := 66 } : Room)) (fun q_ U => q_ = #[(.int (7 : Int32)), (.int sel), (.int c0), (.int c1)] ∧ Z.Warmed39 U.vm ∧ U.heap = h0 ∧ CHv Z EL U.vm h0) (fun _ _ _ _ _ => True) (fun _ U o U' => ∃ v L, o = .returned v ∧ own_QK Z h0 n0 v U'.heap L ∧ CHr Z EL U.vm U.heap U'.vm U'.heap ∧ ReturnedEndW U o U' L ({ frames := 4, cells := 4, slots := 20, locals := 66 } : Room).cells ({ frames := 4, cells := 4, slots := 20, locals := 66 } : Room).slots) := by
  refine MetFree.of_bodySF (plainFor_of_name pn_L) hisR ?_
  intro p e s m args below meth c s₁ Bd hml0 hP hK
  obtain ⟨rfl, hZ, hh, H0⟩ := hP
  have hx := Bd.exec
  have hby := Bd.bytes
  have hml : c.maxLocals = 5 := hml0
  have hown : s.vm.findClass "com/example/ombudsign/ombudsign/dss/CertTypeFromValuePinLaw" = some m.cls := findClass_of_methodNamed Bd.named
  have hnm := (name_of_methodNamed Bd.named Bd.method).1
  have X0 : Stand p l e ({ frames := 4, cells := 4, slots := 20, locals := 66 } : Room) (s.setVm s.vm) m #[(.int (7 : Int32)), (.int sel), (.int c0), (.int c1)] below meth c s₁ [] 0 0 := Stand.of_body Bd
  have e0 : s₁.heap = h0 := by rw [← hh, Bd.state]; rfl
  have hS0 : s.Since s.vm s.heap.size := (State.WarmedH.refl s).since _
  have hws : ∀ d ∈ StrChars.Road.words, d.before a0 Z = true := fun d hd => hw d (own_hws d hd)
  have sg1 : ∀ target, Steps p.tables e below (s₁.setTop (mkF m 337 #[.val (.int (7 : Int32)), .val (.int sel), .val (.int c0), .val (.int c1), .unset] [(.int (7 : Int32))])) target → Steps p.tables e below (s₁.setTop (mkF m 0 #[.val (.int (7 : Int32)), .val (.int sel), .val (.int c0), .val (.int c1), .unset] [])) target := by
    intro target kt
    show Steps p.tables e below (s₁.setTop (mkF m 0 #[.val (.int (7 : Int32)), .val (.int sel), .val (.int c0), .val (.int c1), .unset] [])) _
    refine XS.iloadN X0.here hx rfl (hb hby dK_0) rfl ?_
    show Steps p.tables e below (s₁.setTop (mkF m 1 #[.val (.int (7 : Int32)), .val (.int sel), .val (.int c0), .val (.int c1), .unset] [(.int (7 : Int32))])) _
    refine XS.ifYes X0.here hx rfl (pc0 := 1) (pc' := 6) rfl (hb hby dK_1) rfl (by decide) (by decide) (by decide) ?_
    show Steps p.tables e below (s₁.setTop (mkF m 6 #[.val (.int (7 : Int32)), .val (.int sel), .val (.int c0), .val (.int c1), .unset] [])) _
    refine XS.iloadN X0.here hx rfl (hb hby dK_6) rfl ?_
    show Steps p.tables e below (s₁.setTop (mkF m 7 #[.val (.int (7 : Int32)), .val (.int sel), .val (.int c0), .val (.int c1), .unset] [(.int (7 : Int32))])) _
    refine XS.iconst X0.here hx rfl (hb hby dK_7) ?_
    show Steps p.tables e below (s₁.setTop (mkF m 8 #[.val (.int (7 : Int32)), .val (.int sel), .val (.int c0), .val (.int c1), .unset] [(.int (1 : Int32)), (.int (7 : Int32))])) _
    refine XS.icmpYes X0.here hx rfl (pc0 := 8) (pc' := 22) rfl (hb hby dK_8) rfl (by decide) (by decide) (by decide) ?_
    show Steps p.tables e below (s₁.setTop (mkF m 22 #[.val (.int (7 : Int32)), .val (.int sel), .val (.int c0), .val (.int c1), .unset] [])) _
    refine XS.iloadN X0.here hx rfl (hb hby dK_22) rfl ?_
    show Steps p.tables e below (s₁.setTop (mkF m 23 #[.val (.int (7 : Int32)), .val (.int sel), .val (.int c0), .val (.int c1), .unset] [(.int (7 : Int32))])) _
    refine XS.iconst X0.here hx rfl (hb hby dK_23) ?_
    show Steps p.tables e below (s₁.setTop (mkF m 24 #[.val (.int (7 : Int32)), .val (.int sel), .val (.int c0), .val (.int c1), .unset] [(.int (2 : Int32)), (.int (7 : Int32))])) _
    refine XS.icmpYes X0.here hx rfl (pc0 := 24) (pc' := 55) rfl (hb hby dK_24) rfl (by decide) (by decide) (by decide) ?_
    show Steps p.tables e below (s₁.setTop (mkF m 55 #[.val (.int (7 : Int32)), .val (.int sel), .val (.int c0), .val (.int c1), .unset] [])) _
    refine XS.iloadN X0.here hx rfl (hb hby dK_55) rfl ?_
    show Steps p.tables e below (s₁.setTop (mkF m 56 #[.val (.int (7 : Int32)), .val (.int sel), .val (.int c0), .val (.int c1), .unset] [(.int (7 : Int32))])) _
    refine XS.iconst X0.here hx rfl (hb hby dK_56) ?_
    show Steps p.tables e below (s₁.setTop (mkF m 57 #[.val (.int (7 : Int32)), .val (.int sel), .val (.int c0), .val (.int c1), .unset] [(.int (3 : Int32)), (.int (7 : Int32))])) _
    refine XS.icmpYes X0.here hx rfl (pc0 := 57) (pc' := 101) rfl (hb hby dK_57) rfl (by decide) (by decide) (by decide) ?_
    show Steps p.tables e below (s₁.setTop (mkF m 101 #[.val (.int (7 : Int32)), .val (.int sel), .val (.int c0), .val (.int c1), .unset] [])) _
    refine XS.iloadN X0.here hx rfl (hb hby dK_101) rfl ?_
    show Steps p.tables e below (s₁.setTop (mkF m 102 #[.val (.int (7 : Int32)), .val (.int sel), .val (.int c0), .val (.int c1), .unset] [(.int (7 : Int32))])) _
    refine XS.iconst X0.here hx rfl (hb hby dK_102) ?_
    show Steps p.tables e below (s₁.setTop (mkF m 103 #[.val (.int (7 : Int32)), .val (.int sel), .val (.int c0), .val (.int c1), .unset] [(.int (4 : Int32)), (.int (7 : Int32))])) _
    refine XS.icmpYes X0.here hx rfl (pc0 := 103) (pc' := 160) rfl (hb hby dK_103) rfl (by decide) (by decide) (by decide) ?_
    show Steps p.tables e below (s₁.setTop (mkF m 160 #[.val (.int (7 : Int32)), .val (.int sel), .val (.int c0), .val (.int c1), .unset] [])) _
    refine XS.iloadN X0.here hx rfl (hb hby dK_160) rfl ?_
    show Steps p.tables e below (s₁.setTop (mkF m 161 #[.val (.int (7 : Int32)), .val (.int sel), .val (.int c0), .val (.int c1), .unset] [(.int (7 : Int32))])) _
    refine XS.iconst X0.here hx rfl (hb hby dK_161) ?_
    show Steps p.tables e below (s₁.setTop (mkF m 162 #[.val (.int (7 : Int32)), .val (.int sel), .val (.int c0), .val (.int c1), .unset] [(.int (5 : Int32)), (.int (7 : Int32))])) _
    refine XS.icmpYes X0.here hx rfl (pc0 := 162) (pc' := 229) rfl (hb hby dK_162) rfl (by decide) (by decide) (by decide) ?_
    show Steps p.tables e below (s₁.setTop (mkF m 229 #[.val (.int (7 : Int32)), .val (.int sel), .val (.int c0), .val (.int c1), .unset] [])) _
    refine XS.iloadN X0.here hx rfl (hb hby dK_229) rfl ?_
    show Steps p.tables e below (s₁.setTop (mkF m 230 #[.val (.int (7 : Int32)), .val (.int sel), .val (.int c0), .val (.int c1), .unset] [(.int (7 : Int32))])) _
    refine XS.bipush X0.here hx rfl (hb hby dK_230) ?_
    show Steps p.tables e below (s₁.setTop (mkF m 232 #[.val (.int (7 : Int32)), .val (.int sel), .val (.int c0), .val (.int c1), .unset] [(.int (6 : Int32)), (.int (7 : Int32))])) _
    refine XS.icmpYes X0.here hx rfl (pc0 := 232) (pc' := 329) rfl (hb hby dK_232) rfl (by decide) (by decide) (by decide) ?_
    show Steps p.tables e below (s₁.setTop (mkF m 329 #[.val (.int (7 : Int32)), .val (.int sel), .val (.int c0), .val (.int c1), .unset] [])) _
    refine XS.iloadN X0.here hx rfl (hb hby dK_329) rfl ?_
    show Steps p.tables e below (s₁.setTop (mkF m 330 #[.val (.int (7 : Int32)), .val (.int sel), .val (.int c0), .val (.int c1), .unset] [(.int (7 : Int32))])) _
    refine XS.bipush X0.here hx rfl (hb hby dK_330) ?_
    show Steps p.tables e below (s₁.setTop (mkF m 332 #[.val (.int (7 : Int32)), .val (.int sel), .val (.int c0), .val (.int c1), .unset] [(.int (7 : Int32)), (.int (7 : Int32))])) _
    refine XS.icmpNo X0.here hx rfl (hb hby dK_332) rfl (by decide) ?_
    show Steps p.tables e below (s₁.setTop (mkF m 335 #[.val (.int (7 : Int32)), .val (.int sel), .val (.int c0), .val (.int c1), .unset] [])) _
    refine XS.bipush X0.here hx rfl (hb hby dK_335) ?_
    show Steps p.tables e below (s₁.setTop (mkF m 337 #[.val (.int (7 : Int32)), .val (.int sel), .val (.int c0), .val (.int c1), .unset] [(.int (7 : Int32))])) _
    exact kt
  obtain ⟨T2, h2, k2, X2, e2, E2, A2, st2⟩ := newP X0 hx hZ (hw _ (List.mem_of_getElem? (i := 46) rfl)) e0 (g := (mkF m 337 #[.val (.int (7 : Int32)), .val (.int sel), .val (.int c0), .val (.int c1), .unset] [(.int (7 : Int32))])) rfl (hb hby dK_337) rfl (by decide) (cap := 7) (by decide) (by decide) (by decide) (by decide)
  obtain ⟨a2, g2⟩ : ∃ z, z = h0.size := ⟨_, rfl⟩
  rw [← g2] at A2 st2
  have gb : h0.size ≤ a2 := by rw [g2]; exact Nat.le_refl _
  have V2 : Arv Z h2 a2 k2 .char (7 : Int32) [] (.int (0 : Int32)) := Arv.new A2 (by decide)
  have sg3 : ∀ target, Steps p.tables e below (T2.setTop (mkF m 350 #[.val (.int (7 : Int32)), .val (.int sel), .val (.int c0), .val (.int c1), .val (.ref a2)] [(.int c1), (.int c0), (.int sel), (.int (81 : Int32)), (.int (0 : Int32)), (.int (0 : Int32)), (.ref a2)])) target → Steps p.tables e below (T2.setTop (mkF m 339 #[.val (.int (7 : Int32)), .val (.int sel), .val (.int c0), .val (.int c1), .unset] [(.ref a2)])) target := by
    intro target kt
    show Steps p.tables e below (T2.setTop (mkF m 339 #[.val (.int (7 : Int32)), .val (.int sel), .val (.int c0), .val (.int c1), .unset] [(.ref a2)])) _
    refine XS.astore X2.here hx rfl (hb hby dK_339) rfl rfl (l' := #[.val (.int (7 : Int32)), .val (.int sel), .val (.int c0), .val (.int c1), .val (.ref a2)]) rfl ?_
    show Steps p.tables e below (T2.setTop (mkF m 341 #[.val (.int (7 : Int32)), .val (.int sel), .val (.int c0), .val (.int c1), .val (.ref a2)] [])) _
    refine XS.aload X2.here hx rfl (hb hby dK_341) rfl rfl ?_
    show Steps p.tables e below (T2.setTop (mkF m 343 #[.val (.int (7 : Int32)), .val (.int sel), .val (.int c0), .val (.int c1), .val (.ref a2)] [(.ref a2)])) _
    refine XS.iconst X2.here hx rfl (hb hby dK_343) ?_
    show Steps p.tables e below (T2.setTop (mkF m 344 #[.val (.int (7 : Int32)), .val (.int sel), .val (.int c0), .val (.int c1), .val (.ref a2)] [(.int (0 : Int32)), (.ref a2)])) _
    refine XS.iconst X2.here hx rfl (hb hby dK_344) ?_
    show Steps p.tables e below (T2.setTop (mkF m 345 #[.val (.int (7 : Int32)), .val (.int sel), .val (.int c0), .val (.int c1), .val (.ref a2)] [(.int (0 : Int32)), (.int (0 : Int32)), (.ref a2)])) _
    refine XS.bipush X2.here hx rfl (hb hby dK_345) ?_
    show Steps p.tables e below (T2.setTop (mkF m 347 #[.val (.int (7 : Int32)), .val (.int sel), .val (.int c0), .val (.int c1), .val (.ref a2)] [(.int (81 : Int32)), (.int (0 : Int32)), (.int (0 : Int32)), (.ref a2)])) _
    refine XS.iloadN X2.here hx rfl (hb hby dK_347) rfl ?_
    show Steps p.tables e below (T2.setTop (mkF m 348 #[.val (.int (7 : Int32)), .val (.int sel), .val (.int c0), .val (.int c1), .val (.ref a2)] [(.int sel), (.int (81 : Int32)), (.int (0 : Int32)), (.int (0 : Int32)), (.ref a2)])) _
    refine XS.iloadN X2.here hx rfl (hb hby dK_348) rfl ?_
    show Steps p.tables e below (T2.setTop (mkF m 349 #[.val (.int (7 : Int32)), .val (.int sel), .val (.int c0), .val (.int c1), .val (.ref a2)] [(.int c0), (.int sel), (.int (81 : Int32)), (.int (0 : Int32)), (.int (0 : Int32)), (.ref a2)])) _
    refine XS.iloadN X2.here hx rfl (hb hby dK_349) rfl ?_
    show Steps p.tables e below (T2.setTop (mkF m 350 #[.val (.int (7 : Int32)), .val (.int sel), .val (.int c0), .val (.int c1), .val (.ref a2)] [(.int c1), (.int c0), (.int sel), (.int (81 : Int32)), (.int (0 : Int32)), (.int (0 : Int32)), (.ref a2)])) _
    exact kt
  obtain ⟨_, _, ⟨TC0, LC0, kC0, nC0⟩, -, XC0, ⟨LcC0, hQC0, lC0, yC0, zC0⟩, stC0⟩ := Jvm.LawKit.callS X2 hx (y := (⟨"com/example/ombudsign/ombudsign/dss/CertTypeFromValuePinLaw", "ch", "(ICIII)C"⟩ : MethodName)) hown (mvT hZ (hw _ (List.mem_of_getElem? (i := 47) rfl))) (mvT hZ (hw _ (List.mem_of_getElem? (i := 48) rfl))) (mvT hZ (hw _ (List.mem_of_getElem? (i := 3) rfl))) (mvT hZ (hw _ (List.mem_of_getElem? (i := 49) rfl))) (by decide) (backOf (W := 2) (rmC l Z a0 hw (0 : Int32) (81 : Int32) sel c0 c1 (by decide) h2 n0) hZ (hw _ (List.mem_of_getElem? (i := 49) rfl)) (hw _ (List.mem_of_getElem? (i := 3) rfl)) (by decide) (by decide)) (g := (mkF m 350 #[.val (.int (7 : Int32)), .val (.int sel), .val (.int c0), .val (.int c1), .val (.ref a2)] [(.int c1), (.int c0), (.int sel), (.int (81 : Int32)), (.int (0 : Int32)), (.int (0 : Int32)), (.ref a2)])) rfl (by rw [hml]; rfl) (argsL := [(.int (0 : Int32)), (.int (81 : Int32)), (.int sel), (.int c0), (.int c1)]) (rest := [(.int (0 : Int32)), (.ref a2)]) (lenOf pdC rfl) rfl (by show 2 * 0 + _ ≤ _; exact Nat.le_of_eq rfl) (hb hby dK_350) (fun _ _ => ⟨rfl, e2, Nat.le_of_ble_eq_true rfl, Nat.le_of_ble_eq_true rfl⟩)
  dsimp only [Pt.U, Pt.locs, Pt.cells, Pt.slots] at XC0 lC0 yC0 zC0 stC0 hQC0
  subst lC0 yC0 zC0
  obtain ⟨r0, rfl, lr0, NC0, eC0⟩ := hQC0
  have MC0 := Fr.app (Fr.nil n0) NC0
  have P4 := V2.pad (pad_rep [] (.int (0 : Int32)) 1)
  obtain ⟨c4, B4, q4, S4, M4, H4, U4⟩ := P4
  obtain ⟨T4, h4, X4, e4, W4, st4⟩ := stC XC0 hx hZ eC0 B4 (j := (0 : Int32)) (inb_of S4 ⟨by decide, by decide⟩) (g := (mkF m 353 #[.val (.int (7 : Int32)), .val (.int sel), .val (.int c0), .val (.int c1), .val (.ref a2)] [(.int r0), (.int (0 : Int32)), (.ref a2)])) rfl rfl (hb hby dK_353)
  rw [own_nar lr0] at W4
  have V4 : Arv Z h4 a2 k2 .char (7 : Int32) [(.int r0)] (.int (0 : Int32)) := Arv.set B4 q4 S4 M4 H4 U4 (own_fc lr0) W4 0 rfl (Nat.le_of_ble_eq_true rfl)
  have N4 := Fr.snoc X4 (MC0) (Nat.le_trans Z0 gb)
  have En0 : Ext h0 h4 := own_ext_wr E2 W4 gb
  have sg5 : ∀ target, Steps p.tables e below (T4.setTop (mkF m 363 #[.val (.int (7 : Int32)), .val (.int sel), .val (.int c0), .val (.int c1), .val (.ref a2)] [(.int c1), (.int c0), (.int sel), (.int (67 : Int32)), (.int (1 : Int32)), (.int (1 : Int32)), (.ref a2)])) target → Steps p.tables e below (T4.setTop (mkF m 354 #[.val (.int (7 : Int32)), .val (.int sel), .val (.int c0), .val (.int c1), .val (.ref a2)] [])) target := by
    intro target kt
    show Steps p.tables e below (T4.setTop (mkF m 354 #[.val (.int (7 : Int32)), .val (.int sel), .val (.int c0), .val (.int c1), .val (.ref a2)] [])) _
    refine XS.aload X4.here hx rfl (hb hby dK_354) rfl rfl ?_
    show Steps p.tables e below (T4.setTop (mkF m 356 #[.val (.int (7 : Int32)), .val (.int sel), .val (.int c0), .val (.int c1), .val (.ref a2)] [(.ref a2)])) _
    refine XS.iconst X4.here hx rfl (hb hby dK_356) ?_
    show Steps p.tables e below (T4.setTop (mkF m 357 #[.val (.int (7 : Int32)), .val (.int sel), .val (.int c0), .val (.int c1), .val (.ref a2)] [(.int (1 : Int32)), (.ref a2)])) _
    refine XS.iconst X4.here hx rfl (hb hby dK_357) ?_
    show Steps p.tables e below (T4.setTop (mkF m 358 #[.val (.int (7 : Int32)), .val (.int sel), .val (.int c0), .val (.int c1), .val (.ref a2)] [(.int (1 : Int32)), (.int (1 : Int32)), (.ref a2)])) _
    refine XS.bipush X4.here hx rfl (hb hby dK_358) ?_
    show Steps p.tables e below (T4.setTop (mkF m 360 #[.val (.int (7 : Int32)), .val (.int sel), .val (.int c0), .val (.int c1), .val (.ref a2)] [(.int (67 : Int32)), (.int (1 : Int32)), (.int (1 : Int32)), (.ref a2)])) _
    refine XS.iloadN X4.here hx rfl (hb hby dK_360) rfl ?_
    show Steps p.tables e below (T4.setTop (mkF m 361 #[.val (.int (7 : Int32)), .val (.int sel), .val (.int c0), .val (.int c1), .val (.ref a2)] [(.int sel), (.int (67 : Int32)), (.int (1 : Int32)), (.int (1 : Int32)), (.ref a2)])) _
    refine XS.iloadN X4.here hx rfl (hb hby dK_361) rfl ?_
    show Steps p.tables e below (T4.setTop (mkF m 362 #[.val (.int (7 : Int32)), .val (.int sel), .val (.int c0), .val (.int c1), .val (.ref a2)] [(.int c0), (.int sel), (.int (67 : Int32)), (.int (1 : Int32)), (.int (1 : Int32)), (.ref a2)])) _
    refine XS.iloadN X4.here hx rfl (hb hby dK_362) rfl ?_
    show Steps p.tables e below (T4.setTop (mkF m 363 #[.val (.int (7 : Int32)), .val (.int sel), .val (.int c0), .val (.int c1), .val (.ref a2)] [(.int c1), (.int c0), (.int sel), (.int (67 : Int32)), (.int (1 : Int32)), (.int (1 : Int32)), (.ref a2)])) _
    exact kt
  obtain ⟨_, _, ⟨TC1, LC1, kC1, nC1⟩, -, XC1, ⟨LcC1, hQC1, lC1, yC1, zC1⟩, stC1⟩ := Jvm.LawKit.callS X4 hx (y := (⟨"com/example/ombudsign/ombudsign/dss/CertTypeFromValuePinLaw", "ch", "(ICIII)C"⟩ : MethodName)) hown (mvT hZ (hw _ (List.mem_of_getElem? (i := 47) rfl))) (mvT hZ (hw _ (List.mem_of_getElem? (i := 48) rfl))) (mvT hZ (hw _ (List.mem_of_getElem? (i := 3) rfl))) (mvT hZ (hw _ (List.mem_of_getElem? (i := 49) rfl))) (by decide) (backOf (W := 2) (rmC l Z a0 hw (1 : Int32) (67 : Int32) sel c0 c1 (by decide) h4 n0) hZ (hw _ (List.mem_of_getElem? (i := 49) rfl)) (hw _ (List.mem_of_getElem? (i := 3) rfl)) (by decide) (by decide)) (g := (mkF m 363 #[.val (.int (7 : Int32)), .val (.int sel), .val (.int c0), .val (.int c1), .val (.ref a2)] [(.int c1), (.int c0), (.int sel), (.int (67 : Int32)), (.int (1 : Int32)), (.int (1 : Int32)), (.ref a2)])) rfl (by rw [hml]; rfl) (argsL := [(.int (1 : Int32)), (.int (67 : Int32)), (.int sel), (.int c0), (.int c1)]) (rest := [(.int (1 : Int32)), (.ref a2)]) (lenOf pdC rfl) rfl (by show 2 * 0 + _ ≤ _; exact Nat.le_of_eq rfl) (hb hby dK_363) (fun _ _ => ⟨rfl, e4, Nat.le_of_ble_eq_true rfl, Nat.le_of_ble_eq_true rfl⟩)
  dsimp only [Pt.U, Pt.locs, Pt.cells, Pt.slots] at XC1 lC1 yC1 zC1 stC1 hQC1
  subst lC1 yC1 zC1
  obtain ⟨r1, rfl, lr1, NC1, eC1⟩ := hQC1
  have MC1 := Fr.app (N4) NC1
  have P6 := V4.pad (pad_rep [(.int r0)] (.int (0 : Int32)) 1)
  obtain ⟨c6, B6, q6, S6, M6, H6, U6⟩ := P6
  obtain ⟨T6, h6, X6, e6, W6, st6⟩ := stC XC1 hx hZ eC1 B6 (j := (1 : Int32)) (inb_of S6 ⟨by decide, by decide⟩) (g := (mkF m 366 #[.val (.int (7 : Int32)), .val (.int sel), .val (.int c0), .val (.int c1), .val (.ref a2)] [(.int r1), (.int (1 : Int32)), (.ref a2)])) rfl rfl (hb hby dK_366)
  rw [own_nar lr1] at W6
  have V6 : Arv Z h6 a2 k2 .char (7 : Int32) [(.int r0), (.int r1)] (.int (0 : Int32)) := Arv.set B6 q6 S6 M6 H6 U6 (own_fc lr1) W6 1 rfl (Nat.le_of_ble_eq_true rfl)
  have N6 := Fr.snoc X6 (MC1) (Nat.le_trans Z0 gb)
  have En1 : Ext h0 h6 := own_ext_wr En0 W6 gb
  have sg7 : ∀ target, Steps p.tables e below (T6.setTop (mkF m 376 #[.val (.int (7 : Int32)), .val (.int sel), .val (.int c0), .val (.int c1), .val (.ref a2)] [(.int c1), (.int c0), (.int sel), (.int (47 : Int32)), (.int (2 : Int32)), (.int (2 : Int32)), (.ref a2)])) target → Steps p.tables e below (T6.setTop (mkF m 367 #[.val (.int (7 : Int32)), .val (.int sel), .val (.int c0), .val (.int c1), .val (.ref a2)] [])) target := by
    intro target kt
    show Steps p.tables e below (T6.setTop (mkF m 367 #[.val (.int (7 : Int32)), .val (.int sel), .val (.int c0), .val (.int c1), .val (.ref a2)] [])) _
    refine XS.aload X6.here hx rfl (hb hby dK_367) rfl rfl ?_
    show Steps p.tables e below (T6.setTop (mkF m 369 #[.val (.int (7 : Int32)), .val (.int sel), .val (.int c0), .val (.int c1), .val (.ref a2)] [(.ref a2)])) _
    refine XS.iconst X6.here hx rfl (hb hby dK_369) ?_
    show Steps p.tables e below (T6.setTop (mkF m 370 #[.val (.int (7 : Int32)), .val (.int sel), .val (.int c0), .val (.int c1), .val (.ref a2)] [(.int (2 : Int32)), (.ref a2)])) _
    refine XS.iconst X6.here hx rfl (hb hby dK_370) ?_
    show Steps p.tables e below (T6.setTop (mkF m 371 #[.val (.int (7 : Int32)), .val (.int sel), .val (.int c0), .val (.int c1), .val (.ref a2)] [(.int (2 : Int32)), (.int (2 : Int32)), (.ref a2)])) _
    refine XS.bipush X6.here hx rfl (hb hby dK_371) ?_
    show Steps p.tables e below (T6.setTop (mkF m 373 #[.val (.int (7 : Int32)), .val (.int sel), .val (.int c0), .val (.int c1), .val (.ref a2)] [(.int (47 : Int32)), (.int (2 : Int32)), (.int (2 : Int32)), (.ref a2)])) _
    refine XS.iloadN X6.here hx rfl (hb hby dK_373) rfl ?_
    show Steps p.tables e below (T6.setTop (mkF m 374 #[.val (.int (7 : Int32)), .val (.int sel), .val (.int c0), .val (.int c1), .val (.ref a2)] [(.int sel), (.int (47 : Int32)), (.int (2 : Int32)), (.int (2 : Int32)), (.ref a2)])) _
    refine XS.iloadN X6.here hx rfl (hb hby dK_374) rfl ?_
    show Steps p.tables e below (T6.setTop (mkF m 375 #[.val (.int (7 : Int32)), .val (.int sel), .val (.int c0), .val (.int c1), .val (.ref a2)] [(.int c0), (.int sel), (.int (47 : Int32)), (.int (2 : Int32)), (.int (2 : Int32)), (.ref a2)])) _
    refine XS.iloadN X6.here hx rfl (hb hby dK_375) rfl ?_
    show Steps p.tables e below (T6.setTop (mkF m 376 #[.val (.int (7 : Int32)), .val (.int sel), .val (.int c0), .val (.int c1), .val (.ref a2)] [(.int c1), (.int c0), (.int sel), (.int (47 : Int32)), (.int (2 : Int32)), (.int (2 : Int32)), (.ref a2)])) _
    exact kt
  obtain ⟨_, _, ⟨TC2, LC2, kC2, nC2⟩, -, XC2, ⟨LcC2, hQC2, lC2, yC2, zC2⟩, stC2⟩ := Jvm.LawKit.callS X6 hx (y := (⟨"com/example/ombudsign/ombudsign/dss/CertTypeFromValuePinLaw", "ch", "(ICIII)C"⟩ : MethodName)) hown (mvT hZ (hw _ (List.mem_of_getElem? (i := 47) rfl))) (mvT hZ (hw _ (List.mem_of_getElem? (i := 48) rfl))) (mvT hZ (hw _ (List.mem_of_getElem? (i := 3) rfl))) (mvT hZ (hw _ (List.mem_of_getElem? (i := 49) rfl))) (by decide) (backOf (W := 2) (rmC l Z a0 hw (2 : Int32) (47 : Int32) sel c0 c1 (by decide) h6 n0) hZ (hw _ (List.mem_of_getElem? (i := 49) rfl)) (hw _ (List.mem_of_getElem? (i := 3) rfl)) (by decide) (by decide)) (g := (mkF m 376 #[.val (.int (7 : Int32)), .val (.int sel), .val (.int c0), .val (.int c1), .val (.ref a2)] [(.int c1), (.int c0), (.int sel), (.int (47 : Int32)), (.int (2 : Int32)), (.int (2 : Int32)), (.ref a2)])) rfl (by rw [hml]; rfl) (argsL := [(.int (2 : Int32)), (.int (47 : Int32)), (.int sel), (.int c0), (.int c1)]) (rest := [(.int (2 : Int32)), (.ref a2)]) (lenOf pdC rfl) rfl (by show 2 * 0 + _ ≤ _; exact Nat.le_of_eq rfl) (hb hby dK_376) (fun _ _ => ⟨rfl, e6, Nat.le_of_ble_eq_true rfl, Nat.le_of_ble_eq_true rfl⟩)
  dsimp only [Pt.U, Pt.locs, Pt.cells, Pt.slots] at XC2 lC2 yC2 zC2 stC2 hQC2
  subst lC2 yC2 zC2
  obtain ⟨r2, rfl, lr2, NC2, eC2⟩ := hQC2
  have MC2 := Fr.app (N6) NC2
  have P8 := V6.pad (pad_rep [(.int r0), (.int r1)] (.int (0 : Int32)) 1)
  obtain ⟨c8, B8, q8, S8, M8, H8, U8⟩ := P8
  obtain ⟨T8, h8, X8, e8, W8, st8⟩ := stC XC2 hx hZ eC2 B8 (j := (2 : Int32)) (inb_of S8 ⟨by decide, by decide⟩) (g := (mkF m 379 #[.val (.int (7 : Int32)), .val (.int sel), .val (.int c0), .val (.int c1), .val (.ref a2)] [(.int r2), (.int (2 : Int32)), (.ref a2)])) rfl rfl (hb hby dK_379)
  rw [own_nar lr2] at W8
  have V8 : Arv Z h8 a2 k2 .char (7 : Int32) [(.int r0), (.int r1), (.int r2)] (.int (0 : Int32)) := Arv.set B8 q8 S8 M8 H8 U8 (own_fc lr2) W8 2 rfl (Nat.le_of_ble_eq_true rfl)
  have N8 := Fr.snoc X8 (MC2) (Nat.le_trans Z0 gb)
  have En2 : Ext h0 h8 := own_ext_wr En1 W8 gb
  have sg9 : ∀ target, Steps p.tables e below (T8.setTop (mkF m 389 #[.val (.int (7 : Int32)), .val (.int sel), .val (.int c0), .val (.int c1), .val (.ref a2)] [(.int c1), (.int c0), (.int sel), (.int (83 : Int32)), (.int (3 : Int32)), (.int (3 : Int32)), (.ref a2)])) target → Steps p.tables e below (T8.setTop (mkF m 380 #[.val (.int (7 : Int32)), .val (.int sel), .val (.int c0), .val (.int c1), .val (.ref a2)] [])) target := by
    intro target kt
    show Steps p.tables e below (T8.setTop (mkF m 380 #[.val (.int (7 : Int32)), .val (.int sel), .val (.int c0), .val (.int c1), .val (.ref a2)] [])) _
    refine XS.aload X8.here hx rfl (hb hby dK_380) rfl rfl ?_
    show Steps p.tables e below (T8.setTop (mkF m 382 #[.val (.int (7 : Int32)), .val (.int sel), .val (.int c0), .val (.int c1), .val (.ref a2)] [(.ref a2)])) _
    refine XS.iconst X8.here hx rfl (hb hby dK_382) ?_
    show Steps p.tables e below (T8.setTop (mkF m 383 #[.val (.int (7 : Int32)), .val (.int sel), .val (.int c0), .val (.int c1), .val (.ref a2)] [(.int (3 : Int32)), (.ref a2)])) _
    refine XS.iconst X8.here hx rfl (hb hby dK_383) ?_
    show Steps p.tables e below (T8.setTop (mkF m 384 #[.val (.int (7 : Int32)), .val (.int sel), .val (.int c0), .val (.int c1), .val (.ref a2)] [(.int (3 : Int32)), (.int (3 : Int32)), (.ref a2)])) _
    refine XS.bipush X8.here hx rfl (hb hby dK_384) ?_
    show Steps p.tables e below (T8.setTop (mkF m 386 #[.val (.int (7 : Int32)), .val (.int sel), .val (.int c0), .val (.int c1), .val (.ref a2)] [(.int (83 : Int32)), (.int (3 : Int32)), (.int (3 : Int32)), (.ref a2)])) _
    refine XS.iloadN X8.here hx rfl (hb hby dK_386) rfl ?_
    show Steps p.tables e below (T8.setTop (mkF m 387 #[.val (.int (7 : Int32)), .val (.int sel), .val (.int c0), .val (.int c1), .val (.ref a2)] [(.int sel), (.int (83 : Int32)), (.int (3 : Int32)), (.int (3 : Int32)), (.ref a2)])) _
    refine XS.iloadN X8.here hx rfl (hb hby dK_387) rfl ?_
    show Steps p.tables e below (T8.setTop (mkF m 388 #[.val (.int (7 : Int32)), .val (.int sel), .val (.int c0), .val (.int c1), .val (.ref a2)] [(.int c0), (.int sel), (.int (83 : Int32)), (.int (3 : Int32)), (.int (3 : Int32)), (.ref a2)])) _
    refine XS.iloadN X8.here hx rfl (hb hby dK_388) rfl ?_
    show Steps p.tables e below (T8.setTop (mkF m 389 #[.val (.int (7 : Int32)), .val (.int sel), .val (.int c0), .val (.int c1), .val (.ref a2)] [(.int c1), (.int c0), (.int sel), (.int (83 : Int32)), (.int (3 : Int32)), (.int (3 : Int32)), (.ref a2)])) _
    exact kt
  obtain ⟨_, _, ⟨TC3, LC3, kC3, nC3⟩, -, XC3, ⟨LcC3, hQC3, lC3, yC3, zC3⟩, stC3⟩ := Jvm.LawKit.callS X8 hx (y := (⟨"com/example/ombudsign/ombudsign/dss/CertTypeFromValuePinLaw", "ch", "(ICIII)C"⟩ : MethodName)) hown (mvT hZ (hw _ (List.mem_of_getElem? (i := 47) rfl))) (mvT hZ (hw _ (List.mem_of_getElem? (i := 48) rfl))) (mvT hZ (hw _ (List.mem_of_getElem? (i := 3) rfl))) (mvT hZ (hw _ (List.mem_of_getElem? (i := 49) rfl))) (by decide) (backOf (W := 2) (rmC l Z a0 hw (3 : Int32) (83 : Int32) sel c0 c1 (by decide) h8 n0) hZ (hw _ (List.mem_of_getElem? (i := 49) rfl)) (hw _ (List.mem_of_getElem? (i := 3) rfl)) (by decide) (by decide)) (g := (mkF m 389 #[.val (.int (7 : Int32)), .val (.int sel), .val (.int c0), .val (.int c1), .val (.ref a2)] [(.int c1), (.int c0), (.int sel), (.int (83 : Int32)), (.int (3 : Int32)), (.int (3 : Int32)), (.ref a2)])) rfl (by rw [hml]; rfl) (argsL := [(.int (3 : Int32)), (.int (83 : Int32)), (.int sel), (.int c0), (.int c1)]) (rest := [(.int (3 : Int32)), (.ref a2)]) (lenOf pdC rfl) rfl (by show 2 * 0 + _ ≤ _; exact Nat.le_of_eq rfl) (hb hby dK_389) (fun _ _ => ⟨rfl, e8, Nat.le_of_ble_eq_true rfl, Nat.le_of_ble_eq_true rfl⟩)
  dsimp only [Pt.U, Pt.locs, Pt.cells, Pt.slots] at XC3 lC3 yC3 zC3 stC3 hQC3
  subst lC3 yC3 zC3
  obtain ⟨r3, rfl, lr3, NC3, eC3⟩ := hQC3
  have MC3 := Fr.app (N8) NC3
  have P10 := V8.pad (pad_rep [(.int r0), (.int r1), (.int r2)] (.int (0 : Int32)) 1)
  obtain ⟨c10, B10, q10, S10, M10, H10, U10⟩ := P10
  obtain ⟨T10, h10, X10, e10, W10, st10⟩ := stC XC3 hx hZ eC3 B10 (j := (3 : Int32)) (inb_of S10 ⟨by decide, by decide⟩) (g := (mkF m 392 #[.val (.int (7 : Int32)), .val (.int sel), .val (.int c0), .val (.int c1), .val (.ref a2)] [(.int r3), (.int (3 : Int32)), (.ref a2)])) rfl rfl (hb hby dK_392)
  rw [own_nar lr3] at W10
  have V10 : Arv Z h10 a2 k2 .char (7 : Int32) [(.int r0), (.int r1), (.int r2), (.int r3)] (.int (0 : Int32)) := Arv.set B10 q10 S10 M10 H10 U10 (own_fc lr3) W10 3 rfl (Nat.le_of_ble_eq_true rfl)
  have N10 := Fr.snoc X10 (MC3) (Nat.le_trans Z0 gb)
  have En3 : Ext h0 h10 := own_ext_wr En2 W10 gb
  have sg11 : ∀ target, Steps p.tables e below (T10.setTop (mkF m 402 #[.val (.int (7 : Int32)), .val (.int sel), .val (.int c0), .val (.int c1), .val (.ref a2)] [(.int c1), (.int c0), (.int sel), (.int (83 : Int32)), (.int (4 : Int32)), (.int (4 : Int32)), (.ref a2)])) target → Steps p.tables e below (T10.setTop (mkF m 393 #[.val (.int (7 : Int32)), .val (.int sel), .val (.int c0), .val (.int c1), .val (.ref a2)] [])) target := by
    intro target kt
    show Steps p.tables e below (T10.setTop (mkF m 393 #[.val (.int (7 : Int32)), .val (.int sel), .val (.int c0), .val (.int c1), .val (.ref a2)] [])) _
    refine XS.aload X10.here hx rfl (hb hby dK_393) rfl rfl ?_
    show Steps p.tables e below (T10.setTop (mkF m 395 #[.val (.int (7 : Int32)), .val (.int sel), .val (.int c0), .val (.int c1), .val (.ref a2)] [(.ref a2)])) _
    refine XS.iconst X10.here hx rfl (hb hby dK_395) ?_
    show Steps p.tables e below (T10.setTop (mkF m 396 #[.val (.int (7 : Int32)), .val (.int sel), .val (.int c0), .val (.int c1), .val (.ref a2)] [(.int (4 : Int32)), (.ref a2)])) _
    refine XS.iconst X10.here hx rfl (hb hby dK_396) ?_
    show Steps p.tables e below (T10.setTop (mkF m 397 #[.val (.int (7 : Int32)), .val (.int sel), .val (.int c0), .val (.int c1), .val (.ref a2)] [(.int (4 : Int32)), (.int (4 : Int32)), (.ref a2)])) _
    refine XS.bipush X10.here hx rfl (hb hby dK_397) ?_
    show Steps p.tables e below (T10.setTop (mkF m 399 #[.val (.int (7 : Int32)), .val (.int sel), .val (.int c0), .val (.int c1), .val (.ref a2)] [(.int (83 : Int32)), (.int (4 : Int32)), (.int (4 : Int32)), (.ref a2)])) _
    refine XS.iloadN X10.here hx rfl (hb hby dK_399) rfl ?_
    show Steps p.tables e below (T10.setTop (mkF m 400 #[.val (.int (7 : Int32)), .val (.int sel), .val (.int c0), .val (.int c1), .val (.ref a2)] [(.int sel), (.int (83 : Int32)), (.int (4 : Int32)), (.int (4 : Int32)), (.ref a2)])) _
    refine XS.iloadN X10.here hx rfl (hb hby dK_400) rfl ?_
    show Steps p.tables e below (T10.setTop (mkF m 401 #[.val (.int (7 : Int32)), .val (.int sel), .val (.int c0), .val (.int c1), .val (.ref a2)] [(.int c0), (.int sel), (.int (83 : Int32)), (.int (4 : Int32)), (.int (4 : Int32)), (.ref a2)])) _
    refine XS.iloadN X10.here hx rfl (hb hby dK_401) rfl ?_
    show Steps p.tables e below (T10.setTop (mkF m 402 #[.val (.int (7 : Int32)), .val (.int sel), .val (.int c0), .val (.int c1), .val (.ref a2)] [(.int c1), (.int c0), (.int sel), (.int (83 : Int32)), (.int (4 : Int32)), (.int (4 : Int32)), (.ref a2)])) _
    exact kt
  obtain ⟨_, _, ⟨TC4, LC4, kC4, nC4⟩, -, XC4, ⟨LcC4, hQC4, lC4, yC4, zC4⟩, stC4⟩ := Jvm.LawKit.callS X10 hx (y := (⟨"com/example/ombudsign/ombudsign/dss/CertTypeFromValuePinLaw", "ch", "(ICIII)C"⟩ : MethodName)) hown (mvT hZ (hw _ (List.mem_of_getElem? (i := 47) rfl))) (mvT hZ (hw _ (List.mem_of_getElem? (i := 48) rfl))) (mvT hZ (hw _ (List.mem_of_getElem? (i := 3) rfl))) (mvT hZ (hw _ (List.mem_of_getElem? (i := 49) rfl))) (by decide) (backOf (W := 2) (rmC l Z a0 hw (4 : Int32) (83 : Int32) sel c0 c1 (by decide) h10 n0) hZ (hw _ (List.mem_of_getElem? (i := 49) rfl)) (hw _ (List.mem_of_getElem? (i := 3) rfl)) (by decide) (by decide)) (g := (mkF m 402 #[.val (.int (7 : Int32)), .val (.int sel), .val (.int c0), .val (.int c1), .val (.ref a2)] [(.int c1), (.int c0), (.int sel), (.int (83 : Int32)), (.int (4 : Int32)), (.int (4 : Int32)), (.ref a2)])) rfl (by rw [hml]; rfl) (argsL := [(.int (4 : Int32)), (.int (83 : Int32)), (.int sel), (.int c0), (.int c1)]) (rest := [(.int (4 : Int32)), (.ref a2)]) (lenOf pdC rfl) rfl (by show 2 * 0 + _ ≤ _; exact Nat.le_of_eq rfl) (hb hby dK_402) (fun _ _ => ⟨rfl, e10, Nat.le_of_ble_eq_true rfl, Nat.le_of_ble_eq_true rfl⟩)
  dsimp only [Pt.U, Pt.locs, Pt.cells, Pt.slots] at XC4 lC4 yC4 zC4 stC4 hQC4
  subst lC4 yC4 zC4
  obtain ⟨r4, rfl, lr4, NC4, eC4⟩ := hQC4
  have MC4 := Fr.app (N10) NC4
  have P12 := V10.pad (pad_rep [(.int r0), (.int r1), (.int r2), (.int r3)] (.int (0 : Int32)) 1)
  obtain ⟨c12, B12, q12, S12, M12, H12, U12⟩ := P12
  obtain ⟨T12, h12, X12, e12, W12, st12⟩ := stC XC4 hx hZ eC4 B12 (j := (4 : Int32)) (inb_of S12 ⟨by decide, by decide⟩) (g := (mkF m 405 #[.val (.int (7 : Int32)), .val (.int sel), .val (.int c0), .val (.int c1), .val (.ref a2)] [(.int r4), (.int (4 : Int32)), (.ref a2)])) rfl rfl (hb hby dK_405)
  rw [own_nar lr4] at W12
  have V12 : Arv Z h12 a2 k2 .char (7 : Int32) [(.int r0), (.int r1), (.int r2), (.int r3), (.int r4)] (.int (0 : Int32)) := Arv.set B12 q12 S12 M12 H12 U12 (own_fc lr4) W12 4 rfl (Nat.le_of_ble_eq_true rfl)
  have N12 := Fr.snoc X12 (MC4) (Nat.le_trans Z0 gb)
  have En4 : Ext h0 h12 := own_ext_wr En3 W12 gb
  have sg13 : ∀ target, Steps p.tables e below (T12.setTop (mkF m 415 #[.val (.int (7 : Int32)), .val (.int sel), .val (.int c0), .val (.int c1), .val (.ref a2)] [(.int c1), (.int c0), (.int sel), (.int (67 : Int32)), (.int (5 : Int32)), (.int (5 : Int32)), (.ref a2)])) target → Steps p.tables e below (T12.setTop (mkF m 406 #[.val (.int (7 : Int32)), .val (.int sel), .val (.int c0), .val (.int c1), .val (.ref a2)] [])) target := by
    intro target kt
    show Steps p.tables e below (T12.setTop (mkF m 406 #[.val (.int (7 : Int32)), .val (.int sel), .val (.int c0), .val (.int c1), .val (.ref a2)] [])) _
    refine XS.aload X12.here hx rfl (hb hby dK_406) rfl rfl ?_
    show Steps p.tables e below (T12.setTop (mkF m 408 #[.val (.int (7 : Int32)), .val (.int sel), .val (.int c0), .val (.int c1), .val (.ref a2)] [(.ref a2)])) _
    refine XS.iconst X12.here hx rfl (hb hby dK_408) ?_
    show Steps p.tables e below (T12.setTop (mkF m 409 #[.val (.int (7 : Int32)), .val (.int sel), .val (.int c0), .val (.int c1), .val (.ref a2)] [(.int (5 : Int32)), (.ref a2)])) _
    refine XS.iconst X12.here hx rfl (hb hby dK_409) ?_
    show Steps p.tables e below (T12.setTop (mkF m 410 #[.val (.int (7 : Int32)), .val (.int sel), .val (.int c0), .val (.int c1), .val (.ref a2)] [(.int (5 : Int32)), (.int (5 : Int32)), (.ref a2)])) _
    refine XS.bipush X12.here hx rfl (hb hby dK_410) ?_
    show Steps p.tables e below (T12.setTop (mkF m 412 #[.val (.int (7 : Int32)), .val (.int sel), .val (.int c0), .val (.int c1), .val (.ref a2)] [(.int (67 : Int32)), (.int (5 : Int32)), (.int (5 : Int32)), (.ref a2)])) _
    refine XS.iloadN X12.here hx rfl (hb hby dK_412) rfl ?_
    show Steps p.tables e below (T12.setTop (mkF m 413 #[.val (.int (7 : Int32)), .val (.int sel), .val (.int c0), .val (.int c1), .val (.ref a2)] [(.int sel), (.int (67 : Int32)), (.int (5 : Int32)), (.int (5 : Int32)), (.ref a2)])) _
    refine XS.iloadN X12.here hx rfl (hb hby dK_413) rfl ?_
    show Steps p.tables e below (T12.setTop (mkF m 414 #[.val (.int (7 : Int32)), .val (.int sel), .val (.int c0), .val (.int c1), .val (.ref a2)] [(.int c0), (.int sel), (.int (67 : Int32)), (.int (5 : Int32)), (.int (5 : Int32)), (.ref a2)])) _
    refine XS.iloadN X12.here hx rfl (hb hby dK_414) rfl ?_
    show Steps p.tables e below (T12.setTop (mkF m 415 #[.val (.int (7 : Int32)), .val (.int sel), .val (.int c0), .val (.int c1), .val (.ref a2)] [(.int c1), (.int c0), (.int sel), (.int (67 : Int32)), (.int (5 : Int32)), (.int (5 : Int32)), (.ref a2)])) _
    exact kt
  obtain ⟨_, _, ⟨TC5, LC5, kC5, nC5⟩, -, XC5, ⟨LcC5, hQC5, lC5, yC5, zC5⟩, stC5⟩ := Jvm.LawKit.callS X12 hx (y := (⟨"com/example/ombudsign/ombudsign/dss/CertTypeFromValuePinLaw", "ch", "(ICIII)C"⟩ : MethodName)) hown (mvT hZ (hw _ (List.mem_of_getElem? (i := 47) rfl))) (mvT hZ (hw _ (List.mem_of_getElem? (i := 48) rfl))) (mvT hZ (hw _ (List.mem_of_getElem? (i := 3) rfl))) (mvT hZ (hw _ (List.mem_of_getElem? (i := 49) rfl))) (by decide) (backOf (W := 2) (rmC l Z a0 hw (5 : Int32) (67 : Int32) sel c0 c1 (by decide) h12 n0) hZ (hw _ (List.mem_of_getElem? (i := 49) rfl)) (hw _ (List.mem_of_getElem? (i := 3) rfl)) (by decide) (by decide)) (g := (mkF m 415 #[.val (.int (7 : Int32)), .val (.int sel), .val (.int c0), .val (.int c1), .val (.ref a2)] [(.int c1), (.int c0), (.int sel), (.int (67 : Int32)), (.int (5 : Int32)), (.int (5 : Int32)), (.ref a2)])) rfl (by rw [hml]; rfl) (argsL := [(.int (5 : Int32)), (.int (67 : Int32)), (.int sel), (.int c0), (.int c1)]) (rest := [(.int (5 : Int32)), (.ref a2)]) (lenOf pdC rfl) rfl (by show 2 * 0 + _ ≤ _; exact Nat.le_of_eq rfl) (hb hby dK_415) (fun _ _ => ⟨rfl, e12, Nat.le_of_ble_eq_true rfl, Nat.le_of_ble_eq_true rfl⟩)
  dsimp only [Pt.U, Pt.locs, Pt.cells, Pt.slots] at XC5 lC5 yC5 zC5 stC5 hQC5
  subst lC5 yC5 zC5
  obtain ⟨r5, rfl, lr5, NC5, eC5⟩ := hQC5
  have MC5 := Fr.app (N12) NC5
  have P14 := V12.pad (pad_rep [(.int r0), (.int r1), (.int r2), (.int r3), (.int r4)] (.int (0 : Int32)) 1)
  obtain ⟨c14, B14, q14, S14, M14, H14, U14⟩ := P14
  obtain ⟨T14, h14, X14, e14, W14, st14⟩ := stC XC5 hx hZ eC5 B14 (j := (5 : Int32)) (inb_of S14 ⟨by decide, by decide⟩) (g := (mkF m 418 #[.val (.int (7 : Int32)), .val (.int sel), .val (.int c0), .val (.int c1), .val (.ref a2)] [(.int r5), (.int (5 : Int32)), (.ref a2)])) rfl rfl (hb hby dK_418)
  rw [own_nar lr5] at W14
  have V14 : Arv Z h14 a2 k2 .char (7 : Int32) [(.int r0), (.int r1), (.int r2), (.int r3), (.int r4), (.int r5)] (.int (0 : Int32)) := Arv.set B14 q14 S14 M14 H14 U14 (own_fc lr5) W14 5 rfl (Nat.le_of_ble_eq_true rfl)
  have N14 := Fr.snoc X14 (MC5) (Nat.le_trans Z0 gb)
  have En5 : Ext h0 h14 := own_ext_wr En4 W14 gb
  have sg15 : ∀ target, Steps p.tables e below (T14.setTop (mkF m 430 #[.val (.int (7 : Int32)), .val (.int sel), .val (.int c0), .val (.int c1), .val (.ref a2)] [(.int c1), (.int c0), (.int sel), (.int (68 : Int32)), (.int (6 : Int32)), (.int (6 : Int32)), (.ref a2)])) target → Steps p.tables e below (T14.setTop (mkF m 419 #[.val (.int (7 : Int32)), .val (.int sel), .val (.int c0), .val (.int c1), .val (.ref a2)] [])) target := by
    intro target kt
    show Steps p.tables e below (T14.setTop (mkF m 419 #[.val (.int (7 : Int32)), .val (.int sel), .val (.int c0), .val (.int c1), .val (.ref a2)] [])) _
    refine XS.aload X14.here hx rfl (hb hby dK_419) rfl rfl ?_
    show Steps p.tables e below (T14.setTop (mkF m 421 #[.val (.int (7 : Int32)), .val (.int sel), .val (.int c0), .val (.int c1), .val (.ref a2)] [(.ref a2)])) _
    refine XS.bipush X14.here hx rfl (hb hby dK_421) ?_
    show Steps p.tables e below (T14.setTop (mkF m 423 #[.val (.int (7 : Int32)), .val (.int sel), .val (.int c0), .val (.int c1), .val (.ref a2)] [(.int (6 : Int32)), (.ref a2)])) _
    refine XS.bipush X14.here hx rfl (hb hby dK_423) ?_
    show Steps p.tables e below (T14.setTop (mkF m 425 #[.val (.int (7 : Int32)), .val (.int sel), .val (.int c0), .val (.int c1), .val (.ref a2)] [(.int (6 : Int32)), (.int (6 : Int32)), (.ref a2)])) _
    refine XS.bipush X14.here hx rfl (hb hby dK_425) ?_
    show Steps p.tables e below (T14.setTop (mkF m 427 #[.val (.int (7 : Int32)), .val (.int sel), .val (.int c0), .val (.int c1), .val (.ref a2)] [(.int (68 : Int32)), (.int (6 : Int32)), (.int (6 : Int32)), (.ref a2)])) _
    refine XS.iloadN X14.here hx rfl (hb hby dK_427) rfl ?_
    show Steps p.tables e below (T14.setTop (mkF m 428 #[.val (.int (7 : Int32)), .val (.int sel), .val (.int c0), .val (.int c1), .val (.ref a2)] [(.int sel), (.int (68 : Int32)), (.int (6 : Int32)), (.int (6 : Int32)), (.ref a2)])) _
    refine XS.iloadN X14.here hx rfl (hb hby dK_428) rfl ?_
    show Steps p.tables e below (T14.setTop (mkF m 429 #[.val (.int (7 : Int32)), .val (.int sel), .val (.int c0), .val (.int c1), .val (.ref a2)] [(.int c0), (.int sel), (.int (68 : Int32)), (.int (6 : Int32)), (.int (6 : Int32)), (.ref a2)])) _
    refine XS.iloadN X14.here hx rfl (hb hby dK_429) rfl ?_
    show Steps p.tables e below (T14.setTop (mkF m 430 #[.val (.int (7 : Int32)), .val (.int sel), .val (.int c0), .val (.int c1), .val (.ref a2)] [(.int c1), (.int c0), (.int sel), (.int (68 : Int32)), (.int (6 : Int32)), (.int (6 : Int32)), (.ref a2)])) _
    exact kt
  obtain ⟨_, _, ⟨TC6, LC6, kC6, nC6⟩, -, XC6, ⟨LcC6, hQC6, lC6, yC6, zC6⟩, stC6⟩ := Jvm.LawKit.callS X14 hx (y := (⟨"com/example/ombudsign/ombudsign/dss/CertTypeFromValuePinLaw", "ch", "(ICIII)C"⟩ : MethodName)) hown (mvT hZ (hw _ (List.mem_of_getElem? (i := 47) rfl))) (mvT hZ (hw _ (List.mem_of_getElem? (i := 48) rfl))) (mvT hZ (hw _ (List.mem_of_getElem? (i := 3) rfl))) (mvT hZ (hw _ (List.mem_of_getElem? (i := 49) rfl))) (by decide) (backOf (W := 2) (rmC l Z a0 hw (6 : Int32) (68 : Int32) sel c0 c1 (by decide) h14 n0) hZ (hw _ (List.mem_of_getElem? (i := 49) rfl)) (hw _ (List.mem_of_getElem? (i := 3) rfl)) (by decide) (by decide)) (g := (mkF m 430 #[.val (.int (7 : Int32)), .val (.int sel), .val (.int c0), .val (.int c1), .val (.ref a2)] [(.int c1), (.int c0), (.int sel), (.int (68 : Int32)), (.int (6 : Int32)), (.int (6 : Int32)), (.ref a2)])) rfl (by rw [hml]; rfl) (argsL := [(.int (6 : Int32)), (.int (68 : Int32)), (.int sel), (.int c0), (.int c1)]) (rest := [(.int (6 : Int32)), (.ref a2)]) (lenOf pdC rfl) rfl (by show 2 * 0 + _ ≤ _; exact Nat.le_of_eq rfl) (hb hby dK_430) (fun _ _ => ⟨rfl, e14, Nat.le_of_ble_eq_true rfl, Nat.le_of_ble_eq_true rfl⟩)
  dsimp only [Pt.U, Pt.locs, Pt.cells, Pt.slots] at XC6 lC6 yC6 zC6 stC6 hQC6
  subst lC6 yC6 zC6
  obtain ⟨r6, rfl, lr6, NC6, eC6⟩ := hQC6
  have MC6 := Fr.app (N14) NC6
  have P16 := V14.pad (pad_rep [(.int r0), (.int r1), (.int r2), (.int r3), (.int r4), (.int r5)] (.int (0 : Int32)) 1)
  obtain ⟨c16, B16, q16, S16, M16, H16, U16⟩ := P16
  obtain ⟨T16, h16, X16, e16, W16, st16⟩ := stC XC6 hx hZ eC6 B16 (j := (6 : Int32)) (inb_of S16 ⟨by decide, by decide⟩) (g := (mkF m 433 #[.val (.int (7 : Int32)), .val (.int sel), .val (.int c0), .val (.int c1), .val (.ref a2)] [(.int r6), (.int (6 : Int32)), (.ref a2)])) rfl rfl (hb hby dK_433)
  rw [own_nar lr6] at W16
  have V16 : Arv Z h16 a2 k2 .char (7 : Int32) [(.int r0), (.int r1), (.int r2), (.int r3), (.int r4), (.int r5), (.int r6)] (.int (0 : Int32)) := Arv.set B16 q16 S16 M16 H16 U16 (own_fc lr6) W16 6 rfl (Nat.le_of_ble_eq_true rfl)
  have N16 := Fr.snoc X16 (MC6) (Nat.le_trans Z0 gb)
  have En6 : Ext h0 h16 := own_ext_wr En5 W16 gb
  obtain ⟨T17, h17, X17, e17, E17, A17, D17, -, st17⟩ := newO X16 hx hZ hown (hw _ (List.mem_of_getElem? (i := 53) rfl)) (hw _ (List.mem_of_getElem? (i := 54) rfl)) (hw _ (List.mem_of_getElem? (i := 32) rfl)) e16 (g := (mkF m 434 #[.val (.int (7 : Int32)), .val (.int sel), .val (.int c0), .val (.int c1), .val (.ref a2)] [])) rfl (hb hby dK_434) (by decide) (by decide)
  obtain ⟨a17, g17⟩ : ∃ z, z = h16.size := ⟨_, rfl⟩
  rw [← g17] at A17 D17 st17
  have En : Ext h0 h17 := own_ext_trans En6 E17
  have gx0 : h0.size ≤ a17 := by rw [g17]; exact En6.1
  have gx : n0 ≤ a17 := Nat.le_trans Z0 gx0
  have VV := V16.ext E17
  have sg18 : ∀ target, Steps p.tables e below (T17.setTop (mkF m 440 #[.val (.int (7 : Int32)), .val (.int sel), .val (.int c0), .val (.int c1), .val (.ref a2)] [(.ref a2), (.ref a17), (.ref a17)])) target → Steps p.tables e below (T17.setTop (mkF m 437 #[.val (.int (7 : Int32)), .val (.int sel), .val (.int c0), .val (.int c1), .val (.ref a2)] [(.ref a17)])) target := by
    intro target kt
    show Steps p.tables e below (T17.setTop (mkF m 437 #[.val (.int (7 : Int32)), .val (.int sel), .val (.int c0), .val (.int c1), .val (.ref a2)] [(.ref a17)])) _
    refine XS.dup X17.here hx rfl (hb hby dK_437) rfl rfl ?_
    show Steps p.tables e below (T17.setTop (mkF m 438 #[.val (.int (7 : Int32)), .val (.int sel), .val (.int c0), .val (.int c1), .val (.ref a2)] [(.ref a17), (.ref a17)])) _
    refine XS.aload X17.here hx rfl (hb hby dK_438) rfl rfl ?_
    show Steps p.tables e below (T17.setTop (mkF m 440 #[.val (.int (7 : Int32)), .val (.int sel), .val (.int c0), .val (.int c1), .val (.ref a2)] [(.ref a2), (.ref a17), (.ref a17)])) _
    exact kt
  have Fv : Fld Z h17 a17 "java/lang/String" "value" "[B" .null := D17 (Or.inr (hw _ (List.mem_of_getElem? (i := 80) rfl))) (ty := (.array .byte)) (by decide)
  have Fc : Fld Z h17 a17 "java/lang/String" "coder" "B" (.int (0 : Int32)) := D17 (Or.inr (hw _ (List.mem_of_getElem? (i := 78) rfl))) (ty := .byte) (by decide)
  have Ex : Exa Z h17 a17 "java/lang/String" := A17
  have hp : own_lat [r0, r1, r2, r3, r4, r5, r6] := by
    intro c hc
    simp only [List.mem_cons, List.not_mem_nil, or_false] at hc
    rcases hc with rfl | rfl | rfl | rfl | rfl | rfl | rfl <;> assumption
  obtain ⟨_, _, ⟨TJ9, LJ9, kJ9, nJ9⟩, -, XJ9, ⟨LcJ9, hQJ9, lJ9, yJ9, zJ9⟩, stJ9⟩ := X17.specialBack hx (y := (⟨"java/lang/String", "<init>", "([C)V"⟩ : MethodName)) rfl hown (mvT hZ (hw _ (List.mem_of_getElem? (i := 55) rfl))) (mvT hZ (hw _ (List.mem_of_getElem? (i := 56) rfl))) (mvT hZ (hw _ (List.mem_of_getElem? (i := 57) rfl))) (by decide) (StrChars.Road.backV (W := 1) hZ hws (kI := 4) (hw _ (List.mem_of_getElem? (i := 54) rfl)) (cs := ([r0, r1, r2, r3, r4, r5, r6] : List Int32)) (bs := ([r0, r1, r2, r3, r4, r5, r6] : List Int32).map (fun c => c.toInt8.toInt32)) (n := 7) gx (Nat.le_trans Z0 En.1) Ex Fv Fc VV (O.ext En) hG rfl rfl (by decide) (by decide) hp rfl (by decide) (by decide)) (g := (mkF m 440 #[.val (.int (7 : Int32)), .val (.int sel), .val (.int c0), .val (.int c1), .val (.ref a2)] [(.ref a2), (.ref a17), (.ref a17)])) rfl (by rw [hml]; rfl) (Steps.refl _) (a := a17) (argsL := [(.ref a2)]) (rest := [(.ref a17)]) (lenOf pdE1 rfl) rfl (by show 2 * 0 + _ ≤ _; exact Nat.le_of_eq rfl) (hb hby dK_440) (fun _ _ => ⟨rfl, e17, Nat.le_of_ble_eq_true rfl, Nat.le_of_ble_eq_true rfl⟩)
  dsimp only [Pt.U, Pt.locs, Pt.cells, Pt.slots] at XJ9 lJ9 yJ9 zJ9 stJ9 hQJ9
  subst lJ9 yJ9 zJ9
  obtain ⟨rfl, NJ9, KJ9, gJ9a, gJ9c, tJ9, kbJ9, uJ9, vJ9, wJ9, gJ9v, gJ9b⟩ := hQJ9
  have EJ9 : Ext h0 TJ9.heap := own_ext_keep En KJ9 (allS gx0 all0)
  obtain ⟨fs, hr, hrun, hended, hW⟩ := XJ9.leaveW (n := s.heap.size) hS0 (by rw [hh]; exact EJ9.1) (v := some (.ref a17)) (fun h => by rw [Bd.returns] at h; cases h)
  have RR : CHr Z EL s.vm h0 TJ9.vm TJ9.heap := (CHr.ext EJ9 H0).trans (CHv.at XJ9 hZ hEL (H0.ext EJ9))
  refine ⟨_, _, castTop (efK m 7 sel c0 c1) ?_, hrun, hended, _, _, rfl, ⟨Fr.app (N16) NJ9, EJ9, Or.inr ⟨a17, [r0, r1, r2, r3, r4, r5, r6], rfl, hp, Nat.le_of_ble_eq_true rfl, ⟨gJ9a, gJ9c, tJ9, kbJ9, gJ9v, gJ9b⟩⟩⟩, ?_, own_w hW (by decide) (by decide)⟩
  · show Steps p.tables e below (s₁.setTop (mkF m 0 #[.val (.int (7 : Int32)), .val (.int sel), .val (.int c0), .val (.int c1), .unset] [])) _
    refine sg1 _ ?_
    show Steps p.tables e below (s₁.setTop (mkF m 337 #[.val (.int (7 : Int32)), .val (.int sel), .val (.int c0), .val (.int c1), .unset] [(.int (7 : Int32))])) _
    refine st2 _ ?_
    show Steps p.tables e below (T2.setTop (mkF m 339 #[.val (.int (7 : Int32)), .val (.int sel), .val (.int c0), .val (.int c1), .unset] [(.ref a2)])) _
    refine sg3 _ ?_
    show Steps p.tables e below (T2.setTop (mkF m 350 #[.val (.int (7 : Int32)), .val (.int sel), .val (.int c0), .val (.int c1), .val (.ref a2)] [(.int c1), (.int c0), (.int sel), (.int (81 : Int32)), (.int (0 : Int32)), (.int (0 : Int32)), (.ref a2)])) _
    refine stC0 _ ?_
    show Steps p.tables e below (TC0.setTop (mkF m 353 #[.val (.int (7 : Int32)), .val (.int sel), .val (.int c0), .val (.int c1), .val (.ref a2)] [(.int r0), (.int (0 : Int32)), (.ref a2)])) _
    refine st4 _ ?_
    show Steps p.tables e below (T4.setTop (mkF m 354 #[.val (.int (7 : Int32)), .val (.int sel), .val (.int c0), .val (.int c1), .val (.ref a2)] [])) _
    refine sg5 _ ?_
    show Steps p.tables e below (T4.setTop (mkF m 363 #[.val (.int (7 : Int32)), .val (.int sel), .val (.int c0), .val (.int c1), .val (.ref a2)] [(.int c1), (.int c0), (.int sel), (.int (67 : Int32)), (.int (1 : Int32)), (.int (1 : Int32)), (.ref a2)])) _
    refine stC1 _ ?_
    show Steps p.tables e below (TC1.setTop (mkF m 366 #[.val (.int (7 : Int32)), .val (.int sel), .val (.int c0), .val (.int c1), .val (.ref a2)] [(.int r1), (.int (1 : Int32)), (.ref a2)])) _
    refine st6 _ ?_
    show Steps p.tables e below (T6.setTop (mkF m 367 #[.val (.int (7 : Int32)), .val (.int sel), .val (.int c0), .val (.int c1), .val (.ref a2)] [])) _
    refine sg7 _ ?_
    show Steps p.tables e below (T6.setTop (mkF m 376 #[.val (.int (7 : Int32)), .val (.int sel), .val (.int c0), .val (.int c1), .val (.ref a2)] [(.int c1), (.int c0), (.int sel), (.int (47 : Int32)), (.int (2 : Int32)), (.int (2 : Int32)), (.ref a2)])) _
    refine stC2 _ ?_
    show Steps p.tables e below (TC2.setTop (mkF m 379 #[.val (.int (7 : Int32)), .val (.int sel), .val (.int c0), .val (.int c1), .val (.ref a2)] [(.int r2), (.int (2 : Int32)), (.ref a2)])) _
    refine st8 _ ?_
    show Steps p.tables e below (T8.setTop (mkF m 380 #[.val (.int (7 : Int32)), .val (.int sel), .val (.int c0), .val (.int c1), .val (.ref a2)] [])) _
    refine sg9 _ ?_
    show Steps p.tables e below (T8.setTop (mkF m 389 #[.val (.int (7 : Int32)), .val (.int sel), .val (.int c0), .val (.int c1), .val (.ref a2)] [(.int c1), (.int c0), (.int sel), (.int (83 : Int32)), (.int (3 : Int32)), (.int (3 : Int32)), (.ref a2)])) _
    refine stC3 _ ?_
    show Steps p.tables e below (TC3.setTop (mkF m 392 #[.val (.int (7 : Int32)), .val (.int sel), .val (.int c0), .val (.int c1), .val (.ref a2)] [(.int r3), (.int (3 : Int32)), (.ref a2)])) _
    refine st10 _ ?_
    show Steps p.tables e below (T10.setTop (mkF m 393 #[.val (.int (7 : Int32)), .val (.int sel), .val (.int c0), .val (.int c1), .val (.ref a2)] [])) _
    refine sg11 _ ?_
    show Steps p.tables e below (T10.setTop (mkF m 402 #[.val (.int (7 : Int32)), .val (.int sel), .val (.int c0), .val (.int c1), .val (.ref a2)] [(.int c1), (.int c0), (.int sel), (.int (83 : Int32)), (.int (4 : Int32)), (.int (4 : Int32)), (.ref a2)])) _
    refine stC4 _ ?_
    show Steps p.tables e below (TC4.setTop (mkF m 405 #[.val (.int (7 : Int32)), .val (.int sel), .val (.int c0), .val (.int c1), .val (.ref a2)] [(.int r4), (.int (4 : Int32)), (.ref a2)])) _
    refine st12 _ ?_
    show Steps p.tables e below (T12.setTop (mkF m 406 #[.val (.int (7 : Int32)), .val (.int sel), .val (.int c0), .val (.int c1), .val (.ref a2)] [])) _
    refine sg13 _ ?_
    show Steps p.tables e below (T12.setTop (mkF m 415 #[.val (.int (7 : Int32)), .val (.int sel), .val (.int c0), .val (.int c1), .val (.ref a2)] [(.int c1), (.int c0), (.int sel), (.int (67 : Int32)), (.int (5 : Int32)), (.int (5 : Int32)), (.ref a2)])) _
    refine stC5 _ ?_
    show Steps p.tables e below (TC5.setTop (mkF m 418 #[.val (.int (7 : Int32)), .val (.int sel), .val (.int c0), .val (.int c1), .val (.ref a2)] [(.int r5), (.int (5 : Int32)), (.ref a2)])) _
    refine st14 _ ?_
    show Steps p.tables e below (T14.setTop (mkF m 419 #[.val (.int (7 : Int32)), .val (.int sel), .val (.int c0), .val (.int c1), .val (.ref a2)] [])) _
    refine sg15 _ ?_
    show Steps p.tables e below (T14.setTop (mkF m 430 #[.val (.int (7 : Int32)), .val (.int sel), .val (.int c0), .val (.int c1), .val (.ref a2)] [(.int c1), (.int c0), (.int sel), (.int (68 : Int32)), (.int (6 : Int32)), (.int (6 : Int32)), (.ref a2)])) _
    refine stC6 _ ?_
    show Steps p.tables e below (TC6.setTop (mkF m 433 #[.val (.int (7 : Int32)), .val (.int sel), .val (.int c0), .val (.int c1), .val (.ref a2)] [(.int r6), (.int (6 : Int32)), (.ref a2)])) _
    refine st16 _ ?_
    show Steps p.tables e below (T16.setTop (mkF m 434 #[.val (.int (7 : Int32)), .val (.int sel), .val (.int c0), .val (.int c1), .val (.ref a2)] [])) _
    refine st17 _ ?_
    show Steps p.tables e below (T17.setTop (mkF m 437 #[.val (.int (7 : Int32)), .val (.int sel), .val (.int c0), .val (.int c1), .val (.ref a2)] [(.ref a17)])) _
    refine sg18 _ ?_
    show Steps p.tables e below (T17.setTop (mkF m 440 #[.val (.int (7 : Int32)), .val (.int sel), .val (.int c0), .val (.int c1), .val (.ref a2)] [(.ref a2), (.ref a17), (.ref a17)])) _
    refine stJ9.trans ?_
    show Steps p.tables e below (TJ9.setTop (mkF m 443 #[.val (.int (7 : Int32)), .val (.int sel), .val (.int c0), .val (.int c1), .val (.ref a2)] [(.ref a17)])) _
    exact retOut XJ9 hx (t := .object "java/lang/String") Bd.returns rfl (Or.inr (Or.inr (Or.inr (Or.inr ⟨rfl, rfl, rfl⟩)))) (hb hby dK_443) hr
  · show CHr Z EL s.vm s.heap TJ9.vm TJ9.heap
    rw [hh]; exact RR
set_option maxRecDepth 65536 in
set_option maxHeartbeats 40000000 in
theorem rmK8 (l : Launch) (Z : State) (a0 : Array Value) (hw : ∀ d ∈ tables_1, d.before a0 Z = true) (EL : List (String × Nat)) (hEL : EW Z a0 EL) (hmem : ("java/lang/String", 7) ∈ EL) (sel c0 c1 : Int32) (G : Int32) (h0 : Heap) (n0 : Nat) (Z0 : n0 ≤ h0.size) (O : Sta Z h0 "java/lang/String" "COMPACT_STRINGS" "Z" (.int G)) (hG : ¬ G = 0) :
    MetFree l (⟨"com/example/ombudsign/ombudsign/dss/CertTypeFromValuePinLaw", "make", "(IIII)Ljava/lang/String;"⟩ : MethodName) (head1 [Jvm.Cond.code (⟨"com/example/ombudsign/ombudsign/dss/CertTypeFromValuePinLaw", "make", "(IIII)Ljava/lang/String;"⟩ : MethodName) method_5_code 5 (some (.object "java/lang/String"))] ({ frames := 4, cells := 4, slots := 20, locals := 66 } : Room)) (fun q_ U => q_ = #[(.int (8 : Int32)), (.int sel), (.int c0), (.int c1)] ∧ Z.Warmed39 U.vm ∧ U.heap = h0 ∧ CHv Z EL U.vm h0) (fun _ _ _ _ _ => True) (fun _ U o U' => ∃ v L, o = .returned v ∧ own_QK Z h0 n0 v U'.heap L ∧ CHr Z EL U.vm U.heap U'.vm U'.heap ∧ ReturnedEndW U o U' L ({ frames := 4, cells := 4, slots := 20, locals := 66 } : Room).cells ({ frames := 4, cells := 4, slots := 20, locals := 66 } : Room).slots) := by
  refine MetFree.of_bodySF (plainFor_of_name pn_L) hisR ?_
  intro p e s m args below meth c s₁ Bd hml0 hP hK
  obtain ⟨rfl, hZ, hh, H0⟩ := hP
  have hx := Bd.exec
  have hby := Bd.bytes
  have hml : c.maxLocals = 5 := hml0
  have hown : s.vm.findClass "com/example/ombudsign/ombudsign/dss/CertTypeFromValuePinLaw" = some m.cls := findClass_of_methodNamed Bd.named
  have hnm := (name_of_methodNamed Bd.named Bd.method).1
  have X0 : Stand p l e ({ frames := 4, cells := 4, slots := 20, locals := 66 } : Room) (s.setVm s.vm) m #[(.int (8 : Int32)), (.int sel), (.int c0), (.int c1)] below meth c s₁ [] 0 0 := Stand.of_body Bd
  have e0 : s₁.heap = h0 := by rw [← hh, Bd.state]; rfl
  have hS0 : s.Since s.vm s.heap.size := (State.WarmedH.refl s).since _
  have hws : ∀ d ∈ StrChars.Road.words, d.before a0 Z = true := fun d hd => hw d (own_hws d hd)
  have sg1 : ∀ target, Steps p.tables e below (s₁.setTop (mkF m 446 #[.val (.int (8 : Int32)), .val (.int sel), .val (.int c0), .val (.int c1), .unset] [(.int (8 : Int32))])) target → Steps p.tables e below (s₁.setTop (mkF m 0 #[.val (.int (8 : Int32)), .val (.int sel), .val (.int c0), .val (.int c1), .unset] [])) target := by
    intro target kt
    show Steps p.tables e below (s₁.setTop (mkF m 0 #[.val (.int (8 : Int32)), .val (.int sel), .val (.int c0), .val (.int c1), .unset] [])) _
    refine XS.iloadN X0.here hx rfl (hb hby dK_0) rfl ?_
    show Steps p.tables e below (s₁.setTop (mkF m 1 #[.val (.int (8 : Int32)), .val (.int sel), .val (.int c0), .val (.int c1), .unset] [(.int (8 : Int32))])) _
    refine XS.ifYes X0.here hx rfl (pc0 := 1) (pc' := 6) rfl (hb hby dK_1) rfl (by decide) (by decide) (by decide) ?_
    show Steps p.tables e below (s₁.setTop (mkF m 6 #[.val (.int (8 : Int32)), .val (.int sel), .val (.int c0), .val (.int c1), .unset] [])) _
    refine XS.iloadN X0.here hx rfl (hb hby dK_6) rfl ?_
    show Steps p.tables e below (s₁.setTop (mkF m 7 #[.val (.int (8 : Int32)), .val (.int sel), .val (.int c0), .val (.int c1), .unset] [(.int (8 : Int32))])) _
    refine XS.iconst X0.here hx rfl (hb hby dK_7) ?_
    show Steps p.tables e below (s₁.setTop (mkF m 8 #[.val (.int (8 : Int32)), .val (.int sel), .val (.int c0), .val (.int c1), .unset] [(.int (1 : Int32)), (.int (8 : Int32))])) _
    refine XS.icmpYes X0.here hx rfl (pc0 := 8) (pc' := 22) rfl (hb hby dK_8) rfl (by decide) (by decide) (by decide) ?_
    show Steps p.tables e below (s₁.setTop (mkF m 22 #[.val (.int (8 : Int32)), .val (.int sel), .val (.int c0), .val (.int c1), .unset] [])) _
    refine XS.iloadN X0.here hx rfl (hb hby dK_22) rfl ?_
    show Steps p.tables e below (s₁.setTop (mkF m 23 #[.val (.int (8 : Int32)), .val (.int sel), .val (.int c0), .val (.int c1), .unset] [(.int (8 : Int32))])) _
    refine XS.iconst X0.here hx rfl (hb hby dK_23) ?_
    show Steps p.tables e below (s₁.setTop (mkF m 24 #[.val (.int (8 : Int32)), .val (.int sel), .val (.int c0), .val (.int c1), .unset] [(.int (2 : Int32)), (.int (8 : Int32))])) _
    refine XS.icmpYes X0.here hx rfl (pc0 := 24) (pc' := 55) rfl (hb hby dK_24) rfl (by decide) (by decide) (by decide) ?_
    show Steps p.tables e below (s₁.setTop (mkF m 55 #[.val (.int (8 : Int32)), .val (.int sel), .val (.int c0), .val (.int c1), .unset] [])) _
    refine XS.iloadN X0.here hx rfl (hb hby dK_55) rfl ?_
    show Steps p.tables e below (s₁.setTop (mkF m 56 #[.val (.int (8 : Int32)), .val (.int sel), .val (.int c0), .val (.int c1), .unset] [(.int (8 : Int32))])) _
    refine XS.iconst X0.here hx rfl (hb hby dK_56) ?_
    show Steps p.tables e below (s₁.setTop (mkF m 57 #[.val (.int (8 : Int32)), .val (.int sel), .val (.int c0), .val (.int c1), .unset] [(.int (3 : Int32)), (.int (8 : Int32))])) _
    refine XS.icmpYes X0.here hx rfl (pc0 := 57) (pc' := 101) rfl (hb hby dK_57) rfl (by decide) (by decide) (by decide) ?_
    show Steps p.tables e below (s₁.setTop (mkF m 101 #[.val (.int (8 : Int32)), .val (.int sel), .val (.int c0), .val (.int c1), .unset] [])) _
    refine XS.iloadN X0.here hx rfl (hb hby dK_101) rfl ?_
    show Steps p.tables e below (s₁.setTop (mkF m 102 #[.val (.int (8 : Int32)), .val (.int sel), .val (.int c0), .val (.int c1), .unset] [(.int (8 : Int32))])) _
    refine XS.iconst X0.here hx rfl (hb hby dK_102) ?_
    show Steps p.tables e below (s₁.setTop (mkF m 103 #[.val (.int (8 : Int32)), .val (.int sel), .val (.int c0), .val (.int c1), .unset] [(.int (4 : Int32)), (.int (8 : Int32))])) _
    refine XS.icmpYes X0.here hx rfl (pc0 := 103) (pc' := 160) rfl (hb hby dK_103) rfl (by decide) (by decide) (by decide) ?_
    show Steps p.tables e below (s₁.setTop (mkF m 160 #[.val (.int (8 : Int32)), .val (.int sel), .val (.int c0), .val (.int c1), .unset] [])) _
    refine XS.iloadN X0.here hx rfl (hb hby dK_160) rfl ?_
    show Steps p.tables e below (s₁.setTop (mkF m 161 #[.val (.int (8 : Int32)), .val (.int sel), .val (.int c0), .val (.int c1), .unset] [(.int (8 : Int32))])) _
    refine XS.iconst X0.here hx rfl (hb hby dK_161) ?_
    show Steps p.tables e below (s₁.setTop (mkF m 162 #[.val (.int (8 : Int32)), .val (.int sel), .val (.int c0), .val (.int c1), .unset] [(.int (5 : Int32)), (.int (8 : Int32))])) _
    refine XS.icmpYes X0.here hx rfl (pc0 := 162) (pc' := 229) rfl (hb hby dK_162) rfl (by decide) (by decide) (by decide) ?_
    show Steps p.tables e below (s₁.setTop (mkF m 229 #[.val (.int (8 : Int32)), .val (.int sel), .val (.int c0), .val (.int c1), .unset] [])) _
    refine XS.iloadN X0.here hx rfl (hb hby dK_229) rfl ?_
    show Steps p.tables e below (s₁.setTop (mkF m 230 #[.val (.int (8 : Int32)), .val (.int sel), .val (.int c0), .val (.int c1), .unset] [(.int (8 : Int32))])) _
    refine XS.bipush X0.here hx rfl (hb hby dK_230) ?_
    show Steps p.tables e below (s₁.setTop (mkF m 232 #[.val (.int (8 : Int32)), .val (.int sel), .val (.int c0), .val (.int c1), .unset] [(.int (6 : Int32)), (.int (8 : Int32))])) _
    refine XS.icmpYes X0.here hx rfl (pc0 := 232) (pc' := 329) rfl (hb hby dK_232) rfl (by decide) (by decide) (by decide) ?_
    show Steps p.tables e below (s₁.setTop (mkF m 329 #[.val (.int (8 : Int32)), .val (.int sel), .val (.int c0), .val (.int c1), .unset] [])) _
    refine XS.iloadN X0.here hx rfl (hb hby dK_329) rfl ?_
    show Steps p.tables e below (s₁.setTop (mkF m 330 #[.val (.int (8 : Int32)), .val (.int sel), .val (.int c0), .val (.int c1), .unset] [(.int (8 : Int32))])) _
    refine XS.bipush X0.here hx rfl (hb hby dK_330) ?_
    show Steps p.tables e below (s₁.setTop (mkF m 332 #[.val (.int (8 : Int32)), .val (.int sel), .val (.int c0), .val (.int c1), .unset] [(.int (7 : Int32)), (.int (8 : Int32))])) _
    refine XS.icmpYes X0.here hx rfl (pc0 := 332) (pc' := 444) rfl (hb hby dK_332) rfl (by decide) (by decide) (by decide) ?_
    show Steps p.tables e below (s₁.setTop (mkF m 444 #[.val (.int (8 : Int32)), .val (.int sel), .val (.int c0), .val (.int c1), .unset] [])) _
    refine XS.bipush X0.here hx rfl (hb hby dK_444) ?_
    show Steps p.tables e below (s₁.setTop (mkF m 446 #[.val (.int (8 : Int32)), .val (.int sel), .val (.int c0), .val (.int c1), .unset] [(.int (8 : Int32))])) _
    exact kt
  obtain ⟨T2, h2, k2, X2, e2, E2, A2, st2⟩ := newP X0 hx hZ (hw _ (List.mem_of_getElem? (i := 46) rfl)) e0 (g := (mkF m 446 #[.val (.int (8 : Int32)), .val (.int sel), .val (.int c0), .val (.int c1), .unset] [(.int (8 : Int32))])) rfl (hb hby dK_446) rfl (by decide) (cap := 8) (by decide) (by decide) (by decide) (by decide)
  obtain ⟨a2, g2⟩ : ∃ z, z = h0.size := ⟨_, rfl⟩
  rw [← g2] at A2 st2
  have gb : h0.size ≤ a2 := by rw [g2]; exact Nat.le_refl _
  have V2 : Arv Z h2 a2 k2 .char (8 : Int32) [] (.int (0 : Int32)) := Arv.new A2 (by decide)
  have sg3 : ∀ target, Steps p.tables e below (T2.setTop (mkF m 459 #[.val (.int (8 : Int32)), .val (.int sel), .val (.int c0), .val (.int c1), .val (.ref a2)] [(.int c1), (.int c0), (.int sel), (.int (81 : Int32)), (.int (0 : Int32)), (.int (0 : Int32)), (.ref a2)])) target → Steps p.tables e below (T2.setTop (mkF m 448 #[.val (.int (8 : Int32)), .val (.int sel), .val (.int c0), .val (.int c1), .unset] [(.ref a2)])) target := by
    intro target kt
    show Steps p.tables e below (T2.setTop (mkF m 448 #[.val (.int (8 : Int32)), .val (.int sel), .val (.int c0), .val (.int c1), .unset] [(.ref a2)])) _
    refine XS.astore X2.here hx rfl (hb hby dK_448) rfl rfl (l' := #[.val (.int (8 : Int32)), .val (.int sel), .val (.int c0), .val (.int c1), .val (.ref a2)]) rfl ?_
    show Steps p.tables e below (T2.setTop (mkF m 450 #[.val (.int (8 : Int32)), .val (.int sel), .val (.int c0), .val (.int c1), .val (.ref a2)] [])) _
    refine XS.aload X2.here hx rfl (hb hby dK_450) rfl rfl ?_
    show Steps p.tables e below (T2.setTop (mkF m 452 #[.val (.int (8 : Int32)), .val (.int sel), .val (.int c0), .val (.int c1), .val (.ref a2)] [(.ref a2)])) _
    refine XS.iconst X2.here hx rfl (hb hby dK_452) ?_
    show Steps p.tables e below (T2.setTop (mkF m 453 #[.val (.int (8 : Int32)), .val (.int sel), .val (.int c0), .val (.int c1), .val (.ref a2)] [(.int (0 : Int32)), (.ref a2)])) _
    refine XS.iconst X2.here hx rfl (hb hby dK_453) ?_
    show Steps p.tables e below (T2.setTop (mkF m 454 #[.val (.int (8 : Int32)), .val (.int sel), .val (.int c0), .val (.int c1), .val (.ref a2)] [(.int (0 : Int32)), (.int (0 : Int32)), (.ref a2)])) _
    refine XS.bipush X2.here hx rfl (hb hby dK_454) ?_
    show Steps p.tables e below (T2.setTop (mkF m 456 #[.val (.int (8 : Int32)), .val (.int sel), .val (.int c0), .val (.int c1), .val (.ref a2)] [(.int (81 : Int32)), (.int (0 : Int32)), (.int (0 : Int32)), (.ref a2)])) _
    refine XS.iloadN X2.here hx rfl (hb hby dK_456) rfl ?_
    show Steps p.tables e below (T2.setTop (mkF m 457 #[.val (.int (8 : Int32)), .val (.int sel), .val (.int c0), .val (.int c1), .val (.ref a2)] [(.int sel), (.int (81 : Int32)), (.int (0 : Int32)), (.int (0 : Int32)), (.ref a2)])) _
    refine XS.iloadN X2.here hx rfl (hb hby dK_457) rfl ?_
    show Steps p.tables e below (T2.setTop (mkF m 458 #[.val (.int (8 : Int32)), .val (.int sel), .val (.int c0), .val (.int c1), .val (.ref a2)] [(.int c0), (.int sel), (.int (81 : Int32)), (.int (0 : Int32)), (.int (0 : Int32)), (.ref a2)])) _
    refine XS.iloadN X2.here hx rfl (hb hby dK_458) rfl ?_
    show Steps p.tables e below (T2.setTop (mkF m 459 #[.val (.int (8 : Int32)), .val (.int sel), .val (.int c0), .val (.int c1), .val (.ref a2)] [(.int c1), (.int c0), (.int sel), (.int (81 : Int32)), (.int (0 : Int32)), (.int (0 : Int32)), (.ref a2)])) _
    exact kt
  obtain ⟨_, _, ⟨TC0, LC0, kC0, nC0⟩, -, XC0, ⟨LcC0, hQC0, lC0, yC0, zC0⟩, stC0⟩ := Jvm.LawKit.callS X2 hx (y := (⟨"com/example/ombudsign/ombudsign/dss/CertTypeFromValuePinLaw", "ch", "(ICIII)C"⟩ : MethodName)) hown (mvT hZ (hw _ (List.mem_of_getElem? (i := 47) rfl))) (mvT hZ (hw _ (List.mem_of_getElem? (i := 48) rfl))) (mvT hZ (hw _ (List.mem_of_getElem? (i := 3) rfl))) (mvT hZ (hw _ (List.mem_of_getElem? (i := 49) rfl))) (by decide) (backOf (W := 2) (rmC l Z a0 hw (0 : Int32) (81 : Int32) sel c0 c1 (by decide) h2 n0) hZ (hw _ (List.mem_of_getElem? (i := 49) rfl)) (hw _ (List.mem_of_getElem? (i := 3) rfl)) (by decide) (by decide)) (g := (mkF m 459 #[.val (.int (8 : Int32)), .val (.int sel), .val (.int c0), .val (.int c1), .val (.ref a2)] [(.int c1), (.int c0), (.int sel), (.int (81 : Int32)), (.int (0 : Int32)), (.int (0 : Int32)), (.ref a2)])) rfl (by rw [hml]; rfl) (argsL := [(.int (0 : Int32)), (.int (81 : Int32)), (.int sel), (.int c0), (.int c1)]) (rest := [(.int (0 : Int32)), (.ref a2)]) (lenOf pdC rfl) rfl (by show 2 * 0 + _ ≤ _; exact Nat.le_of_eq rfl) (hb hby dK_459) (fun _ _ => ⟨rfl, e2, Nat.le_of_ble_eq_true rfl, Nat.le_of_ble_eq_true rfl⟩)
  dsimp only [Pt.U, Pt.locs, Pt.cells, Pt.slots] at XC0 lC0 yC0 zC0 stC0 hQC0
  subst lC0 yC0 zC0
  obtain ⟨r0, rfl, lr0, NC0, eC0⟩ := hQC0
  have MC0 := Fr.app (Fr.nil n0) NC0
  have P4 := V2.pad (pad_rep [] (.int (0 : Int32)) 1)
  obtain ⟨c4, B4, q4, S4, M4, H4, U4⟩ := P4
  obtain ⟨T4, h4, X4, e4, W4, st4⟩ := stC XC0 hx hZ eC0 B4 (j := (0 : Int32)) (inb_of S4 ⟨by decide, by decide⟩) (g := (mkF m 462 #[.val (.int (8 : Int32)), .val (.int sel), .val (.int c0), .val (.int c1), .val (.ref a2)] [(.int r0), (.int (0 : Int32)), (.ref a2)])) rfl rfl (hb hby dK_462)
  rw [own_nar lr0] at W4
  have V4 : Arv Z h4 a2 k2 .char (8 : Int32) [(.int r0)] (.int (0 : Int32)) := Arv.set B4 q4 S4 M4 H4 U4 (own_fc lr0) W4 0 rfl (Nat.le_of_ble_eq_true rfl)
  have N4 := Fr.snoc X4 (MC0) (Nat.le_trans Z0 gb)
  have En0 : Ext h0 h4 := own_ext_wr E2 W4 gb
  have sg5 : ∀ target, Steps p.tables e below (T4.setTop (mkF m 472 #[.val (.int (8 : Int32)), .val (.int sel), .val (.int c0), .val (.int c1), .val (.ref a2)] [(.int c1), (.int c0), (.int sel), (.int (67 : Int32)), (.int (1 : Int32)), (.int (1 : Int32)), (.ref a2)])) target → Steps p.tables e below (T4.setTop (mkF m 463 #[.val (.int (8 : Int32)), .val (.int sel), .val (.int c0), .val (.int c1), .val (.ref a2)] [])) target := by
    intro target kt
    show Steps p.tables e below (T4.setTop (mkF m 463 #[.val (.int (8 : Int32)), .val (.int sel), .val (.int c0), .val (.int c1), .val (.ref a2)] [])) _
    refine XS.aload X4.here hx rfl (hb hby dK_463) rfl rfl ?_
    show Steps p.tables e below (T4.setTop (mkF m 465 #[.val (.int (8 : Int32)), .val (.int sel), .val (.int c0), .val (.int c1), .val (.ref a2)] [(.ref a2)])) _
    refine XS.iconst X4.here hx rfl (hb hby dK_465) ?_
    show Steps p.tables e below (T4.setTop (mkF m 466 #[.val (.int (8 : Int32)), .val (.int sel), .val (.int c0), .val (.int c1), .val (.ref a2)] [(.int (1 : Int32)), (.ref a2)])) _
    refine XS.iconst X4.here hx rfl (hb hby dK_466) ?_
    show Steps p.tables e below (T4.setTop (mkF m 467 #[.val (.int (8 : Int32)), .val (.int sel), .val (.int c0), .val (.int c1), .val (.ref a2)] [(.int (1 : Int32)), (.int (1 : Int32)), (.ref a2)])) _
    refine XS.bipush X4.here hx rfl (hb hby dK_467) ?_
    show Steps p.tables e below (T4.setTop (mkF m 469 #[.val (.int (8 : Int32)), .val (.int sel), .val (.int c0), .val (.int c1), .val (.ref a2)] [(.int (67 : Int32)), (.int (1 : Int32)), (.int (1 : Int32)), (.ref a2)])) _
    refine XS.iloadN X4.here hx rfl (hb hby dK_469) rfl ?_
    show Steps p.tables e below (T4.setTop (mkF m 470 #[.val (.int (8 : Int32)), .val (.int sel), .val (.int c0), .val (.int c1), .val (.ref a2)] [(.int sel), (.int (67 : Int32)), (.int (1 : Int32)), (.int (1 : Int32)), (.ref a2)])) _
    refine XS.iloadN X4.here hx rfl (hb hby dK_470) rfl ?_
    show Steps p.tables e below (T4.setTop (mkF m 471 #[.val (.int (8 : Int32)), .val (.int sel), .val (.int c0), .val (.int c1), .val (.ref a2)] [(.int c0), (.int sel), (.int (67 : Int32)), (.int (1 : Int32)), (.int (1 : Int32)), (.ref a2)])) _
    refine XS.iloadN X4.here hx rfl (hb hby dK_471) rfl ?_
    show Steps p.tables e below (T4.setTop (mkF m 472 #[.val (.int (8 : Int32)), .val (.int sel), .val (.int c0), .val (.int c1), .val (.ref a2)] [(.int c1), (.int c0), (.int sel), (.int (67 : Int32)), (.int (1 : Int32)), (.int (1 : Int32)), (.ref a2)])) _
    exact kt
  obtain ⟨_, _, ⟨TC1, LC1, kC1, nC1⟩, -, XC1, ⟨LcC1, hQC1, lC1, yC1, zC1⟩, stC1⟩ := Jvm.LawKit.callS X4 hx (y := (⟨"com/example/ombudsign/ombudsign/dss/CertTypeFromValuePinLaw", "ch", "(ICIII)C"⟩ : MethodName)) hown (mvT hZ (hw _ (List.mem_of_getElem? (i := 47) rfl))) (mvT hZ (hw _ (List.mem_of_getElem? (i := 48) rfl))) (mvT hZ (hw _ (List.mem_of_getElem? (i := 3) rfl))) (mvT hZ (hw _ (List.mem_of_getElem? (i := 49) rfl))) (by decide) (backOf (W := 2) (rmC l Z a0 hw (1 : Int32) (67 : Int32) sel c0 c1 (by decide) h4 n0) hZ (hw _ (List.mem_of_getElem? (i := 49) rfl)) (hw _ (List.mem_of_getElem? (i := 3) rfl)) (by decide) (by decide)) (g := (mkF m 472 #[.val (.int (8 : Int32)), .val (.int sel), .val (.int c0), .val (.int c1), .val (.ref a2)] [(.int c1), (.int c0), (.int sel), (.int (67 : Int32)), (.int (1 : Int32)), (.int (1 : Int32)), (.ref a2)])) rfl (by rw [hml]; rfl) (argsL := [(.int (1 : Int32)), (.int (67 : Int32)), (.int sel), (.int c0), (.int c1)]) (rest := [(.int (1 : Int32)), (.ref a2)]) (lenOf pdC rfl) rfl (by show 2 * 0 + _ ≤ _; exact Nat.le_of_eq rfl) (hb hby dK_472) (fun _ _ => ⟨rfl, e4, Nat.le_of_ble_eq_true rfl, Nat.le_of_ble_eq_true rfl⟩)
  dsimp only [Pt.U, Pt.locs, Pt.cells, Pt.slots] at XC1 lC1 yC1 zC1 stC1 hQC1
  subst lC1 yC1 zC1
  obtain ⟨r1, rfl, lr1, NC1, eC1⟩ := hQC1
  have MC1 := Fr.app (N4) NC1
  have P6 := V4.pad (pad_rep [(.int r0)] (.int (0 : Int32)) 1)
  obtain ⟨c6, B6, q6, S6, M6, H6, U6⟩ := P6
  obtain ⟨T6, h6, X6, e6, W6, st6⟩ := stC XC1 hx hZ eC1 B6 (j := (1 : Int32)) (inb_of S6 ⟨by decide, by decide⟩) (g := (mkF m 475 #[.val (.int (8 : Int32)), .val (.int sel), .val (.int c0), .val (.int c1), .val (.ref a2)] [(.int r1), (.int (1 : Int32)), (.ref a2)])) rfl rfl (hb hby dK_475)
  rw [own_nar lr1] at W6
  have V6 : Arv Z h6 a2 k2 .char (8 : Int32) [(.int r0), (.int r1)] (.int (0 : Int32)) := Arv.set B6 q6 S6 M6 H6 U6 (own_fc lr1) W6 1 rfl (Nat.le_of_ble_eq_true rfl)
  have N6 := Fr.snoc X6 (MC1) (Nat.le_trans Z0 gb)
  have En1 : Ext h0 h6 := own_ext_wr En0 W6 gb
  have sg7 : ∀ target, Steps p.tables e below (T6.setTop (mkF m 485 #[.val (.int (8 : Int32)), .val (.int sel), .val (.int c0), .val (.int c1), .val (.ref a2)] [(.int c1), (.int c0), (.int sel), (.int (47 : Int32)), (.int (2 : Int32)), (.int (2 : Int32)), (.ref a2)])) target → Steps p.tables e below (T6.setTop (mkF m 476 #[.val (.int (8 : Int32)), .val (.int sel), .val (.int c0), .val (.int c1), .val (.ref a2)] [])) target := by
    intro target kt
    show Steps p.tables e below (T6.setTop (mkF m 476 #[.val (.int (8 : Int32)), .val (.int sel), .val (.int c0), .val (.int c1), .val (.ref a2)] [])) _
    refine XS.aload X6.here hx rfl (hb hby dK_476) rfl rfl ?_
    show Steps p.tables e below (T6.setTop (mkF m 478 #[.val (.int (8 : Int32)), .val (.int sel), .val (.int c0), .val (.int c1), .val (.ref a2)] [(.ref a2)])) _
    refine XS.iconst X6.here hx rfl (hb hby dK_478) ?_
    show Steps p.tables e below (T6.setTop (mkF m 479 #[.val (.int (8 : Int32)), .val (.int sel), .val (.int c0), .val (.int c1), .val (.ref a2)] [(.int (2 : Int32)), (.ref a2)])) _
    refine XS.iconst X6.here hx rfl (hb hby dK_479) ?_
    show Steps p.tables e below (T6.setTop (mkF m 480 #[.val (.int (8 : Int32)), .val (.int sel), .val (.int c0), .val (.int c1), .val (.ref a2)] [(.int (2 : Int32)), (.int (2 : Int32)), (.ref a2)])) _
    refine XS.bipush X6.here hx rfl (hb hby dK_480) ?_
    show Steps p.tables e below (T6.setTop (mkF m 482 #[.val (.int (8 : Int32)), .val (.int sel), .val (.int c0), .val (.int c1), .val (.ref a2)] [(.int (47 : Int32)), (.int (2 : Int32)), (.int (2 : Int32)), (.ref a2)])) _
    refine XS.iloadN X6.here hx rfl (hb hby dK_482) rfl ?_
    show Steps p.tables e below (T6.setTop (mkF m 483 #[.val (.int (8 : Int32)), .val (.int sel), .val (.int c0), .val (.int c1), .val (.ref a2)] [(.int sel), (.int (47 : Int32)), (.int (2 : Int32)), (.int (2 : Int32)), (.ref a2)])) _
    refine XS.iloadN X6.here hx rfl (hb hby dK_483) rfl ?_
    show Steps p.tables e below (T6.setTop (mkF m 484 #[.val (.int (8 : Int32)), .val (.int sel), .val (.int c0), .val (.int c1), .val (.ref a2)] [(.int c0), (.int sel), (.int (47 : Int32)), (.int (2 : Int32)), (.int (2 : Int32)), (.ref a2)])) _
    refine XS.iloadN X6.here hx rfl (hb hby dK_484) rfl ?_
    show Steps p.tables e below (T6.setTop (mkF m 485 #[.val (.int (8 : Int32)), .val (.int sel), .val (.int c0), .val (.int c1), .val (.ref a2)] [(.int c1), (.int c0), (.int sel), (.int (47 : Int32)), (.int (2 : Int32)), (.int (2 : Int32)), (.ref a2)])) _
    exact kt
  obtain ⟨_, _, ⟨TC2, LC2, kC2, nC2⟩, -, XC2, ⟨LcC2, hQC2, lC2, yC2, zC2⟩, stC2⟩ := Jvm.LawKit.callS X6 hx (y := (⟨"com/example/ombudsign/ombudsign/dss/CertTypeFromValuePinLaw", "ch", "(ICIII)C"⟩ : MethodName)) hown (mvT hZ (hw _ (List.mem_of_getElem? (i := 47) rfl))) (mvT hZ (hw _ (List.mem_of_getElem? (i := 48) rfl))) (mvT hZ (hw _ (List.mem_of_getElem? (i := 3) rfl))) (mvT hZ (hw _ (List.mem_of_getElem? (i := 49) rfl))) (by decide) (backOf (W := 2) (rmC l Z a0 hw (2 : Int32) (47 : Int32) sel c0 c1 (by decide) h6 n0) hZ (hw _ (List.mem_of_getElem? (i := 49) rfl)) (hw _ (List.mem_of_getElem? (i := 3) rfl)) (by decide) (by decide)) (g := (mkF m 485 #[.val (.int (8 : Int32)), .val (.int sel), .val (.int c0), .val (.int c1), .val (.ref a2)] [(.int c1), (.int c0), (.int sel), (.int (47 : Int32)), (.int (2 : Int32)), (.int (2 : Int32)), (.ref a2)])) rfl (by rw [hml]; rfl) (argsL := [(.int (2 : Int32)), (.int (47 : Int32)), (.int sel), (.int c0), (.int c1)]) (rest := [(.int (2 : Int32)), (.ref a2)]) (lenOf pdC rfl) rfl (by show 2 * 0 + _ ≤ _; exact Nat.le_of_eq rfl) (hb hby dK_485) (fun _ _ => ⟨rfl, e6, Nat.le_of_ble_eq_true rfl, Nat.le_of_ble_eq_true rfl⟩)
  dsimp only [Pt.U, Pt.locs, Pt.cells, Pt.slots] at XC2 lC2 yC2 zC2 stC2 hQC2
  subst lC2 yC2 zC2
  obtain ⟨r2, rfl, lr2, NC2, eC2⟩ := hQC2
  have MC2 := Fr.app (N6) NC2
  have P8 := V6.pad (pad_rep [(.int r0), (.int r1)] (.int (0 : Int32)) 1)
  obtain ⟨c8, B8, q8, S8, M8, H8, U8⟩ := P8
  obtain ⟨T8, h8, X8, e8, W8, st8⟩ := stC XC2 hx hZ eC2 B8 (j := (2 : Int32)) (inb_of S8 ⟨by decide, by decide⟩) (g := (mkF m 488 #[.val (.int (8 : Int32)), .val (.int sel), .val (.int c0), .val (.int c1), .val (.ref a2)] [(.int r2), (.int (2 : Int32)), (.ref a2)])) rfl rfl (hb hby dK_488)
  rw [own_nar lr2] at W8
  have V8 : Arv Z h8 a2 k2 .char (8 : Int32) [(.int r0), (.int r1), (.int r2)] (.int (0 : Int32)) := Arv.set B8 q8 S8 M8 H8 U8 (own_fc lr2) W8 2 rfl (Nat.le_of_ble_eq_true rfl)
  have N8 := Fr.snoc X8 (MC2) (Nat.le_trans Z0 gb)
  have En2 : Ext h0 h8 := own_ext_wr En1 W8 gb
  have sg9 : ∀ target, Steps p.tables e below (T8.setTop (mkF m 498 #[.val (.int (8 : Int32)), .val (.int sel), .val (.int c0), .val (.int c1), .val (.ref a2)] [(.int c1), (.int c0), (.int sel), (.int (83 : Int32)), (.int (3 : Int32)), (.int (3 : Int32)), (.ref a2)])) target → Steps p.tables e below (T8.setTop (mkF m 489 #[.val (.int (8 : Int32)), .val (.int sel), .val (.int c0), .val (.int c1), .val (.ref a2)] [])) target := by
    intro target kt
    show Steps p.tables e below (T8.setTop (mkF m 489 #[.val (.int (8 : Int32)), .val (.int sel), .val (.int c0), .val (.int c1), .val (.ref a2)] [])) _
    refine XS.aload X8.here hx rfl (hb hby dK_489) rfl rfl ?_
    show Steps p.tables e below (T8.setTop (mkF m 491 #[.val (.int (8 : Int32)), .val (.int sel), .val (.int c0), .val (.int c1), .val (.ref a2)] [(.ref a2)])) _
    refine XS.iconst X8.here hx rfl (hb hby dK_491) ?_
    show Steps p.tables e below (T8.setTop (mkF m 492 #[.val (.int (8 : Int32)), .val (.int sel), .val (.int c0), .val (.int c1), .val (.ref a2)] [(.int (3 : Int32)), (.ref a2)])) _
    refine XS.iconst X8.here hx rfl (hb hby dK_492) ?_
    show Steps p.tables e below (T8.setTop (mkF m 493 #[.val (.int (8 : Int32)), .val (.int sel), .val (.int c0), .val (.int c1), .val (.ref a2)] [(.int (3 : Int32)), (.int (3 : Int32)), (.ref a2)])) _
    refine XS.bipush X8.here hx rfl (hb hby dK_493) ?_
    show Steps p.tables e below (T8.setTop (mkF m 495 #[.val (.int (8 : Int32)), .val (.int sel), .val (.int c0), .val (.int c1), .val (.ref a2)] [(.int (83 : Int32)), (.int (3 : Int32)), (.int (3 : Int32)), (.ref a2)])) _
    refine XS.iloadN X8.here hx rfl (hb hby dK_495) rfl ?_
    show Steps p.tables e below (T8.setTop (mkF m 496 #[.val (.int (8 : Int32)), .val (.int sel), .val (.int c0), .val (.int c1), .val (.ref a2)] [(.int sel), (.int (83 : Int32)), (.int (3 : Int32)), (.int (3 : Int32)), (.ref a2)])) _
    refine XS.iloadN X8.here hx rfl (hb hby dK_496) rfl ?_
    show Steps p.tables e below (T8.setTop (mkF m 497 #[.val (.int (8 : Int32)), .val (.int sel), .val (.int c0), .val (.int c1), .val (.ref a2)] [(.int c0), (.int sel), (.int (83 : Int32)), (.int (3 : Int32)), (.int (3 : Int32)), (.ref a2)])) _
    refine XS.iloadN X8.here hx rfl (hb hby dK_497) rfl ?_
    show Steps p.tables e below (T8.setTop (mkF m 498 #[.val (.int (8 : Int32)), .val (.int sel), .val (.int c0), .val (.int c1), .val (.ref a2)] [(.int c1), (.int c0), (.int sel), (.int (83 : Int32)), (.int (3 : Int32)), (.int (3 : Int32)), (.ref a2)])) _
    exact kt
  obtain ⟨_, _, ⟨TC3, LC3, kC3, nC3⟩, -, XC3, ⟨LcC3, hQC3, lC3, yC3, zC3⟩, stC3⟩ := Jvm.LawKit.callS X8 hx (y := (⟨"com/example/ombudsign/ombudsign/dss/CertTypeFromValuePinLaw", "ch", "(ICIII)C"⟩ : MethodName)) hown (mvT hZ (hw _ (List.mem_of_getElem? (i := 47) rfl))) (mvT hZ (hw _ (List.mem_of_getElem? (i := 48) rfl))) (mvT hZ (hw _ (List.mem_of_getElem? (i := 3) rfl))) (mvT hZ (hw _ (List.mem_of_getElem? (i := 49) rfl))) (by decide) (backOf (W := 2) (rmC l Z a0 hw (3 : Int32) (83 : Int32) sel c0 c1 (by decide) h8 n0) hZ (hw _ (List.mem_of_getElem? (i := 49) rfl)) (hw _ (List.mem_of_getElem? (i := 3) rfl)) (by decide) (by decide)) (g := (mkF m 498 #[.val (.int (8 : Int32)), .val (.int sel), .val (.int c0), .val (.int c1), .val (.ref a2)] [(.int c1), (.int c0), (.int sel), (.int (83 : Int32)), (.int (3 : Int32)), (.int (3 : Int32)), (.ref a2)])) rfl (by rw [hml]; rfl) (argsL := [(.int (3 : Int32)), (.int (83 : Int32)), (.int sel), (.int c0), (.int c1)]) (rest := [(.int (3 : Int32)), (.ref a2)]) (lenOf pdC rfl) rfl (by show 2 * 0 + _ ≤ _; exact Nat.le_of_eq rfl) (hb hby dK_498) (fun _ _ => ⟨rfl, e8, Nat.le_of_ble_eq_true rfl, Nat.le_of_ble_eq_true rfl⟩)
  dsimp only [Pt.U, Pt.locs, Pt.cells, Pt.slots] at XC3 lC3 yC3 zC3 stC3 hQC3
  subst lC3 yC3 zC3
  obtain ⟨r3, rfl, lr3, NC3, eC3⟩ := hQC3
  have MC3 := Fr.app (N8) NC3
  have P10 := V8.pad (pad_rep [(.int r0), (.int r1), (.int r2)] (.int (0 : Int32)) 1)
  obtain ⟨c10, B10, q10, S10, M10, H10, U10⟩ := P10
  obtain ⟨T10, h10, X10, e10, W10, st10⟩ := stC XC3 hx hZ eC3 B10 (j := (3 : Int32)) (inb_of S10 ⟨by decide, by decide⟩) (g := (mkF m 501 #[.val (.int (8 : Int32)), .val (.int sel), .val (.int c0), .val (.int c1), .val (.ref a2)] [(.int r3), (.int (3 : Int32)), (.ref a2)])) rfl rfl (hb hby dK_501)
  rw [own_nar lr3] at W10
  have V10 : Arv Z h10 a2 k2 .char (8 : Int32) [(.int r0), (.int r1), (.int r2), (.int r3)] (.int (0 : Int32)) := Arv.set B10 q10 S10 M10 H10 U10 (own_fc lr3) W10 3 rfl (Nat.le_of_ble_eq_true rfl)
  have N10 := Fr.snoc X10 (MC3) (Nat.le_trans Z0 gb)
  have En3 : Ext h0 h10 := own_ext_wr En2 W10 gb
  have sg11 : ∀ target, Steps p.tables e below (T10.setTop (mkF m 511 #[.val (.int (8 : Int32)), .val (.int sel), .val (.int c0), .val (.int c1), .val (.ref a2)] [(.int c1), (.int c0), (.int sel), (.int (83 : Int32)), (.int (4 : Int32)), (.int (4 : Int32)), (.ref a2)])) target → Steps p.tables e below (T10.setTop (mkF m 502 #[.val (.int (8 : Int32)), .val (.int sel), .val (.int c0), .val (.int c1), .val (.ref a2)] [])) target := by
    intro target kt
    show Steps p.tables e below (T10.setTop (mkF m 502 #[.val (.int (8 : Int32)), .val (.int sel), .val (.int c0), .val (.int c1), .val (.ref a2)] [])) _
    refine XS.aload X10.here hx rfl (hb hby dK_502) rfl rfl ?_
    show Steps p.tables e below (T10.setTop (mkF m 504 #[.val (.int (8 : Int32)), .val (.int sel), .val (.int c0), .val (.int c1), .val (.ref a2)] [(.ref a2)])) _
    refine XS.iconst X10.here hx rfl (hb hby dK_504) ?_
    show Steps p.tables e below (T10.setTop (mkF m 505 #[.val (.int (8 : Int32)), .val (.int sel), .val (.int c0), .val (.int c1), .val (.ref a2)] [(.int (4 : Int32)), (.ref a2)])) _
    refine XS.iconst X10.here hx rfl (hb hby dK_505) ?_
    show Steps p.tables e below (T10.setTop (mkF m 506 #[.val (.int (8 : Int32)), .val (.int sel), .val (.int c0), .val (.int c1), .val (.ref a2)] [(.int (4 : Int32)), (.int (4 : Int32)), (.ref a2)])) _
    refine XS.bipush X10.here hx rfl (hb hby dK_506) ?_
    show Steps p.tables e below (T10.setTop (mkF m 508 #[.val (.int (8 : Int32)), .val (.int sel), .val (.int c0), .val (.int c1), .val (.ref a2)] [(.int (83 : Int32)), (.int (4 : Int32)), (.int (4 : Int32)), (.ref a2)])) _
    refine XS.iloadN X10.here hx rfl (hb hby dK_508) rfl ?_
    show Steps p.tables e below (T10.setTop (mkF m 509 #[.val (.int (8 : Int32)), .val (.int sel), .val (.int c0), .val (.int c1), .val (.ref a2)] [(.int sel), (.int (83 : Int32)), (.int (4 : Int32)), (.int (4 : Int32)), (.ref a2)])) _
    refine XS.iloadN X10.here hx rfl (hb hby dK_509) rfl ?_
    show Steps p.tables e below (T10.setTop (mkF m 510 #[.val (.int (8 : Int32)), .val (.int sel), .val (.int c0), .val (.int c1), .val (.ref a2)] [(.int c0), (.int sel), (.int (83 : Int32)), (.int (4 : Int32)), (.int (4 : Int32)), (.ref a2)])) _
    refine XS.iloadN X10.here hx rfl (hb hby dK_510) rfl ?_
    show Steps p.tables e below (T10.setTop (mkF m 511 #[.val (.int (8 : Int32)), .val (.int sel), .val (.int c0), .val (.int c1), .val (.ref a2)] [(.int c1), (.int c0), (.int sel), (.int (83 : Int32)), (.int (4 : Int32)), (.int (4 : Int32)), (.ref a2)])) _
    exact kt
  obtain ⟨_, _, ⟨TC4, LC4, kC4, nC4⟩, -, XC4, ⟨LcC4, hQC4, lC4, yC4, zC4⟩, stC4⟩ := Jvm.LawKit.callS X10 hx (y := (⟨"com/example/ombudsign/ombudsign/dss/CertTypeFromValuePinLaw", "ch", "(ICIII)C"⟩ : MethodName)) hown (mvT hZ (hw _ (List.mem_of_getElem? (i := 47) rfl))) (mvT hZ (hw _ (List.mem_of_getElem? (i := 48) rfl))) (mvT hZ (hw _ (List.mem_of_getElem? (i := 3) rfl))) (mvT hZ (hw _ (List.mem_of_getElem? (i := 49) rfl))) (by decide) (backOf (W := 2) (rmC l Z a0 hw (4 : Int32) (83 : Int32) sel c0 c1 (by decide) h10 n0) hZ (hw _ (List.mem_of_getElem? (i := 49) rfl)) (hw _ (List.mem_of_getElem? (i := 3) rfl)) (by decide) (by decide)) (g := (mkF m 511 #[.val (.int (8 : Int32)), .val (.int sel), .val (.int c0), .val (.int c1), .val (.ref a2)] [(.int c1), (.int c0), (.int sel), (.int (83 : Int32)), (.int (4 : Int32)), (.int (4 : Int32)), (.ref a2)])) rfl (by rw [hml]; rfl) (argsL := [(.int (4 : Int32)), (.int (83 : Int32)), (.int sel), (.int c0), (.int c1)]) (rest := [(.int (4 : Int32)), (.ref a2)]) (lenOf pdC rfl) rfl (by show 2 * 0 + _ ≤ _; exact Nat.le_of_eq rfl) (hb hby dK_511) (fun _ _ => ⟨rfl, e10, Nat.le_of_ble_eq_true rfl, Nat.le_of_ble_eq_true rfl⟩)
  dsimp only [Pt.U, Pt.locs, Pt.cells, Pt.slots] at XC4 lC4 yC4 zC4 stC4 hQC4
  subst lC4 yC4 zC4
  obtain ⟨r4, rfl, lr4, NC4, eC4⟩ := hQC4
  have MC4 := Fr.app (N10) NC4
  have P12 := V10.pad (pad_rep [(.int r0), (.int r1), (.int r2), (.int r3)] (.int (0 : Int32)) 1)
  obtain ⟨c12, B12, q12, S12, M12, H12, U12⟩ := P12
  obtain ⟨T12, h12, X12, e12, W12, st12⟩ := stC XC4 hx hZ eC4 B12 (j := (4 : Int32)) (inb_of S12 ⟨by decide, by decide⟩) (g := (mkF m 514 #[.val (.int (8 : Int32)), .val (.int sel), .val (.int c0), .val (.int c1), .val (.ref a2)] [(.int r4), (.int (4 : Int32)), (.ref a2)])) rfl rfl (hb hby dK_514)
  rw [own_nar lr4] at W12
  have V12 : Arv Z h12 a2 k2 .char (8 : Int32) [(.int r0), (.int r1), (.int r2), (.int r3), (.int r4)] (.int (0 : Int32)) := Arv.set B12 q12 S12 M12 H12 U12 (own_fc lr4) W12 4 rfl (Nat.le_of_ble_eq_true rfl)
  have N12 := Fr.snoc X12 (MC4) (Nat.le_trans Z0 gb)
  have En4 : Ext h0 h12 := own_ext_wr En3 W12 gb
  have sg13 : ∀ target, Steps p.tables e below (T12.setTop (mkF m 524 #[.val (.int (8 : Int32)), .val (.int sel), .val (.int c0), .val (.int c1), .val (.ref a2)] [(.int c1), (.int c0), (.int sel), (.int (67 : Int32)), (.int (5 : Int32)), (.int (5 : Int32)), (.ref a2)])) target → Steps p.tables e below (T12.setTop (mkF m 515 #[.val (.int (8 : Int32)), .val (.int sel), .val (.int c0), .val (.int c1), .val (.ref a2)] [])) target := by
    intro target kt
    show Steps p.tables e below (T12.setTop (mkF m 515 #[.val (.int (8 : Int32)), .val (.int sel), .val (.int c0), .val (.int c1), .val (.ref a2)] [])) _
    refine XS.aload X12.here hx rfl (hb hby dK_515) rfl rfl ?_
    show Steps p.tables e below (T12.setTop (mkF m 517 #[.val (.int (8 : Int32)), .val (.int sel), .val (.int c0), .val (.int c1), .val (.ref a2)] [(.ref a2)])) _
    refine XS.iconst X12.here hx rfl (hb hby dK_517) ?_
    show Steps p.tables e below (T12.setTop (mkF m 518 #[.val (.int (8 : Int32)), .val (.int sel), .val (.int c0), .val (.int c1), .val (.ref a2)] [(.int (5 : Int32)), (.ref a2)])) _
    refine XS.iconst X12.here hx rfl (hb hby dK_518) ?_
    show Steps p.tables e below (T12.setTop (mkF m 519 #[.val (.int (8 : Int32)), .val (.int sel), .val (.int c0), .val (.int c1), .val (.ref a2)] [(.int (5 : Int32)), (.int (5 : Int32)), (.ref a2)])) _
    refine XS.bipush X12.here hx rfl (hb hby dK_519) ?_
    show Steps p.tables e below (T12.setTop (mkF m 521 #[.val (.int (8 : Int32)), .val (.int sel), .val (.int c0), .val (.int c1), .val (.ref a2)] [(.int (67 : Int32)), (.int (5 : Int32)), (.int (5 : Int32)), (.ref a2)])) _
    refine XS.iloadN X12.here hx rfl (hb hby dK_521) rfl ?_
    show Steps p.tables e below (T12.setTop (mkF m 522 #[.val (.int (8 : Int32)), .val (.int sel), .val (.int c0), .val (.int c1), .val (.ref a2)] [(.int sel), (.int (67 : Int32)), (.int (5 : Int32)), (.int (5 : Int32)), (.ref a2)])) _
    refine XS.iloadN X12.here hx rfl (hb hby dK_522) rfl ?_
    show Steps p.tables e below (T12.setTop (mkF m 523 #[.val (.int (8 : Int32)), .val (.int sel), .val (.int c0), .val (.int c1), .val (.ref a2)] [(.int c0), (.int sel), (.int (67 : Int32)), (.int (5 : Int32)), (.int (5 : Int32)), (.ref a2)])) _
    refine XS.iloadN X12.here hx rfl (hb hby dK_523) rfl ?_
    show Steps p.tables e below (T12.setTop (mkF m 524 #[.val (.int (8 : Int32)), .val (.int sel), .val (.int c0), .val (.int c1), .val (.ref a2)] [(.int c1), (.int c0), (.int sel), (.int (67 : Int32)), (.int (5 : Int32)), (.int (5 : Int32)), (.ref a2)])) _
    exact kt
  obtain ⟨_, _, ⟨TC5, LC5, kC5, nC5⟩, -, XC5, ⟨LcC5, hQC5, lC5, yC5, zC5⟩, stC5⟩ := Jvm.LawKit.callS X12 hx (y := (⟨"com/example/ombudsign/ombudsign/dss/CertTypeFromValuePinLaw", "ch", "(ICIII)C"⟩ : MethodName)) hown (mvT hZ (hw _ (List.mem_of_getElem? (i := 47) rfl))) (mvT hZ (hw _ (List.mem_of_getElem? (i := 48) rfl))) (mvT hZ (hw _ (List.mem_of_getElem? (i := 3) rfl))) (mvT hZ (hw _ (List.mem_of_getElem? (i := 49) rfl))) (by decide) (backOf (W := 2) (rmC l Z a0 hw (5 : Int32) (67 : Int32) sel c0 c1 (by decide) h12 n0) hZ (hw _ (List.mem_of_getElem? (i := 49) rfl)) (hw _ (List.mem_of_getElem? (i := 3) rfl)) (by decide) (by decide)) (g := (mkF m 524 #[.val (.int (8 : Int32)), .val (.int sel), .val (.int c0), .val (.int c1), .val (.ref a2)] [(.int c1), (.int c0), (.int sel), (.int (67 : Int32)), (.int (5 : Int32)), (.int (5 : Int32)), (.ref a2)])) rfl (by rw [hml]; rfl) (argsL := [(.int (5 : Int32)), (.int (67 : Int32)), (.int sel), (.int c0), (.int c1)]) (rest := [(.int (5 : Int32)), (.ref a2)]) (lenOf pdC rfl) rfl (by show 2 * 0 + _ ≤ _; exact Nat.le_of_eq rfl) (hb hby dK_524) (fun _ _ => ⟨rfl, e12, Nat.le_of_ble_eq_true rfl, Nat.le_of_ble_eq_true rfl⟩)
  dsimp only [Pt.U, Pt.locs, Pt.cells, Pt.slots] at XC5 lC5 yC5 zC5 stC5 hQC5
  subst lC5 yC5 zC5
  obtain ⟨r5, rfl, lr5, NC5, eC5⟩ := hQC5
  have MC5 := Fr.app (N12) NC5
  have P14 := V12.pad (pad_rep [(.int r0), (.int r1), (.int r2), (.int r3), (.int r4)] (.int (0 : Int32)) 1)
  obtain ⟨c14, B14, q14, S14, M14, H14, U14⟩ := P14
  obtain ⟨T14, h14, X14, e14, W14, st14⟩ := stC XC5 hx hZ eC5 B14 (j := (5 : Int32)) (inb_of S14 ⟨by decide, by decide⟩) (g := (mkF m 527 #[.val (.int (8 : Int32)), .val (.int sel), .val (.int c0), .val (.int c1), .val (.ref a2)] [(.int r5), (.int (5 : Int32)), (.ref a2)])) rfl rfl (hb hby dK_527)
  rw [own_nar lr5] at W14
  have V14 : Arv Z h14 a2 k2 .char (8 : Int32) [(.int r0), (.int r1), (.int r2), (.int r3), (.int r4), (.int r5)] (.int (0 : Int32)) := Arv.set B14 q14 S14 M14 H14 U14 (own_fc lr5) W14 5 rfl (Nat.le_of_ble_eq_true rfl)
  have N14 := Fr.snoc X14 (MC5) (Nat.le_trans Z0 gb)
  have En5 : Ext h0 h14 := own_ext_wr En4 W14 gb
  have sg15 : ∀ target, Steps p.tables e below (T14.setTop (mkF m 539 #[.val (.int (8 : Int32)), .val (.int sel), .val (.int c0), .val (.int c1), .val (.ref a2)] [(.int c1), (.int c0), (.int sel), (.int (68 : Int32)), (.int (6 : Int32)), (.int (6 : Int32)), (.ref a2)])) target → Steps p.tables e below (T14.setTop (mkF m 528 #[.val (.int (8 : Int32)), .val (.int sel), .val (.int c0), .val (.int c1), .val (.ref a2)] [])) target := by
    intro target kt
    show Steps p.tables e below (T14.setTop (mkF m 528 #[.val (.int (8 : Int32)), .val (.int sel), .val (.int c0), .val (.int c1), .val (.ref a2)] [])) _
    refine XS.aload X14.here hx rfl (hb hby dK_528) rfl rfl ?_
    show Steps p.tables e below (T14.setTop (mkF m 530 #[.val (.int (8 : Int32)), .val (.int sel), .val (.int c0), .val (.int c1), .val (.ref a2)] [(.ref a2)])) _
    refine XS.bipush X14.here hx rfl (hb hby dK_530) ?_
    show Steps p.tables e below (T14.setTop (mkF m 532 #[.val (.int (8 : Int32)), .val (.int sel), .val (.int c0), .val (.int c1), .val (.ref a2)] [(.int (6 : Int32)), (.ref a2)])) _
    refine XS.bipush X14.here hx rfl (hb hby dK_532) ?_
    show Steps p.tables e below (T14.setTop (mkF m 534 #[.val (.int (8 : Int32)), .val (.int sel), .val (.int c0), .val (.int c1), .val (.ref a2)] [(.int (6 : Int32)), (.int (6 : Int32)), (.ref a2)])) _
    refine XS.bipush X14.here hx rfl (hb hby dK_534) ?_
    show Steps p.tables e below (T14.setTop (mkF m 536 #[.val (.int (8 : Int32)), .val (.int sel), .val (.int c0), .val (.int c1), .val (.ref a2)] [(.int (68 : Int32)), (.int (6 : Int32)), (.int (6 : Int32)), (.ref a2)])) _
    refine XS.iloadN X14.here hx rfl (hb hby dK_536) rfl ?_
    show Steps p.tables e below (T14.setTop (mkF m 537 #[.val (.int (8 : Int32)), .val (.int sel), .val (.int c0), .val (.int c1), .val (.ref a2)] [(.int sel), (.int (68 : Int32)), (.int (6 : Int32)), (.int (6 : Int32)), (.ref a2)])) _
    refine XS.iloadN X14.here hx rfl (hb hby dK_537) rfl ?_
    show Steps p.tables e below (T14.setTop (mkF m 538 #[.val (.int (8 : Int32)), .val (.int sel), .val (.int c0), .val (.int c1), .val (.ref a2)] [(.int c0), (.int sel), (.int (68 : Int32)), (.int (6 : Int32)), (.int (6 : Int32)), (.ref a2)])) _
    refine XS.iloadN X14.here hx rfl (hb hby dK_538) rfl ?_
    show Steps p.tables e below (T14.setTop (mkF m 539 #[.val (.int (8 : Int32)), .val (.int sel), .val (.int c0), .val (.int c1), .val (.ref a2)] [(.int c1), (.int c0), (.int sel), (.int (68 : Int32)), (.int (6 : Int32)), (.int (6 : Int32)), (.ref a2)])) _
    exact kt
  obtain ⟨_, _, ⟨TC6, LC6, kC6, nC6⟩, -, XC6, ⟨LcC6, hQC6, lC6, yC6, zC6⟩, stC6⟩ := Jvm.LawKit.callS X14 hx (y := (⟨"com/example/ombudsign/ombudsign/dss/CertTypeFromValuePinLaw", "ch", "(ICIII)C"⟩ : MethodName)) hown (mvT hZ (hw _ (List.mem_of_getElem? (i := 47) rfl))) (mvT hZ (hw _ (List.mem_of_getElem? (i := 48) rfl))) (mvT hZ (hw _ (List.mem_of_getElem? (i := 3) rfl))) (mvT hZ (hw _ (List.mem_of_getElem? (i := 49) rfl))) (by decide) (backOf (W := 2) (rmC l Z a0 hw (6 : Int32) (68 : Int32) sel c0 c1 (by decide) h14 n0) hZ (hw _ (List.mem_of_getElem? (i := 49) rfl)) (hw _ (List.mem_of_getElem? (i := 3) rfl)) (by decide) (by decide)) (g := (mkF m 539 #[.val (.int (8 : Int32)), .val (.int sel), .val (.int c0), .val (.int c1), .val (.ref a2)] [(.int c1), (.int c0), (.int sel), (.int (68 : Int32)), (.int (6 : Int32)), (.int (6 : Int32)), (.ref a2)])) rfl (by rw [hml]; rfl) (argsL := [(.int (6 : Int32)), (.int (68 : Int32)), (.int sel), (.int c0), (.int c1)]) (rest := [(.int (6 : Int32)), (.ref a2)]) (lenOf pdC rfl) rfl (by show 2 * 0 + _ ≤ _; exact Nat.le_of_eq rfl) (hb hby dK_539) (fun _ _ => ⟨rfl, e14, Nat.le_of_ble_eq_true rfl, Nat.le_of_ble_eq_true rfl⟩)
  dsimp only [Pt.U, Pt.locs, Pt.cells, Pt.slots] at XC6 lC6 yC6 zC6 stC6 hQC6
  subst lC6 yC6 zC6
  obtain ⟨r6, rfl, lr6, NC6, eC6⟩ := hQC6
  have MC6 := Fr.app (N14) NC6
  have P16 := V14.pad (pad_rep [(.int r0), (.int r1), (.int r2), (.int r3), (.int r4), (.int r5)] (.int (0 : Int32)) 1)
  obtain ⟨c16, B16, q16, S16, M16, H16, U16⟩ := P16
  obtain ⟨T16, h16, X16, e16, W16, st16⟩ := stC XC6 hx hZ eC6 B16 (j := (6 : Int32)) (inb_of S16 ⟨by decide, by decide⟩) (g := (mkF m 542 #[.val (.int (8 : Int32)), .val (.int sel), .val (.int c0), .val (.int c1), .val (.ref a2)] [(.int r6), (.int (6 : Int32)), (.ref a2)])) rfl rfl (hb hby dK_542)
  rw [own_nar lr6] at W16
  have V16 : Arv Z h16 a2 k2 .char (8 : Int32) [(.int r0), (.int r1), (.int r2), (.int r3), (.int r4), (.int r5), (.int r6)] (.int (0 : Int32)) := Arv.set B16 q16 S16 M16 H16 U16 (own_fc lr6) W16 6 rfl (Nat.le_of_ble_eq_true rfl)
  have N16 := Fr.snoc X16 (MC6) (Nat.le_trans Z0 gb)
  have En6 : Ext h0 h16 := own_ext_wr En5 W16 gb
  have sg17 : ∀ target, Steps p.tables e below (T16.setTop (mkF m 551 #[.val (.int (8 : Int32)), .val (.int sel), .val (.int c0), .val (.int c1), .val (.ref a2)] [(.int c1), (.int c0), (.int (7 : Int32)), (.int (7 : Int32)), (.ref a2)])) target → Steps p.tables e below (T16.setTop (mkF m 543 #[.val (.int (8 : Int32)), .val (.int sel), .val (.int c0), .val (.int c1), .val (.ref a2)] [])) target := by
    intro target kt
    show Steps p.tables e below (T16.setTop (mkF m 543 #[.val (.int (8 : Int32)), .val (.int sel), .val (.int c0), .val (.int c1), .val (.ref a2)] [])) _
    refine XS.aload X16.here hx rfl (hb hby dK_543) rfl rfl ?_
    show Steps p.tables e below (T16.setTop (mkF m 545 #[.val (.int (8 : Int32)), .val (.int sel), .val (.int c0), .val (.int c1), .val (.ref a2)] [(.ref a2)])) _
    refine XS.bipush X16.here hx rfl (hb hby dK_545) ?_
    show Steps p.tables e below (T16.setTop (mkF m 547 #[.val (.int (8 : Int32)), .val (.int sel), .val (.int c0), .val (.int c1), .val (.ref a2)] [(.int (7 : Int32)), (.ref a2)])) _
    refine XS.bipush X16.here hx rfl (hb hby dK_547) ?_
    show Steps p.tables e below (T16.setTop (mkF m 549 #[.val (.int (8 : Int32)), .val (.int sel), .val (.int c0), .val (.int c1), .val (.ref a2)] [(.int (7 : Int32)), (.int (7 : Int32)), (.ref a2)])) _
    refine XS.iloadN X16.here hx rfl (hb hby dK_549) rfl ?_
    show Steps p.tables e below (T16.setTop (mkF m 550 #[.val (.int (8 : Int32)), .val (.int sel), .val (.int c0), .val (.int c1), .val (.ref a2)] [(.int c0), (.int (7 : Int32)), (.int (7 : Int32)), (.ref a2)])) _
    refine XS.iloadN X16.here hx rfl (hb hby dK_550) rfl ?_
    show Steps p.tables e below (T16.setTop (mkF m 551 #[.val (.int (8 : Int32)), .val (.int sel), .val (.int c0), .val (.int c1), .val (.ref a2)] [(.int c1), (.int c0), (.int (7 : Int32)), (.int (7 : Int32)), (.ref a2)])) _
    exact kt
  obtain ⟨_, _, ⟨TC7, LC7, kC7, nC7⟩, -, XC7, ⟨LcC7, hQC7, lC7, yC7, zC7⟩, stC7⟩ := Jvm.LawKit.callS X16 hx (y := (⟨"com/example/ombudsign/ombudsign/dss/CertTypeFromValuePinLaw", "drawn", "(III)C"⟩ : MethodName)) hown (mvT hZ (hw _ (List.mem_of_getElem? (i := 50) rfl))) (mvT hZ (hw _ (List.mem_of_getElem? (i := 51) rfl))) (mvT hZ (hw _ (List.mem_of_getElem? (i := 3) rfl))) (mvT hZ (hw _ (List.mem_of_getElem? (i := 52) rfl))) (by decide) (backOf (W := 2) (rmD l Z a0 hw (7 : Int32) c0 c1 h16 n0) hZ (hw _ (List.mem_of_getElem? (i := 52) rfl)) (hw _ (List.mem_of_getElem? (i := 3) rfl)) (by decide) (by decide)) (g := (mkF m 551 #[.val (.int (8 : Int32)), .val (.int sel), .val (.int c0), .val (.int c1), .val (.ref a2)] [(.int c1), (.int c0), (.int (7 : Int32)), (.int (7 : Int32)), (.ref a2)])) rfl (by rw [hml]; rfl) (argsL := [(.int (7 : Int32)), (.int c0), (.int c1)]) (rest := [(.int (7 : Int32)), (.ref a2)]) (lenOf pdD rfl) rfl (by show 2 * 0 + _ ≤ _; exact Nat.le_of_eq rfl) (hb hby dK_551) (fun _ _ => ⟨rfl, e16, Nat.le_of_ble_eq_true rfl, Nat.le_of_ble_eq_true rfl⟩)
  dsimp only [Pt.U, Pt.locs, Pt.cells, Pt.slots] at XC7 lC7 yC7 zC7 stC7 hQC7
  subst lC7 yC7 zC7
  obtain ⟨r7, rfl, lr7, NC7, eC7⟩ := hQC7
  have MC7 := Fr.app (N16) NC7
  have P18 := V16.pad (pad_rep [(.int r0), (.int r1), (.int r2), (.int r3), (.int r4), (.int r5), (.int r6)] (.int (0 : Int32)) 1)
  obtain ⟨c18, B18, q18, S18, M18, H18, U18⟩ := P18
  obtain ⟨T18, h18, X18, e18, W18, st18⟩ := stC XC7 hx hZ eC7 B18 (j := (7 : Int32)) (inb_of S18 ⟨by decide, by decide⟩) (g := (mkF m 554 #[.val (.int (8 : Int32)), .val (.int sel), .val (.int c0), .val (.int c1), .val (.ref a2)] [(.int r7), (.int (7 : Int32)), (.ref a2)])) rfl rfl (hb hby dK_554)
  rw [own_nar lr7] at W18
  have V18 : Arv Z h18 a2 k2 .char (8 : Int32) [(.int r0), (.int r1), (.int r2), (.int r3), (.int r4), (.int r5), (.int r6), (.int r7)] (.int (0 : Int32)) := Arv.set B18 q18 S18 M18 H18 U18 (own_fc lr7) W18 7 rfl (Nat.le_of_ble_eq_true rfl)
  have N18 := Fr.snoc X18 (MC7) (Nat.le_trans Z0 gb)
  have En7 : Ext h0 h18 := own_ext_wr En6 W18 gb
  obtain ⟨T19, h19, X19, e19, E19, A19, D19, -, st19⟩ := newO X18 hx hZ hown (hw _ (List.mem_of_getElem? (i := 53) rfl)) (hw _ (List.mem_of_getElem? (i := 54) rfl)) (hw _ (List.mem_of_getElem? (i := 32) rfl)) e18 (g := (mkF m 555 #[.val (.int (8 : Int32)), .val (.int sel), .val (.int c0), .val (.int c1), .val (.ref a2)] [])) rfl (hb hby dK_555) (by decide) (by decide)
  obtain ⟨a19, g19⟩ : ∃ z, z = h18.size := ⟨_, rfl⟩
  rw [← g19] at A19 D19 st19
  have En : Ext h0 h19 := own_ext_trans En7 E19
  have gx0 : h0.size ≤ a19 := by rw [g19]; exact En7.1
  have gx : n0 ≤ a19 := Nat.le_trans Z0 gx0
  have VV := V18.ext E19
  have sg20 : ∀ target, Steps p.tables e below (T19.setTop (mkF m 561 #[.val (.int (8 : Int32)), .val (.int sel), .val (.int c0), .val (.int c1), .val (.ref a2)] [(.ref a2), (.ref a19), (.ref a19)])) target → Steps p.tables e below (T19.setTop (mkF m 558 #[.val (.int (8 : Int32)), .val (.int sel), .val (.int c0), .val (.int c1), .val (.ref a2)] [(.ref a19)])) target := by
    intro target kt
    show Steps p.tables e below (T19.setTop (mkF m 558 #[.val (.int (8 : Int32)), .val (.int sel), .val (.int c0), .val (.int c1), .val (.ref a2)] [(.ref a19)])) _
    refine XS.dup X19.here hx rfl (hb hby dK_558) rfl rfl ?_
    show Steps p.tables e below (T19.setTop (mkF m 559 #[.val (.int (8 : Int32)), .val (.int sel), .val (.int c0), .val (.int c1), .val (.ref a2)] [(.ref a19), (.ref a19)])) _
    refine XS.aload X19.here hx rfl (hb hby dK_559) rfl rfl ?_
    show Steps p.tables e below (T19.setTop (mkF m 561 #[.val (.int (8 : Int32)), .val (.int sel), .val (.int c0), .val (.int c1), .val (.ref a2)] [(.ref a2), (.ref a19), (.ref a19)])) _
    exact kt
  have Fv : Fld Z h19 a19 "java/lang/String" "value" "[B" .null := D19 (Or.inr (hw _ (List.mem_of_getElem? (i := 80) rfl))) (ty := (.array .byte)) (by decide)
  have Fc : Fld Z h19 a19 "java/lang/String" "coder" "B" (.int (0 : Int32)) := D19 (Or.inr (hw _ (List.mem_of_getElem? (i := 78) rfl))) (ty := .byte) (by decide)
  have Ex : Exa Z h19 a19 "java/lang/String" := A19
  have hp : own_lat [r0, r1, r2, r3, r4, r5, r6, r7] := by
    intro c hc
    simp only [List.mem_cons, List.not_mem_nil, or_false] at hc
    rcases hc with rfl | rfl | rfl | rfl | rfl | rfl | rfl | rfl <;> assumption
  obtain ⟨_, _, ⟨TJ9, LJ9, kJ9, nJ9⟩, -, XJ9, ⟨LcJ9, hQJ9, lJ9, yJ9, zJ9⟩, stJ9⟩ := X19.specialBack hx (y := (⟨"java/lang/String", "<init>", "([C)V"⟩ : MethodName)) rfl hown (mvT hZ (hw _ (List.mem_of_getElem? (i := 55) rfl))) (mvT hZ (hw _ (List.mem_of_getElem? (i := 56) rfl))) (mvT hZ (hw _ (List.mem_of_getElem? (i := 57) rfl))) (by decide) (StrChars.Road.backV (W := 1) hZ hws (kI := 4) (hw _ (List.mem_of_getElem? (i := 54) rfl)) (cs := ([r0, r1, r2, r3, r4, r5, r6, r7] : List Int32)) (bs := ([r0, r1, r2, r3, r4, r5, r6, r7] : List Int32).map (fun c => c.toInt8.toInt32)) (n := 8) gx (Nat.le_trans Z0 En.1) Ex Fv Fc VV (O.ext En) hG rfl rfl (by decide) (by decide) hp rfl (by decide) (by decide)) (g := (mkF m 561 #[.val (.int (8 : Int32)), .val (.int sel), .val (.int c0), .val (.int c1), .val (.ref a2)] [(.ref a2), (.ref a19), (.ref a19)])) rfl (by rw [hml]; rfl) (Steps.refl _) (a := a19) (argsL := [(.ref a2)]) (rest := [(.ref a19)]) (lenOf pdE1 rfl) rfl (by show 2 * 0 + _ ≤ _; exact Nat.le_of_eq rfl) (hb hby dK_561) (fun _ _ => ⟨rfl, e19, Nat.le_of_ble_eq_true rfl, Nat.le_of_ble_eq_true rfl⟩)
  dsimp only [Pt.U, Pt.locs, Pt.cells, Pt.slots] at XJ9 lJ9 yJ9 zJ9 stJ9 hQJ9
  subst lJ9 yJ9 zJ9
  obtain ⟨rfl, NJ9, KJ9, gJ9a, gJ9c, tJ9, kbJ9, uJ9, vJ9, wJ9, gJ9v, gJ9b⟩ := hQJ9
  have EJ9 : Ext h0 TJ9.heap := own_ext_keep En KJ9 (allS gx0 all0)
  obtain ⟨fs, hr, hrun, hended, hW⟩ := XJ9.leaveW (n := s.heap.size) hS0 (by rw [hh]; exact EJ9.1) (v := some (.ref a19)) (fun h => by rw [Bd.returns] at h; cases h)
  have RR : CHr Z EL s.vm h0 TJ9.vm TJ9.heap := (CHr.ext EJ9 H0).trans (CHv.at XJ9 hZ hEL (H0.ext EJ9))
  refine ⟨_, _, castTop (efK m 8 sel c0 c1) ?_, hrun, hended, _, _, rfl, ⟨Fr.app (N18) NJ9, EJ9, Or.inr ⟨a19, [r0, r1, r2, r3, r4, r5, r6, r7], rfl, hp, Nat.le_of_ble_eq_true rfl, ⟨gJ9a, gJ9c, tJ9, kbJ9, gJ9v, gJ9b⟩⟩⟩, ?_, own_w hW (by decide) (by decide)⟩
  · show Steps p.tables e below (s₁.setTop (mkF m 0 #[.val (.int (8 : Int32)), .val (.int sel), .val (.int c0), .val (.int c1), .unset] [])) _
    refine sg1 _ ?_
    show Steps p.tables e below (s₁.setTop (mkF m 446 #[.val (.int (8 : Int32)), .val (.int sel), .val (.int c0), .val (.int c1), .unset] [(.int (8 : Int32))])) _
    refine st2 _ ?_
    show Steps p.tables e below (T2.setTop (mkF m 448 #[.val (.int (8 : Int32)), .val (.int sel), .val (.int c0), .val (.int c1), .unset] [(.ref a2)])) _
    refine sg3 _ ?_
    show Steps p.tables e below (T2.setTop (mkF m 459 #[.val (.int (8 : Int32)), .val (.int sel), .val (.int c0), .val (.int c1), .val (.ref a2)] [(.int c1), (.int c0), (.int sel), (.int (81 : Int32)), (.int (0 : Int32)), (.int (0 : Int32)), (.ref a2)])) _
    refine stC0 _ ?_
    show Steps p.tables e below (TC0.setTop (mkF m 462 #[.val (.int (8 : Int32)), .val (.int sel), .val (.int c0), .val (.int c1), .val (.ref a2)] [(.int r0), (.int (0 : Int32)), (.ref a2)])) _
    refine st4 _ ?_
    show Steps p.tables e below (T4.setTop (mkF m 463 #[.val (.int (8 : Int32)), .val (.int sel), .val (.int c0), .val (.int c1), .val (.ref a2)] [])) _
    refine sg5 _ ?_
    show Steps p.tables e below (T4.setTop (mkF m 472 #[.val (.int (8 : Int32)), .val (.int sel), .val (.int c0), .val (.int c1), .val (.ref a2)] [(.int c1), (.int c0), (.int sel), (.int (67 : Int32)), (.int (1 : Int32)), (.int (1 : Int32)), (.ref a2)])) _
    refine stC1 _ ?_
    show Steps p.tables e below (TC1.setTop (mkF m 475 #[.val (.int (8 : Int32)), .val (.int sel), .val (.int c0), .val (.int c1), .val (.ref a2)] [(.int r1), (.int (1 : Int32)), (.ref a2)])) _
    refine st6 _ ?_
    show Steps p.tables e below (T6.setTop (mkF m 476 #[.val (.int (8 : Int32)), .val (.int sel), .val (.int c0), .val (.int c1), .val (.ref a2)] [])) _
    refine sg7 _ ?_
    show Steps p.tables e below (T6.setTop (mkF m 485 #[.val (.int (8 : Int32)), .val (.int sel), .val (.int c0), .val (.int c1), .val (.ref a2)] [(.int c1), (.int c0), (.int sel), (.int (47 : Int32)), (.int (2 : Int32)), (.int (2 : Int32)), (.ref a2)])) _
    refine stC2 _ ?_
    show Steps p.tables e below (TC2.setTop (mkF m 488 #[.val (.int (8 : Int32)), .val (.int sel), .val (.int c0), .val (.int c1), .val (.ref a2)] [(.int r2), (.int (2 : Int32)), (.ref a2)])) _
    refine st8 _ ?_
    show Steps p.tables e below (T8.setTop (mkF m 489 #[.val (.int (8 : Int32)), .val (.int sel), .val (.int c0), .val (.int c1), .val (.ref a2)] [])) _
    refine sg9 _ ?_
    show Steps p.tables e below (T8.setTop (mkF m 498 #[.val (.int (8 : Int32)), .val (.int sel), .val (.int c0), .val (.int c1), .val (.ref a2)] [(.int c1), (.int c0), (.int sel), (.int (83 : Int32)), (.int (3 : Int32)), (.int (3 : Int32)), (.ref a2)])) _
    refine stC3 _ ?_
    show Steps p.tables e below (TC3.setTop (mkF m 501 #[.val (.int (8 : Int32)), .val (.int sel), .val (.int c0), .val (.int c1), .val (.ref a2)] [(.int r3), (.int (3 : Int32)), (.ref a2)])) _
    refine st10 _ ?_
    show Steps p.tables e below (T10.setTop (mkF m 502 #[.val (.int (8 : Int32)), .val (.int sel), .val (.int c0), .val (.int c1), .val (.ref a2)] [])) _
    refine sg11 _ ?_
    show Steps p.tables e below (T10.setTop (mkF m 511 #[.val (.int (8 : Int32)), .val (.int sel), .val (.int c0), .val (.int c1), .val (.ref a2)] [(.int c1), (.int c0), (.int sel), (.int (83 : Int32)), (.int (4 : Int32)), (.int (4 : Int32)), (.ref a2)])) _
    refine stC4 _ ?_
    show Steps p.tables e below (TC4.setTop (mkF m 514 #[.val (.int (8 : Int32)), .val (.int sel), .val (.int c0), .val (.int c1), .val (.ref a2)] [(.int r4), (.int (4 : Int32)), (.ref a2)])) _
    refine st12 _ ?_
    show Steps p.tables e below (T12.setTop (mkF m 515 #[.val (.int (8 : Int32)), .val (.int sel), .val (.int c0), .val (.int c1), .val (.ref a2)] [])) _
    refine sg13 _ ?_
    show Steps p.tables e below (T12.setTop (mkF m 524 #[.val (.int (8 : Int32)), .val (.int sel), .val (.int c0), .val (.int c1), .val (.ref a2)] [(.int c1), (.int c0), (.int sel), (.int (67 : Int32)), (.int (5 : Int32)), (.int (5 : Int32)), (.ref a2)])) _
    refine stC5 _ ?_
    show Steps p.tables e below (TC5.setTop (mkF m 527 #[.val (.int (8 : Int32)), .val (.int sel), .val (.int c0), .val (.int c1), .val (.ref a2)] [(.int r5), (.int (5 : Int32)), (.ref a2)])) _
    refine st14 _ ?_
    show Steps p.tables e below (T14.setTop (mkF m 528 #[.val (.int (8 : Int32)), .val (.int sel), .val (.int c0), .val (.int c1), .val (.ref a2)] [])) _
    refine sg15 _ ?_
    show Steps p.tables e below (T14.setTop (mkF m 539 #[.val (.int (8 : Int32)), .val (.int sel), .val (.int c0), .val (.int c1), .val (.ref a2)] [(.int c1), (.int c0), (.int sel), (.int (68 : Int32)), (.int (6 : Int32)), (.int (6 : Int32)), (.ref a2)])) _
    refine stC6 _ ?_
    show Steps p.tables e below (TC6.setTop (mkF m 542 #[.val (.int (8 : Int32)), .val (.int sel), .val (.int c0), .val (.int c1), .val (.ref a2)] [(.int r6), (.int (6 : Int32)), (.ref a2)])) _
    refine st16 _ ?_
    show Steps p.tables e below (T16.setTop (mkF m 543 #[.val (.int (8 : Int32)), .val (.int sel), .val (.int c0), .val (.int c1), .val (.ref a2)] [])) _
    refine sg17 _ ?_
    show Steps p.tables e below (T16.setTop (mkF m 551 #[.val (.int (8 : Int32)), .val (.int sel), .val (.int c0), .val (.int c1), .val (.ref a2)] [(.int c1), (.int c0), (.int (7 : Int32)), (.int (7 : Int32)), (.ref a2)])) _
    refine stC7 _ ?_
    show Steps p.tables e below (TC7.setTop (mkF m 554 #[.val (.int (8 : Int32)), .val (.int sel), .val (.int c0), .val (.int c1), .val (.ref a2)] [(.int r7), (.int (7 : Int32)), (.ref a2)])) _
    refine st18 _ ?_
    show Steps p.tables e below (T18.setTop (mkF m 555 #[.val (.int (8 : Int32)), .val (.int sel), .val (.int c0), .val (.int c1), .val (.ref a2)] [])) _
    refine st19 _ ?_
    show Steps p.tables e below (T19.setTop (mkF m 558 #[.val (.int (8 : Int32)), .val (.int sel), .val (.int c0), .val (.int c1), .val (.ref a2)] [(.ref a19)])) _
    refine sg20 _ ?_
    show Steps p.tables e below (T19.setTop (mkF m 561 #[.val (.int (8 : Int32)), .val (.int sel), .val (.int c0), .val (.int c1), .val (.ref a2)] [(.ref a2), (.ref a19), (.ref a19)])) _
    refine stJ9.trans ?_
    show Steps p.tables e below (TJ9.setTop (mkF m 564 #[.val (.int (8 : Int32)), .val (.int sel), .val (.int c0), .val (.int c1), .val (.ref a2)] [(.ref a19)])) _
    exact retOut XJ9 hx (t := .object "java/lang/String") Bd.returns rfl (Or.inr (Or.inr (Or.inr (Or.inr ⟨rfl, rfl, rfl⟩)))) (hb hby dK_564) hr
  · show CHr Z EL s.vm s.heap TJ9.vm TJ9.heap
    rw [hh]; exact RR
/-- what the case says of CertType's statics and of Optional.EMPTY -/
def own_G (Z : State) (h : Heap) (va : Addr) (kv : ClassId) (pk qc ps qs em : Addr) : Prop :=
  (Sta Z h "com/example/ombudsign/ombudsign/dss/CertType" "$VALUES" "[Lcom/example/ombudsign/ombudsign/dss/CertType;" (.ref va) ∧ Exa Z h va "[Lcom/example/ombudsign/ombudsign/dss/CertType;" ∧ Arv Z h va kv (.object "com/example/ombudsign/ombudsign/dss/CertType") (2 : Int32) [.ref pk, .ref qc] .null) ∧
  (Sta Z h "com/example/ombudsign/ombudsign/dss/CertType" "PKC" "Lcom/example/ombudsign/ombudsign/dss/CertType;" (.ref pk) ∧ Exa Z h pk "com/example/ombudsign/ombudsign/dss/CertType" ∧ Fld Z h pk "com/example/ombudsign/ombudsign/dss/CertType" "value" "Ljava/lang/String;" (.ref ps) ∧ own_Str Z h ps own_P) ∧
  (Sta Z h "com/example/ombudsign/ombudsign/dss/CertType" "QC_SSCD" "Lcom/example/ombudsign/ombudsign/dss/CertType;" (.ref qc) ∧ Exa Z h qc "com/example/ombudsign/ombudsign/dss/CertType" ∧ Fld Z h qc "com/example/ombudsign/ombudsign/dss/CertType" "value" "Ljava/lang/String;" (.ref qs) ∧ own_Str Z h qs own_Q) ∧
  (Sta Z h "java/util/Optional" "EMPTY" "Ljava/util/Optional;" (.ref em) ∧ Exa Z h em "java/util/Optional" ∧ Fld Z h em "java/util/Optional" "value" "Ljava/lang/Object;" .null)
theorem own_G.ext {Z : State} {h h' : Heap} {va : Addr} {kv : ClassId} {pk qc ps qs em : Addr} (F : own_G Z h va kv pk qc ps qs em) (E : Ext h h') : own_G Z h' va kv pk qc ps qs em := by
  obtain ⟨⟨a1, a2, a3⟩, ⟨b1, b2, b3, b4⟩, ⟨c1, c2, c3, c4⟩, ⟨d1, d2, d3⟩⟩ := F
  exact ⟨⟨a1.ext E, a2.ext E, a3.ext E⟩, ⟨b1.ext E, b2.ext E, b3.ext E, b4.ext E⟩, ⟨c1.ext E, c2.ext E, c3.ext E, c4.ext E⟩, ⟨d1.ext E, d2.ext E, d3.ext E⟩⟩
theorem dV_0 : decode prog_5_method_1_code 0 = .ok (.getstatic 10, 3) := by decide +kernel
theorem dV_3 : decode prog_5_method_1_code 3 = .ok (.invokevirtual 14, 3) := by decide +kernel
theorem dV_6 : decode prog_5_method_1_code 6 = .ok (.checkcast 15, 3) := by decide +kernel
theorem dV_9 : decode prog_5_method_1_code 9 = .ok (.areturn, 1) := by decide +kernel
theorem efV (m : MethodId) : entryFrame m #[] 0 = mkF m 0 #[] [] := by first | (simp [entryFrame, mkF, argsToLocals, Value.category]; done) | rfl
theorem pdV : parseMethodDescriptor "()[Lcom/example/ombudsign/ombudsign/dss/CertType;" = some ⟨[], some (.array (.object "com/example/ombudsign/ombudsign/dss/CertType"))⟩ := by decide +kernel
def own_QV (Z : State) (kv : ClassId) (pk qc : Addr) (n0 : Nat) (h0 : Heap) (v : Option Value) (h : Heap) (L : List Loc) : Prop := ∃ r, v = some (.ref r) ∧ Fr n0 L ∧ Ext h0 h ∧ Arv Z h r kv (.object "com/example/ombudsign/ombudsign/dss/CertType") (2 : Int32) [.ref pk, .ref qc] .null
set_option maxRecDepth 65536 in
set_option maxHeartbeats 40000000 in
theorem rmV (l : Launch) (Z : State) (a0 : Array Value) (hw : ∀ d ∈ tables_1, d.before a0 Z = true) (va : Addr) (kv : ClassId) (pk qc ps qs em : Addr) (h0 : Heap) (n0 : Nat) (Z0 : n0 ≤ h0.size) (Gg : own_G Z h0 va kv pk qc ps qs em) :
    MetFree l (⟨"com/example/ombudsign/ombudsign/dss/CertType", "values", "()[Lcom/example/ombudsign/ombudsign/dss/CertType;"⟩ : MethodName) (head1 [Jvm.Cond.code (⟨"com/example/ombudsign/ombudsign/dss/CertType", "values", "()[Lcom/example/ombudsign/ombudsign/dss/CertType;"⟩ : MethodName) prog_5_method_1_code 0 (some (.array (.object "com/example/ombudsign/ombudsign/dss/CertType")))] ({ frames := 1, cells := 1, slots := 2, locals := 14 } : Room)) (fun q_ U => q_ = #[] ∧ Z.Warmed39 U.vm ∧ U.heap = h0) (fun _ _ _ _ _ => True) (fun _ U o U' => ∃ v L, o = .returned v ∧ own_QV Z kv pk qc n0 h0 v U'.heap L ∧ FrameEnd U o U' L ({ frames := 1, cells := 1, slots := 2, locals := 14 } : Room).cells ({ frames := 1, cells := 1, slots := 2, locals := 14 } : Room).slots) := by
  refine MetFree.of_bodySF (plainFor_of_name pn_C) hisR ?_
  intro p e s m args below meth c s₁ Bd hml0 hP hK
  obtain ⟨rfl, hZ, hh⟩ := hP
  have hx := Bd.exec
  have hby := Bd.bytes
  have hml : c.maxLocals = 0 := hml0
  have hown : s.vm.findClass "com/example/ombudsign/ombudsign/dss/CertType" = some m.cls := findClass_of_methodNamed Bd.named
  have hnm := (name_of_methodNamed Bd.named Bd.method).1
  have X0 : Stand p l e ({ frames := 1, cells := 1, slots := 2, locals := 14 } : Room) s m #[] below meth c s₁ [] 0 0 := Stand.of_body Bd
  have e0 : s₁.heap = h0 := by rw [← hh, Bd.state]; rfl
  obtain ⟨T1, X1, e1, st1⟩ := getS X0 hx hZ hown (host := "") (hw _ (List.mem_of_getElem? (i := 12) rfl)) Via.refl e0 Gg.1.1 (g := (mkF m 0 #[] [])) rfl (hb hby dV_0)
  obtain ⟨T5, h5, X5, e5, E5, V5, A5, st5⟩ := cloneH X1 hx hZ hown (hw _ (List.mem_of_getElem? (i := 14) rfl)) (hw _ (List.mem_of_getElem? (i := 15) rfl)) (hw _ (List.mem_of_getElem? (i := 19) rfl)) (hw _ (List.mem_of_getElem? (i := 17) rfl)) (hw _ (List.mem_of_getElem? (i := 18) rfl)) (hw _ (List.mem_of_getElem? (i := 20) rfl)) e1 (Arv.arh Gg.1.2.2) Gg.1.2.1 (g := (mkF m 3 #[] [(.ref va)])) rfl (by rw [hml]; rfl) rfl (hb hby dV_3) (by decide) (W := 0) (cap := 2) (by show 2 * 0 + _ ≤ _; exact Nat.le_of_eq rfl) (by decide) (by decide) (by decide) (by decide)
  obtain ⟨T6, X6, e6, st6⟩ := castY X5 hx hZ hown (hw _ (List.mem_of_getElem? (i := 24) rfl)) e5 (Ins.self A5) (g := (mkF m 6 #[] [(.ref h0.size)])) rfl rfl (hb hby dV_6)
  obtain ⟨fs, hr, hrun, hended, hW, hsame⟩ := X6.leave (v := some (.ref h0.size)) (fun h => by rw [Bd.returns] at h; cases h)
  refine ⟨_, _, castTop (efV m) ?_, hrun, hended, _, _, rfl, ?_, ⟨_, rfl⟩, hW, hsame.mono (by decide) (by decide)⟩
  · show Steps p.tables e below (s₁.setTop (mkF m 0 #[] [])) _
    refine st1 _ ?_
    show Steps p.tables e below (T1.setTop (mkF m 3 #[] [(.ref va)])) _
    refine st5 _ ?_
    show Steps p.tables e below (T5.setTop (mkF m 6 #[] [(.ref h0.size)])) _
    refine st6 _ ?_
    show Steps p.tables e below (T6.setTop (mkF m 9 #[] [(.ref h0.size)])) _
    exact retOut X6 hx (t := .array (.object "com/example/ombudsign/ombudsign/dss/CertType")) Bd.returns rfl (Or.inr (Or.inr (Or.inr (Or.inr ⟨rfl, rfl, rfl⟩)))) (hb hby dV_9) hr
  · show _
    exact by show own_QV Z kv pk qc n0 h0 _ T6.heap _; rw [e6]; exact ⟨_, rfl, Fr.nil n0, E5, V5⟩
theorem dN_0 : decode jdk_31_method_10_code 0 = .ok (.aload_n 0, 1) := by decide +kernel
theorem dN_1 : decode jdk_31_method_10_code 1 = .ok (.ifnonnull 11, 3) := by decide +kernel
theorem dN_12 : decode jdk_31_method_10_code 12 = .ok (.aload_n 0, 1) := by decide +kernel
theorem dN_13 : decode jdk_31_method_10_code 13 = .ok (.areturn, 1) := by decide +kernel
theorem efN (m : MethodId) (x0 : Addr) : entryFrame m #[(.ref x0)] 1 = mkF m 0 #[.val (.ref x0)] [] := by first | (simp [entryFrame, mkF, argsToLocals, Value.category, maxLocals]; done) | rfl
theorem pdN : parseMethodDescriptor "(Ljava/lang/Object;)Ljava/lang/Object;" = some ⟨[(.object "java/lang/Object")], some (.object "java/lang/Object")⟩ := by decide +kernel
set_option maxRecDepth 65536 in
set_option maxHeartbeats 40000000 in
theorem rmN (l : Launch) (Z : State) (a0 : Array Value) (hw : ∀ d ∈ tables_1, d.before a0 Z = true) (t : Addr) (h0 : Heap) (n0 : Nat) :
    MetFree l (⟨"java/util/Objects", "requireNonNull", "(Ljava/lang/Object;)Ljava/lang/Object;"⟩ : MethodName) (head1 [Jvm.Cond.code (⟨"java/util/Objects", "requireNonNull", "(Ljava/lang/Object;)Ljava/lang/Object;"⟩ : MethodName) jdk_31_method_10_code 1 (some (.object "java/lang/Object"))] ({ frames := 0, cells := 0, slots := 0, locals := 0 } : Room)) (fun q_ U => q_ = #[(.ref t)] ∧ Z.Warmed39 U.vm ∧ U.heap = h0) (fun _ _ _ _ _ => True) (fun _ U o U' => ∃ v L, o = .returned v ∧ own_QS n0 (.ref t) h0 v U'.heap L ∧ FrameEnd U o U' L ({ frames := 0, cells := 0, slots := 0, locals := 0 } : Room).cells ({ frames := 0, cells := 0, slots := 0, locals := 0 } : Room).slots) := by
  refine MetFree.of_bodySF (plainFor_of_name pn_O) hisR ?_
  intro p e s m args below meth c s₁ Bd hml0 hP hK
  obtain ⟨rfl, hZ, hh⟩ := hP
  have hx := Bd.exec
  have hby := Bd.bytes
  have hml : c.maxLocals = 1 := hml0
  have hown : s.vm.findClass "java/util/Objects" = some m.cls := findClass_of_methodNamed Bd.named
  have hnm := (name_of_methodNamed Bd.named Bd.method).1
  have X0 : Stand p l e ({ frames := 0, cells := 0, slots := 0, locals := 0 } : Room) s m #[(.ref t)] below meth c s₁ [] 0 0 := Stand.of_body Bd
  have e0 : s₁.heap = h0 := by rw [← hh, Bd.state]; rfl
  have sg1 : ∀ target, Steps p.tables e below (s₁.setTop (mkF m 13 #[.val (.ref t)] [(.ref t)])) target → Steps p.tables e below (s₁.setTop (mkF m 0 #[.val (.ref t)] [])) target := by
    intro target kt
    show Steps p.tables e below (s₁.setTop (mkF m 0 #[.val (.ref t)] [])) _
    refine XS.aloadN X0.here hx rfl (hb hby dN_0) rfl rfl ?_
    show Steps p.tables e below (s₁.setTop (mkF m 1 #[.val (.ref t)] [(.ref t)])) _
    refine XS.ifnonnullYes X0.here hx rfl (pc0 := 1) (pc' := 12) rfl (hb hby dN_1) rfl (by decide) (by decide) ?_
    show Steps p.tables e below (s₁.setTop (mkF m 12 #[.val (.ref t)] [])) _
    refine XS.aloadN X0.here hx rfl (hb hby dN_12) rfl rfl ?_
    show Steps p.tables e below (s₁.setTop (mkF m 13 #[.val (.ref t)] [(.ref t)])) _
    exact kt
  obtain ⟨fs, hr, hrun, hended, hW, hsame⟩ := X0.leave (v := some (.ref t)) (fun h => by rw [Bd.returns] at h; cases h)
  refine ⟨_, _, castTop (efN m t) ?_, hrun, hended, _, _, rfl, ?_, ⟨_, rfl⟩, hW, hsame.mono (by decide) (by decide)⟩
  · show Steps p.tables e below (s₁.setTop (mkF m 0 #[.val (.ref t)] [])) _
    refine sg1 _ ?_
    show Steps p.tables e below (s₁.setTop (mkF m 13 #[.val (.ref t)] [(.ref t)])) _
    exact retOut X0 hx (t := .object "java/lang/Object") Bd.returns rfl (Or.inr (Or.inr (Or.inr (Or.inr ⟨rfl, rfl, rfl⟩)))) (hb hby dN_13) hr
  · show _
    exact ⟨rfl, Fr.nil n0, e0⟩
theorem dI_0 : decode jdk_32_method_2_code 0 = .ok (.aload_n 0, 1) := by decide +kernel
theorem dI_1 : decode jdk_32_method_2_code 1 = .ok (.invokespecial 7, 3) := by decide +kernel
theorem dI_4 : decode jdk_32_method_2_code 4 = .ok (.aload_n 0, 1) := by decide +kernel
theorem dI_5 : decode jdk_32_method_2_code 5 = .ok (.aload_n 1, 1) := by decide +kernel
theorem dI_6 : decode jdk_32_method_2_code 6 = .ok (.putfield 13, 3) := by decide +kernel
theorem dI_9 : decode jdk_32_method_2_code 9 = .ok (.return_, 1) := by decide +kernel
theorem efI (m : MethodId) (x0 : Addr) (x1 : Addr) : entryFrame m #[(.ref x0), (.ref x1)] 2 = mkF m 0 #[.val (.ref x0), .val (.ref x1)] [] := by first | (simp [entryFrame, mkF, argsToLocals, Value.category, maxLocals]; done) | rfl
theorem pdI : parseMethodDescriptor "(Ljava/lang/Object;)V" = some ⟨[(.object "java/lang/Object")], none⟩ := by decide +kernel
def own_QI (Z : State) (a t : Addr) (n0 : Nat) (h0 : Heap) (v : Option Value) (h : Heap) (L : List Loc) : Prop := v = none ∧ Fr n0 L ∧ Keep h0 h [a] ∧ Exa Z h a "java/util/Optional" ∧ Fld Z h a "java/util/Optional" "value" "Ljava/lang/Object;" (.ref t)
set_option maxRecDepth 65536 in
set_option maxHeartbeats 40000000 in
theorem rmI (l : Launch) (Z : State) (a0 : Array Value) (hw : ∀ d ∈ tables_1, d.before a0 Z = true) (a t : Addr) (h0 : Heap) (n0 : Nat) (ge : n0 ≤ a) (Ea : Exa Z h0 a "java/util/Optional") (Fa : Fld Z h0 a "java/util/Optional" "value" "Ljava/lang/Object;" .null) :
    MetFree l (⟨"java/util/Optional", "<init>", "(Ljava/lang/Object;)V"⟩ : MethodName) (head1 [Jvm.Cond.code (⟨"java/util/Optional", "<init>", "(Ljava/lang/Object;)V"⟩ : MethodName) jdk_32_method_2_code 2 none] ({ frames := 1, cells := 0, slots := 0, locals := 12 } : Room)) (fun q_ U => q_ = #[(.ref a), (.ref t)] ∧ Z.Warmed39 U.vm ∧ U.heap = h0) (fun _ _ _ _ _ => True) (fun _ U o U' => ∃ v L, o = .returned v ∧ own_QI Z a t n0 h0 v U'.heap L ∧ FrameEnd U o U' L ({ frames := 1, cells := 0, slots := 0, locals := 12 } : Room).cells ({ frames := 1, cells := 0, slots := 0, locals := 12 } : Room).slots) := by
  refine MetFree.of_bodySF (plainFor_of_name pn_P) hisR ?_
  intro p e s m args below meth c s₁ Bd hml0 hP hK
  obtain ⟨rfl, hZ, hh⟩ := hP
  have hx := Bd.exec
  have hby := Bd.bytes
  have hml : c.maxLocals = 2 := hml0
  have hown : s.vm.findClass "java/util/Optional" = some m.cls := findClass_of_methodNamed Bd.named
  have hnm := (name_of_methodNamed Bd.named Bd.method).1
  have X0 : Stand p l e ({ frames := 1, cells := 0, slots := 0, locals := 12 } : Room) s m #[(.ref a), (.ref t)] below meth c s₁ [] 0 0 := Stand.of_body Bd
  have e0 : s₁.heap = h0 := by rw [← hh, Bd.state]; rfl
  have sg1 : ∀ target, Steps p.tables e below (s₁.setTop (mkF m 1 #[.val (.ref a), .val (.ref t)] [(.ref a)])) target → Steps p.tables e below (s₁.setTop (mkF m 0 #[.val (.ref a), .val (.ref t)] [])) target := by
    intro target kt
    show Steps p.tables e below (s₁.setTop (mkF m 0 #[.val (.ref a), .val (.ref t)] [])) _
    refine XS.aloadN X0.here hx rfl (hb hby dI_0) rfl rfl ?_
    show Steps p.tables e below (s₁.setTop (mkF m 1 #[.val (.ref a), .val (.ref t)] [(.ref a)])) _
    exact kt
  obtain ⟨Ti2, Xi2, ei2, sti2⟩ := initO X0 hx hZ hown (hw _ (List.mem_of_getElem? (i := 106) rfl)) (hw _ (List.mem_of_getElem? (i := 63) rfl)) (hw _ (List.mem_of_getElem? (i := 64) rfl)) e0 (g := (mkF m 1 #[.val (.ref a), .val (.ref t)] [(.ref a)])) rfl (by rw [hml]; rfl) rfl (hb hby dI_1) (by decide) (W := 0) (by show 2 * 0 + _ ≤ _; exact Nat.le_of_eq rfl) (by decide)
  have sg3 : ∀ target, Steps p.tables e below (Ti2.setTop (mkF m 6 #[.val (.ref a), .val (.ref t)] [(.ref t), (.ref a)])) target → Steps p.tables e below (Ti2.setTop (mkF m 4 #[.val (.ref a), .val (.ref t)] [])) target := by
    intro target kt
    show Steps p.tables e below (Ti2.setTop (mkF m 4 #[.val (.ref a), .val (.ref t)] [])) _
    refine XS.aloadN Xi2.here hx rfl (hb hby dI_4) rfl rfl ?_
    show Steps p.tables e below (Ti2.setTop (mkF m 5 #[.val (.ref a), .val (.ref t)] [(.ref a)])) _
    refine XS.aloadN Xi2.here hx rfl (hb hby dI_5) rfl rfl ?_
    show Steps p.tables e below (Ti2.setTop (mkF m 6 #[.val (.ref a), .val (.ref t)] [(.ref t), (.ref a)])) _
    exact kt
  obtain ⟨T4, h4, X4, e4, W4, st4⟩ := putF Xi2 hx hZ hown (host := "") (Or.inl (hw _ (List.mem_of_getElem? (i := 44) rfl))) Via.refl ei2 Fa Ea (Or.inr ⟨(hw _ (List.mem_of_getElem? (i := 45) rfl)), rfl, hnm⟩) (hw _ (List.mem_of_getElem? (i := 97) rfl)) (ty := (.object "java/lang/Object")) (by decide) rfl rfl (g := (mkF m 6 #[.val (.ref a), .val (.ref t)] [(.ref t), (.ref a)])) rfl rfl (hb hby dI_6)
  have NW := Fr.snoc X4 (Fr.nil n0) ge
  obtain ⟨fs, hr, hrun, hended, hW, hsame⟩ := X4.leave (v := none) (fun _ => rfl)
  refine ⟨_, _, castTop (efI m a t) ?_, hrun, hended, _, _, rfl, ?_, ⟨_, rfl⟩, hW, hsame.mono (by decide) (by decide)⟩
  · show Steps p.tables e below (s₁.setTop (mkF m 0 #[.val (.ref a), .val (.ref t)] [])) _
    refine sg1 _ ?_
    show Steps p.tables e below (s₁.setTop (mkF m 1 #[.val (.ref a), .val (.ref t)] [(.ref a)])) _
    refine sti2 _ ?_
    show Steps p.tables e below (Ti2.setTop (mkF m 4 #[.val (.ref a), .val (.ref t)] [])) _
    refine sg3 _ ?_
    show Steps p.tables e below (Ti2.setTop (mkF m 6 #[.val (.ref a), .val (.ref t)] [(.ref t), (.ref a)])) _
    refine st4 _ ?_
    show Steps p.tables e below (T4.setTop (mkF m 9 #[.val (.ref a), .val (.ref t)] [])) _
    exact X4.returnOut hx Bd.returns (hb hby dI_9) hr
  · show _
    exact by show own_QI Z a t n0 h0 none T4.heap _; rw [e4]; exact ⟨rfl, NW, (Keep.refl _ _).wr W4 (Or.inl (List.mem_cons_self ..)), Ea.wr W4, Fld.same W4 Fa⟩
theorem dF_0 : decode jdk_32_method_3_code 0 = .ok (.new 2, 3) := by decide +kernel
theorem dF_3 : decode jdk_32_method_3_code 3 = .ok (.dup, 1) := by decide +kernel
theorem dF_4 : decode jdk_32_method_3_code 4 = .ok (.aload_n 0, 1) := by decide +kernel
theorem dF_5 : decode jdk_32_method_3_code 5 = .ok (.invokestatic 17, 3) := by decide +kernel
theorem dF_8 : decode jdk_32_method_3_code 8 = .ok (.invokespecial 23, 3) := by decide +kernel
theorem dF_11 : decode jdk_32_method_3_code 11 = .ok (.areturn, 1) := by decide +kernel
theorem efF (m : MethodId) (x0 : Addr) : entryFrame m #[(.ref x0)] 1 = mkF m 0 #[.val (.ref x0)] [] := by first | (simp [entryFrame, mkF, argsToLocals, Value.category, maxLocals]; done) | rfl
theorem pdF : parseMethodDescriptor "(Ljava/lang/Object;)Ljava/util/Optional;" = some ⟨[(.object "java/lang/Object")], some (.object "java/util/Optional")⟩ := by decide +kernel
def own_QO (Z : State) (w : Value) (n0 : Nat) (h0 : Heap) (v : Option Value) (h : Heap) (L : List Loc) : Prop := ∃ r, v = some (.ref r) ∧ Fr n0 L ∧ Ext h0 h ∧ Exa Z h r "java/util/Optional" ∧ Fld Z h r "java/util/Optional" "value" "Ljava/lang/Object;" w
set_option maxRecDepth 65536 in
set_option maxHeartbeats 40000000 in
theorem rmF (l : Launch) (Z : State) (a0 : Array Value) (hw : ∀ d ∈ tables_1, d.before a0 Z = true) (t : Addr) (h0 : Heap) (n0 : Nat) (Z0 : n0 ≤ h0.size) :
    MetFree l (⟨"java/util/Optional", "of", "(Ljava/lang/Object;)Ljava/util/Optional;"⟩ : MethodName) (head1 [Jvm.Cond.code (⟨"java/util/Optional", "of", "(Ljava/lang/Object;)Ljava/util/Optional;"⟩ : MethodName) jdk_32_method_3_code 1 (some (.object "java/util/Optional"))] ({ frames := 2, cells := 1, slots := 1, locals := 30 } : Room)) (fun q_ U => q_ = #[(.ref t)] ∧ Z.Warmed39 U.vm ∧ U.heap = h0) (fun _ _ _ _ _ => True) (fun _ U o U' => ∃ v L, o = .returned v ∧ own_QO Z (.ref t) n0 h0 v U'.heap L ∧ FrameEnd U o U' L ({ frames := 2, cells := 1, slots := 1, locals := 30 } : Room).cells ({ frames := 2, cells := 1, slots := 1, locals := 30 } : Room).slots) := by
  refine MetFree.of_bodySF (plainFor_of_name pn_P) hisR ?_
  intro p e s m args below meth c s₁ Bd hml0 hP hK
  obtain ⟨rfl, hZ, hh⟩ := hP
  have hx := Bd.exec
  have hby := Bd.bytes
  have hml : c.maxLocals = 1 := hml0
  have hown : s.vm.findClass "java/util/Optional" = some m.cls := findClass_of_methodNamed Bd.named
  have hnm := (name_of_methodNamed Bd.named Bd.method).1
  have X0 : Stand p l e ({ frames := 2, cells := 1, slots := 1, locals := 30 } : Room) s m #[(.ref t)] below meth c s₁ [] 0 0 := Stand.of_body Bd
  have e0 : s₁.heap = h0 := by rw [← hh, Bd.state]; rfl
  obtain ⟨T1, h1, X1, e1, E1, A1, D1, -, st1⟩ := newO X0 hx hZ hown (hw _ (List.mem_of_getElem? (i := 96) rfl)) (hw _ (List.mem_of_getElem? (i := 97) rfl)) (hw _ (List.mem_of_getElem? (i := 36) rfl)) e0 (g := (mkF m 0 #[.val (.ref t)] [])) rfl (hb hby dF_0) (by decide) (by decide)
  obtain ⟨a1, g1⟩ : ∃ z, z = h0.size := ⟨_, rfl⟩
  rw [← g1] at A1 D1 st1
  have sg2 : ∀ target, Steps p.tables e below (T1.setTop (mkF m 5 #[.val (.ref t)] [(.ref t), (.ref a1), (.ref a1)])) target → Steps p.tables e below (T1.setTop (mkF m 3 #[.val (.ref t)] [(.ref a1)])) target := by
    intro target kt
    show Steps p.tables e below (T1.setTop (mkF m 3 #[.val (.ref t)] [(.ref a1)])) _
    refine XS.dup X1.here hx rfl (hb hby dF_3) rfl rfl ?_
    show Steps p.tables e below (T1.setTop (mkF m 4 #[.val (.ref t)] [(.ref a1), (.ref a1)])) _
    refine XS.aloadN X1.here hx rfl (hb hby dF_4) rfl rfl ?_
    show Steps p.tables e below (T1.setTop (mkF m 5 #[.val (.ref t)] [(.ref t), (.ref a1), (.ref a1)])) _
    exact kt
  obtain ⟨_, _, ⟨TA, LA, kA, nA⟩, -, XA, ⟨LcA, hQA, lA, yA, zA⟩, stA⟩ := Jvm.LawKit.callS X1 hx (y := (⟨"java/util/Objects", "requireNonNull", "(Ljava/lang/Object;)Ljava/lang/Object;"⟩ : MethodName)) hown (mvT hZ (hw _ (List.mem_of_getElem? (i := 98) rfl))) (mvT hZ (hw _ (List.mem_of_getElem? (i := 99) rfl))) (mvT hZ (hw _ (List.mem_of_getElem? (i := 100) rfl))) (mvT hZ (hw _ (List.mem_of_getElem? (i := 101) rfl))) (by decide) (backOf (W := 2) (rmN l Z a0 hw t h1 n0) hZ (hw _ (List.mem_of_getElem? (i := 101) rfl)) (hw _ (List.mem_of_getElem? (i := 100) rfl)) (by decide) (by decide)) (g := (mkF m 5 #[.val (.ref t)] [(.ref t), (.ref a1), (.ref a1)])) rfl (by rw [hml]; rfl) (argsL := [(.ref t)]) (rest := [(.ref a1), (.ref a1)]) (lenOf pdN rfl) rfl (by show 2 * 0 + _ ≤ _; exact Nat.le_of_eq rfl) (hb hby dF_5) (fun _ _ => ⟨rfl, e1, Nat.le_of_ble_eq_true rfl, Nat.le_of_ble_eq_true rfl⟩)
  dsimp only [Pt.U, Pt.locs, Pt.cells, Pt.slots] at XA lA yA zA stA hQA
  subst lA yA zA
  obtain ⟨rfl, NA, eA⟩ := hQA
  have MA := Fr.app (Fr.nil n0) NA
  obtain ⟨_, _, ⟨TB, LB, kB, nB⟩, -, XB, ⟨LcB, hQB, lB, yB, zB⟩, stB⟩ := XA.specialBack hx (y := (⟨"java/util/Optional", "<init>", "(Ljava/lang/Object;)V"⟩ : MethodName)) rfl hown (mvT hZ (hw _ (List.mem_of_getElem? (i := 102) rfl))) (mvT hZ (hw _ (List.mem_of_getElem? (i := 103) rfl))) (mvT hZ (hw _ (List.mem_of_getElem? (i := 105) rfl))) (by decide) (backOf (W := 1) (rmI l Z a0 hw a1 t h1 n0 (by rw [g1]; exact Z0) A1 (D1 (Or.inr (hw _ (List.mem_of_getElem? (i := 45) rfl))) (ty := .object "java/lang/Object") (by decide))) hZ (hw _ (List.mem_of_getElem? (i := 105) rfl)) (hw _ (List.mem_of_getElem? (i := 36) rfl)) (by decide) (by decide)) (g := (mkF m 8 #[.val (.ref t)] [(.ref t), (.ref a1), (.ref a1)])) rfl (by rw [hml]; rfl) (Steps.refl _) (a := a1) (argsL := [(.ref t)]) (rest := [(.ref a1)]) (lenOf pdI rfl) rfl (by show 2 * 0 + _ ≤ _; exact Nat.le_of_eq rfl) (hb hby dF_8) (fun _ _ => ⟨rfl, eA, Nat.le_of_ble_eq_true rfl, Nat.le_of_ble_eq_true rfl⟩)
  dsimp only [Pt.U, Pt.locs, Pt.cells, Pt.slots] at XB lB yB zB stB hQB
  subst lB yB zB
  obtain ⟨rfl, NB, KB, EB, FB⟩ := hQB
  have MB := Fr.app (MA) NB
  obtain ⟨fs, hr, hrun, hended, hW, hsame⟩ := XB.leave (v := some (.ref a1)) (fun h => by rw [Bd.returns] at h; cases h)
  refine ⟨_, _, castTop (efF m t) ?_, hrun, hended, _, _, rfl, ?_, ⟨_, rfl⟩, hW, hsame.mono (by decide) (by decide)⟩
  · show Steps p.tables e below (s₁.setTop (mkF m 0 #[.val (.ref t)] [])) _
    refine st1 _ ?_
    show Steps p.tables e below (T1.setTop (mkF m 3 #[.val (.ref t)] [(.ref a1)])) _
    refine sg2 _ ?_
    show Steps p.tables e below (T1.setTop (mkF m 5 #[.val (.ref t)] [(.ref t), (.ref a1), (.ref a1)])) _
    refine stA _ ?_
    show Steps p.tables e below (TA.setTop (mkF m 8 #[.val (.ref t)] [(.ref t), (.ref a1), (.ref a1)])) _
    refine stB.trans ?_
    show Steps p.tables e below (TB.setTop (mkF m 11 #[.val (.ref t)] [(.ref a1)])) _
    exact retOut XB hx (t := .object "java/util/Optional") Bd.returns rfl (Or.inr (Or.inr (Or.inr (Or.inr ⟨rfl, rfl, rfl⟩)))) (hb hby dF_11) hr
  · show _
    exact ⟨_, rfl, MB, own_ext_keep E1 KB (allS (by rw [g1]; exact Nat.le_refl _) all0), EB, FB⟩
theorem dM_0 : decode jdk_32_method_1_code 0 = .ok (.getstatic 1, 3) := by decide +kernel
theorem dM_3 : decode jdk_32_method_1_code 3 = .ok (.astore_n 0, 1) := by decide +kernel
theorem dM_4 : decode jdk_32_method_1_code 4 = .ok (.aload_n 0, 1) := by decide +kernel
theorem dM_5 : decode jdk_32_method_1_code 5 = .ok (.areturn, 1) := by decide +kernel
theorem efM (m : MethodId) : entryFrame m #[] 1 = mkF m 0 #[.unset] [] := by first | (simp [entryFrame, mkF, argsToLocals, Value.category]; done) | rfl
theorem pdM : parseMethodDescriptor "()Ljava/util/Optional;" = some ⟨[], some (.object "java/util/Optional")⟩ := by decide +kernel
set_option maxRecDepth 65536 in
set_option maxHeartbeats 40000000 in
theorem rmM (l : Launch) (Z : State) (a0 : Array Value) (hw : ∀ d ∈ tables_1, d.before a0 Z = true) (em : Addr) (h0 : Heap) (n0 : Nat) (Se : Sta Z h0 "java/util/Optional" "EMPTY" "Ljava/util/Optional;" (.ref em)) :
    MetFree l (⟨"java/util/Optional", "empty", "()Ljava/util/Optional;"⟩ : MethodName) (head1 [Jvm.Cond.code (⟨"java/util/Optional", "empty", "()Ljava/util/Optional;"⟩ : MethodName) jdk_32_method_1_code 1 (some (.object "java/util/Optional"))] ({ frames := 0, cells := 0, slots := 0, locals := 0 } : Room)) (fun q_ U => q_ = #[] ∧ Z.Warmed39 U.vm ∧ U.heap = h0) (fun _ _ _ _ _ => True) (fun _ U o U' => ∃ v L, o = .returned v ∧ own_QS n0 (.ref em) h0 v U'.heap L ∧ FrameEnd U o U' L ({ frames := 0, cells := 0, slots := 0, locals := 0 } : Room).cells ({ frames := 0, cells := 0, slots := 0, locals := 0 } : Room).slots) := by
  refine MetFree.of_bodySF (plainFor_of_name pn_P) hisR ?_
  intro p e s m args below meth c s₁ Bd hml0 hP hK
  obtain ⟨rfl, hZ, hh⟩ := hP
  have hx := Bd.exec
  have hby := Bd.bytes
  have hml : c.maxLocals = 1 := hml0
  have hown : s.vm.findClass "java/util/Optional" = some m.cls := findClass_of_methodNamed Bd.named
  have hnm := (name_of_methodNamed Bd.named Bd.method).1
  have X0 : Stand p l e ({ frames := 0, cells := 0, slots := 0, locals := 0 } : Room) s m #[] below meth c s₁ [] 0 0 := Stand.of_body Bd
  have e0 : s₁.heap = h0 := by rw [← hh, Bd.state]; rfl
  obtain ⟨T1, X1, e1, st1⟩ := getS X0 hx hZ hown (host := "") (hw _ (List.mem_of_getElem? (i := 38) rfl)) Via.refl e0 Se (g := (mkF m 0 #[.unset] [])) rfl (hb hby dM_0)
  have sg2 : ∀ target, Steps p.tables e below (T1.setTop (mkF m 5 #[.val (.ref em)] [(.ref em)])) target → Steps p.tables e below (T1.setTop (mkF m 3 #[.unset] [(.ref em)])) target := by
    intro target kt
    show Steps p.tables e below (T1.setTop (mkF m 3 #[.unset] [(.ref em)])) _
    refine XS.astoreN X1.here hx rfl (hb hby dM_3) rfl rfl (l' := #[.val (.ref em)]) rfl ?_
    show Steps p.tables e below (T1.setTop (mkF m 4 #[.val (.ref em)] [])) _
    refine XS.aloadN X1.here hx rfl (hb hby dM_4) rfl rfl ?_
    show Steps p.tables e below (T1.setTop (mkF m 5 #[.val (.ref em)] [(.ref em)])) _
    exact kt
  obtain ⟨fs, hr, hrun, hended, hW, hsame⟩ := X1.leave (v := some (.ref em)) (fun h => by rw [Bd.returns] at h; cases h)
  refine ⟨_, _, castTop (efM m) ?_, hrun, hended, _, _, rfl, ?_, ⟨_, rfl⟩, hW, hsame.mono (by decide) (by decide)⟩
  · show Steps p.tables e below (s₁.setTop (mkF m 0 #[.unset] [])) _
    refine st1 _ ?_
    show Steps p.tables e below (T1.setTop (mkF m 3 #[.unset] [(.ref em)])) _
    refine sg2 _ ?_
    show Steps p.tables e below (T1.setTop (mkF m 5 #[.val (.ref em)] [(.ref em)])) _
    exact retOut X1 hx (t := .object "java/util/Optional") Bd.returns rfl (Or.inr (Or.inr (Or.inr (Or.inr ⟨rfl, rfl, rfl⟩)))) (hb hby dM_5) hr
  · show _
    exact ⟨rfl, Fr.nil n0, e1⟩
theorem dR_0 : decode jdk_32_method_15_code 0 = .ok (.aload_n 0, 1) := by decide +kernel
theorem dR_1 : decode jdk_32_method_15_code 1 = .ok (.getfield 13, 3) := by decide +kernel
theorem dR_4 : decode jdk_32_method_15_code 4 = .ok (.ifnull 10, 3) := by decide +kernel
theorem dR_7 : decode jdk_32_method_15_code 7 = .ok (.aload_n 0, 1) := by decide +kernel
theorem dR_8 : decode jdk_32_method_15_code 8 = .ok (.getfield 13, 3) := by decide +kernel
theorem dR_11 : decode jdk_32_method_15_code 11 = .ok (.goto 4, 3) := by decide +kernel
theorem dR_14 : decode jdk_32_method_15_code 14 = .ok (.aload_n 1, 1) := by decide +kernel
theorem dR_15 : decode jdk_32_method_15_code 15 = .ok (.areturn, 1) := by decide +kernel
theorem efR (m : MethodId) (x0 : Addr) : entryFrame m #[(.ref x0), .null] 2 = mkF m 0 #[.val (.ref x0), .val .null] [] := by first | (simp [entryFrame, mkF, argsToLocals, Value.category]; done) | rfl
theorem pdR : parseMethodDescriptor "(Ljava/lang/Object;)Ljava/lang/Object;" = some ⟨[(.object "java/lang/Object")], some (.object "java/lang/Object")⟩ := by decide +kernel
set_option maxRecDepth 65536 in
set_option maxHeartbeats 40000000 in
theorem rmRn (l : Launch) (Z : State) (a0 : Array Value) (hw : ∀ d ∈ tables_1, d.before a0 Z = true) (a t : Addr) (h0 : Heap) (n0 : Nat) (Fa : Fld Z h0 a "java/util/Optional" "value" "Ljava/lang/Object;" .null) :
    MetFree l (⟨"java/util/Optional", "orElse", "(Ljava/lang/Object;)Ljava/lang/Object;"⟩ : MethodName) (head1 [Jvm.Cond.code (⟨"java/util/Optional", "orElse", "(Ljava/lang/Object;)Ljava/lang/Object;"⟩ : MethodName) jdk_32_method_15_code 2 (some (.object "java/lang/Object"))] ({ frames := 0, cells := 0, slots := 0, locals := 0 } : Room)) (fun q_ U => q_ = #[(.ref a), .null] ∧ Z.Warmed39 U.vm ∧ U.heap = h0) (fun _ _ _ _ _ => True) (fun _ U o U' => ∃ v L, o = .returned v ∧ own_QS n0 .null h0 v U'.heap L ∧ FrameEnd U o U' L ({ frames := 0, cells := 0, slots := 0, locals := 0 } : Room).cells ({ frames := 0, cells := 0, slots := 0, locals := 0 } : Room).slots) := by
  refine MetFree.of_bodySF (plainFor_of_name pn_P) hisR ?_
  intro p e s m args below meth c s₁ Bd hml0 hP hK
  obtain ⟨rfl, hZ, hh⟩ := hP
  have hx := Bd.exec
  have hby := Bd.bytes
  have hml : c.maxLocals = 2 := hml0
  have hown : s.vm.findClass "java/util/Optional" = some m.cls := findClass_of_methodNamed Bd.named
  have hnm := (name_of_methodNamed Bd.named Bd.method).1
  have X0 : Stand p l e ({ frames := 0, cells := 0, slots := 0, locals := 0 } : Room) s m #[(.ref a), .null] below meth c s₁ [] 0 0 := Stand.of_body Bd
  have e0 : s₁.heap = h0 := by rw [← hh, Bd.state]; rfl
  have sg1 : ∀ target, Steps p.tables e below (s₁.setTop (mkF m 1 #[.val (.ref a), .val .null] [(.ref a)])) target → Steps p.tables e below (s₁.setTop (mkF m 0 #[.val (.ref a), .val .null] [])) target := by
    intro target kt
    show Steps p.tables e below (s₁.setTop (mkF m 0 #[.val (.ref a), .val .null] [])) _
    refine XS.aloadN X0.here hx rfl (hb hby dR_0) rfl rfl ?_
    show Steps p.tables e below (s₁.setTop (mkF m 1 #[.val (.ref a), .val .null] [(.ref a)])) _
    exact kt
  obtain ⟨T2, X2, e2, st2⟩ := getF X0 hx hZ hown (host := "") (Or.inl (hw _ (List.mem_of_getElem? (i := 44) rfl))) Via.refl e0 Fa (g := (mkF m 1 #[.val (.ref a), .val .null] [(.ref a)])) rfl rfl (hb hby dR_1)
  have sg3 : ∀ target, Steps p.tables e below (T2.setTop (mkF m 15 #[.val (.ref a), .val .null] [.null])) target → Steps p.tables e below (T2.setTop (mkF m 4 #[.val (.ref a), .val .null] [.null])) target := by
    intro target kt
    show Steps p.tables e below (T2.setTop (mkF m 4 #[.val (.ref a), .val .null] [.null])) _
    refine XS.ifnullYes X2.here hx rfl (pc0 := 4) (pc' := 14) rfl (hb hby dR_4) rfl (by decide) (by decide) ?_
    show Steps p.tables e below (T2.setTop (mkF m 14 #[.val (.ref a), .val .null] [])) _
    refine XS.aloadN X2.here hx rfl (hb hby dR_14) rfl rfl ?_
    show Steps p.tables e below (T2.setTop (mkF m 15 #[.val (.ref a), .val .null] [.null])) _
    exact kt
  obtain ⟨fs, hr, hrun, hended, hW, hsame⟩ := X2.leave (v := some .null) (fun h => by rw [Bd.returns] at h; cases h)
  refine ⟨_, _, castTop (efR m a) ?_, hrun, hended, _, _, rfl, ?_, ⟨_, rfl⟩, hW, hsame.mono (by decide) (by decide)⟩
  · show Steps p.tables e below (s₁.setTop (mkF m 0 #[.val (.ref a), .val .null] [])) _
    refine sg1 _ ?_
    show Steps p.tables e below (s₁.setTop (mkF m 1 #[.val (.ref a), .val .null] [(.ref a)])) _
    refine st2 _ ?_
    show Steps p.tables e below (T2.setTop (mkF m 4 #[.val (.ref a), .val .null] [.null])) _
    refine sg3 _ ?_
    show Steps p.tables e below (T2.setTop (mkF m 15 #[.val (.ref a), .val .null] [.null])) _
    exact retOut X2 hx (t := .object "java/lang/Object") Bd.returns rfl (Or.inr (Or.inr (Or.inr (Or.inr ⟨rfl, rfl, rfl⟩)))) (hb hby dR_15) hr
  · show _
    exact ⟨rfl, Fr.nil n0, e2⟩
set_option maxRecDepth 65536 in
set_option maxHeartbeats 40000000 in
theorem rmR (l : Launch) (Z : State) (a0 : Array Value) (hw : ∀ d ∈ tables_1, d.before a0 Z = true) (a t : Addr) (h0 : Heap) (n0 : Nat) (Fa : Fld Z h0 a "java/util/Optional" "value" "Ljava/lang/Object;" (.ref t)) :
    MetFree l (⟨"java/util/Optional", "orElse", "(Ljava/lang/Object;)Ljava/lang/Object;"⟩ : MethodName) (head1 [Jvm.Cond.code (⟨"java/util/Optional", "orElse", "(Ljava/lang/Object;)Ljava/lang/Object;"⟩ : MethodName) jdk_32_method_15_code 2 (some (.object "java/lang/Object"))] ({ frames := 0, cells := 0, slots := 0, locals := 0 } : Room)) (fun q_ U => q_ = #[(.ref a), .null] ∧ Z.Warmed39 U.vm ∧ U.heap = h0) (fun _ _ _ _ _ => True) (fun _ U o U' => ∃ v L, o = .returned v ∧ own_QS n0 (.ref t) h0 v U'.heap L ∧ FrameEnd U o U' L ({ frames := 0, cells := 0, slots := 0, locals := 0 } : Room).cells ({ frames := 0, cells := 0, slots := 0, locals := 0 } : Room).slots) := by
  refine MetFree.of_bodySF (plainFor_of_name pn_P) hisR ?_
  intro p e s m args below meth c s₁ Bd hml0 hP hK
  obtain ⟨rfl, hZ, hh⟩ := hP
  have hx := Bd.exec
  have hby := Bd.bytes
  have hml : c.maxLocals = 2 := hml0
  have hown : s.vm.findClass "java/util/Optional" = some m.cls := findClass_of_methodNamed Bd.named
  have hnm := (name_of_methodNamed Bd.named Bd.method).1
  have X0 : Stand p l e ({ frames := 0, cells := 0, slots := 0, locals := 0 } : Room) s m #[(.ref a), .null] below meth c s₁ [] 0 0 := Stand.of_body Bd
  have e0 : s₁.heap = h0 := by rw [← hh, Bd.state]; rfl
  have sg1 : ∀ target, Steps p.tables e below (s₁.setTop (mkF m 1 #[.val (.ref a), .val .null] [(.ref a)])) target → Steps p.tables e below (s₁.setTop (mkF m 0 #[.val (.ref a), .val .null] [])) target := by
    intro target kt
    show Steps p.tables e below (s₁.setTop (mkF m 0 #[.val (.ref a), .val .null] [])) _
    refine XS.aloadN X0.here hx rfl (hb hby dR_0) rfl rfl ?_
    show Steps p.tables e below (s₁.setTop (mkF m 1 #[.val (.ref a), .val .null] [(.ref a)])) _
    exact kt
  obtain ⟨T2, X2, e2, st2⟩ := getF X0 hx hZ hown (host := "") (Or.inl (hw _ (List.mem_of_getElem? (i := 44) rfl))) Via.refl e0 Fa (g := (mkF m 1 #[.val (.ref a), .val .null] [(.ref a)])) rfl rfl (hb hby dR_1)
  have sg3 : ∀ target, Steps p.tables e below (T2.setTop (mkF m 8 #[.val (.ref a), .val .null] [(.ref a)])) target → Steps p.tables e below (T2.setTop (mkF m 4 #[.val (.ref a), .val .null] [(.ref t)])) target := by
    intro target kt
    show Steps p.tables e below (T2.setTop (mkF m 4 #[.val (.ref a), .val .null] [(.ref t)])) _
    refine XS.ifnullNo X2.here hx rfl (hb hby dR_4) rfl ?_
    show Steps p.tables e below (T2.setTop (mkF m 7 #[.val (.ref a), .val .null] [])) _
    refine XS.aloadN X2.here hx rfl (hb hby dR_7) rfl rfl ?_
    show Steps p.tables e below (T2.setTop (mkF m 8 #[.val (.ref a), .val .null] [(.ref a)])) _
    exact kt
  obtain ⟨T4, X4, e4, st4⟩ := getF X2 hx hZ hown (host := "") (Or.inl (hw _ (List.mem_of_getElem? (i := 44) rfl))) Via.refl e2 Fa (g := (mkF m 8 #[.val (.ref a), .val .null] [(.ref a)])) rfl rfl (hb hby dR_8)
  have sg5 : ∀ target, Steps p.tables e below (T4.setTop (mkF m 15 #[.val (.ref a), .val .null] [(.ref t)])) target → Steps p.tables e below (T4.setTop (mkF m 11 #[.val (.ref a), .val .null] [(.ref t)])) target := by
    intro target kt
    show Steps p.tables e below (T4.setTop (mkF m 11 #[.val (.ref a), .val .null] [(.ref t)])) _
    refine XS.goto X4.here hx rfl (pc0 := 11) (pc' := 15) rfl (hb hby dR_11) (by decide) (by decide) ?_
    show Steps p.tables e below (T4.setTop (mkF m 15 #[.val (.ref a), .val .null] [(.ref t)])) _
    exact kt
  obtain ⟨fs, hr, hrun, hended, hW, hsame⟩ := X4.leave (v := some (.ref t)) (fun h => by rw [Bd.returns] at h; cases h)
  refine ⟨_, _, castTop (efR m a) ?_, hrun, hended, _, _, rfl, ?_, ⟨_, rfl⟩, hW, hsame.mono (by decide) (by decide)⟩
  · show Steps p.tables e below (s₁.setTop (mkF m 0 #[.val (.ref a), .val .null] [])) _
    refine sg1 _ ?_
    show Steps p.tables e below (s₁.setTop (mkF m 1 #[.val (.ref a), .val .null] [(.ref a)])) _
    refine st2 _ ?_
    show Steps p.tables e below (T2.setTop (mkF m 4 #[.val (.ref a), .val .null] [(.ref t)])) _
    refine sg3 _ ?_
    show Steps p.tables e below (T2.setTop (mkF m 8 #[.val (.ref a), .val .null] [(.ref a)])) _
    refine st4 _ ?_
    show Steps p.tables e below (T4.setTop (mkF m 11 #[.val (.ref a), .val .null] [(.ref t)])) _
    refine sg5 _ ?_
    show Steps p.tables e below (T4.setTop (mkF m 15 #[.val (.ref a), .val .null] [(.ref t)])) _
    exact retOut X4 hx (t := .object "java/lang/Object") Bd.returns rfl (Or.inr (Or.inr (Or.inr (Or.inr ⟨rfl, rfl, rfl⟩)))) (hb hby dR_15) hr
  · show _
    exact ⟨rfl, Fr.nil n0, e4⟩
theorem dQ_0 : decode jdk_42_method_66_code 0 = .ok (.aload_n 0, 1) := by decide +kernel
theorem dQ_1 : decode jdk_42_method_66_code 1 = .ok (.aload_n 1, 1) := by decide +kernel
theorem dQ_2 : decode jdk_42_method_66_code 2 = .ok (.if_acmp .ne 5, 3) := by decide +kernel
theorem dQ_7 : decode jdk_42_method_66_code 7 = .ok (.aload_n 1, 1) := by decide +kernel
theorem dQ_8 : decode jdk_42_method_66_code 8 = .ok (.instanceof 10, 3) := by decide +kernel
theorem dQ_11 : decode jdk_42_method_66_code 11 = .ok (.ifCond .eq 43, 3) := by decide +kernel
theorem dQ_54 : decode jdk_42_method_66_code 54 = .ok (.iconst 0, 1) := by decide +kernel
theorem dQ_55 : decode jdk_42_method_66_code 55 = .ok (.ireturn, 1) := by decide +kernel
theorem efQ (m : MethodId) (x0 : Addr) : entryFrame m #[(.ref x0), .null] 3 = mkF m 0 #[.val (.ref x0), .val .null, .unset] [] := by first | (simp [entryFrame, mkF, argsToLocals, Value.category]; done) | rfl
theorem pdQ : parseMethodDescriptor "(Ljava/lang/Object;)Z" = some ⟨[(.object "java/lang/Object")], some .boolean⟩ := by decide +kernel
set_option maxRecDepth 65536 in
set_option maxHeartbeats 40000000 in
theorem rmQ (l : Launch) (Z : State) (a0 : Array Value) (hw : ∀ d ∈ tables_1, d.before a0 Z = true) (a : Addr) (h0 : Heap) (n0 : Nat) :
    MetFree l (⟨"java/lang/String", "equals", "(Ljava/lang/Object;)Z"⟩ : MethodName) (head1 [Jvm.Cond.code (⟨"java/lang/String", "equals", "(Ljava/lang/Object;)Z"⟩ : MethodName) jdk_42_method_66_code 3 (some .boolean)] ({ frames := 0, cells := 0, slots := 0, locals := 0 } : Room)) (fun q_ U => q_ = #[(.ref a), .null] ∧ Z.Warmed39 U.vm ∧ U.heap = h0) (fun _ _ _ _ _ => True) (fun _ U o U' => ∃ v L, o = .returned v ∧ own_QS n0 (.int 0) h0 v U'.heap L ∧ FrameEnd U o U' L ({ frames := 0, cells := 0, slots := 0, locals := 0 } : Room).cells ({ frames := 0, cells := 0, slots := 0, locals := 0 } : Room).slots) := by
  refine MetFree.of_bodySF (plainFor_of_name pn_S) hisR ?_
  intro p e s m args below meth c s₁ Bd hml0 hP hK
  obtain ⟨rfl, hZ, hh⟩ := hP
  have hx := Bd.exec
  have hby := Bd.bytes
  have hml : c.maxLocals = 3 := hml0
  have hown : s.vm.findClass "java/lang/String" = some m.cls := findClass_of_methodNamed Bd.named
  have hnm := (name_of_methodNamed Bd.named Bd.method).1
  have X0 : Stand p l e ({ frames := 0, cells := 0, slots := 0, locals := 0 } : Room) s m #[(.ref a), .null] below meth c s₁ [] 0 0 := Stand.of_body Bd
  have e0 : s₁.heap = h0 := by rw [← hh, Bd.state]; rfl
  have sg1 : ∀ target, Steps p.tables e below (s₁.setTop (mkF m 8 #[.val (.ref a), .val .null, .unset] [.null])) target → Steps p.tables e below (s₁.setTop (mkF m 0 #[.val (.ref a), .val .null, .unset] [])) target := by
    intro target kt
    show Steps p.tables e below (s₁.setTop (mkF m 0 #[.val (.ref a), .val .null, .unset] [])) _
    refine XS.aloadN X0.here hx rfl (hb hby dQ_0) rfl rfl ?_
    show Steps p.tables e below (s₁.setTop (mkF m 1 #[.val (.ref a), .val .null, .unset] [(.ref a)])) _
    refine XS.aloadN X0.here hx rfl (hb hby dQ_1) rfl rfl ?_
    show Steps p.tables e below (s₁.setTop (mkF m 2 #[.val (.ref a), .val .null, .unset] [.null, (.ref a)])) _
    refine acmp X0 hx rfl (x := (.ref a)) (y := .null) rfl rfl (pc0 := 2) (pc' := 7) (same := false) rfl (hb hby dQ_2) rfl (by simp) (by decide) (by decide) ?_
    show Steps p.tables e below (s₁.setTop (mkF m 7 #[.val (.ref a), .val .null, .unset] [])) _
    refine XS.aloadN X0.here hx rfl (hb hby dQ_7) rfl rfl ?_
    show Steps p.tables e below (s₁.setTop (mkF m 8 #[.val (.ref a), .val .null, .unset] [.null])) _
    exact kt
  have st1 := X0.instanceofNull hx (g := (mkF m 8 #[.val (.ref a), .val .null, .unset] [.null])) rfl rfl (hb hby dQ_8)
  have sg2 : ∀ target, Steps p.tables e below (s₁.setTop (mkF m 55 #[.val (.ref a), .val .null, .unset] [(.int (0 : Int32))])) target → Steps p.tables e below (s₁.setTop (mkF m 11 #[.val (.ref a), .val .null, .unset] [(.int (0 : Int32))])) target := by
    intro target kt
    show Steps p.tables e below (s₁.setTop (mkF m 11 #[.val (.ref a), .val .null, .unset] [(.int (0 : Int32))])) _
    refine XS.ifYes X0.here hx rfl (pc0 := 11) (pc' := 54) rfl (hb hby dQ_11) rfl (by decide) (by decide) (by decide) ?_
    show Steps p.tables e below (s₁.setTop (mkF m 54 #[.val (.ref a), .val .null, .unset] [])) _
    refine XS.iconst X0.here hx rfl (hb hby dQ_54) ?_
    show Steps p.tables e below (s₁.setTop (mkF m 55 #[.val (.ref a), .val .null, .unset] [(.int (0 : Int32))])) _
    exact kt
  obtain ⟨fs, hr, hrun, hended, hW, hsame⟩ := X0.leave (v := some (.int (0 : Int32))) (fun h => by rw [Bd.returns] at h; cases h)
  refine ⟨_, _, castTop (efQ m a) ?_, hrun, hended, _, _, rfl, ?_, ⟨_, rfl⟩, hW, hsame.mono (by decide) (by decide)⟩
  · show Steps p.tables e below (s₁.setTop (mkF m 0 #[.val (.ref a), .val .null, .unset] [])) _
    refine sg1 _ ?_
    show Steps p.tables e below (s₁.setTop (mkF m 8 #[.val (.ref a), .val .null, .unset] [.null])) _
    refine st1 _ ?_
    show Steps p.tables e below (s₁.setTop (mkF m 11 #[.val (.ref a), .val .null, .unset] [(.int (0 : Int32))])) _
    refine sg2 _ ?_
    show Steps p.tables e below (s₁.setTop (mkF m 55 #[.val (.ref a), .val .null, .unset] [(.int (0 : Int32))])) _
    exact retN X0 hx (t := .boolean) Bd.returns (by simp) (hb hby dQ_55) hr
  · show _
    exact ⟨rfl, Fr.nil n0, e0⟩
theorem dW_0 : decode prog_5_method_4_code 0 = .ok (.invokestatic 40, 3) := by decide +kernel
theorem dW_3 : decode prog_5_method_4_code 3 = .ok (.astore_n 1, 1) := by decide +kernel
theorem dW_4 : decode prog_5_method_4_code 4 = .ok (.aload_n 1, 1) := by decide +kernel
theorem dW_5 : decode prog_5_method_4_code 5 = .ok (.arraylength, 1) := by decide +kernel
theorem dW_6 : decode prog_5_method_4_code 6 = .ok (.istore_n 2, 1) := by decide +kernel
theorem dW_7 : decode prog_5_method_4_code 7 = .ok (.iconst 0, 1) := by decide +kernel
theorem dW_8 : decode prog_5_method_4_code 8 = .ok (.istore_n 3, 1) := by decide +kernel
theorem dW_9 : decode prog_5_method_4_code 9 = .ok (.iload_n 3, 1) := by decide +kernel
theorem dW_10 : decode prog_5_method_4_code 10 = .ok (.iload_n 2, 1) := by decide +kernel
theorem dW_11 : decode prog_5_method_4_code 11 = .ok (.if_icmp .ge 32, 3) := by decide +kernel
theorem dW_14 : decode prog_5_method_4_code 14 = .ok (.aload_n 1, 1) := by decide +kernel
theorem dW_15 : decode prog_5_method_4_code 15 = .ok (.iload_n 3, 1) := by decide +kernel
theorem dW_16 : decode prog_5_method_4_code 16 = .ok (.aaload, 1) := by decide +kernel
theorem dW_17 : decode prog_5_method_4_code 17 = .ok (.astore 4, 2) := by decide +kernel
theorem dW_19 : decode prog_5_method_4_code 19 = .ok (.aload 4, 2) := by decide +kernel
theorem dW_21 : decode prog_5_method_4_code 21 = .ok (.getfield 29, 3) := by decide +kernel
theorem dW_24 : decode prog_5_method_4_code 24 = .ok (.aload_n 0, 1) := by decide +kernel
theorem dW_25 : decode prog_5_method_4_code 25 = .ok (.invokevirtual 44, 3) := by decide +kernel
theorem dW_28 : decode prog_5_method_4_code 28 = .ok (.ifCond .eq 9, 3) := by decide +kernel
theorem dW_31 : decode prog_5_method_4_code 31 = .ok (.aload 4, 2) := by decide +kernel
theorem dW_33 : decode prog_5_method_4_code 33 = .ok (.invokestatic 50, 3) := by decide +kernel
theorem dW_36 : decode prog_5_method_4_code 36 = .ok (.areturn, 1) := by decide +kernel
theorem dW_37 : decode prog_5_method_4_code 37 = .ok (.iinc 3 1, 3) := by decide +kernel
theorem dW_40 : decode prog_5_method_4_code 40 = .ok (.goto (-31), 3) := by decide +kernel
theorem dW_43 : decode prog_5_method_4_code 43 = .ok (.invokestatic 56, 3) := by decide +kernel
theorem dW_46 : decode prog_5_method_4_code 46 = .ok (.areturn, 1) := by decide +kernel
theorem efW (m : MethodId) (x0 : Addr) : entryFrame m #[(.ref x0)] 5 = mkF m 0 #[.val (.ref x0), .unset, .unset, .unset, .unset] [] := by first | (simp [entryFrame, mkF, argsToLocals, Value.category, maxLocals]; done) | rfl
theorem efWn (m : MethodId) : entryFrame m #[.null] 5 = mkF m 0 #[.val .null, .unset, .unset, .unset, .unset] [] := by first | (simp [entryFrame, mkF, argsToLocals, Value.category]; done) | rfl
theorem pdW : parseMethodDescriptor "(Ljava/lang/String;)Ljava/util/Optional;" = some ⟨[(.object "java/lang/String")], some (.object "java/util/Optional")⟩ := by decide +kernel
def own_val (cs : List Int32) (pk qc : Addr) : Value := if cs = own_P then .ref pk else if cs = own_Q then .ref qc else .null
set_option maxRecDepth 65536 in
set_option maxHeartbeats 40000000 in
theorem rmWn (l : Launch) (Z : State) (a0 : Array Value) (hw : ∀ d ∈ tables_1, d.before a0 Z = true) (va : Addr) (kv : ClassId) (pk qc ps qs em : Addr) (h0 : Heap) (n0 : Nat) (Z0 : n0 ≤ h0.size) (Gg : own_G Z h0 va kv pk qc ps qs em) :
    MetFree l (⟨"com/example/ombudsign/ombudsign/dss/CertType", "fromValue", "(Ljava/lang/String;)Ljava/util/Optional;"⟩ : MethodName) (head1 [Jvm.Cond.code (⟨"com/example/ombudsign/ombudsign/dss/CertType", "fromValue", "(Ljava/lang/String;)Ljava/util/Optional;"⟩ : MethodName) prog_5_method_4_code 5 (some (.object "java/util/Optional"))] ({ frames := 3, cells := 2, slots := 3, locals := 60 } : Room)) (fun q_ U => q_ = #[.null] ∧ Z.Warmed39 U.vm ∧ U.heap = h0) (fun _ _ _ _ _ => True) (fun _ U o U' => ∃ v L, o = .returned v ∧ own_QO Z .null n0 h0 v U'.heap L ∧ FrameEnd U o U' L ({ frames := 3, cells := 2, slots := 3, locals := 60 } : Room).cells ({ frames := 3, cells := 2, slots := 3, locals := 60 } : Room).slots) := by
  refine MetFree.of_bodySF (plainFor_of_name pn_C) hisR ?_
  intro p e s m args below meth c s₁ Bd hml0 hP hK
  obtain ⟨rfl, hZ, hh⟩ := hP
  have hx := Bd.exec
  have hby := Bd.bytes
  have hml : c.maxLocals = 5 := hml0
  have hown : s.vm.findClass "com/example/ombudsign/ombudsign/dss/CertType" = some m.cls := findClass_of_methodNamed Bd.named
  have hnm := (name_of_methodNamed Bd.named Bd.method).1
  have X0 : Stand p l e ({ frames := 3, cells := 2, slots := 3, locals := 60 } : Room) s m #[.null] below meth c s₁ [] 0 0 := Stand.of_body Bd
  have e0 : s₁.heap = h0 := by rw [← hh, Bd.state]; rfl
  obtain ⟨_, _, ⟨TA, LA, kA, nA⟩, -, XA, ⟨LcA, hQA, lA, yA, zA⟩, stA⟩ := Jvm.LawKit.callS X0 hx (y := (⟨"com/example/ombudsign/ombudsign/dss/CertType", "values", "()[Lcom/example/ombudsign/ombudsign/dss/CertType;"⟩ : MethodName)) hown (mvT hZ (hw _ (List.mem_of_getElem? (i := 9) rfl))) (mvT hZ (hw _ (List.mem_of_getElem? (i := 10) rfl))) (mvT hZ (hw _ (List.mem_of_getElem? (i := 7) rfl))) (mvT hZ (hw _ (List.mem_of_getElem? (i := 11) rfl))) (by decide) (backOf (W := 0) (rmV l Z a0 hw va kv pk qc ps qs em h0 n0 Z0 Gg) hZ (hw _ (List.mem_of_getElem? (i := 11) rfl)) (hw _ (List.mem_of_getElem? (i := 7) rfl)) (by decide) (by decide)) (g := (mkF m 0 #[.val .null, .unset, .unset, .unset, .unset] [])) rfl (by rw [hml]; rfl) (argsL := []) (rest := []) (lenOf pdV rfl) rfl (by show 2 * 0 + _ ≤ _; exact Nat.le_of_eq rfl) (hb hby dW_0) (fun _ _ => ⟨rfl, e0, Nat.le_of_ble_eq_true rfl, Nat.le_of_ble_eq_true rfl⟩)
  dsimp only [Pt.U, Pt.locs, Pt.cells, Pt.slots] at XA lA yA zA stA hQA
  subst lA yA zA
  obtain ⟨va2, rfl, NA, EA, VA⟩ := hQA
  have MA := Fr.app (Fr.nil n0) NA
  have GA := Gg.ext EA
  have hA0 := EA.1
  obtain ⟨cv, Ar, qv, Sz, Mz, Hv, Uv⟩ := VA
  have sg1 : ∀ target, Steps p.tables e below (TA.setTop (mkF m 21 #[.val .null, .val (.ref va2), .val (.int (2 : Int32)), .val (.int (0 : Int32)), .val (.ref pk)] [(.ref pk)])) target → Steps p.tables e below (TA.setTop (mkF m 3 #[.val .null, .unset, .unset, .unset, .unset] [(.ref va2)])) target := by
    intro target kt
    show Steps p.tables e below (TA.setTop (mkF m 3 #[.val .null, .unset, .unset, .unset, .unset] [(.ref va2)])) _
    refine XS.astoreN XA.here hx rfl (hb hby dW_3) rfl rfl (l' := #[.val .null, .val (.ref va2), .unset, .unset, .unset]) rfl ?_
    show Steps p.tables e below (TA.setTop (mkF m 4 #[.val .null, .val (.ref va2), .unset, .unset, .unset] [])) _
    refine XS.aloadN XA.here hx rfl (hb hby dW_4) rfl rfl ?_
    show Steps p.tables e below (TA.setTop (mkF m 5 #[.val .null, .val (.ref va2), .unset, .unset, .unset] [(.ref va2)])) _
    refine XA.arraylength hx (cell := cv) Ar.1 (State.isArrayOf_alike hZ.alike Ar.2.1) (g := (mkF m 5 #[.val .null, .val (.ref va2), .unset, .unset, .unset] [(.ref va2)])) rfl (rest := []) rfl (hb hby dW_5) _ ?_
    rw [len_of Sz Mz]
    show Steps p.tables e below (TA.setTop (mkF m 6 #[.val .null, .val (.ref va2), .unset, .unset, .unset] [(.int (2 : Int32))])) _
    refine XS.istoreN XA.here hx rfl (hb hby dW_6) rfl (l' := #[.val .null, .val (.ref va2), .val (.int (2 : Int32)), .unset, .unset]) rfl ?_
    show Steps p.tables e below (TA.setTop (mkF m 7 #[.val .null, .val (.ref va2), .val (.int (2 : Int32)), .unset, .unset] [])) _
    refine XS.iconst XA.here hx rfl (hb hby dW_7) ?_
    show Steps p.tables e below (TA.setTop (mkF m 8 #[.val .null, .val (.ref va2), .val (.int (2 : Int32)), .unset, .unset] [(.int (0 : Int32))])) _
    refine XS.istoreN XA.here hx rfl (hb hby dW_8) rfl (l' := #[.val .null, .val (.ref va2), .val (.int (2 : Int32)), .val (.int (0 : Int32)), .unset]) rfl ?_
    show Steps p.tables e below (TA.setTop (mkF m 9 #[.val .null, .val (.ref va2), .val (.int (2 : Int32)), .val (.int (0 : Int32)), .unset] [])) _
    refine XS.iloadN XA.here hx rfl (hb hby dW_9) rfl ?_
    show Steps p.tables e below (TA.setTop (mkF m 10 #[.val .null, .val (.ref va2), .val (.int (2 : Int32)), .val (.int (0 : Int32)), .unset] [(.int (0 : Int32))])) _
    refine XS.iloadN XA.here hx rfl (hb hby dW_10) rfl ?_
    show Steps p.tables e below (TA.setTop (mkF m 11 #[.val .null, .val (.ref va2), .val (.int (2 : Int32)), .val (.int (0 : Int32)), .unset] [(.int (2 : Int32)), (.int (0 : Int32))])) _
    refine XS.icmpNo XA.here hx rfl (hb hby dW_11) rfl (by decide) ?_
    show Steps p.tables e below (TA.setTop (mkF m 14 #[.val .null, .val (.ref va2), .val (.int (2 : Int32)), .val (.int (0 : Int32)), .unset] [])) _
    refine XS.aloadN XA.here hx rfl (hb hby dW_14) rfl rfl ?_
    show Steps p.tables e below (TA.setTop (mkF m 15 #[.val .null, .val (.ref va2), .val (.int (2 : Int32)), .val (.int (0 : Int32)), .unset] [(.ref va2)])) _
    refine XS.iloadN XA.here hx rfl (hb hby dW_15) rfl ?_
    show Steps p.tables e below (TA.setTop (mkF m 16 #[.val .null, .val (.ref va2), .val (.int (2 : Int32)), .val (.int (0 : Int32)), .unset] [(.int (0 : Int32)), (.ref va2)])) _
    refine XA.aaload hx (j := (0 : Int32)) (v := (.ref pk)) (ty := .object "com/example/ombudsign/ombudsign/dss/CertType") (by first | exact Ar.1 | (rw [rfl]; exact Ar.1)) (State.isArrayOf_alike hZ.alike Ar.2.1) rfl Ar.2.2 (inb_of Sz ⟨by decide, by decide⟩) (Has.at Hv (inb_of Sz ⟨by decide, by decide⟩) rfl) (g := (mkF m 16 #[.val .null, .val (.ref va2), .val (.int (2 : Int32)), .val (.int (0 : Int32)), .unset] [(.int (0 : Int32)), (.ref va2)])) rfl rfl (hb hby dW_16) _ ?_
    show Steps p.tables e below (TA.setTop (mkF m 17 #[.val .null, .val (.ref va2), .val (.int (2 : Int32)), .val (.int (0 : Int32)), .unset] [(.ref pk)])) _
    refine XS.astore XA.here hx rfl (hb hby dW_17) rfl rfl (l' := #[.val .null, .val (.ref va2), .val (.int (2 : Int32)), .val (.int (0 : Int32)), .val (.ref pk)]) rfl ?_
    show Steps p.tables e below (TA.setTop (mkF m 19 #[.val .null, .val (.ref va2), .val (.int (2 : Int32)), .val (.int (0 : Int32)), .val (.ref pk)] [])) _
    refine XS.aload XA.here hx rfl (hb hby dW_19) rfl rfl ?_
    show Steps p.tables e below (TA.setTop (mkF m 21 #[.val .null, .val (.ref va2), .val (.int (2 : Int32)), .val (.int (0 : Int32)), .val (.ref pk)] [(.ref pk)])) _
    exact kt
  obtain ⟨T2, X2, e2, st2⟩ := getF XA hx hZ hown (host := "") (Or.inl (hw _ (List.mem_of_getElem? (i := 26) rfl))) Via.refl rfl GA.2.1.2.2.1 (g := (mkF m 21 #[.val .null, .val (.ref va2), .val (.int (2 : Int32)), .val (.int (0 : Int32)), .val (.ref pk)] [(.ref pk)])) rfl rfl (hb hby dW_21)
  have sg3 : ∀ target, Steps p.tables e below (T2.setTop (mkF m 25 #[.val .null, .val (.ref va2), .val (.int (2 : Int32)), .val (.int (0 : Int32)), .val (.ref pk)] [.null, (.ref ps)])) target → Steps p.tables e below (T2.setTop (mkF m 24 #[.val .null, .val (.ref va2), .val (.int (2 : Int32)), .val (.int (0 : Int32)), .val (.ref pk)] [(.ref ps)])) target := by
    intro target kt
    show Steps p.tables e below (T2.setTop (mkF m 24 #[.val .null, .val (.ref va2), .val (.int (2 : Int32)), .val (.int (0 : Int32)), .val (.ref pk)] [(.ref ps)])) _
    refine XS.aloadN X2.here hx rfl (hb hby dW_24) rfl rfl ?_
    show Steps p.tables e below (T2.setTop (mkF m 25 #[.val .null, .val (.ref va2), .val (.int (2 : Int32)), .val (.int (0 : Int32)), .val (.ref pk)] [.null, (.ref ps)])) _
    exact kt
  obtain ⟨cqE0, kqE0, qaE0, qbE0, qcE0⟩ := isOf hZ e2 GA.2.1.2.2.2.1
  obtain ⟨_, _, ⟨TE0, LE0, kE0, nE0⟩, -, XE0, ⟨LcE0, hQE0, lE0, yE0, zE0⟩, stE0⟩ := X2.virtualBack hx (y := (⟨"java/lang/String", "equals", "(Ljava/lang/Object;)Z"⟩ : MethodName)) (z := (⟨"java/lang/String", "equals", "(Ljava/lang/Object;)Z"⟩ : MethodName)) hown (mvT hZ (hw _ (List.mem_of_getElem? (i := 28) rfl))) (mvT hZ (hw _ (List.mem_of_getElem? (i := 29) rfl))) (notFace_of_selects (args := #[]) (mvT hZ (hw _ (List.mem_of_getElem? (i := 31) rfl)))) (mvT hZ (hw _ (List.mem_of_getElem? (i := 31) rfl))) (mvT hZ (hw _ (List.mem_of_getElem? (i := 30) rfl))) (by decide) (backOf (W := 0) (rmQ l Z a0 hw ps TA.heap n0) hZ (hw _ (List.mem_of_getElem? (i := 33) rfl)) (hw _ (List.mem_of_getElem? (i := 32) rfl)) (by decide) (by decide)) qaE0 qcE0 (g := (mkF m 25 #[.val .null, .val (.ref va2), .val (.int (2 : Int32)), .val (.int (0 : Int32)), .val (.ref pk)] [.null, (.ref ps)])) rfl (by rw [hml]; rfl) (Steps.refl _) (argsL := [.null]) (rest := []) (lenOf pdQ rfl) rfl (by show 2 * 0 + _ ≤ _; exact Nat.le_of_eq rfl) (hb hby dW_25) (fun _ _ => ⟨rfl, e2, Nat.le_of_ble_eq_true rfl, Nat.le_of_ble_eq_true rfl⟩)
  dsimp only [Pt.U, Pt.locs, Pt.cells, Pt.slots] at XE0 lE0 yE0 zE0 stE0 hQE0
  subst lE0 yE0 zE0
  obtain ⟨rfl, NE0, eE0⟩ := hQE0
  have ME0 := Fr.app (MA) NE0
  have sg4 : ∀ target, Steps p.tables e below (TE0.setTop (mkF m 21 #[.val .null, .val (.ref va2), .val (.int (2 : Int32)), .val (.int (1 : Int32)), .val (.ref qc)] [(.ref qc)])) target → Steps p.tables e below (TE0.setTop (mkF m 28 #[.val .null, .val (.ref va2), .val (.int (2 : Int32)), .val (.int (0 : Int32)), .val (.ref pk)] [(.int (0 : Int32))])) target := by
    intro target kt
    show Steps p.tables e below (TE0.setTop (mkF m 28 #[.val .null, .val (.ref va2), .val (.int (2 : Int32)), .val (.int (0 : Int32)), .val (.ref pk)] [(.int (0 : Int32))])) _
    refine XS.ifYes XE0.here hx rfl (pc0 := 28) (pc' := 37) rfl (hb hby dW_28) rfl (by decide) (by decide) (by decide) ?_
    show Steps p.tables e below (TE0.setTop (mkF m 37 #[.val .null, .val (.ref va2), .val (.int (2 : Int32)), .val (.int (0 : Int32)), .val (.ref pk)] [])) _
    refine XS.iinc XE0.here hx rfl (hb hby dW_37) rfl (l' := #[.val .null, .val (.ref va2), .val (.int (2 : Int32)), .val (.int ((0 : Int32) + (1 : Int32))), .val (.ref pk)]) rfl ?_
    show Steps p.tables e below (TE0.setTop (mkF m 40 #[.val .null, .val (.ref va2), .val (.int (2 : Int32)), .val (.int ((0 : Int32) + (1 : Int32))), .val (.ref pk)] [])) _
    show Steps p.tables e below (TE0.setTop (mkF m 40 #[.val .null, .val (.ref va2), .val (.int (2 : Int32)), .val (.int (1 : Int32)), .val (.ref pk)] [])) _
    refine XS.goto XE0.here hx rfl (pc0 := 40) (pc' := 9) rfl (hb hby dW_40) (by decide) (by decide) ?_
    show Steps p.tables e below (TE0.setTop (mkF m 9 #[.val .null, .val (.ref va2), .val (.int (2 : Int32)), .val (.int (1 : Int32)), .val (.ref pk)] [])) _
    refine XS.iloadN XE0.here hx rfl (hb hby dW_9) rfl ?_
    show Steps p.tables e below (TE0.setTop (mkF m 10 #[.val .null, .val (.ref va2), .val (.int (2 : Int32)), .val (.int (1 : Int32)), .val (.ref pk)] [(.int (1 : Int32))])) _
    refine XS.iloadN XE0.here hx rfl (hb hby dW_10) rfl ?_
    show Steps p.tables e below (TE0.setTop (mkF m 11 #[.val .null, .val (.ref va2), .val (.int (2 : Int32)), .val (.int (1 : Int32)), .val (.ref pk)] [(.int (2 : Int32)), (.int (1 : Int32))])) _
    refine XS.icmpNo XE0.here hx rfl (hb hby dW_11) rfl (by decide) ?_
    show Steps p.tables e below (TE0.setTop (mkF m 14 #[.val .null, .val (.ref va2), .val (.int (2 : Int32)), .val (.int (1 : Int32)), .val (.ref pk)] [])) _
    refine XS.aloadN XE0.here hx rfl (hb hby dW_14) rfl rfl ?_
    show Steps p.tables e below (TE0.setTop (mkF m 15 #[.val .null, .val (.ref va2), .val (.int (2 : Int32)), .val (.int (1 : Int32)), .val (.ref pk)] [(.ref va2)])) _
    refine XS.iloadN XE0.here hx rfl (hb hby dW_15) rfl ?_
    show Steps p.tables e below (TE0.setTop (mkF m 16 #[.val .null, .val (.ref va2), .val (.int (2 : Int32)), .val (.int (1 : Int32)), .val (.ref pk)] [(.int (1 : Int32)), (.ref va2)])) _
    refine XE0.aaload hx (j := (1 : Int32)) (v := (.ref qc)) (ty := .object "com/example/ombudsign/ombudsign/dss/CertType") (by first | exact Ar.1 | (rw [eE0]; exact Ar.1)) (State.isArrayOf_alike hZ.alike Ar.2.1) rfl Ar.2.2 (inb_of Sz ⟨by decide, by decide⟩) (Has.at Hv (inb_of Sz ⟨by decide, by decide⟩) rfl) (g := (mkF m 16 #[.val .null, .val (.ref va2), .val (.int (2 : Int32)), .val (.int (1 : Int32)), .val (.ref pk)] [(.int (1 : Int32)), (.ref va2)])) rfl rfl (hb hby dW_16) _ ?_
    show Steps p.tables e below (TE0.setTop (mkF m 17 #[.val .null, .val (.ref va2), .val (.int (2 : Int32)), .val (.int (1 : Int32)), .val (.ref pk)] [(.ref qc)])) _
    refine XS.astore XE0.here hx rfl (hb hby dW_17) rfl rfl (l' := #[.val .null, .val (.ref va2), .val (.int (2 : Int32)), .val (.int (1 : Int32)), .val (.ref qc)]) rfl ?_
    show Steps p.tables e below (TE0.setTop (mkF m 19 #[.val .null, .val (.ref va2), .val (.int (2 : Int32)), .val (.int (1 : Int32)), .val (.ref qc)] [])) _
    refine XS.aload XE0.here hx rfl (hb hby dW_19) rfl rfl ?_
    show Steps p.tables e below (TE0.setTop (mkF m 21 #[.val .null, .val (.ref va2), .val (.int (2 : Int32)), .val (.int (1 : Int32)), .val (.ref qc)] [(.ref qc)])) _
    exact kt
  obtain ⟨T5, X5, e5, st5⟩ := getF XE0 hx hZ hown (host := "") (Or.inl (hw _ (List.mem_of_getElem? (i := 26) rfl))) Via.refl eE0 GA.2.2.1.2.2.1 (g := (mkF m 21 #[.val .null, .val (.ref va2), .val (.int (2 : Int32)), .val (.int (1 : Int32)), .val (.ref qc)] [(.ref qc)])) rfl rfl (hb hby dW_21)
  have sg6 : ∀ target, Steps p.tables e below (T5.setTop (mkF m 25 #[.val .null, .val (.ref va2), .val (.int (2 : Int32)), .val (.int (1 : Int32)), .val (.ref qc)] [.null, (.ref qs)])) target → Steps p.tables e below (T5.setTop (mkF m 24 #[.val .null, .val (.ref va2), .val (.int (2 : Int32)), .val (.int (1 : Int32)), .val (.ref qc)] [(.ref qs)])) target := by
    intro target kt
    show Steps p.tables e below (T5.setTop (mkF m 24 #[.val .null, .val (.ref va2), .val (.int (2 : Int32)), .val (.int (1 : Int32)), .val (.ref qc)] [(.ref qs)])) _
    refine XS.aloadN X5.here hx rfl (hb hby dW_24) rfl rfl ?_
    show Steps p.tables e below (T5.setTop (mkF m 25 #[.val .null, .val (.ref va2), .val (.int (2 : Int32)), .val (.int (1 : Int32)), .val (.ref qc)] [.null, (.ref qs)])) _
    exact kt
  obtain ⟨cqE1, kqE1, qaE1, qbE1, qcE1⟩ := isOf hZ e5 GA.2.2.1.2.2.2.1
  obtain ⟨_, _, ⟨TE1, LE1, kE1, nE1⟩, -, XE1, ⟨LcE1, hQE1, lE1, yE1, zE1⟩, stE1⟩ := X5.virtualBack hx (y := (⟨"java/lang/String", "equals", "(Ljava/lang/Object;)Z"⟩ : MethodName)) (z := (⟨"java/lang/String", "equals", "(Ljava/lang/Object;)Z"⟩ : MethodName)) hown (mvT hZ (hw _ (List.mem_of_getElem? (i := 28) rfl))) (mvT hZ (hw _ (List.mem_of_getElem? (i := 29) rfl))) (notFace_of_selects (args := #[]) (mvT hZ (hw _ (List.mem_of_getElem? (i := 31) rfl)))) (mvT hZ (hw _ (List.mem_of_getElem? (i := 31) rfl))) (mvT hZ (hw _ (List.mem_of_getElem? (i := 30) rfl))) (by decide) (backOf (W := 0) (rmQ l Z a0 hw qs TA.heap n0) hZ (hw _ (List.mem_of_getElem? (i := 33) rfl)) (hw _ (List.mem_of_getElem? (i := 32) rfl)) (by decide) (by decide)) qaE1 qcE1 (g := (mkF m 25 #[.val .null, .val (.ref va2), .val (.int (2 : Int32)), .val (.int (1 : Int32)), .val (.ref qc)] [.null, (.ref qs)])) rfl (by rw [hml]; rfl) (Steps.refl _) (argsL := [.null]) (rest := []) (lenOf pdQ rfl) rfl (by show 2 * 0 + _ ≤ _; exact Nat.le_of_eq rfl) (hb hby dW_25) (fun _ _ => ⟨rfl, e5, Nat.le_of_ble_eq_true rfl, Nat.le_of_ble_eq_true rfl⟩)
  dsimp only [Pt.U, Pt.locs, Pt.cells, Pt.slots] at XE1 lE1 yE1 zE1 stE1 hQE1
  subst lE1 yE1 zE1
  obtain ⟨rfl, NE1, eE1⟩ := hQE1
  have ME1 := Fr.app (ME0) NE1
  have sg7 : ∀ target, Steps p.tables e below (TE1.setTop (mkF m 43 #[.val .null, .val (.ref va2), .val (.int (2 : Int32)), .val (.int (2 : Int32)), .val (.ref qc)] [])) target → Steps p.tables e below (TE1.setTop (mkF m 28 #[.val .null, .val (.ref va2), .val (.int (2 : Int32)), .val (.int (1 : Int32)), .val (.ref qc)] [(.int (0 : Int32))])) target := by
    intro target kt
    show Steps p.tables e below (TE1.setTop (mkF m 28 #[.val .null, .val (.ref va2), .val (.int (2 : Int32)), .val (.int (1 : Int32)), .val (.ref qc)] [(.int (0 : Int32))])) _
    refine XS.ifYes XE1.here hx rfl (pc0 := 28) (pc' := 37) rfl (hb hby dW_28) rfl (by decide) (by decide) (by decide) ?_
    show Steps p.tables e below (TE1.setTop (mkF m 37 #[.val .null, .val (.ref va2), .val (.int (2 : Int32)), .val (.int (1 : Int32)), .val (.ref qc)] [])) _
    refine XS.iinc XE1.here hx rfl (hb hby dW_37) rfl (l' := #[.val .null, .val (.ref va2), .val (.int (2 : Int32)), .val (.int ((1 : Int32) + (1 : Int32))), .val (.ref qc)]) rfl ?_
    show Steps p.tables e below (TE1.setTop (mkF m 40 #[.val .null, .val (.ref va2), .val (.int (2 : Int32)), .val (.int ((1 : Int32) + (1 : Int32))), .val (.ref qc)] [])) _
    show Steps p.tables e below (TE1.setTop (mkF m 40 #[.val .null, .val (.ref va2), .val (.int (2 : Int32)), .val (.int (2 : Int32)), .val (.ref qc)] [])) _
    refine XS.goto XE1.here hx rfl (pc0 := 40) (pc' := 9) rfl (hb hby dW_40) (by decide) (by decide) ?_
    show Steps p.tables e below (TE1.setTop (mkF m 9 #[.val .null, .val (.ref va2), .val (.int (2 : Int32)), .val (.int (2 : Int32)), .val (.ref qc)] [])) _
    refine XS.iloadN XE1.here hx rfl (hb hby dW_9) rfl ?_
    show Steps p.tables e below (TE1.setTop (mkF m 10 #[.val .null, .val (.ref va2), .val (.int (2 : Int32)), .val (.int (2 : Int32)), .val (.ref qc)] [(.int (2 : Int32))])) _
    refine XS.iloadN XE1.here hx rfl (hb hby dW_10) rfl ?_
    show Steps p.tables e below (TE1.setTop (mkF m 11 #[.val .null, .val (.ref va2), .val (.int (2 : Int32)), .val (.int (2 : Int32)), .val (.ref qc)] [(.int (2 : Int32)), (.int (2 : Int32))])) _
    refine XS.icmpYes XE1.here hx rfl (pc0 := 11) (pc' := 43) rfl (hb hby dW_11) rfl (by decide) (by decide) (by decide) ?_
    show Steps p.tables e below (TE1.setTop (mkF m 43 #[.val .null, .val (.ref va2), .val (.int (2 : Int32)), .val (.int (2 : Int32)), .val (.ref qc)] [])) _
    exact kt
  obtain ⟨_, _, ⟨TZ, LZ, kZ, nZ⟩, -, XZ, ⟨LcZ, hQZ, lZ, yZ, zZ⟩, stZ⟩ := Jvm.LawKit.callS XE1 hx (y := (⟨"java/util/Optional", "empty", "()Ljava/util/Optional;"⟩ : MethodName)) hown (mvT hZ (hw _ (List.mem_of_getElem? (i := 34) rfl))) (mvT hZ (hw _ (List.mem_of_getElem? (i := 35) rfl))) (mvT hZ (hw _ (List.mem_of_getElem? (i := 36) rfl))) (mvT hZ (hw _ (List.mem_of_getElem? (i := 37) rfl))) (by decide) (backOf (W := 0) (rmM l Z a0 hw em TA.heap n0 GA.2.2.2.1) hZ (hw _ (List.mem_of_getElem? (i := 37) rfl)) (hw _ (List.mem_of_getElem? (i := 36) rfl)) (by decide) (by decide)) (g := (mkF m 43 #[.val .null, .val (.ref va2), .val (.int (2 : Int32)), .val (.int (2 : Int32)), .val (.ref qc)] [])) rfl (by rw [hml]; rfl) (argsL := []) (rest := []) (lenOf pdM rfl) rfl (by show 2 * 0 + _ ≤ _; exact Nat.le_of_eq rfl) (hb hby dW_43) (fun _ _ => ⟨rfl, eE1, Nat.le_of_ble_eq_true rfl, Nat.le_of_ble_eq_true rfl⟩)
  dsimp only [Pt.U, Pt.locs, Pt.cells, Pt.slots] at XZ lZ yZ zZ stZ hQZ
  subst lZ yZ zZ
  obtain ⟨rfl, NZ, eZ⟩ := hQZ
  have MZ := Fr.app (ME1) NZ
  obtain ⟨fs, hr, hrun, hended, hW, hsame⟩ := XZ.leave (v := some (.ref em)) (fun h => by rw [Bd.returns] at h; cases h)
  refine ⟨_, _, castTop (efWn m) ?_, hrun, hended, _, _, rfl, ?_, ⟨_, rfl⟩, hW, hsame.mono (by decide) (by decide)⟩
  · show Steps p.tables e below (s₁.setTop (mkF m 0 #[.val .null, .unset, .unset, .unset, .unset] [])) _
    refine stA _ ?_
    show Steps p.tables e below (TA.setTop (mkF m 3 #[.val .null, .unset, .unset, .unset, .unset] [(.ref va2)])) _
    refine sg1 _ ?_
    show Steps p.tables e below (TA.setTop (mkF m 21 #[.val .null, .val (.ref va2), .val (.int (2 : Int32)), .val (.int (0 : Int32)), .val (.ref pk)] [(.ref pk)])) _
    refine st2 _ ?_
    show Steps p.tables e below (T2.setTop (mkF m 24 #[.val .null, .val (.ref va2), .val (.int (2 : Int32)), .val (.int (0 : Int32)), .val (.ref pk)] [(.ref ps)])) _
    refine sg3 _ ?_
    show Steps p.tables e below (T2.setTop (mkF m 25 #[.val .null, .val (.ref va2), .val (.int (2 : Int32)), .val (.int (0 : Int32)), .val (.ref pk)] [.null, (.ref ps)])) _
    refine stE0.trans ?_
    show Steps p.tables e below (TE0.setTop (mkF m 28 #[.val .null, .val (.ref va2), .val (.int (2 : Int32)), .val (.int (0 : Int32)), .val (.ref pk)] [(.int (0 : Int32))])) _
    refine sg4 _ ?_
    show Steps p.tables e below (TE0.setTop (mkF m 21 #[.val .null, .val (.ref va2), .val (.int (2 : Int32)), .val (.int (1 : Int32)), .val (.ref qc)] [(.ref qc)])) _
    refine st5 _ ?_
    show Steps p.tables e below (T5.setTop (mkF m 24 #[.val .null, .val (.ref va2), .val (.int (2 : Int32)), .val (.int (1 : Int32)), .val (.ref qc)] [(.ref qs)])) _
    refine sg6 _ ?_
    show Steps p.tables e below (T5.setTop (mkF m 25 #[.val .null, .val (.ref va2), .val (.int (2 : Int32)), .val (.int (1 : Int32)), .val (.ref qc)] [.null, (.ref qs)])) _
    refine stE1.trans ?_
    show Steps p.tables e below (TE1.setTop (mkF m 28 #[.val .null, .val (.ref va2), .val (.int (2 : Int32)), .val (.int (1 : Int32)), .val (.ref qc)] [(.int (0 : Int32))])) _
    refine sg7 _ ?_
    show Steps p.tables e below (TE1.setTop (mkF m 43 #[.val .null, .val (.ref va2), .val (.int (2 : Int32)), .val (.int (2 : Int32)), .val (.ref qc)] [])) _
    refine stZ _ ?_
    show Steps p.tables e below (TZ.setTop (mkF m 46 #[.val .null, .val (.ref va2), .val (.int (2 : Int32)), .val (.int (2 : Int32)), .val (.ref qc)] [(.ref em)])) _
    exact retOut XZ hx (t := .object "java/util/Optional") Bd.returns rfl (Or.inr (Or.inr (Or.inr (Or.inr ⟨rfl, rfl, rfl⟩)))) (hb hby dW_46) hr
  · show _
    exact by show own_QO Z .null n0 h0 _ TZ.heap _; rw [eZ]; exact ⟨_, rfl, MZ, EA, GA.2.2.2.2.1, GA.2.2.2.2.2⟩
set_option maxRecDepth 65536 in
set_option maxHeartbeats 40000000 in
theorem rmW (l : Launch) (Z : State) (a0 : Array Value) (hw : ∀ d ∈ tables_1, d.before a0 Z = true) (va : Addr) (kv : ClassId) (pk qc ps qs em : Addr) (h0 : Heap) (n0 : Nat) (Z0 : n0 ≤ h0.size) (Gg : own_G Z h0 va kv pk qc ps qs em) (G : Int32) (O : Sta Z h0 "java/lang/String" "COMPACT_STRINGS" "Z" (.int G)) (hG : ¬ G = 0) (x : Addr) (cs : List Int32) (lx : own_lat cs) (hx4 : cs.length ≤ 4000) (Sx : own_Str Z h0 x cs) :
    MetFree l (⟨"com/example/ombudsign/ombudsign/dss/CertType", "fromValue", "(Ljava/lang/String;)Ljava/util/Optional;"⟩ : MethodName) (head1 [Jvm.Cond.code (⟨"com/example/ombudsign/ombudsign/dss/CertType", "fromValue", "(Ljava/lang/String;)Ljava/util/Optional;"⟩ : MethodName) prog_5_method_4_code 5 (some (.object "java/util/Optional"))] ({ frames := 3, cells := 2, slots := 3, locals := 60 } : Room)) (fun q_ U => q_ = #[(.ref x)] ∧ Z.Warmed39 U.vm ∧ U.heap = h0) (fun _ _ _ _ _ => True) (fun _ U o U' => ∃ v L, o = .returned v ∧ own_QO Z (own_val cs pk qc) n0 h0 v U'.heap L ∧ FrameEnd U o U' L ({ frames := 3, cells := 2, slots := 3, locals := 60 } : Room).cells ({ frames := 3, cells := 2, slots := 3, locals := 60 } : Room).slots) := by
  refine MetFree.of_bodySF (plainFor_of_name pn_C) hisR ?_
  intro p e s m args below meth c s₁ Bd hml0 hP hK
  obtain ⟨rfl, hZ, hh⟩ := hP
  have hx := Bd.exec
  have hby := Bd.bytes
  have hml : c.maxLocals = 5 := hml0
  have hown : s.vm.findClass "com/example/ombudsign/ombudsign/dss/CertType" = some m.cls := findClass_of_methodNamed Bd.named
  have hnm := (name_of_methodNamed Bd.named Bd.method).1
  have X0 : Stand p l e ({ frames := 3, cells := 2, slots := 3, locals := 60 } : Room) s m #[(.ref x)] below meth c s₁ [] 0 0 := Stand.of_body Bd
  have e0 : s₁.heap = h0 := by rw [← hh, Bd.state]; rfl
  obtain ⟨_, _, ⟨TA, LA, kA, nA⟩, -, XA, ⟨LcA, hQA, lA, yA, zA⟩, stA⟩ := Jvm.LawKit.callS X0 hx (y := (⟨"com/example/ombudsign/ombudsign/dss/CertType", "values", "()[Lcom/example/ombudsign/ombudsign/dss/CertType;"⟩ : MethodName)) hown (mvT hZ (hw _ (List.mem_of_getElem? (i := 9) rfl))) (mvT hZ (hw _ (List.mem_of_getElem? (i := 10) rfl))) (mvT hZ (hw _ (List.mem_of_getElem? (i := 7) rfl))) (mvT hZ (hw _ (List.mem_of_getElem? (i := 11) rfl))) (by decide) (backOf (W := 0) (rmV l Z a0 hw va kv pk qc ps qs em h0 n0 Z0 Gg) hZ (hw _ (List.mem_of_getElem? (i := 11) rfl)) (hw _ (List.mem_of_getElem? (i := 7) rfl)) (by decide) (by decide)) (g := (mkF m 0 #[.val (.ref x), .unset, .unset, .unset, .unset] [])) rfl (by rw [hml]; rfl) (argsL := []) (rest := []) (lenOf pdV rfl) rfl (by show 2 * 0 + _ ≤ _; exact Nat.le_of_eq rfl) (hb hby dW_0) (fun _ _ => ⟨rfl, e0, Nat.le_of_ble_eq_true rfl, Nat.le_of_ble_eq_true rfl⟩)
  dsimp only [Pt.U, Pt.locs, Pt.cells, Pt.slots] at XA lA yA zA stA hQA
  subst lA yA zA
  obtain ⟨va2, rfl, NA, EA, VA⟩ := hQA
  have MA := Fr.app (Fr.nil n0) NA
  have GA := Gg.ext EA
  have OA := O.ext EA
  obtain ⟨cv, Ar, qv, Sz, Mz, Hv, Uv⟩ := VA
  have SxA := Sx.ext EA
  obtain ⟨Ex, Cx, tx, kx, Vx, Kx⟩ := SxA
  have heq : ∀ d ∈ StrChars.Road.wordsEq, d.before a0 Z = true := fun d hd => hw d (own_heq d hd)
  have sg1 : ∀ target, Steps p.tables e below (TA.setTop (mkF m 21 #[.val (.ref x), .val (.ref va2), .val (.int (2 : Int32)), .val (.int (0 : Int32)), .val (.ref pk)] [(.ref pk)])) target → Steps p.tables e below (TA.setTop (mkF m 3 #[.val (.ref x), .unset, .unset, .unset, .unset] [(.ref va2)])) target := by
    intro target kt
    show Steps p.tables e below (TA.setTop (mkF m 3 #[.val (.ref x), .unset, .unset, .unset, .unset] [(.ref va2)])) _
    refine XS.astoreN XA.here hx rfl (hb hby dW_3) rfl rfl (l' := #[.val (.ref x), .val (.ref va2), .unset, .unset, .unset]) rfl ?_
    show Steps p.tables e below (TA.setTop (mkF m 4 #[.val (.ref x), .val (.ref va2), .unset, .unset, .unset] [])) _
    refine XS.aloadN XA.here hx rfl (hb hby dW_4) rfl rfl ?_
    show Steps p.tables e below (TA.setTop (mkF m 5 #[.val (.ref x), .val (.ref va2), .unset, .unset, .unset] [(.ref va2)])) _
    refine XA.arraylength hx (cell := cv) Ar.1 (State.isArrayOf_alike hZ.alike Ar.2.1) (g := (mkF m 5 #[.val (.ref x), .val (.ref va2), .unset, .unset, .unset] [(.ref va2)])) rfl (rest := []) rfl (hb hby dW_5) _ ?_
    rw [len_of Sz Mz]
    show Steps p.tables e below (TA.setTop (mkF m 6 #[.val (.ref x), .val (.ref va2), .unset, .unset, .unset] [(.int (2 : Int32))])) _
    refine XS.istoreN XA.here hx rfl (hb hby dW_6) rfl (l' := #[.val (.ref x), .val (.ref va2), .val (.int (2 : Int32)), .unset, .unset]) rfl ?_
    show Steps p.tables e below (TA.setTop (mkF m 7 #[.val (.ref x), .val (.ref va2), .val (.int (2 : Int32)), .unset, .unset] [])) _
    refine XS.iconst XA.here hx rfl (hb hby dW_7) ?_
    show Steps p.tables e below (TA.setTop (mkF m 8 #[.val (.ref x), .val (.ref va2), .val (.int (2 : Int32)), .unset, .unset] [(.int (0 : Int32))])) _
    refine XS.istoreN XA.here hx rfl (hb hby dW_8) rfl (l' := #[.val (.ref x), .val (.ref va2), .val (.int (2 : Int32)), .val (.int (0 : Int32)), .unset]) rfl ?_
    show Steps p.tables e below (TA.setTop (mkF m 9 #[.val (.ref x), .val (.ref va2), .val (.int (2 : Int32)), .val (.int (0 : Int32)), .unset] [])) _
    refine XS.iloadN XA.here hx rfl (hb hby dW_9) rfl ?_
    show Steps p.tables e below (TA.setTop (mkF m 10 #[.val (.ref x), .val (.ref va2), .val (.int (2 : Int32)), .val (.int (0 : Int32)), .unset] [(.int (0 : Int32))])) _
    refine XS.iloadN XA.here hx rfl (hb hby dW_10) rfl ?_
    show Steps p.tables e below (TA.setTop (mkF m 11 #[.val (.ref x), .val (.ref va2), .val (.int (2 : Int32)), .val (.int (0 : Int32)), .unset] [(.int (2 : Int32)), (.int (0 : Int32))])) _
    refine XS.icmpNo XA.here hx rfl (hb hby dW_11) rfl (by decide) ?_
    show Steps p.tables e below (TA.setTop (mkF m 14 #[.val (.ref x), .val (.ref va2), .val (.int (2 : Int32)), .val (.int (0 : Int32)), .unset] [])) _
    refine XS.aloadN XA.here hx rfl (hb hby dW_14) rfl rfl ?_
    show Steps p.tables e below (TA.setTop (mkF m 15 #[.val (.ref x), .val (.ref va2), .val (.int (2 : Int32)), .val (.int (0 : Int32)), .unset] [(.ref va2)])) _
    refine XS.iloadN XA.here hx rfl (hb hby dW_15) rfl ?_
    show Steps p.tables e below (TA.setTop (mkF m 16 #[.val (.ref x), .val (.ref va2), .val (.int (2 : Int32)), .val (.int (0 : Int32)), .unset] [(.int (0 : Int32)), (.ref va2)])) _
    refine XA.aaload hx (j := (0 : Int32)) (v := (.ref pk)) (ty := .object "com/example/ombudsign/ombudsign/dss/CertType") (by first | exact Ar.1 | (rw [rfl]; exact Ar.1)) (State.isArrayOf_alike hZ.alike Ar.2.1) rfl Ar.2.2 (inb_of Sz ⟨by decide, by decide⟩) (Has.at Hv (inb_of Sz ⟨by decide, by decide⟩) rfl) (g := (mkF m 16 #[.val (.ref x), .val (.ref va2), .val (.int (2 : Int32)), .val (.int (0 : Int32)), .unset] [(.int (0 : Int32)), (.ref va2)])) rfl rfl (hb hby dW_16) _ ?_
    show Steps p.tables e below (TA.setTop (mkF m 17 #[.val (.ref x), .val (.ref va2), .val (.int (2 : Int32)), .val (.int (0 : Int32)), .unset] [(.ref pk)])) _
    refine XS.astore XA.here hx rfl (hb hby dW_17) rfl rfl (l' := #[.val (.ref x), .val (.ref va2), .val (.int (2 : Int32)), .val (.int (0 : Int32)), .val (.ref pk)]) rfl ?_
    show Steps p.tables e below (TA.setTop (mkF m 19 #[.val (.ref x), .val (.ref va2), .val (.int (2 : Int32)), .val (.int (0 : Int32)), .val (.ref pk)] [])) _
    refine XS.aload XA.here hx rfl (hb hby dW_19) rfl rfl ?_
    show Steps p.tables e below (TA.setTop (mkF m 21 #[.val (.ref x), .val (.ref va2), .val (.int (2 : Int32)), .val (.int (0 : Int32)), .val (.ref pk)] [(.ref pk)])) _
    exact kt
  obtain ⟨T2, X2, e2, st2⟩ := getF XA hx hZ hown (host := "") (Or.inl (hw _ (List.mem_of_getElem? (i := 26) rfl))) Via.refl rfl GA.2.1.2.2.1 (g := (mkF m 21 #[.val (.ref x), .val (.ref va2), .val (.int (2 : Int32)), .val (.int (0 : Int32)), .val (.ref pk)] [(.ref pk)])) rfl rfl (hb hby dW_21)
  obtain ⟨Ey0, Cy0, ty0, ky0, Vy0, Ky0⟩ := GA.2.1.2.2.2
  have sg3 : ∀ target, Steps p.tables e below (T2.setTop (mkF m 25 #[.val (.ref x), .val (.ref va2), .val (.int (2 : Int32)), .val (.int (0 : Int32)), .val (.ref pk)] [(.ref x), (.ref ps)])) target → Steps p.tables e below (T2.setTop (mkF m 24 #[.val (.ref x), .val (.ref va2), .val (.int (2 : Int32)), .val (.int (0 : Int32)), .val (.ref pk)] [(.ref ps)])) target := by
    intro target kt
    show Steps p.tables e below (T2.setTop (mkF m 24 #[.val (.ref x), .val (.ref va2), .val (.int (2 : Int32)), .val (.int (0 : Int32)), .val (.ref pk)] [(.ref ps)])) _
    refine XS.aloadN X2.here hx rfl (hb hby dW_24) rfl rfl ?_
    show Steps p.tables e below (T2.setTop (mkF m 25 #[.val (.ref x), .val (.ref va2), .val (.int (2 : Int32)), .val (.int (0 : Int32)), .val (.ref pk)] [(.ref x), (.ref ps)])) _
    exact kt
  obtain ⟨cqE0, kqE0, qaE0, qbE0, qcE0⟩ := isOf hZ e2 Ey0
  obtain ⟨_, _, ⟨TE0, LE0, kE0, nE0⟩, -, XE0, ⟨LcE0, hQE0, lE0, yE0, zE0⟩, stE0⟩ := X2.virtualBack hx (y := (⟨"java/lang/String", "equals", "(Ljava/lang/Object;)Z"⟩ : MethodName)) (z := (⟨"java/lang/String", "equals", "(Ljava/lang/Object;)Z"⟩ : MethodName)) hown (mvT hZ (hw _ (List.mem_of_getElem? (i := 28) rfl))) (mvT hZ (hw _ (List.mem_of_getElem? (i := 29) rfl))) (notFace_of_selects (args := #[]) (mvT hZ (hw _ (List.mem_of_getElem? (i := 31) rfl)))) (mvT hZ (hw _ (List.mem_of_getElem? (i := 31) rfl))) (mvT hZ (hw _ (List.mem_of_getElem? (i := 30) rfl))) (by decide) (StrChars.Road.eqW (W := 0) hZ heq (kI := 4) (hw _ (List.mem_of_getElem? (i := 54) rfl)) Ey0 Vy0 Cy0 Ky0 (own_cod own_lP) (own_up own_lP) (Nat.le_of_ble_eq_true rfl) Ex Vx Cx Kx (own_cod lx) (own_up lx) hx4 OA hG (by decide) (by decide)) qaE0 qcE0 (g := (mkF m 25 #[.val (.ref x), .val (.ref va2), .val (.int (2 : Int32)), .val (.int (0 : Int32)), .val (.ref pk)] [(.ref x), (.ref ps)])) rfl (by rw [hml]; rfl) (Steps.refl _) (argsL := [(.ref x)]) (rest := []) (lenOf pdQ rfl) rfl (by show 2 * 0 + _ ≤ _; exact Nat.le_of_eq rfl) (hb hby dW_25) (fun _ _ => ⟨rfl, e2, Nat.le_of_ble_eq_true rfl, Nat.le_of_ble_eq_true rfl⟩)
  dsimp only [Pt.U, Pt.locs, Pt.cells, Pt.slots] at XE0 lE0 yE0 zE0 stE0 hQE0
  subst lE0 yE0 zE0
  obtain ⟨hv0, rfl, eE0⟩ := hQE0
  have ME0 := Fr.app (MA) (Fr.nil n0)
  rcases hv0 with ⟨rfl, q0⟩ | ⟨rfl, q0⟩
  · have sg4 : ∀ target, Steps p.tables e below (TE0.setTop (mkF m 33 #[.val (.ref x), .val (.ref va2), .val (.int (2 : Int32)), .val (.int (0 : Int32)), .val (.ref pk)] [(.ref pk)])) target → Steps p.tables e below (TE0.setTop (mkF m 28 #[.val (.ref x), .val (.ref va2), .val (.int (2 : Int32)), .val (.int (0 : Int32)), .val (.ref pk)] [(.int (1 : Int32))])) target := by
      intro target kt
      show Steps p.tables e below (TE0.setTop (mkF m 28 #[.val (.ref x), .val (.ref va2), .val (.int (2 : Int32)), .val (.int (0 : Int32)), .val (.ref pk)] [(.int (1 : Int32))])) _
      refine XS.ifNo XE0.here hx rfl (hb hby dW_28) rfl (by decide) ?_
      show Steps p.tables e below (TE0.setTop (mkF m 31 #[.val (.ref x), .val (.ref va2), .val (.int (2 : Int32)), .val (.int (0 : Int32)), .val (.ref pk)] [])) _
      refine XS.aload XE0.here hx rfl (hb hby dW_31) rfl rfl ?_
      show Steps p.tables e below (TE0.setTop (mkF m 33 #[.val (.ref x), .val (.ref va2), .val (.int (2 : Int32)), .val (.int (0 : Int32)), .val (.ref pk)] [(.ref pk)])) _
      exact kt
    obtain ⟨_, _, ⟨TY, LY, kY, nY⟩, -, XY, ⟨LcY, hQY, lY, yY, zY⟩, stY⟩ := Jvm.LawKit.callS XE0 hx (y := (⟨"java/util/Optional", "of", "(Ljava/lang/Object;)Ljava/util/Optional;"⟩ : MethodName)) hown (mvT hZ (hw _ (List.mem_of_getElem? (i := 93) rfl))) (mvT hZ (hw _ (List.mem_of_getElem? (i := 94) rfl))) (mvT hZ (hw _ (List.mem_of_getElem? (i := 36) rfl))) (mvT hZ (hw _ (List.mem_of_getElem? (i := 95) rfl))) (by decide) (backOf (W := 0) (rmF l Z a0 hw pk TA.heap n0 (Nat.le_trans Z0 EA.1)) hZ (hw _ (List.mem_of_getElem? (i := 95) rfl)) (hw _ (List.mem_of_getElem? (i := 36) rfl)) (by decide) (by decide)) (g := (mkF m 33 #[.val (.ref x), .val (.ref va2), .val (.int (2 : Int32)), .val (.int (0 : Int32)), .val (.ref pk)] [(.ref pk)])) rfl (by rw [hml]; rfl) (argsL := [(.ref pk)]) (rest := []) (lenOf pdF rfl) rfl (by show 2 * 0 + _ ≤ _; exact Nat.le_of_eq rfl) (hb hby dW_33) (fun _ _ => ⟨rfl, eE0, Nat.le_of_ble_eq_true rfl, Nat.le_of_ble_eq_true rfl⟩)
    dsimp only [Pt.U, Pt.locs, Pt.cells, Pt.slots] at XY lY yY zY stY hQY
    subst lY yY zY
    obtain ⟨r, rfl, NY, EY, AY, FY⟩ := hQY
    have MY := Fr.app (ME0) NY
    have hval : own_val cs pk qc = .ref pk := if_pos q0.symm
    obtain ⟨fs, hr, hrun, hended, hW, hsame⟩ := XY.leave (v := some (.ref r)) (fun h => by rw [Bd.returns] at h; cases h)
    refine ⟨_, _, castTop (efW m x) ?_, hrun, hended, _, _, rfl, ?_, ⟨_, rfl⟩, hW, hsame.mono (by decide) (by decide)⟩
    · show Steps p.tables e below (s₁.setTop (mkF m 0 #[.val (.ref x), .unset, .unset, .unset, .unset] [])) _
      refine stA _ ?_
      show Steps p.tables e below (TA.setTop (mkF m 3 #[.val (.ref x), .unset, .unset, .unset, .unset] [(.ref va2)])) _
      refine sg1 _ ?_
      show Steps p.tables e below (TA.setTop (mkF m 21 #[.val (.ref x), .val (.ref va2), .val (.int (2 : Int32)), .val (.int (0 : Int32)), .val (.ref pk)] [(.ref pk)])) _
      refine st2 _ ?_
      show Steps p.tables e below (T2.setTop (mkF m 24 #[.val (.ref x), .val (.ref va2), .val (.int (2 : Int32)), .val (.int (0 : Int32)), .val (.ref pk)] [(.ref ps)])) _
      refine sg3 _ ?_
      show Steps p.tables e below (T2.setTop (mkF m 25 #[.val (.ref x), .val (.ref va2), .val (.int (2 : Int32)), .val (.int (0 : Int32)), .val (.ref pk)] [(.ref x), (.ref ps)])) _
      refine stE0.trans ?_
      show Steps p.tables e below (TE0.setTop (mkF m 28 #[.val (.ref x), .val (.ref va2), .val (.int (2 : Int32)), .val (.int (0 : Int32)), .val (.ref pk)] [(.int (1 : Int32))])) _
      refine sg4 _ ?_
      show Steps p.tables e below (TE0.setTop (mkF m 33 #[.val (.ref x), .val (.ref va2), .val (.int (2 : Int32)), .val (.int (0 : Int32)), .val (.ref pk)] [(.ref pk)])) _
      refine stY _ ?_
      show Steps p.tables e below (TY.setTop (mkF m 36 #[.val (.ref x), .val (.ref va2), .val (.int (2 : Int32)), .val (.int (0 : Int32)), .val (.ref pk)] [(.ref r)])) _
      exact retOut XY hx (t := .object "java/util/Optional") Bd.returns rfl (Or.inr (Or.inr (Or.inr (Or.inr ⟨rfl, rfl, rfl⟩)))) (hb hby dW_36) hr
    · show _
      exact ⟨r, rfl, MY, own_ext_trans EA EY, AY, by rw [hval]; exact FY⟩
  · have q0 : ¬ cs = own_P := fun q => q0 q.symm
    have sg4 : ∀ target, Steps p.tables e below (TE0.setTop (mkF m 21 #[.val (.ref x), .val (.ref va2), .val (.int (2 : Int32)), .val (.int (1 : Int32)), .val (.ref qc)] [(.ref qc)])) target → Steps p.tables e below (TE0.setTop (mkF m 28 #[.val (.ref x), .val (.ref va2), .val (.int (2 : Int32)), .val (.int (0 : Int32)), .val (.ref pk)] [(.int (0 : Int32))])) target := by
      intro target kt
      show Steps p.tables e below (TE0.setTop (mkF m 28 #[.val (.ref x), .val (.ref va2), .val (.int (2 : Int32)), .val (.int (0 : Int32)), .val (.ref pk)] [(.int (0 : Int32))])) _
      refine XS.ifYes XE0.here hx rfl (pc0 := 28) (pc' := 37) rfl (hb hby dW_28) rfl (by decide) (by decide) (by decide) ?_
      show Steps p.tables e below (TE0.setTop (mkF m 37 #[.val (.ref x), .val (.ref va2), .val (.int (2 : Int32)), .val (.int (0 : Int32)), .val (.ref pk)] [])) _
      refine XS.iinc XE0.here hx rfl (hb hby dW_37) rfl (l' := #[.val (.ref x), .val (.ref va2), .val (.int (2 : Int32)), .val (.int ((0 : Int32) + (1 : Int32))), .val (.ref pk)]) rfl ?_
      show Steps p.tables e below (TE0.setTop (mkF m 40 #[.val (.ref x), .val (.ref va2), .val (.int (2 : Int32)), .val (.int ((0 : Int32) + (1 : Int32))), .val (.ref pk)] [])) _
      show Steps p.tables e below (TE0.setTop (mkF m 40 #[.val (.ref x), .val (.ref va2), .val (.int (2 : Int32)), .val (.int (1 : Int32)), .val (.ref pk)] [])) _
      refine XS.goto XE0.here hx rfl (pc0 := 40) (pc' := 9) rfl (hb hby dW_40) (by decide) (by decide) ?_
      show Steps p.tables e below (TE0.setTop (mkF m 9 #[.val (.ref x), .val (.ref va2), .val (.int (2 : Int32)), .val (.int (1 : Int32)), .val (.ref pk)] [])) _
      refine XS.iloadN XE0.here hx rfl (hb hby dW_9) rfl ?_
      show Steps p.tables e below (TE0.setTop (mkF m 10 #[.val (.ref x), .val (.ref va2), .val (.int (2 : Int32)), .val (.int (1 : Int32)), .val (.ref pk)] [(.int (1 : Int32))])) _
      refine XS.iloadN XE0.here hx rfl (hb hby dW_10) rfl ?_
      show Steps p.tables e below (TE0.setTop (mkF m 11 #[.val (.ref x), .val (.ref va2), .val (.int (2 : Int32)), .val (.int (1 : Int32)), .val (.ref pk)] [(.int (2 : Int32)), (.int (1 : Int32))])) _
      refine XS.icmpNo XE0.here hx rfl (hb hby dW_11) rfl (by decide) ?_
      show Steps p.tables e below (TE0.setTop (mkF m 14 #[.val (.ref x), .val (.ref va2), .val (.int (2 : Int32)), .val (.int (1 : Int32)), .val (.ref pk)] [])) _
      refine XS.aloadN XE0.here hx rfl (hb hby dW_14) rfl rfl ?_
      show Steps p.tables e below (TE0.setTop (mkF m 15 #[.val (.ref x), .val (.ref va2), .val (.int (2 : Int32)), .val (.int (1 : Int32)), .val (.ref pk)] [(.ref va2)])) _
      refine XS.iloadN XE0.here hx rfl (hb hby dW_15) rfl ?_
      show Steps p.tables e below (TE0.setTop (mkF m 16 #[.val (.ref x), .val (.ref va2), .val (.int (2 : Int32)), .val (.int (1 : Int32)), .val (.ref pk)] [(.int (1 : Int32)), (.ref va2)])) _
      refine XE0.aaload hx (j := (1 : Int32)) (v := (.ref qc)) (ty := .object "com/example/ombudsign/ombudsign/dss/CertType") (by first | exact Ar.1 | (rw [eE0]; exact Ar.1)) (State.isArrayOf_alike hZ.alike Ar.2.1) rfl Ar.2.2 (inb_of Sz ⟨by decide, by decide⟩) (Has.at Hv (inb_of Sz ⟨by decide, by decide⟩) rfl) (g := (mkF m 16 #[.val (.ref x), .val (.ref va2), .val (.int (2 : Int32)), .val (.int (1 : Int32)), .val (.ref pk)] [(.int (1 : Int32)), (.ref va2)])) rfl rfl (hb hby dW_16) _ ?_
      show Steps p.tables e below (TE0.setTop (mkF m 17 #[.val (.ref x), .val (.ref va2), .val (.int (2 : Int32)), .val (.int (1 : Int32)), .val (.ref pk)] [(.ref qc)])) _
      refine XS.astore XE0.here hx rfl (hb hby dW_17) rfl rfl (l' := #[.val (.ref x), .val (.ref va2), .val (.int (2 : Int32)), .val (.int (1 : Int32)), .val (.ref qc)]) rfl ?_
      show Steps p.tables e below (TE0.setTop (mkF m 19 #[.val (.ref x), .val (.ref va2), .val (.int (2 : Int32)), .val (.int (1 : Int32)), .val (.ref qc)] [])) _
      refine XS.aload XE0.here hx rfl (hb hby dW_19) rfl rfl ?_
      show Steps p.tables e below (TE0.setTop (mkF m 21 #[.val (.ref x), .val (.ref va2), .val (.int (2 : Int32)), .val (.int (1 : Int32)), .val (.ref qc)] [(.ref qc)])) _
      exact kt
    obtain ⟨T5, X5, e5, st5⟩ := getF XE0 hx hZ hown (host := "") (Or.inl (hw _ (List.mem_of_getElem? (i := 26) rfl))) Via.refl eE0 GA.2.2.1.2.2.1 (g := (mkF m 21 #[.val (.ref x), .val (.ref va2), .val (.int (2 : Int32)), .val (.int (1 : Int32)), .val (.ref qc)] [(.ref qc)])) rfl rfl (hb hby dW_21)
    obtain ⟨Ey1, Cy1, ty1, ky1, Vy1, Ky1⟩ := GA.2.2.1.2.2.2
    have sg6 : ∀ target, Steps p.tables e below (T5.setTop (mkF m 25 #[.val (.ref x), .val (.ref va2), .val (.int (2 : Int32)), .val (.int (1 : Int32)), .val (.ref qc)] [(.ref x), (.ref qs)])) target → Steps p.tables e below (T5.setTop (mkF m 24 #[.val (.ref x), .val (.ref va2), .val (.int (2 : Int32)), .val (.int (1 : Int32)), .val (.ref qc)] [(.ref qs)])) target := by
      intro target kt
      show Steps p.tables e below (T5.setTop (mkF m 24 #[.val (.ref x), .val (.ref va2), .val (.int (2 : Int32)), .val (.int (1 : Int32)), .val (.ref qc)] [(.ref qs)])) _
      refine XS.aloadN X5.here hx rfl (hb hby dW_24) rfl rfl ?_
      show Steps p.tables e below (T5.setTop (mkF m 25 #[.val (.ref x), .val (.ref va2), .val (.int (2 : Int32)), .val (.int (1 : Int32)), .val (.ref qc)] [(.ref x), (.ref qs)])) _
      exact kt
    obtain ⟨cqE1, kqE1, qaE1, qbE1, qcE1⟩ := isOf hZ e5 Ey1
    obtain ⟨_, _, ⟨TE1, LE1, kE1, nE1⟩, -, XE1, ⟨LcE1, hQE1, lE1, yE1, zE1⟩, stE1⟩ := X5.virtualBack hx (y := (⟨"java/lang/String", "equals", "(Ljava/lang/Object;)Z"⟩ : MethodName)) (z := (⟨"java/lang/String", "equals", "(Ljava/lang/Object;)Z"⟩ : MethodName)) hown (mvT hZ (hw _ (List.mem_of_getElem? (i := 28) rfl))) (mvT hZ (hw _ (List.mem_of_getElem? (i := 29) rfl))) (notFace_of_selects (args := #[]) (mvT hZ (hw _ (List.mem_of_getElem? (i := 31) rfl)))) (mvT hZ (hw _ (List.mem_of_getElem? (i := 31) rfl))) (mvT hZ (hw _ (List.mem_of_getElem? (i := 30) rfl))) (by decide) (StrChars.Road.eqW (W := 0) hZ heq (kI := 4) (hw _ (List.mem_of_getElem? (i := 54) rfl)) Ey1 Vy1 Cy1 Ky1 (own_cod own_lQ) (own_up own_lQ) (Nat.le_of_ble_eq_true rfl) Ex Vx Cx Kx (own_cod lx) (own_up lx) hx4 OA hG (by decide) (by decide)) qaE1 qcE1 (g := (mkF m 25 #[.val (.ref x), .val (.ref va2), .val (.int (2 : Int32)), .val (.int (1 : Int32)), .val (.ref qc)] [(.ref x), (.ref qs)])) rfl (by rw [hml]; rfl) (Steps.refl _) (argsL := [(.ref x)]) (rest := []) (lenOf pdQ rfl) rfl (by show 2 * 0 + _ ≤ _; exact Nat.le_of_eq rfl) (hb hby dW_25) (fun _ _ => ⟨rfl, e5, Nat.le_of_ble_eq_true rfl, Nat.le_of_ble_eq_true rfl⟩)
    dsimp only [Pt.U, Pt.locs, Pt.cells, Pt.slots] at XE1 lE1 yE1 zE1 stE1 hQE1
    subst lE1 yE1 zE1
    obtain ⟨hv1, rfl, eE1⟩ := hQE1
    have ME1 := Fr.app (ME0) (Fr.nil n0)
    rcases hv1 with ⟨rfl, q1⟩ | ⟨rfl, q1⟩
    · have sg7 : ∀ target, Steps p.tables e below (TE1.setTop (mkF m 33 #[.val (.ref x), .val (.ref va2), .val (.int (2 : Int32)), .val (.int (1 : Int32)), .val (.ref qc)] [(.ref qc)])) target → Steps p.tables e below (TE1.setTop (mkF m 28 #[.val (.ref x), .val (.ref va2), .val (.int (2 : Int32)), .val (.int (1 : Int32)), .val (.ref qc)] [(.int (1 : Int32))])) target := by
        intro target kt
        show Steps p.tables e below (TE1.setTop (mkF m 28 #[.val (.ref x), .val (.ref va2), .val (.int (2 : Int32)), .val (.int (1 : Int32)), .val (.ref qc)] [(.int (1 : Int32))])) _
        refine XS.ifNo XE1.here hx rfl (hb hby dW_28) rfl (by decide) ?_
        show Steps p.tables e below (TE1.setTop (mkF m 31 #[.val (.ref x), .val (.ref va2), .val (.int (2 : Int32)), .val (.int (1 : Int32)), .val (.ref qc)] [])) _
        refine XS.aload XE1.here hx rfl (hb hby dW_31) rfl rfl ?_
        show Steps p.tables e below (TE1.setTop (mkF m 33 #[.val (.ref x), .val (.ref va2), .val (.int (2 : Int32)), .val (.int (1 : Int32)), .val (.ref qc)] [(.ref qc)])) _
        exact kt
      obtain ⟨_, _, ⟨TY, LY, kY, nY⟩, -, XY, ⟨LcY, hQY, lY, yY, zY⟩, stY⟩ := Jvm.LawKit.callS XE1 hx (y := (⟨"java/util/Optional", "of", "(Ljava/lang/Object;)Ljava/util/Optional;"⟩ : MethodName)) hown (mvT hZ (hw _ (List.mem_of_getElem? (i := 93) rfl))) (mvT hZ (hw _ (List.mem_of_getElem? (i := 94) rfl))) (mvT hZ (hw _ (List.mem_of_getElem? (i := 36) rfl))) (mvT hZ (hw _ (List.mem_of_getElem? (i := 95) rfl))) (by decide) (backOf (W := 0) (rmF l Z a0 hw qc TA.heap n0 (Nat.le_trans Z0 EA.1)) hZ (hw _ (List.mem_of_getElem? (i := 95) rfl)) (hw _ (List.mem_of_getElem? (i := 36) rfl)) (by decide) (by decide)) (g := (mkF m 33 #[.val (.ref x), .val (.ref va2), .val (.int (2 : Int32)), .val (.int (1 : Int32)), .val (.ref qc)] [(.ref qc)])) rfl (by rw [hml]; rfl) (argsL := [(.ref qc)]) (rest := []) (lenOf pdF rfl) rfl (by show 2 * 0 + _ ≤ _; exact Nat.le_of_eq rfl) (hb hby dW_33) (fun _ _ => ⟨rfl, eE1, Nat.le_of_ble_eq_true rfl, Nat.le_of_ble_eq_true rfl⟩)
      dsimp only [Pt.U, Pt.locs, Pt.cells, Pt.slots] at XY lY yY zY stY hQY
      subst lY yY zY
      obtain ⟨r, rfl, NY, EY, AY, FY⟩ := hQY
      have MY := Fr.app (ME1) NY
      have hval : own_val cs pk qc = .ref qc := (if_neg q0).trans (if_pos q1.symm)
      obtain ⟨fs, hr, hrun, hended, hW, hsame⟩ := XY.leave (v := some (.ref r)) (fun h => by rw [Bd.returns] at h; cases h)
      refine ⟨_, _, castTop (efW m x) ?_, hrun, hended, _, _, rfl, ?_, ⟨_, rfl⟩, hW, hsame.mono (by decide) (by decide)⟩
      · show Steps p.tables e below (s₁.setTop (mkF m 0 #[.val (.ref x), .unset, .unset, .unset, .unset] [])) _
        refine stA _ ?_
        show Steps p.tables e below (TA.setTop (mkF m 3 #[.val (.ref x), .unset, .unset, .unset, .unset] [(.ref va2)])) _
        refine sg1 _ ?_
        show Steps p.tables e below (TA.setTop (mkF m 21 #[.val (.ref x), .val (.ref va2), .val (.int (2 : Int32)), .val (.int (0 : Int32)), .val (.ref pk)] [(.ref pk)])) _
        refine st2 _ ?_
        show Steps p.tables e below (T2.setTop (mkF m 24 #[.val (.ref x), .val (.ref va2), .val (.int (2 : Int32)), .val (.int (0 : Int32)), .val (.ref pk)] [(.ref ps)])) _
        refine sg3 _ ?_
        show Steps p.tables e below (T2.setTop (mkF m 25 #[.val (.ref x), .val (.ref va2), .val (.int (2 : Int32)), .val (.int (0 : Int32)), .val (.ref pk)] [(.ref x), (.ref ps)])) _
        refine stE0.trans ?_
        show Steps p.tables e below (TE0.setTop (mkF m 28 #[.val (.ref x), .val (.ref va2), .val (.int (2 : Int32)), .val (.int (0 : Int32)), .val (.ref pk)] [(.int (0 : Int32))])) _
        refine sg4 _ ?_
        show Steps p.tables e below (TE0.setTop (mkF m 21 #[.val (.ref x), .val (.ref va2), .val (.int (2 : Int32)), .val (.int (1 : Int32)), .val (.ref qc)] [(.ref qc)])) _
        refine st5 _ ?_
        show Steps p.tables e below (T5.setTop (mkF m 24 #[.val (.ref x), .val (.ref va2), .val (.int (2 : Int32)), .val (.int (1 : Int32)), .val (.ref qc)] [(.ref qs)])) _
        refine sg6 _ ?_
        show Steps p.tables e below (T5.setTop (mkF m 25 #[.val (.ref x), .val (.ref va2), .val (.int (2 : Int32)), .val (.int (1 : Int32)), .val (.ref qc)] [(.ref x), (.ref qs)])) _
        refine stE1.trans ?_
        show Steps p.tables e below (TE1.setTop (mkF m 28 #[.val (.ref x), .val (.ref va2), .val (.int (2 : Int32)), .val (.int (1 : Int32)), .val (.ref qc)] [(.int (1 : Int32))])) _
        refine sg7 _ ?_
        show Steps p.tables e below (TE1.setTop (mkF m 33 #[.val (.ref x), .val (.ref va2), .val (.int (2 : Int32)), .val (.int (1 : Int32)), .val (.ref qc)] [(.ref qc)])) _
        refine stY _ ?_
        show Steps p.tables e below (TY.setTop (mkF m 36 #[.val (.ref x), .val (.ref va2), .val (.int (2 : Int32)), .val (.int (1 : Int32)), .val (.ref qc)] [(.ref r)])) _
        exact retOut XY hx (t := .object "java/util/Optional") Bd.returns rfl (Or.inr (Or.inr (Or.inr (Or.inr ⟨rfl, rfl, rfl⟩)))) (hb hby dW_36) hr
      · show _
        exact ⟨r, rfl, MY, own_ext_trans EA EY, AY, by rw [hval]; exact FY⟩
    · have q1 : ¬ cs = own_Q := fun q => q1 q.symm
      have hval : own_val cs pk qc = .null := (if_neg q0).trans (if_neg q1)
      have sg7 : ∀ target, Steps p.tables e below (TE1.setTop (mkF m 43 #[.val (.ref x), .val (.ref va2), .val (.int (2 : Int32)), .val (.int (2 : Int32)), .val (.ref qc)] [])) target → Steps p.tables e below (TE1.setTop (mkF m 28 #[.val (.ref x), .val (.ref va2), .val (.int (2 : Int32)), .val (.int (1 : Int32)), .val (.ref qc)] [(.int (0 : Int32))])) target := by
        intro target kt
        show Steps p.tables e below (TE1.setTop (mkF m 28 #[.val (.ref x), .val (.ref va2), .val (.int (2 : Int32)), .val (.int (1 : Int32)), .val (.ref qc)] [(.int (0 : Int32))])) _
        refine XS.ifYes XE1.here hx rfl (pc0 := 28) (pc' := 37) rfl (hb hby dW_28) rfl (by decide) (by decide) (by decide) ?_
        show Steps p.tables e below (TE1.setTop (mkF m 37 #[.val (.ref x), .val (.ref va2), .val (.int (2 : Int32)), .val (.int (1 : Int32)), .val (.ref qc)] [])) _
        refine XS.iinc XE1.here hx rfl (hb hby dW_37) rfl (l' := #[.val (.ref x), .val (.ref va2), .val (.int (2 : Int32)), .val (.int ((1 : Int32) + (1 : Int32))), .val (.ref qc)]) rfl ?_
        show Steps p.tables e below (TE1.setTop (mkF m 40 #[.val (.ref x), .val (.ref va2), .val (.int (2 : Int32)), .val (.int ((1 : Int32) + (1 : Int32))), .val (.ref qc)] [])) _
        show Steps p.tables e below (TE1.setTop (mkF m 40 #[.val (.ref x), .val (.ref va2), .val (.int (2 : Int32)), .val (.int (2 : Int32)), .val (.ref qc)] [])) _
        refine XS.goto XE1.here hx rfl (pc0 := 40) (pc' := 9) rfl (hb hby dW_40) (by decide) (by decide) ?_
        show Steps p.tables e below (TE1.setTop (mkF m 9 #[.val (.ref x), .val (.ref va2), .val (.int (2 : Int32)), .val (.int (2 : Int32)), .val (.ref qc)] [])) _
        refine XS.iloadN XE1.here hx rfl (hb hby dW_9) rfl ?_
        show Steps p.tables e below (TE1.setTop (mkF m 10 #[.val (.ref x), .val (.ref va2), .val (.int (2 : Int32)), .val (.int (2 : Int32)), .val (.ref qc)] [(.int (2 : Int32))])) _
        refine XS.iloadN XE1.here hx rfl (hb hby dW_10) rfl ?_
        show Steps p.tables e below (TE1.setTop (mkF m 11 #[.val (.ref x), .val (.ref va2), .val (.int (2 : Int32)), .val (.int (2 : Int32)), .val (.ref qc)] [(.int (2 : Int32)), (.int (2 : Int32))])) _
        refine XS.icmpYes XE1.here hx rfl (pc0 := 11) (pc' := 43) rfl (hb hby dW_11) rfl (by decide) (by decide) (by decide) ?_
        show Steps p.tables e below (TE1.setTop (mkF m 43 #[.val (.ref x), .val (.ref va2), .val (.int (2 : Int32)), .val (.int (2 : Int32)), .val (.ref qc)] [])) _
        exact kt
      obtain ⟨_, _, ⟨TZ, LZ, kZ, nZ⟩, -, XZ, ⟨LcZ, hQZ, lZ, yZ, zZ⟩, stZ⟩ := Jvm.LawKit.callS XE1 hx (y := (⟨"java/util/Optional", "empty", "()Ljava/util/Optional;"⟩ : MethodName)) hown (mvT hZ (hw _ (List.mem_of_getElem? (i := 34) rfl))) (mvT hZ (hw _ (List.mem_of_getElem? (i := 35) rfl))) (mvT hZ (hw _ (List.mem_of_getElem? (i := 36) rfl))) (mvT hZ (hw _ (List.mem_of_getElem? (i := 37) rfl))) (by decide) (backOf (W := 0) (rmM l Z a0 hw em TA.heap n0 GA.2.2.2.1) hZ (hw _ (List.mem_of_getElem? (i := 37) rfl)) (hw _ (List.mem_of_getElem? (i := 36) rfl)) (by decide) (by decide)) (g := (mkF m 43 #[.val (.ref x), .val (.ref va2), .val (.int (2 : Int32)), .val (.int (2 : Int32)), .val (.ref qc)] [])) rfl (by rw [hml]; rfl) (argsL := []) (rest := []) (lenOf pdM rfl) rfl (by show 2 * 0 + _ ≤ _; exact Nat.le_of_eq rfl) (hb hby dW_43) (fun _ _ => ⟨rfl, eE1, Nat.le_of_ble_eq_true rfl, Nat.le_of_ble_eq_true rfl⟩)
      dsimp only [Pt.U, Pt.locs, Pt.cells, Pt.slots] at XZ lZ yZ zZ stZ hQZ
      subst lZ yZ zZ
      obtain ⟨rfl, NZ, eZ⟩ := hQZ
      have MZ := Fr.app (ME1) NZ
      obtain ⟨fs, hr, hrun, hended, hW, hsame⟩ := XZ.leave (v := some (.ref em)) (fun h => by rw [Bd.returns] at h; cases h)
      refine ⟨_, _, castTop (efW m x) ?_, hrun, hended, _, _, rfl, ?_, ⟨_, rfl⟩, hW, hsame.mono (by decide) (by decide)⟩
      · show Steps p.tables e below (s₁.setTop (mkF m 0 #[.val (.ref x), .unset, .unset, .unset, .unset] [])) _
        refine stA _ ?_
        show Steps p.tables e below (TA.setTop (mkF m 3 #[.val (.ref x), .unset, .unset, .unset, .unset] [(.ref va2)])) _
        refine sg1 _ ?_
        show Steps p.tables e below (TA.setTop (mkF m 21 #[.val (.ref x), .val (.ref va2), .val (.int (2 : Int32)), .val (.int (0 : Int32)), .val (.ref pk)] [(.ref pk)])) _
        refine st2 _ ?_
        show Steps p.tables e below (T2.setTop (mkF m 24 #[.val (.ref x), .val (.ref va2), .val (.int (2 : Int32)), .val (.int (0 : Int32)), .val (.ref pk)] [(.ref ps)])) _
        refine sg3 _ ?_
        show Steps p.tables e below (T2.setTop (mkF m 25 #[.val (.ref x), .val (.ref va2), .val (.int (2 : Int32)), .val (.int (0 : Int32)), .val (.ref pk)] [(.ref x), (.ref ps)])) _
        refine stE0.trans ?_
        show Steps p.tables e below (TE0.setTop (mkF m 28 #[.val (.ref x), .val (.ref va2), .val (.int (2 : Int32)), .val (.int (0 : Int32)), .val (.ref pk)] [(.int (0 : Int32))])) _
        refine sg4 _ ?_
        show Steps p.tables e below (TE0.setTop (mkF m 21 #[.val (.ref x), .val (.ref va2), .val (.int (2 : Int32)), .val (.int (1 : Int32)), .val (.ref qc)] [(.ref qc)])) _
        refine st5 _ ?_
        show Steps p.tables e below (T5.setTop (mkF m 24 #[.val (.ref x), .val (.ref va2), .val (.int (2 : Int32)), .val (.int (1 : Int32)), .val (.ref qc)] [(.ref qs)])) _
        refine sg6 _ ?_
        show Steps p.tables e below (T5.setTop (mkF m 25 #[.val (.ref x), .val (.ref va2), .val (.int (2 : Int32)), .val (.int (1 : Int32)), .val (.ref qc)] [(.ref x), (.ref qs)])) _
        refine stE1.trans ?_
        show Steps p.tables e below (TE1.setTop (mkF m 28 #[.val (.ref x), .val (.ref va2), .val (.int (2 : Int32)), .val (.int (1 : Int32)), .val (.ref qc)] [(.int (0 : Int32))])) _
        refine sg7 _ ?_
        show Steps p.tables e below (TE1.setTop (mkF m 43 #[.val (.ref x), .val (.ref va2), .val (.int (2 : Int32)), .val (.int (2 : Int32)), .val (.ref qc)] [])) _
        refine stZ _ ?_
        show Steps p.tables e below (TZ.setTop (mkF m 46 #[.val (.ref x), .val (.ref va2), .val (.int (2 : Int32)), .val (.int (2 : Int32)), .val (.ref qc)] [(.ref em)])) _
        exact retOut XZ hx (t := .object "java/util/Optional") Bd.returns rfl (Or.inr (Or.inr (Or.inr (Or.inr ⟨rfl, rfl, rfl⟩)))) (hb hby dW_46) hr
      · show _
        exact by show own_QO Z (own_val cs pk qc) n0 h0 _ TZ.heap _; rw [eZ, hval]; exact ⟨_, rfl, MZ, EA, GA.2.2.2.2.1, GA.2.2.2.2.2⟩
theorem own_mod9 (x : Int32) : ∃ n : Nat, n ≤ 8 ∧ (x &&& (2147483647 : Int32)) % (9 : Int32) = Int32.ofNat n := by
  have h0 := c_and x 2147483647 (by decide)
  have h := (c_irem (x &&& (2147483647 : Int32)) 9 9 rfl).1 h0.1
  refine ⟨((x &&& (2147483647 : Int32)) % (9 : Int32)).toInt.toNat, by omega, ?_⟩
  rw [← Int32.toInt_inj, Int32.toInt_ofNat_of_lt (by omega)]
  omega
set_option maxRecDepth 65536 in
set_option maxHeartbeats 40000000 in
theorem rmK (l : Launch) (Z : State) (a0 : Array Value) (hw : ∀ d ∈ tables_1, d.before a0 Z = true) (EL : List (String × Nat)) (hEL : EW Z a0 EL) (hmem : ("java/lang/String", 7) ∈ EL) (k : Nat) (hk : k ≤ 8) (sel c0 c1 : Int32) (G : Int32) (h0 : Heap) (n0 : Nat) (Z0 : n0 ≤ h0.size) (O : Sta Z h0 "java/lang/String" "COMPACT_STRINGS" "Z" (.int G)) (hG : ¬ G = 0) :
    MetFree l (⟨"com/example/ombudsign/ombudsign/dss/CertTypeFromValuePinLaw", "make", "(IIII)Ljava/lang/String;"⟩ : MethodName) (head1 [Jvm.Cond.code (⟨"com/example/ombudsign/ombudsign/dss/CertTypeFromValuePinLaw", "make", "(IIII)Ljava/lang/String;"⟩ : MethodName) method_5_code 5 (some (.object "java/lang/String"))] ({ frames := 4, cells := 4, slots := 20, locals := 66 } : Room)) (fun q_ U => q_ = #[(.int (Int32.ofNat k)), (.int sel), (.int c0), (.int c1)] ∧ Z.Warmed39 U.vm ∧ U.heap = h0 ∧ CHv Z EL U.vm h0) (fun _ _ _ _ _ => True) (fun _ U o U' => ∃ v L, o = .returned v ∧ own_QK Z h0 n0 v U'.heap L ∧ CHr Z EL U.vm U.heap U'.vm U'.heap ∧ ReturnedEndW U o U' L ({ frames := 4, cells := 4, slots := 20, locals := 66 } : Room).cells ({ frames := 4, cells := 4, slots := 20, locals := 66 } : Room).slots) := by
  obtain rfl | rfl | rfl | rfl | rfl | rfl | rfl | rfl | rfl : k = 0 ∨ k = 1 ∨ k = 2 ∨ k = 3 ∨ k = 4 ∨ k = 5 ∨ k = 6 ∨ k = 7 ∨ k = 8 := by omega
  · exact rmK0 l Z a0 hw EL hEL hmem sel c0 c1 G h0 n0 Z0 O hG
  · exact rmK1 l Z a0 hw EL hEL hmem sel c0 c1 G h0 n0 Z0 O hG
  · exact rmK2 l Z a0 hw EL hEL hmem sel c0 c1 G h0 n0 Z0 O hG
  · exact rmK3 l Z a0 hw EL hEL hmem sel c0 c1 G h0 n0 Z0 O hG
  · exact rmK4 l Z a0 hw EL hEL hmem sel c0 c1 G h0 n0 Z0 O hG
  · exact rmK5 l Z a0 hw EL hEL hmem sel c0 c1 G h0 n0 Z0 O hG
  · exact rmK6 l Z a0 hw EL hEL hmem sel c0 c1 G h0 n0 Z0 O hG
  · exact rmK7 l Z a0 hw EL hEL hmem sel c0 c1 G h0 n0 Z0 O hG
  · exact rmK8 l Z a0 hw EL hEL hmem sel c0 c1 G h0 n0 Z0 O hG
theorem ef_0 (m : MethodId) (x0 : Int32) (x1 : Int32) (x2 : Int32) (x3 : Int32) : entryFrame m #[(.int x0), (.int x1), (.int x2), (.int x3)] maxLocals = mkF m 0 #[.val (.int x0), .val (.int x1), .val (.int x2), .val (.int x3), .unset, .unset, .unset, .unset, .unset] [] := by first | (simp [entryFrame, mkF, argsToLocals, Value.category, maxLocals]; done) | rfl
def Q0 (n0 : Nat) (v : Option Value) (L : List Loc) : Prop := v = some (.int 1) ∧ Fr n0 L
set_option maxRecDepth 65536 in
set_option maxHeartbeats 40000000 in
theorem rm0 (l : Launch) (Z : State) (a0 : Array Value) (hw : ∀ d ∈ tables_1, d.before a0 Z = true) (ws : List Jvm.Cond) (EL : List (String × Nat)) (hELe : EL = consts_1) (hEL : EW Z a0 EL) (p1 p2 p3 p4 : Int32) (G : Int32) (va : Addr) (kv : ClassId) (pk qc ps qs em : Addr) (h0 : Heap) (n0 : Nat) (Z0 : n0 ≤ h0.size) (O : Sta Z h0 "java/lang/String" "COMPACT_STRINGS" "Z" (.int G)) (hG : ¬ G = 0) (Gg : own_G Z h0 va kv pk qc ps qs em) :
    MetFree l x (head1 (Jvm.Cond.code x code maxLocals ret :: ws) room_1) (fun a U => a = #[(.int p1), (.int p2), (.int p3), (.int p4)] ∧ Z.Warmed39 U.vm ∧ U.heap = h0 ∧ CHv Z EL U.vm h0) (fun _ _ _ _ _ => True) (fun _ U o U' => ∃ v L, o = .returned v ∧ Q0 n0 v L ∧ ReturnedEndW U o U' L 24 3200) := by
  refine MetFree.of_bodySF (plainFor_of_name pn_L) hisR ?_
  intro p e s m args below meth c s₁ Bd hml0 hP hK
  obtain ⟨rfl, hZ, hh, H0⟩ := hP
  have hx := Bd.exec
  have hby := Bd.bytes
  have hml : c.maxLocals = 9 := hml0
  have hown : s.vm.findClass "com/example/ombudsign/ombudsign/dss/CertTypeFromValuePinLaw" = some m.cls := findClass_of_methodNamed Bd.named
  have X0 : Stand p l e room_1 (s.setVm s.vm) m #[(.int p1), (.int p2), (.int p3), (.int p4)] below meth c s₁ [] 0 0 := Stand.of_body Bd
  have e0 : s₁.heap = h0 := by rw [← hh, Bd.state]; rfl
  have hS0 : s.Since s.vm s.heap.size := (State.WarmedH.refl s).since _
  have hwS : ∀ a ∈ Bundle.stringAtoms, a.before a0 Z = true := fun d hd => hw d ((by decide +kernel : ∀ d ∈ Bundle.stringAtoms, d ∈ tables_1) d hd)
  have heq : ∀ d ∈ StrChars.Road.wordsEq, d.before a0 Z = true := fun d hd => hw d (own_heq d hd)
  obtain ⟨kk, hkk, ekk⟩ := own_mod9 p1
  have sg1 : ∀ target, Steps p.tables e below (s₁.setTop (mkF m 14 #[.val (.int p1), .val (.int p2), .val (.int p3), .val (.int p4), .val (.int (Int32.ofNat kk)), .unset, .unset, .unset, .unset] [(.int p4), (.int p3), (.int p2), (.int (Int32.ofNat kk))])) target → Steps p.tables e below (s₁.setTop (mkF m 0 #[.val (.int p1), .val (.int p2), .val (.int p3), .val (.int p4), .unset, .unset, .unset, .unset, .unset] [])) target := by
    intro target kt
    show Steps p.tables e below (s₁.setTop (mkF m 0 #[.val (.int p1), .val (.int p2), .val (.int p3), .val (.int p4), .unset, .unset, .unset, .unset, .unset] [])) _
    refine XS.iloadN X0.here hx rfl (hb hby at_0) rfl ?_
    show Steps p.tables e below (s₁.setTop (mkF m 1 #[.val (.int p1), .val (.int p2), .val (.int p3), .val (.int p4), .unset, .unset, .unset, .unset, .unset] [(.int p1)])) _
    refine X0.ldcInt hx hown (mvT hZ (hw _ (List.mem_of_getElem? (i := 0) rfl))) (g := (mkF m 1 #[.val (.int p1), .val (.int p2), .val (.int p3), .val (.int p4), .unset, .unset, .unset, .unset, .unset] [(.int p1)])) rfl (hb hby at_1) _ ?_
    show Steps p.tables e below (s₁.setTop (mkF m 3 #[.val (.int p1), .val (.int p2), .val (.int p3), .val (.int p4), .unset, .unset, .unset, .unset, .unset] [(.int (2147483647 : Int32)), (.int p1)])) _
    refine XS.iand X0.here hx rfl (hb hby at_3) rfl ?_
    show Steps p.tables e below (s₁.setTop (mkF m 4 #[.val (.int p1), .val (.int p2), .val (.int p3), .val (.int p4), .unset, .unset, .unset, .unset, .unset] [(.int (p1 &&& (2147483647 : Int32)))])) _
    refine XS.bipush X0.here hx rfl (hb hby at_4) ?_
    show Steps p.tables e below (s₁.setTop (mkF m 6 #[.val (.int p1), .val (.int p2), .val (.int p3), .val (.int p4), .unset, .unset, .unset, .unset, .unset] [(.int (9 : Int32)), (.int (p1 &&& (2147483647 : Int32)))])) _
    refine iremM X0 hx rfl (hb hby at_6) rfl (by decide) ?_
    show Steps p.tables e below (s₁.setTop (mkF m 7 #[.val (.int p1), .val (.int p2), .val (.int p3), .val (.int p4), .unset, .unset, .unset, .unset, .unset] [(.int ((p1 &&& (2147483647 : Int32)) % (9 : Int32)))])) _
    rw [ekk]
    show Steps p.tables e below (s₁.setTop (mkF m 7 #[.val (.int p1), .val (.int p2), .val (.int p3), .val (.int p4), .unset, .unset, .unset, .unset, .unset] [(.int (Int32.ofNat kk))])) _
    refine XS.istore X0.here hx rfl (hb hby at_7) rfl (l' := #[.val (.int p1), .val (.int p2), .val (.int p3), .val (.int p4), .val (.int (Int32.ofNat kk)), .unset, .unset, .unset, .unset]) rfl ?_
    show Steps p.tables e below (s₁.setTop (mkF m 9 #[.val (.int p1), .val (.int p2), .val (.int p3), .val (.int p4), .val (.int (Int32.ofNat kk)), .unset, .unset, .unset, .unset] [])) _
    refine XS.iload X0.here hx rfl (hb hby at_9) rfl ?_
    show Steps p.tables e below (s₁.setTop (mkF m 11 #[.val (.int p1), .val (.int p2), .val (.int p3), .val (.int p4), .val (.int (Int32.ofNat kk)), .unset, .unset, .unset, .unset] [(.int (Int32.ofNat kk))])) _
    refine XS.iloadN X0.here hx rfl (hb hby at_11) rfl ?_
    show Steps p.tables e below (s₁.setTop (mkF m 12 #[.val (.int p1), .val (.int p2), .val (.int p3), .val (.int p4), .val (.int (Int32.ofNat kk)), .unset, .unset, .unset, .unset] [(.int p2), (.int (Int32.ofNat kk))])) _
    refine XS.iloadN X0.here hx rfl (hb hby at_12) rfl ?_
    show Steps p.tables e below (s₁.setTop (mkF m 13 #[.val (.int p1), .val (.int p2), .val (.int p3), .val (.int p4), .val (.int (Int32.ofNat kk)), .unset, .unset, .unset, .unset] [(.int p3), (.int p2), (.int (Int32.ofNat kk))])) _
    refine XS.iloadN X0.here hx rfl (hb hby at_13) rfl ?_
    show Steps p.tables e below (s₁.setTop (mkF m 14 #[.val (.int p1), .val (.int p2), .val (.int p3), .val (.int p4), .val (.int (Int32.ofNat kk)), .unset, .unset, .unset, .unset] [(.int p4), (.int p3), (.int p2), (.int (Int32.ofNat kk))])) _
    exact kt
  obtain ⟨_, _, ⟨TK, LK, kK, nK⟩, -, YK, hsK, grK, ⟨LcK, hQK, lK, yK, zK, R0K⟩, stK⟩ := callSS X0 hx (y := (⟨"com/example/ombudsign/ombudsign/dss/CertTypeFromValuePinLaw", "make", "(IIII)Ljava/lang/String;"⟩ : MethodName)) hown (mvT hZ (hw _ (List.mem_of_getElem? (i := 1) rfl))) (mvT hZ (hw _ (List.mem_of_getElem? (i := 2) rfl))) (mvT hZ (hw _ (List.mem_of_getElem? (i := 3) rfl))) (mvT hZ (hw _ (List.mem_of_getElem? (i := 4) rfl))) (by decide) (backOfSH (vm0 := s.vm) (W := 0) (rmK l Z a0 hw EL hEL (by rw [hELe]; decide) kk hkk p2 p3 p4 G h0 n0 Z0 O hG) hZ (hw _ (List.mem_of_getElem? (i := 4) rfl)) (hw _ (List.mem_of_getElem? (i := 3) rfl)) (by decide) (by decide) hEL (CHr.refl H0).1) (g := (mkF m 14 #[.val (.int p1), .val (.int p2), .val (.int p3), .val (.int p4), .val (.int (Int32.ofNat kk)), .unset, .unset, .unset, .unset] [(.int p4), (.int p3), (.int p2), (.int (Int32.ofNat kk))])) rfl (by rw [hml]; rfl) (argsL := [(.int (Int32.ofNat kk)), (.int p2), (.int p3), (.int p4)]) (rest := []) (lenOf pdK rfl) rfl (by show 2 * 0 + _ ≤ _; exact Nat.le_of_eq rfl) (hb hby at_14) (fun _ _ => ⟨rfl, e0, Nat.le_of_ble_eq_true rfl, Nat.le_of_ble_eq_true rfl⟩)
  dsimp only [Pt.U, Pt.locs, Pt.cells, Pt.slots] at YK hsK grK lK yK zK R0K stK hQK
  subst lK yK zK
  obtain ⟨XK, hSK, hZK, hownK⟩ := rebS hS0 (n1 := s₁.heap.size) (by rw [e0]; exact (Nat.le_of_eq (by rw [hh]))) YK hsK grK hZ hown
  have RK := (CHr.refl H0).trans R0K
  obtain ⟨NK, EK, hvK⟩ := hQK
  have MK := Fr.app (Fr.nil n0) NK
  have O_K := O.ext EK
  have Gg_K := Gg.ext EK
  have En_K := own_ext_trans (own_ext_refl h0) EK
  rcases hvK with rfl | ⟨sx, cs, rfl, lcs, h4, SK⟩
  · have sg2 : ∀ target, Steps p.tables e below (TK.setTop (mkF m 62 #[.val (.int p1), .val (.int p2), .val (.int p3), .val (.int p4), .val (.int (Int32.ofNat kk)), .val .null, .val .null, .unset, .unset] [.null])) target → Steps p.tables e below (TK.setTop (mkF m 17 #[.val (.int p1), .val (.int p2), .val (.int p3), .val (.int p4), .val (.int (Int32.ofNat kk)), .unset, .unset, .unset, .unset] [.null])) target := by
      intro target kt
      show Steps p.tables e below (TK.setTop (mkF m 17 #[.val (.int p1), .val (.int p2), .val (.int p3), .val (.int p4), .val (.int (Int32.ofNat kk)), .unset, .unset, .unset, .unset] [.null])) _
      refine XS.astore XK.here hx rfl (hb hby at_17) rfl rfl (l' := #[.val (.int p1), .val (.int p2), .val (.int p3), .val (.int p4), .val (.int (Int32.ofNat kk)), .val .null, .unset, .unset, .unset]) rfl ?_
      show Steps p.tables e below (TK.setTop (mkF m 19 #[.val (.int p1), .val (.int p2), .val (.int p3), .val (.int p4), .val (.int (Int32.ofNat kk)), .val .null, .unset, .unset, .unset] [])) _
      refine XS.aconstNull XK.here hx rfl (hb hby at_19) ?_
      show Steps p.tables e below (TK.setTop (mkF m 20 #[.val (.int p1), .val (.int p2), .val (.int p3), .val (.int p4), .val (.int (Int32.ofNat kk)), .val .null, .unset, .unset, .unset] [.null])) _
      refine XS.astore XK.here hx rfl (hb hby at_20) rfl rfl (l' := #[.val (.int p1), .val (.int p2), .val (.int p3), .val (.int p4), .val (.int (Int32.ofNat kk)), .val .null, .val .null, .unset, .unset]) rfl ?_
      show Steps p.tables e below (TK.setTop (mkF m 22 #[.val (.int p1), .val (.int p2), .val (.int p3), .val (.int p4), .val (.int (Int32.ofNat kk)), .val .null, .val .null, .unset, .unset] [])) _
      refine XS.aload XK.here hx rfl (hb hby at_22) rfl rfl ?_
      show Steps p.tables e below (TK.setTop (mkF m 24 #[.val (.int p1), .val (.int p2), .val (.int p3), .val (.int p4), .val (.int (Int32.ofNat kk)), .val .null, .val .null, .unset, .unset] [.null])) _
      refine XS.ifnullYes XK.here hx rfl (pc0 := 24) (pc' := 60) rfl (hb hby at_24) rfl (by decide) (by decide) ?_
      show Steps p.tables e below (TK.setTop (mkF m 60 #[.val (.int p1), .val (.int p2), .val (.int p3), .val (.int p4), .val (.int (Int32.ofNat kk)), .val .null, .val .null, .unset, .unset] [])) _
      refine XS.aload XK.here hx rfl (hb hby at_60) rfl rfl ?_
      show Steps p.tables e below (TK.setTop (mkF m 62 #[.val (.int p1), .val (.int p2), .val (.int p3), .val (.int p4), .val (.int (Int32.ofNat kk)), .val .null, .val .null, .unset, .unset] [.null])) _
      exact kt
    obtain ⟨_, _, ⟨TW, LW, kW, nW⟩, -, XW, ⟨LcW, hQW, lW, yW, zW⟩, stW⟩ := Jvm.LawKit.callS XK hx (y := (⟨"com/example/ombudsign/ombudsign/dss/CertType", "fromValue", "(Ljava/lang/String;)Ljava/util/Optional;"⟩ : MethodName)) hownK (mvT hZK (hw _ (List.mem_of_getElem? (i := 5) rfl))) (mvT hZK (hw _ (List.mem_of_getElem? (i := 6) rfl))) (mvT hZK (hw _ (List.mem_of_getElem? (i := 7) rfl))) (mvT hZK (hw _ (List.mem_of_getElem? (i := 8) rfl))) (by decide) (backOf (W := 0) (rmWn l Z a0 hw va kv pk qc ps qs em TK.heap n0 (Nat.le_trans Z0 En_K.1) Gg_K) hZK (hw _ (List.mem_of_getElem? (i := 8) rfl)) (hw _ (List.mem_of_getElem? (i := 7) rfl)) (by decide) (by decide)) (g := (mkF m 62 #[.val (.int p1), .val (.int p2), .val (.int p3), .val (.int p4), .val (.int (Int32.ofNat kk)), .val .null, .val .null, .unset, .unset] [.null])) rfl (by rw [hml]; rfl) (argsL := [.null]) (rest := []) (lenOf pdW rfl) rfl (by show 2 * 0 + _ ≤ _; exact Nat.le_of_eq rfl) (hb hby at_62) (fun _ _ => ⟨rfl, rfl, Nat.le_of_ble_eq_true rfl, Nat.le_of_ble_eq_true rfl⟩)
    dsimp only [Pt.U, Pt.locs, Pt.cells, Pt.slots] at XW lW yW zW stW hQW
    subst lW yW zW
    obtain ⟨rv, rfl, NW, EW, AW, FW⟩ := hQW
    have MW := Fr.app (MK) NW
    have O_W := O_K.ext EW
    have Gg_W := Gg_K.ext EW
    have En_W := own_ext_trans En_K EW
    have R_W := RK.trans (CHr.ext EW RK.1)
    have hk_W : TK.heap.size ≤ TW.heap.size := Nat.le_trans (Nat.le_refl _) EW.1
    have sg3 : ∀ target, Steps p.tables e below (TW.setTop (mkF m 77 #[.val (.int p1), .val (.int p2), .val (.int p3), .val (.int p4), .val (.int (Int32.ofNat kk)), .val .null, .val .null, .val (.ref rv), .unset] [.null, (.ref rv)])) target → Steps p.tables e below (TW.setTop (mkF m 65 #[.val (.int p1), .val (.int p2), .val (.int p3), .val (.int p4), .val (.int (Int32.ofNat kk)), .val .null, .val .null, .unset, .unset] [(.ref rv)])) target := by
      intro target kt
      show Steps p.tables e below (TW.setTop (mkF m 65 #[.val (.int p1), .val (.int p2), .val (.int p3), .val (.int p4), .val (.int (Int32.ofNat kk)), .val .null, .val .null, .unset, .unset] [(.ref rv)])) _
      refine XS.astore XW.here hx rfl (hb hby at_65) rfl rfl (l' := #[.val (.int p1), .val (.int p2), .val (.int p3), .val (.int p4), .val (.int (Int32.ofNat kk)), .val .null, .val .null, .val (.ref rv), .unset]) rfl ?_
      show Steps p.tables e below (TW.setTop (mkF m 67 #[.val (.int p1), .val (.int p2), .val (.int p3), .val (.int p4), .val (.int (Int32.ofNat kk)), .val .null, .val .null, .val (.ref rv), .unset] [])) _
      refine XS.aload XW.here hx rfl (hb hby at_67) rfl rfl ?_
      show Steps p.tables e below (TW.setTop (mkF m 69 #[.val (.int p1), .val (.int p2), .val (.int p3), .val (.int p4), .val (.int (Int32.ofNat kk)), .val .null, .val .null, .val (.ref rv), .unset] [(.ref rv)])) _
      refine XS.ifnonnullYes XW.here hx rfl (pc0 := 69) (pc' := 74) rfl (hb hby at_69) rfl (by decide) (by decide) ?_
      show Steps p.tables e below (TW.setTop (mkF m 74 #[.val (.int p1), .val (.int p2), .val (.int p3), .val (.int p4), .val (.int (Int32.ofNat kk)), .val .null, .val .null, .val (.ref rv), .unset] [])) _
      refine XS.aload XW.here hx rfl (hb hby at_74) rfl rfl ?_
      show Steps p.tables e below (TW.setTop (mkF m 76 #[.val (.int p1), .val (.int p2), .val (.int p3), .val (.int p4), .val (.int (Int32.ofNat kk)), .val .null, .val .null, .val (.ref rv), .unset] [(.ref rv)])) _
      refine XS.aconstNull XW.here hx rfl (hb hby at_76) ?_
      show Steps p.tables e below (TW.setTop (mkF m 77 #[.val (.int p1), .val (.int p2), .val (.int p3), .val (.int p4), .val (.int (Int32.ofNat kk)), .val .null, .val .null, .val (.ref rv), .unset] [.null, (.ref rv)])) _
      exact kt
    obtain ⟨cqR, kqR, qaR, qbR, qcR⟩ := isOf hZK rfl AW
    obtain ⟨_, _, ⟨TR, LR, kR, nR⟩, -, XR, ⟨LcR, hQR, lR, yR, zR⟩, stR⟩ := XW.virtualBack hx (y := (⟨"java/util/Optional", "orElse", "(Ljava/lang/Object;)Ljava/lang/Object;"⟩ : MethodName)) (z := (⟨"java/util/Optional", "orElse", "(Ljava/lang/Object;)Ljava/lang/Object;"⟩ : MethodName)) hownK (mvT hZK (hw _ (List.mem_of_getElem? (i := 39) rfl))) (mvT hZK (hw _ (List.mem_of_getElem? (i := 40) rfl))) (notFace_of_selects (args := #[]) (mvT hZK (hw _ (List.mem_of_getElem? (i := 42) rfl)))) (mvT hZK (hw _ (List.mem_of_getElem? (i := 42) rfl))) (mvT hZK (hw _ (List.mem_of_getElem? (i := 41) rfl))) (by decide) (backOf (W := 0) (rmRn l Z a0 hw rv rv TW.heap n0 FW) hZK (hw _ (List.mem_of_getElem? (i := 43) rfl)) (hw _ (List.mem_of_getElem? (i := 36) rfl)) (by decide) (by decide)) qaR qcR (g := (mkF m 77 #[.val (.int p1), .val (.int p2), .val (.int p3), .val (.int p4), .val (.int (Int32.ofNat kk)), .val .null, .val .null, .val (.ref rv), .unset] [.null, (.ref rv)])) rfl (by rw [hml]; rfl) (Steps.refl _) (argsL := [.null]) (rest := []) (lenOf pdR rfl) rfl (by show 2 * 0 + _ ≤ _; exact Nat.le_of_eq rfl) (hb hby at_77) (fun _ _ => ⟨rfl, rfl, Nat.le_of_ble_eq_true rfl, Nat.le_of_ble_eq_true rfl⟩)
    dsimp only [Pt.U, Pt.locs, Pt.cells, Pt.slots] at XR lR yR zR stR hQR
    subst lR yR zR
    obtain ⟨rfl, NR, eR⟩ := hQR
    have MR := Fr.app (MW) NR
    have stc := XR.checkcastNull hx (g := (mkF m 80 #[.val (.int p1), .val (.int p2), .val (.int p3), .val (.int p4), .val (.int (Int32.ofNat kk)), .val .null, .val .null, .val (.ref rv), .unset] [.null])) rfl rfl (hb hby at_80)
    have sg4 : ∀ target, Steps p.tables e below (TR.setTop (mkF m 97 #[.val (.int p1), .val (.int p2), .val (.int p3), .val (.int p4), .val (.int (Int32.ofNat kk)), .val .null, .val .null, .val (.ref rv), .val .null] [(.int (1 : Int32))])) target → Steps p.tables e below (TR.setTop (mkF m 83 #[.val (.int p1), .val (.int p2), .val (.int p3), .val (.int p4), .val (.int (Int32.ofNat kk)), .val .null, .val .null, .val (.ref rv), .unset] [.null])) target := by
      intro target kt
      show Steps p.tables e below (TR.setTop (mkF m 83 #[.val (.int p1), .val (.int p2), .val (.int p3), .val (.int p4), .val (.int (Int32.ofNat kk)), .val .null, .val .null, .val (.ref rv), .unset] [.null])) _
      refine XS.astore XR.here hx rfl (hb hby at_83) rfl rfl (l' := #[.val (.int p1), .val (.int p2), .val (.int p3), .val (.int p4), .val (.int (Int32.ofNat kk)), .val .null, .val .null, .val (.ref rv), .val .null]) rfl ?_
      show Steps p.tables e below (TR.setTop (mkF m 85 #[.val (.int p1), .val (.int p2), .val (.int p3), .val (.int p4), .val (.int (Int32.ofNat kk)), .val .null, .val .null, .val (.ref rv), .val .null] [])) _
      refine XS.aload XR.here hx rfl (hb hby at_85) rfl rfl ?_
      show Steps p.tables e below (TR.setTop (mkF m 87 #[.val (.int p1), .val (.int p2), .val (.int p3), .val (.int p4), .val (.int (Int32.ofNat kk)), .val .null, .val .null, .val (.ref rv), .val .null] [.null])) _
      refine XS.aload XR.here hx rfl (hb hby at_87) rfl rfl ?_
      show Steps p.tables e below (TR.setTop (mkF m 89 #[.val (.int p1), .val (.int p2), .val (.int p3), .val (.int p4), .val (.int (Int32.ofNat kk)), .val .null, .val .null, .val (.ref rv), .val .null] [.null, .null])) _
      refine acmp XR hx rfl (x := .null) (y := .null) rfl rfl (pc0 := 89) (pc' := 92) (same := true) rfl (hb hby at_89) rfl (by simp) (by decide) (by decide) ?_
      show Steps p.tables e below (TR.setTop (mkF m 92 #[.val (.int p1), .val (.int p2), .val (.int p3), .val (.int p4), .val (.int (Int32.ofNat kk)), .val .null, .val .null, .val (.ref rv), .val .null] [])) _
      refine XS.iconst XR.here hx rfl (hb hby at_92) ?_
      show Steps p.tables e below (TR.setTop (mkF m 93 #[.val (.int p1), .val (.int p2), .val (.int p3), .val (.int p4), .val (.int (Int32.ofNat kk)), .val .null, .val .null, .val (.ref rv), .val .null] [(.int (1 : Int32))])) _
      refine XS.goto XR.here hx rfl (pc0 := 93) (pc' := 97) rfl (hb hby at_93) (by decide) (by decide) ?_
      show Steps p.tables e below (TR.setTop (mkF m 97 #[.val (.int p1), .val (.int p2), .val (.int p3), .val (.int p4), .val (.int (Int32.ofNat kk)), .val .null, .val .null, .val (.ref rv), .val .null] [(.int (1 : Int32))])) _
      exact kt
    obtain ⟨fs, hr, hrun, hended, hW⟩ := XR.leaveW hSK (by rw [eR]; exact hk_W) (v := some (.int (1 : Int32))) (fun h => by rw [Bd.returns] at h; cases h)
    refine ⟨_, _, castTop (ef_0 m p1 p2 p3 p4) ?_, hrun, hended, _, _, rfl, ⟨rfl, MR⟩, own_w hW (by decide) (by decide)⟩
    show Steps p.tables e below (s₁.setTop (mkF m 0 #[.val (.int p1), .val (.int p2), .val (.int p3), .val (.int p4), .unset, .unset, .unset, .unset, .unset] [])) _
    refine sg1 _ ?_
    show Steps p.tables e below (s₁.setTop (mkF m 14 #[.val (.int p1), .val (.int p2), .val (.int p3), .val (.int p4), .val (.int (Int32.ofNat kk)), .unset, .unset, .unset, .unset] [(.int p4), (.int p3), (.int p2), (.int (Int32.ofNat kk))])) _
    refine stK.trans ?_
    show Steps p.tables e below (TK.setTop (mkF m 17 #[.val (.int p1), .val (.int p2), .val (.int p3), .val (.int p4), .val (.int (Int32.ofNat kk)), .unset, .unset, .unset, .unset] [.null])) _
    refine sg2 _ ?_
    show Steps p.tables e below (TK.setTop (mkF m 62 #[.val (.int p1), .val (.int p2), .val (.int p3), .val (.int p4), .val (.int (Int32.ofNat kk)), .val .null, .val .null, .unset, .unset] [.null])) _
    refine stW _ ?_
    show Steps p.tables e below (TW.setTop (mkF m 65 #[.val (.int p1), .val (.int p2), .val (.int p3), .val (.int p4), .val (.int (Int32.ofNat kk)), .val .null, .val .null, .unset, .unset] [(.ref rv)])) _
    refine sg3 _ ?_
    show Steps p.tables e below (TW.setTop (mkF m 77 #[.val (.int p1), .val (.int p2), .val (.int p3), .val (.int p4), .val (.int (Int32.ofNat kk)), .val .null, .val .null, .val (.ref rv), .unset] [.null, (.ref rv)])) _
    refine stR.trans ?_
    show Steps p.tables e below (TR.setTop (mkF m 80 #[.val (.int p1), .val (.int p2), .val (.int p3), .val (.int p4), .val (.int (Int32.ofNat kk)), .val .null, .val .null, .val (.ref rv), .unset] [.null])) _
    refine stc _ ?_
    show Steps p.tables e below (TR.setTop (mkF m 83 #[.val (.int p1), .val (.int p2), .val (.int p3), .val (.int p4), .val (.int (Int32.ofNat kk)), .val .null, .val .null, .val (.ref rv), .unset] [.null])) _
    refine sg4 _ ?_
    show Steps p.tables e below (TR.setTop (mkF m 97 #[.val (.int p1), .val (.int p2), .val (.int p3), .val (.int p4), .val (.int (Int32.ofNat kk)), .val .null, .val .null, .val (.ref rv), .val .null] [(.int (1 : Int32))])) _
    exact retN XR hx (t := .boolean) Bd.returns (by simp) (hb hby at_97) hr
  · have sg2 : ∀ target, Steps p.tables e below (TK.setTop (mkF m 29 #[.val (.int p1), .val (.int p2), .val (.int p3), .val (.int p4), .val (.int (Int32.ofNat kk)), .val (.ref sx), .val .null, .unset, .unset] [(.ref sx)])) target → Steps p.tables e below (TK.setTop (mkF m 17 #[.val (.int p1), .val (.int p2), .val (.int p3), .val (.int p4), .val (.int (Int32.ofNat kk)), .unset, .unset, .unset, .unset] [(.ref sx)])) target := by
      intro target kt
      show Steps p.tables e below (TK.setTop (mkF m 17 #[.val (.int p1), .val (.int p2), .val (.int p3), .val (.int p4), .val (.int (Int32.ofNat kk)), .unset, .unset, .unset, .unset] [(.ref sx)])) _
      refine XS.astore XK.here hx rfl (hb hby at_17) rfl rfl (l' := #[.val (.int p1), .val (.int p2), .val (.int p3), .val (.int p4), .val (.int (Int32.ofNat kk)), .val (.ref sx), .unset, .unset, .unset]) rfl ?_
      show Steps p.tables e below (TK.setTop (mkF m 19 #[.val (.int p1), .val (.int p2), .val (.int p3), .val (.int p4), .val (.int (Int32.ofNat kk)), .val (.ref sx), .unset, .unset, .unset] [])) _
      refine XS.aconstNull XK.here hx rfl (hb hby at_19) ?_
      show Steps p.tables e below (TK.setTop (mkF m 20 #[.val (.int p1), .val (.int p2), .val (.int p3), .val (.int p4), .val (.int (Int32.ofNat kk)), .val (.ref sx), .unset, .unset, .unset] [.null])) _
      refine XS.astore XK.here hx rfl (hb hby at_20) rfl rfl (l' := #[.val (.int p1), .val (.int p2), .val (.int p3), .val (.int p4), .val (.int (Int32.ofNat kk)), .val (.ref sx), .val .null, .unset, .unset]) rfl ?_
      show Steps p.tables e below (TK.setTop (mkF m 22 #[.val (.int p1), .val (.int p2), .val (.int p3), .val (.int p4), .val (.int (Int32.ofNat kk)), .val (.ref sx), .val .null, .unset, .unset] [])) _
      refine XS.aload XK.here hx rfl (hb hby at_22) rfl rfl ?_
      show Steps p.tables e below (TK.setTop (mkF m 24 #[.val (.int p1), .val (.int p2), .val (.int p3), .val (.int p4), .val (.int (Int32.ofNat kk)), .val (.ref sx), .val .null, .unset, .unset] [(.ref sx)])) _
      refine XS.ifnullNo XK.here hx rfl (hb hby at_24) rfl ?_
      show Steps p.tables e below (TK.setTop (mkF m 27 #[.val (.int p1), .val (.int p2), .val (.int p3), .val (.int p4), .val (.int (Int32.ofNat kk)), .val (.ref sx), .val .null, .unset, .unset] [])) _
      refine XS.aload XK.here hx rfl (hb hby at_27) rfl rfl ?_
      show Steps p.tables e below (TK.setTop (mkF m 29 #[.val (.int p1), .val (.int p2), .val (.int p3), .val (.int p4), .val (.int (Int32.ofNat kk)), .val (.ref sx), .val .null, .unset, .unset] [(.ref sx)])) _
      exact kt
    obtain ⟨uP, TP, hP, kP, bP, kbP, XP, eP, EP, hSP, hkP, hZP, hownP, uaP, ucP, uvP, ubP, -, -, R0P, -, -, stP⟩ := ldcCH (vm0 := TK.vm) (text := "PKC") XK hx hZK hownK (hw _ (List.mem_of_getElem? (i := 81) rfl)) hwS rfl hSK (Nat.le_refl _) hEL (by rw [hELe]; decide) RK.1 (vs := ((own_P : List Int32).map fun c => c.toInt8.toInt32).map Value.int) (z := 3) ⟨by decide, by decide⟩ (by decide) (by decide) (g := (mkF m 29 #[.val (.int p1), .val (.int p2), .val (.int p3), .val (.int p4), .val (.int (Int32.ofNat kk)), .val (.ref sx), .val .null, .unset, .unset] [(.ref sx)])) rfl (hb hby at_29) (n := 12) (by decide) (by decide) (by decide) (by decide)
    have RP := RK.trans R0P
    have O_P := O_K.ext EP
    have Gg_P := Gg_K.ext EP
    have SK_P := SK.ext EP
    have En_P := own_ext_trans En_K EP
    have SP : own_Str Z hP uP own_P := ⟨uaP, ucP, bP, kbP, uvP, ubP⟩
    obtain ⟨ExP, CxP, txP, kxP, VxP, KxP⟩ := id SK_P
    obtain ⟨EyP, CyP, tyP, kyP, VyP, KyP⟩ := id SP
    obtain ⟨cqEP, kqEP, qaEP, qbEP, qcEP⟩ := isOf hZP eP ExP
    obtain ⟨_, _, ⟨TEP, LEP, kEP, nEP⟩, -, XEP, ⟨LcEP, hQEP, lEP, yEP, zEP⟩, stEP⟩ := XP.virtualBack hx (y := (⟨"java/lang/String", "equals", "(Ljava/lang/Object;)Z"⟩ : MethodName)) (z := (⟨"java/lang/String", "equals", "(Ljava/lang/Object;)Z"⟩ : MethodName)) hownP (mvT hZP (hw _ (List.mem_of_getElem? (i := 84) rfl))) (mvT hZP (hw _ (List.mem_of_getElem? (i := 29) rfl))) (notFace_of_selects (args := #[]) (mvT hZP (hw _ (List.mem_of_getElem? (i := 31) rfl)))) (mvT hZP (hw _ (List.mem_of_getElem? (i := 31) rfl))) (mvT hZP (hw _ (List.mem_of_getElem? (i := 30) rfl))) (by decide) (StrChars.Road.eqW (W := 0) hZP heq (kI := 4) (hw _ (List.mem_of_getElem? (i := 54) rfl)) ExP VxP CxP KxP (own_cod lcs) (own_up lcs) h4 EyP VyP CyP KyP (own_cod own_lP) (own_up own_lP) (Nat.le_of_ble_eq_true rfl) O_P hG (by decide) (by decide)) qaEP qcEP (g := (mkF m 31 #[.val (.int p1), .val (.int p2), .val (.int p3), .val (.int p4), .val (.int (Int32.ofNat kk)), .val (.ref sx), .val .null, .unset, .unset] [(.ref uP), (.ref sx)])) rfl (by rw [hml]; rfl) (Steps.refl _) (argsL := [(.ref uP)]) (rest := []) (lenOf pdQ rfl) rfl (by show 2 * 0 + _ ≤ _; exact Nat.le_of_eq rfl) (hb hby at_31) (fun _ _ => ⟨rfl, eP, Nat.le_of_ble_eq_true rfl, Nat.le_of_ble_eq_true rfl⟩)
    dsimp only [Pt.U, Pt.locs, Pt.cells, Pt.slots] at XEP lEP yEP zEP stEP hQEP
    subst lEP yEP zEP
    obtain ⟨hvP, rfl, eEP⟩ := hQEP
    have MEP := Fr.app (MK) (Fr.nil n0)
    rcases hvP with ⟨rfl, qP⟩ | ⟨rfl, qP⟩
    · have sg3 : ∀ target, Steps p.tables e below (TEP.setTop (mkF m 37 #[.val (.int p1), .val (.int p2), .val (.int p3), .val (.int p4), .val (.int (Int32.ofNat kk)), .val (.ref sx), .val .null, .unset, .unset] [])) target → Steps p.tables e below (TEP.setTop (mkF m 34 #[.val (.int p1), .val (.int p2), .val (.int p3), .val (.int p4), .val (.int (Int32.ofNat kk)), .val (.ref sx), .val .null, .unset, .unset] [(.int (1 : Int32))])) target := by
        intro target kt
        show Steps p.tables e below (TEP.setTop (mkF m 34 #[.val (.int p1), .val (.int p2), .val (.int p3), .val (.int p4), .val (.int (Int32.ofNat kk)), .val (.ref sx), .val .null, .unset, .unset] [(.int (1 : Int32))])) _
        refine XS.ifNo XEP.here hx rfl (hb hby at_34) rfl (by decide) ?_
        show Steps p.tables e below (TEP.setTop (mkF m 37 #[.val (.int p1), .val (.int p2), .val (.int p3), .val (.int p4), .val (.int (Int32.ofNat kk)), .val (.ref sx), .val .null, .unset, .unset] [])) _
        exact kt
      obtain ⟨T4, X4, e4, st4⟩ := getS XEP hx hZP hownP (host := "") (hw _ (List.mem_of_getElem? (i := 92) rfl)) Via.refl eEP Gg_P.2.1.1 (g := (mkF m 37 #[.val (.int p1), .val (.int p2), .val (.int p3), .val (.int p4), .val (.int (Int32.ofNat kk)), .val (.ref sx), .val .null, .unset, .unset] [])) rfl (hb hby at_37)
      have sg5 : ∀ target, Steps p.tables e below (T4.setTop (mkF m 62 #[.val (.int p1), .val (.int p2), .val (.int p3), .val (.int p4), .val (.int (Int32.ofNat kk)), .val (.ref sx), .val (.ref pk), .unset, .unset] [(.ref sx)])) target → Steps p.tables e below (T4.setTop (mkF m 40 #[.val (.int p1), .val (.int p2), .val (.int p3), .val (.int p4), .val (.int (Int32.ofNat kk)), .val (.ref sx), .val .null, .unset, .unset] [(.ref pk)])) target := by
        intro target kt
        show Steps p.tables e below (T4.setTop (mkF m 40 #[.val (.int p1), .val (.int p2), .val (.int p3), .val (.int p4), .val (.int (Int32.ofNat kk)), .val (.ref sx), .val .null, .unset, .unset] [(.ref pk)])) _
        refine XS.astore X4.here hx rfl (hb hby at_40) rfl rfl (l' := #[.val (.int p1), .val (.int p2), .val (.int p3), .val (.int p4), .val (.int (Int32.ofNat kk)), .val (.ref sx), .val (.ref pk), .unset, .unset]) rfl ?_
        show Steps p.tables e below (T4.setTop (mkF m 42 #[.val (.int p1), .val (.int p2), .val (.int p3), .val (.int p4), .val (.int (Int32.ofNat kk)), .val (.ref sx), .val (.ref pk), .unset, .unset] [])) _
        refine XS.goto X4.here hx rfl (pc0 := 42) (pc' := 60) rfl (hb hby at_42) (by decide) (by decide) ?_
        show Steps p.tables e below (T4.setTop (mkF m 60 #[.val (.int p1), .val (.int p2), .val (.int p3), .val (.int p4), .val (.int (Int32.ofNat kk)), .val (.ref sx), .val (.ref pk), .unset, .unset] [])) _
        refine XS.aload X4.here hx rfl (hb hby at_60) rfl rfl ?_
        show Steps p.tables e below (T4.setTop (mkF m 62 #[.val (.int p1), .val (.int p2), .val (.int p3), .val (.int p4), .val (.int (Int32.ofNat kk)), .val (.ref sx), .val (.ref pk), .unset, .unset] [(.ref sx)])) _
        exact kt
      obtain ⟨_, _, ⟨TW, LW, kW, nW⟩, -, XW, ⟨LcW, hQW, lW, yW, zW⟩, stW⟩ := Jvm.LawKit.callS X4 hx (y := (⟨"com/example/ombudsign/ombudsign/dss/CertType", "fromValue", "(Ljava/lang/String;)Ljava/util/Optional;"⟩ : MethodName)) hownP (mvT hZP (hw _ (List.mem_of_getElem? (i := 5) rfl))) (mvT hZP (hw _ (List.mem_of_getElem? (i := 6) rfl))) (mvT hZP (hw _ (List.mem_of_getElem? (i := 7) rfl))) (mvT hZP (hw _ (List.mem_of_getElem? (i := 8) rfl))) (by decide) (backOf (W := 0) (rmW l Z a0 hw va kv pk qc ps qs em hP n0 (Nat.le_trans Z0 En_P.1) Gg_P G O_P hG sx cs lcs h4 SK_P) hZP (hw _ (List.mem_of_getElem? (i := 8) rfl)) (hw _ (List.mem_of_getElem? (i := 7) rfl)) (by decide) (by decide)) (g := (mkF m 62 #[.val (.int p1), .val (.int p2), .val (.int p3), .val (.int p4), .val (.int (Int32.ofNat kk)), .val (.ref sx), .val (.ref pk), .unset, .unset] [(.ref sx)])) rfl (by rw [hml]; rfl) (argsL := [(.ref sx)]) (rest := []) (lenOf pdW rfl) rfl (by show 2 * 0 + _ ≤ _; exact Nat.le_of_eq rfl) (hb hby at_62) (fun _ _ => ⟨rfl, e4, Nat.le_of_ble_eq_true rfl, Nat.le_of_ble_eq_true rfl⟩)
      dsimp only [Pt.U, Pt.locs, Pt.cells, Pt.slots] at XW lW yW zW stW hQW
      subst lW yW zW
      obtain ⟨rv, rfl, NW, EW, AW, FW⟩ := hQW
      have MW := Fr.app (MEP) NW
      rw [(show own_val cs pk qc = .ref pk from if_pos qP)] at FW
      have O_W := O_P.ext EW
      have Gg_W := Gg_P.ext EW
      have SK_W := SK_P.ext EW
      have SP_W := SP.ext EW
      have En_W := own_ext_trans En_P EW
      have R_W := RP.trans (CHr.ext EW RP.1)
      have hk_W : kP ≤ TW.heap.size := Nat.le_trans hkP EW.1
      have sg6 : ∀ target, Steps p.tables e below (TW.setTop (mkF m 77 #[.val (.int p1), .val (.int p2), .val (.int p3), .val (.int p4), .val (.int (Int32.ofNat kk)), .val (.ref sx), .val (.ref pk), .val (.ref rv), .unset] [.null, (.ref rv)])) target → Steps p.tables e below (TW.setTop (mkF m 65 #[.val (.int p1), .val (.int p2), .val (.int p3), .val (.int p4), .val (.int (Int32.ofNat kk)), .val (.ref sx), .val (.ref pk), .unset, .unset] [(.ref rv)])) target := by
        intro target kt
        show Steps p.tables e below (TW.setTop (mkF m 65 #[.val (.int p1), .val (.int p2), .val (.int p3), .val (.int p4), .val (.int (Int32.ofNat kk)), .val (.ref sx), .val (.ref pk), .unset, .unset] [(.ref rv)])) _
        refine XS.astore XW.here hx rfl (hb hby at_65) rfl rfl (l' := #[.val (.int p1), .val (.int p2), .val (.int p3), .val (.int p4), .val (.int (Int32.ofNat kk)), .val (.ref sx), .val (.ref pk), .val (.ref rv), .unset]) rfl ?_
        show Steps p.tables e below (TW.setTop (mkF m 67 #[.val (.int p1), .val (.int p2), .val (.int p3), .val (.int p4), .val (.int (Int32.ofNat kk)), .val (.ref sx), .val (.ref pk), .val (.ref rv), .unset] [])) _
        refine XS.aload XW.here hx rfl (hb hby at_67) rfl rfl ?_
        show Steps p.tables e below (TW.setTop (mkF m 69 #[.val (.int p1), .val (.int p2), .val (.int p3), .val (.int p4), .val (.int (Int32.ofNat kk)), .val (.ref sx), .val (.ref pk), .val (.ref rv), .unset] [(.ref rv)])) _
        refine XS.ifnonnullYes XW.here hx rfl (pc0 := 69) (pc' := 74) rfl (hb hby at_69) rfl (by decide) (by decide) ?_
        show Steps p.tables e below (TW.setTop (mkF m 74 #[.val (.int p1), .val (.int p2), .val (.int p3), .val (.int p4), .val (.int (Int32.ofNat kk)), .val (.ref sx), .val (.ref pk), .val (.ref rv), .unset] [])) _
        refine XS.aload XW.here hx rfl (hb hby at_74) rfl rfl ?_
        show Steps p.tables e below (TW.setTop (mkF m 76 #[.val (.int p1), .val (.int p2), .val (.int p3), .val (.int p4), .val (.int (Int32.ofNat kk)), .val (.ref sx), .val (.ref pk), .val (.ref rv), .unset] [(.ref rv)])) _
        refine XS.aconstNull XW.here hx rfl (hb hby at_76) ?_
        show Steps p.tables e below (TW.setTop (mkF m 77 #[.val (.int p1), .val (.int p2), .val (.int p3), .val (.int p4), .val (.int (Int32.ofNat kk)), .val (.ref sx), .val (.ref pk), .val (.ref rv), .unset] [.null, (.ref rv)])) _
        exact kt
      obtain ⟨cqR, kqR, qaR, qbR, qcR⟩ := isOf hZP rfl AW
      obtain ⟨_, _, ⟨TR, LR, kR, nR⟩, -, XR, ⟨LcR, hQR, lR, yR, zR⟩, stR⟩ := XW.virtualBack hx (y := (⟨"java/util/Optional", "orElse", "(Ljava/lang/Object;)Ljava/lang/Object;"⟩ : MethodName)) (z := (⟨"java/util/Optional", "orElse", "(Ljava/lang/Object;)Ljava/lang/Object;"⟩ : MethodName)) hownP (mvT hZP (hw _ (List.mem_of_getElem? (i := 39) rfl))) (mvT hZP (hw _ (List.mem_of_getElem? (i := 40) rfl))) (notFace_of_selects (args := #[]) (mvT hZP (hw _ (List.mem_of_getElem? (i := 42) rfl)))) (mvT hZP (hw _ (List.mem_of_getElem? (i := 42) rfl))) (mvT hZP (hw _ (List.mem_of_getElem? (i := 41) rfl))) (by decide) (backOf (W := 0) (rmR l Z a0 hw rv pk TW.heap n0 FW) hZP (hw _ (List.mem_of_getElem? (i := 43) rfl)) (hw _ (List.mem_of_getElem? (i := 36) rfl)) (by decide) (by decide)) qaR qcR (g := (mkF m 77 #[.val (.int p1), .val (.int p2), .val (.int p3), .val (.int p4), .val (.int (Int32.ofNat kk)), .val (.ref sx), .val (.ref pk), .val (.ref rv), .unset] [.null, (.ref rv)])) rfl (by rw [hml]; rfl) (Steps.refl _) (argsL := [.null]) (rest := []) (lenOf pdR rfl) rfl (by show 2 * 0 + _ ≤ _; exact Nat.le_of_eq rfl) (hb hby at_77) (fun _ _ => ⟨rfl, rfl, Nat.le_of_ble_eq_true rfl, Nat.le_of_ble_eq_true rfl⟩)
      dsimp only [Pt.U, Pt.locs, Pt.cells, Pt.slots] at XR lR yR zR stR hQR
      subst lR yR zR
      obtain ⟨rfl, NR, eR⟩ := hQR
      have MR := Fr.app (MW) NR
      obtain ⟨T7, X7, e7, st7⟩ := castY XR hx hZP hownP (hw _ (List.mem_of_getElem? (i := 107) rfl)) eR (Ins.self Gg_W.2.1.2.1) (g := (mkF m 80 #[.val (.int p1), .val (.int p2), .val (.int p3), .val (.int p4), .val (.int (Int32.ofNat kk)), .val (.ref sx), .val (.ref pk), .val (.ref rv), .unset] [(.ref pk)])) rfl rfl (hb hby at_80)
      have sg8 : ∀ target, Steps p.tables e below (T7.setTop (mkF m 97 #[.val (.int p1), .val (.int p2), .val (.int p3), .val (.int p4), .val (.int (Int32.ofNat kk)), .val (.ref sx), .val (.ref pk), .val (.ref rv), .val (.ref pk)] [(.int (1 : Int32))])) target → Steps p.tables e below (T7.setTop (mkF m 83 #[.val (.int p1), .val (.int p2), .val (.int p3), .val (.int p4), .val (.int (Int32.ofNat kk)), .val (.ref sx), .val (.ref pk), .val (.ref rv), .unset] [(.ref pk)])) target := by
        intro target kt
        show Steps p.tables e below (T7.setTop (mkF m 83 #[.val (.int p1), .val (.int p2), .val (.int p3), .val (.int p4), .val (.int (Int32.ofNat kk)), .val (.ref sx), .val (.ref pk), .val (.ref rv), .unset] [(.ref pk)])) _
        refine XS.astore X7.here hx rfl (hb hby at_83) rfl rfl (l' := #[.val (.int p1), .val (.int p2), .val (.int p3), .val (.int p4), .val (.int (Int32.ofNat kk)), .val (.ref sx), .val (.ref pk), .val (.ref rv), .val (.ref pk)]) rfl ?_
        show Steps p.tables e below (T7.setTop (mkF m 85 #[.val (.int p1), .val (.int p2), .val (.int p3), .val (.int p4), .val (.int (Int32.ofNat kk)), .val (.ref sx), .val (.ref pk), .val (.ref rv), .val (.ref pk)] [])) _
        refine XS.aload X7.here hx rfl (hb hby at_85) rfl rfl ?_
        show Steps p.tables e below (T7.setTop (mkF m 87 #[.val (.int p1), .val (.int p2), .val (.int p3), .val (.int p4), .val (.int (Int32.ofNat kk)), .val (.ref sx), .val (.ref pk), .val (.ref rv), .val (.ref pk)] [(.ref pk)])) _
        refine XS.aload X7.here hx rfl (hb hby at_87) rfl rfl ?_
        show Steps p.tables e below (T7.setTop (mkF m 89 #[.val (.int p1), .val (.int p2), .val (.int p3), .val (.int p4), .val (.int (Int32.ofNat kk)), .val (.ref sx), .val (.ref pk), .val (.ref rv), .val (.ref pk)] [(.ref pk), (.ref pk)])) _
        refine acmp X7 hx rfl (x := (.ref pk)) (y := (.ref pk)) rfl rfl (pc0 := 89) (pc' := 92) (same := true) rfl (hb hby at_89) rfl (by simp) (by decide) (by decide) ?_
        show Steps p.tables e below (T7.setTop (mkF m 92 #[.val (.int p1), .val (.int p2), .val (.int p3), .val (.int p4), .val (.int (Int32.ofNat kk)), .val (.ref sx), .val (.ref pk), .val (.ref rv), .val (.ref pk)] [])) _
        refine XS.iconst X7.here hx rfl (hb hby at_92) ?_
        show Steps p.tables e below (T7.setTop (mkF m 93 #[.val (.int p1), .val (.int p2), .val (.int p3), .val (.int p4), .val (.int (Int32.ofNat kk)), .val (.ref sx), .val (.ref pk), .val (.ref rv), .val (.ref pk)] [(.int (1 : Int32))])) _
        refine XS.goto X7.here hx rfl (pc0 := 93) (pc' := 97) rfl (hb hby at_93) (by decide) (by decide) ?_
        show Steps p.tables e below (T7.setTop (mkF m 97 #[.val (.int p1), .val (.int p2), .val (.int p3), .val (.int p4), .val (.int (Int32.ofNat kk)), .val (.ref sx), .val (.ref pk), .val (.ref rv), .val (.ref pk)] [(.int (1 : Int32))])) _
        exact kt
      obtain ⟨fs, hr, hrun, hended, hW⟩ := X7.leaveW hSP (by rw [e7]; exact hk_W) (v := some (.int (1 : Int32))) (fun h => by rw [Bd.returns] at h; cases h)
      refine ⟨_, _, castTop (ef_0 m p1 p2 p3 p4) ?_, hrun, hended, _, _, rfl, ⟨rfl, MR⟩, own_w hW (by decide) (by decide)⟩
      show Steps p.tables e below (s₁.setTop (mkF m 0 #[.val (.int p1), .val (.int p2), .val (.int p3), .val (.int p4), .unset, .unset, .unset, .unset, .unset] [])) _
      refine sg1 _ ?_
      show Steps p.tables e below (s₁.setTop (mkF m 14 #[.val (.int p1), .val (.int p2), .val (.int p3), .val (.int p4), .val (.int (Int32.ofNat kk)), .unset, .unset, .unset, .unset] [(.int p4), (.int p3), (.int p2), (.int (Int32.ofNat kk))])) _
      refine stK.trans ?_
      show Steps p.tables e below (TK.setTop (mkF m 17 #[.val (.int p1), .val (.int p2), .val (.int p3), .val (.int p4), .val (.int (Int32.ofNat kk)), .unset, .unset, .unset, .unset] [(.ref sx)])) _
      refine sg2 _ ?_
      show Steps p.tables e below (TK.setTop (mkF m 29 #[.val (.int p1), .val (.int p2), .val (.int p3), .val (.int p4), .val (.int (Int32.ofNat kk)), .val (.ref sx), .val .null, .unset, .unset] [(.ref sx)])) _
      refine stP _ ?_
      show Steps p.tables e below (TP.setTop (mkF m 31 #[.val (.int p1), .val (.int p2), .val (.int p3), .val (.int p4), .val (.int (Int32.ofNat kk)), .val (.ref sx), .val .null, .unset, .unset] [(.ref uP), (.ref sx)])) _
      refine stEP.trans ?_
      show Steps p.tables e below (TEP.setTop (mkF m 34 #[.val (.int p1), .val (.int p2), .val (.int p3), .val (.int p4), .val (.int (Int32.ofNat kk)), .val (.ref sx), .val .null, .unset, .unset] [(.int (1 : Int32))])) _
      refine sg3 _ ?_
      show Steps p.tables e below (TEP.setTop (mkF m 37 #[.val (.int p1), .val (.int p2), .val (.int p3), .val (.int p4), .val (.int (Int32.ofNat kk)), .val (.ref sx), .val .null, .unset, .unset] [])) _
      refine st4 _ ?_
      show Steps p.tables e below (T4.setTop (mkF m 40 #[.val (.int p1), .val (.int p2), .val (.int p3), .val (.int p4), .val (.int (Int32.ofNat kk)), .val (.ref sx), .val .null, .unset, .unset] [(.ref pk)])) _
      refine sg5 _ ?_
      show Steps p.tables e below (T4.setTop (mkF m 62 #[.val (.int p1), .val (.int p2), .val (.int p3), .val (.int p4), .val (.int (Int32.ofNat kk)), .val (.ref sx), .val (.ref pk), .unset, .unset] [(.ref sx)])) _
      refine stW _ ?_
      show Steps p.tables e below (TW.setTop (mkF m 65 #[.val (.int p1), .val (.int p2), .val (.int p3), .val (.int p4), .val (.int (Int32.ofNat kk)), .val (.ref sx), .val (.ref pk), .unset, .unset] [(.ref rv)])) _
      refine sg6 _ ?_
      show Steps p.tables e below (TW.setTop (mkF m 77 #[.val (.int p1), .val (.int p2), .val (.int p3), .val (.int p4), .val (.int (Int32.ofNat kk)), .val (.ref sx), .val (.ref pk), .val (.ref rv), .unset] [.null, (.ref rv)])) _
      refine stR.trans ?_
      show Steps p.tables e below (TR.setTop (mkF m 80 #[.val (.int p1), .val (.int p2), .val (.int p3), .val (.int p4), .val (.int (Int32.ofNat kk)), .val (.ref sx), .val (.ref pk), .val (.ref rv), .unset] [(.ref pk)])) _
      refine st7 _ ?_
      show Steps p.tables e below (T7.setTop (mkF m 83 #[.val (.int p1), .val (.int p2), .val (.int p3), .val (.int p4), .val (.int (Int32.ofNat kk)), .val (.ref sx), .val (.ref pk), .val (.ref rv), .unset] [(.ref pk)])) _
      refine sg8 _ ?_
      show Steps p.tables e below (T7.setTop (mkF m 97 #[.val (.int p1), .val (.int p2), .val (.int p3), .val (.int p4), .val (.int (Int32.ofNat kk)), .val (.ref sx), .val (.ref pk), .val (.ref rv), .val (.ref pk)] [(.int (1 : Int32))])) _
      exact retN X7 hx (t := .boolean) Bd.returns (by simp) (hb hby at_97) hr
    · have sg3 : ∀ target, Steps p.tables e below (TEP.setTop (mkF m 47 #[.val (.int p1), .val (.int p2), .val (.int p3), .val (.int p4), .val (.int (Int32.ofNat kk)), .val (.ref sx), .val .null, .unset, .unset] [(.ref sx)])) target → Steps p.tables e below (TEP.setTop (mkF m 34 #[.val (.int p1), .val (.int p2), .val (.int p3), .val (.int p4), .val (.int (Int32.ofNat kk)), .val (.ref sx), .val .null, .unset, .unset] [(.int (0 : Int32))])) target := by
        intro target kt
        show Steps p.tables e below (TEP.setTop (mkF m 34 #[.val (.int p1), .val (.int p2), .val (.int p3), .val (.int p4), .val (.int (Int32.ofNat kk)), .val (.ref sx), .val .null, .unset, .unset] [(.int (0 : Int32))])) _
        refine XS.ifYes XEP.here hx rfl (pc0 := 34) (pc' := 45) rfl (hb hby at_34) rfl (by decide) (by decide) (by decide) ?_
        show Steps p.tables e below (TEP.setTop (mkF m 45 #[.val (.int p1), .val (.int p2), .val (.int p3), .val (.int p4), .val (.int (Int32.ofNat kk)), .val (.ref sx), .val .null, .unset, .unset] [])) _
        refine XS.aload XEP.here hx rfl (hb hby at_45) rfl rfl ?_
        show Steps p.tables e below (TEP.setTop (mkF m 47 #[.val (.int p1), .val (.int p2), .val (.int p3), .val (.int p4), .val (.int (Int32.ofNat kk)), .val (.ref sx), .val .null, .unset, .unset] [(.ref sx)])) _
        exact kt
      obtain ⟨uQ, TQ, hQ, kQ, bQ, kbQ, XQ, eQ, EQ, hSQ, hkQ, hZQ, hownQ, uaQ, ucQ, uvQ, ubQ, -, -, R0Q, -, -, stQ⟩ := ldcCH (vm0 := TP.vm) (text := "QC/SSCD") XEP hx hZP hownP (hw _ (List.mem_of_getElem? (i := 90) rfl)) hwS eEP hSP hkP hEL (by rw [hELe]; decide) RP.1 (vs := ((own_Q : List Int32).map fun c => c.toInt8.toInt32).map Value.int) (z := 7) ⟨by decide, by decide⟩ (by decide) (by decide) (g := (mkF m 47 #[.val (.int p1), .val (.int p2), .val (.int p3), .val (.int p4), .val (.int (Int32.ofNat kk)), .val (.ref sx), .val .null, .unset, .unset] [(.ref sx)])) rfl (hb hby at_47) (n := 28) (by decide) (by decide) (by decide) (by decide)
      have RQ := RP.trans R0Q
      have O_Q := O_P.ext EQ
      have Gg_Q := Gg_P.ext EQ
      have SK_Q := SK_P.ext EQ
      have SP_Q := SP.ext EQ
      have En_Q := own_ext_trans En_P EQ
      have SQ : own_Str Z hQ uQ own_Q := ⟨uaQ, ucQ, bQ, kbQ, uvQ, ubQ⟩
      obtain ⟨ExQ, CxQ, txQ, kxQ, VxQ, KxQ⟩ := id SK_Q
      obtain ⟨EyQ, CyQ, tyQ, kyQ, VyQ, KyQ⟩ := id SQ
      obtain ⟨cqEQ, kqEQ, qaEQ, qbEQ, qcEQ⟩ := isOf hZQ eQ ExQ
      obtain ⟨_, _, ⟨TEQ, LEQ, kEQ, nEQ⟩, -, XEQ, ⟨LcEQ, hQEQ, lEQ, yEQ, zEQ⟩, stEQ⟩ := XQ.virtualBack hx (y := (⟨"java/lang/String", "equals", "(Ljava/lang/Object;)Z"⟩ : MethodName)) (z := (⟨"java/lang/String", "equals", "(Ljava/lang/Object;)Z"⟩ : MethodName)) hownQ (mvT hZQ (hw _ (List.mem_of_getElem? (i := 84) rfl))) (mvT hZQ (hw _ (List.mem_of_getElem? (i := 29) rfl))) (notFace_of_selects (args := #[]) (mvT hZQ (hw _ (List.mem_of_getElem? (i := 31) rfl)))) (mvT hZQ (hw _ (List.mem_of_getElem? (i := 31) rfl))) (mvT hZQ (hw _ (List.mem_of_getElem? (i := 30) rfl))) (by decide) (StrChars.Road.eqW (W := 0) hZQ heq (kI := 4) (hw _ (List.mem_of_getElem? (i := 54) rfl)) ExQ VxQ CxQ KxQ (own_cod lcs) (own_up lcs) h4 EyQ VyQ CyQ KyQ (own_cod own_lQ) (own_up own_lQ) (Nat.le_of_ble_eq_true rfl) O_Q hG (by decide) (by decide)) qaEQ qcEQ (g := (mkF m 49 #[.val (.int p1), .val (.int p2), .val (.int p3), .val (.int p4), .val (.int (Int32.ofNat kk)), .val (.ref sx), .val .null, .unset, .unset] [(.ref uQ), (.ref sx)])) rfl (by rw [hml]; rfl) (Steps.refl _) (argsL := [(.ref uQ)]) (rest := []) (lenOf pdQ rfl) rfl (by show 2 * 0 + _ ≤ _; exact Nat.le_of_eq rfl) (hb hby at_49) (fun _ _ => ⟨rfl, eQ, Nat.le_of_ble_eq_true rfl, Nat.le_of_ble_eq_true rfl⟩)
      dsimp only [Pt.U, Pt.locs, Pt.cells, Pt.slots] at XEQ lEQ yEQ zEQ stEQ hQEQ
      subst lEQ yEQ zEQ
      obtain ⟨hvQ, rfl, eEQ⟩ := hQEQ
      have MEQ := Fr.app (MEP) (Fr.nil n0)
      rcases hvQ with ⟨rfl, qQ⟩ | ⟨rfl, qQ⟩
      · have sg4 : ∀ target, Steps p.tables e below (TEQ.setTop (mkF m 55 #[.val (.int p1), .val (.int p2), .val (.int p3), .val (.int p4), .val (.int (Int32.ofNat kk)), .val (.ref sx), .val .null, .unset, .unset] [])) target → Steps p.tables e below (TEQ.setTop (mkF m 52 #[.val (.int p1), .val (.int p2), .val (.int p3), .val (.int p4), .val (.int (Int32.ofNat kk)), .val (.ref sx), .val .null, .unset, .unset] [(.int (1 : Int32))])) target := by
          intro target kt
          show Steps p.tables e below (TEQ.setTop (mkF m 52 #[.val (.int p1), .val (.int p2), .val (.int p3), .val (.int p4), .val (.int (Int32.ofNat kk)), .val (.ref sx), .val .null, .unset, .unset] [(.int (1 : Int32))])) _
          refine XS.ifNo XEQ.here hx rfl (hb hby at_52) rfl (by decide) ?_
          show Steps p.tables e below (TEQ.setTop (mkF m 55 #[.val (.int p1), .val (.int p2), .val (.int p3), .val (.int p4), .val (.int (Int32.ofNat kk)), .val (.ref sx), .val .null, .unset, .unset] [])) _
          exact kt
        obtain ⟨T5, X5, e5, st5⟩ := getS XEQ hx hZQ hownQ (host := "") (hw _ (List.mem_of_getElem? (i := 109) rfl)) Via.refl eEQ Gg_Q.2.2.1.1 (g := (mkF m 55 #[.val (.int p1), .val (.int p2), .val (.int p3), .val (.int p4), .val (.int (Int32.ofNat kk)), .val (.ref sx), .val .null, .unset, .unset] [])) rfl (hb hby at_55)
        have sg6 : ∀ target, Steps p.tables e below (T5.setTop (mkF m 62 #[.val (.int p1), .val (.int p2), .val (.int p3), .val (.int p4), .val (.int (Int32.ofNat kk)), .val (.ref sx), .val (.ref qc), .unset, .unset] [(.ref sx)])) target → Steps p.tables e below (T5.setTop (mkF m 58 #[.val (.int p1), .val (.int p2), .val (.int p3), .val (.int p4), .val (.int (Int32.ofNat kk)), .val (.ref sx), .val .null, .unset, .unset] [(.ref qc)])) target := by
          intro target kt
          show Steps p.tables e below (T5.setTop (mkF m 58 #[.val (.int p1), .val (.int p2), .val (.int p3), .val (.int p4), .val (.int (Int32.ofNat kk)), .val (.ref sx), .val .null, .unset, .unset] [(.ref qc)])) _
          refine XS.astore X5.here hx rfl (hb hby at_58) rfl rfl (l' := #[.val (.int p1), .val (.int p2), .val (.int p3), .val (.int p4), .val (.int (Int32.ofNat kk)), .val (.ref sx), .val (.ref qc), .unset, .unset]) rfl ?_
          show Steps p.tables e below (T5.setTop (mkF m 60 #[.val (.int p1), .val (.int p2), .val (.int p3), .val (.int p4), .val (.int (Int32.ofNat kk)), .val (.ref sx), .val (.ref qc), .unset, .unset] [])) _
          refine XS.aload X5.here hx rfl (hb hby at_60) rfl rfl ?_
          show Steps p.tables e below (T5.setTop (mkF m 62 #[.val (.int p1), .val (.int p2), .val (.int p3), .val (.int p4), .val (.int (Int32.ofNat kk)), .val (.ref sx), .val (.ref qc), .unset, .unset] [(.ref sx)])) _
          exact kt
        obtain ⟨_, _, ⟨TW, LW, kW, nW⟩, -, XW, ⟨LcW, hQW, lW, yW, zW⟩, stW⟩ := Jvm.LawKit.callS X5 hx (y := (⟨"com/example/ombudsign/ombudsign/dss/CertType", "fromValue", "(Ljava/lang/String;)Ljava/util/Optional;"⟩ : MethodName)) hownQ (mvT hZQ (hw _ (List.mem_of_getElem? (i := 5) rfl))) (mvT hZQ (hw _ (List.mem_of_getElem? (i := 6) rfl))) (mvT hZQ (hw _ (List.mem_of_getElem? (i := 7) rfl))) (mvT hZQ (hw _ (List.mem_of_getElem? (i := 8) rfl))) (by decide) (backOf (W := 0) (rmW l Z a0 hw va kv pk qc ps qs em hQ n0 (Nat.le_trans Z0 En_Q.1) Gg_Q G O_Q hG sx cs lcs h4 SK_Q) hZQ (hw _ (List.mem_of_getElem? (i := 8) rfl)) (hw _ (List.mem_of_getElem? (i := 7) rfl)) (by decide) (by decide)) (g := (mkF m 62 #[.val (.int p1), .val (.int p2), .val (.int p3), .val (.int p4), .val (.int (Int32.ofNat kk)), .val (.ref sx), .val (.ref qc), .unset, .unset] [(.ref sx)])) rfl (by rw [hml]; rfl) (argsL := [(.ref sx)]) (rest := []) (lenOf pdW rfl) rfl (by show 2 * 0 + _ ≤ _; exact Nat.le_of_eq rfl) (hb hby at_62) (fun _ _ => ⟨rfl, e5, Nat.le_of_ble_eq_true rfl, Nat.le_of_ble_eq_true rfl⟩)
        dsimp only [Pt.U, Pt.locs, Pt.cells, Pt.slots] at XW lW yW zW stW hQW
        subst lW yW zW
        obtain ⟨rv, rfl, NW, EW, AW, FW⟩ := hQW
        have MW := Fr.app (MEQ) NW
        rw [(show own_val cs pk qc = .ref qc from (if_neg qP).trans (if_pos qQ))] at FW
        have O_W := O_Q.ext EW
        have Gg_W := Gg_Q.ext EW
        have SK_W := SK_Q.ext EW
        have SP_W := SP_Q.ext EW
        have SQ_W := SQ.ext EW
        have En_W := own_ext_trans En_Q EW
        have R_W := RQ.trans (CHr.ext EW RQ.1)
        have hk_W : kQ ≤ TW.heap.size := Nat.le_trans hkQ EW.1
        have sg7 : ∀ target, Steps p.tables e below (TW.setTop (mkF m 77 #[.val (.int p1), .val (.int p2), .val (.int p3), .val (.int p4), .val (.int (Int32.ofNat kk)), .val (.ref sx), .val (.ref qc), .val (.ref rv), .unset] [.null, (.ref rv)])) target → Steps p.tables e below (TW.setTop (mkF m 65 #[.val (.int p1), .val (.int p2), .val (.int p3), .val (.int p4), .val (.int (Int32.ofNat kk)), .val (.ref sx), .val (.ref qc), .unset, .unset] [(.ref rv)])) target := by
          intro target kt
          show Steps p.tables e below (TW.setTop (mkF m 65 #[.val (.int p1), .val (.int p2), .val (.int p3), .val (.int p4), .val (.int (Int32.ofNat kk)), .val (.ref sx), .val (.ref qc), .unset, .unset] [(.ref rv)])) _
          refine XS.astore XW.here hx rfl (hb hby at_65) rfl rfl (l' := #[.val (.int p1), .val (.int p2), .val (.int p3), .val (.int p4), .val (.int (Int32.ofNat kk)), .val (.ref sx), .val (.ref qc), .val (.ref rv), .unset]) rfl ?_
          show Steps p.tables e below (TW.setTop (mkF m 67 #[.val (.int p1), .val (.int p2), .val (.int p3), .val (.int p4), .val (.int (Int32.ofNat kk)), .val (.ref sx), .val (.ref qc), .val (.ref rv), .unset] [])) _
          refine XS.aload XW.here hx rfl (hb hby at_67) rfl rfl ?_
          show Steps p.tables e below (TW.setTop (mkF m 69 #[.val (.int p1), .val (.int p2), .val (.int p3), .val (.int p4), .val (.int (Int32.ofNat kk)), .val (.ref sx), .val (.ref qc), .val (.ref rv), .unset] [(.ref rv)])) _
          refine XS.ifnonnullYes XW.here hx rfl (pc0 := 69) (pc' := 74) rfl (hb hby at_69) rfl (by decide) (by decide) ?_
          show Steps p.tables e below (TW.setTop (mkF m 74 #[.val (.int p1), .val (.int p2), .val (.int p3), .val (.int p4), .val (.int (Int32.ofNat kk)), .val (.ref sx), .val (.ref qc), .val (.ref rv), .unset] [])) _
          refine XS.aload XW.here hx rfl (hb hby at_74) rfl rfl ?_
          show Steps p.tables e below (TW.setTop (mkF m 76 #[.val (.int p1), .val (.int p2), .val (.int p3), .val (.int p4), .val (.int (Int32.ofNat kk)), .val (.ref sx), .val (.ref qc), .val (.ref rv), .unset] [(.ref rv)])) _
          refine XS.aconstNull XW.here hx rfl (hb hby at_76) ?_
          show Steps p.tables e below (TW.setTop (mkF m 77 #[.val (.int p1), .val (.int p2), .val (.int p3), .val (.int p4), .val (.int (Int32.ofNat kk)), .val (.ref sx), .val (.ref qc), .val (.ref rv), .unset] [.null, (.ref rv)])) _
          exact kt
        obtain ⟨cqR, kqR, qaR, qbR, qcR⟩ := isOf hZQ rfl AW
        obtain ⟨_, _, ⟨TR, LR, kR, nR⟩, -, XR, ⟨LcR, hQR, lR, yR, zR⟩, stR⟩ := XW.virtualBack hx (y := (⟨"java/util/Optional", "orElse", "(Ljava/lang/Object;)Ljava/lang/Object;"⟩ : MethodName)) (z := (⟨"java/util/Optional", "orElse", "(Ljava/lang/Object;)Ljava/lang/Object;"⟩ : MethodName)) hownQ (mvT hZQ (hw _ (List.mem_of_getElem? (i := 39) rfl))) (mvT hZQ (hw _ (List.mem_of_getElem? (i := 40) rfl))) (notFace_of_selects (args := #[]) (mvT hZQ (hw _ (List.mem_of_getElem? (i := 42) rfl)))) (mvT hZQ (hw _ (List.mem_of_getElem? (i := 42) rfl))) (mvT hZQ (hw _ (List.mem_of_getElem? (i := 41) rfl))) (by decide) (backOf (W := 0) (rmR l Z a0 hw rv qc TW.heap n0 FW) hZQ (hw _ (List.mem_of_getElem? (i := 43) rfl)) (hw _ (List.mem_of_getElem? (i := 36) rfl)) (by decide) (by decide)) qaR qcR (g := (mkF m 77 #[.val (.int p1), .val (.int p2), .val (.int p3), .val (.int p4), .val (.int (Int32.ofNat kk)), .val (.ref sx), .val (.ref qc), .val (.ref rv), .unset] [.null, (.ref rv)])) rfl (by rw [hml]; rfl) (Steps.refl _) (argsL := [.null]) (rest := []) (lenOf pdR rfl) rfl (by show 2 * 0 + _ ≤ _; exact Nat.le_of_eq rfl) (hb hby at_77) (fun _ _ => ⟨rfl, rfl, Nat.le_of_ble_eq_true rfl, Nat.le_of_ble_eq_true rfl⟩)
        dsimp only [Pt.U, Pt.locs, Pt.cells, Pt.slots] at XR lR yR zR stR hQR
        subst lR yR zR
        obtain ⟨rfl, NR, eR⟩ := hQR
        have MR := Fr.app (MW) NR
        obtain ⟨T8, X8, e8, st8⟩ := castY XR hx hZQ hownQ (hw _ (List.mem_of_getElem? (i := 107) rfl)) eR (Ins.self Gg_W.2.2.1.2.1) (g := (mkF m 80 #[.val (.int p1), .val (.int p2), .val (.int p3), .val (.int p4), .val (.int (Int32.ofNat kk)), .val (.ref sx), .val (.ref qc), .val (.ref rv), .unset] [(.ref qc)])) rfl rfl (hb hby at_80)
        have sg9 : ∀ target, Steps p.tables e below (T8.setTop (mkF m 97 #[.val (.int p1), .val (.int p2), .val (.int p3), .val (.int p4), .val (.int (Int32.ofNat kk)), .val (.ref sx), .val (.ref qc), .val (.ref rv), .val (.ref qc)] [(.int (1 : Int32))])) target → Steps p.tables e below (T8.setTop (mkF m 83 #[.val (.int p1), .val (.int p2), .val (.int p3), .val (.int p4), .val (.int (Int32.ofNat kk)), .val (.ref sx), .val (.ref qc), .val (.ref rv), .unset] [(.ref qc)])) target := by
          intro target kt
          show Steps p.tables e below (T8.setTop (mkF m 83 #[.val (.int p1), .val (.int p2), .val (.int p3), .val (.int p4), .val (.int (Int32.ofNat kk)), .val (.ref sx), .val (.ref qc), .val (.ref rv), .unset] [(.ref qc)])) _
          refine XS.astore X8.here hx rfl (hb hby at_83) rfl rfl (l' := #[.val (.int p1), .val (.int p2), .val (.int p3), .val (.int p4), .val (.int (Int32.ofNat kk)), .val (.ref sx), .val (.ref qc), .val (.ref rv), .val (.ref qc)]) rfl ?_
          show Steps p.tables e below (T8.setTop (mkF m 85 #[.val (.int p1), .val (.int p2), .val (.int p3), .val (.int p4), .val (.int (Int32.ofNat kk)), .val (.ref sx), .val (.ref qc), .val (.ref rv), .val (.ref qc)] [])) _
          refine XS.aload X8.here hx rfl (hb hby at_85) rfl rfl ?_
          show Steps p.tables e below (T8.setTop (mkF m 87 #[.val (.int p1), .val (.int p2), .val (.int p3), .val (.int p4), .val (.int (Int32.ofNat kk)), .val (.ref sx), .val (.ref qc), .val (.ref rv), .val (.ref qc)] [(.ref qc)])) _
          refine XS.aload X8.here hx rfl (hb hby at_87) rfl rfl ?_
          show Steps p.tables e below (T8.setTop (mkF m 89 #[.val (.int p1), .val (.int p2), .val (.int p3), .val (.int p4), .val (.int (Int32.ofNat kk)), .val (.ref sx), .val (.ref qc), .val (.ref rv), .val (.ref qc)] [(.ref qc), (.ref qc)])) _
          refine acmp X8 hx rfl (x := (.ref qc)) (y := (.ref qc)) rfl rfl (pc0 := 89) (pc' := 92) (same := true) rfl (hb hby at_89) rfl (by simp) (by decide) (by decide) ?_
          show Steps p.tables e below (T8.setTop (mkF m 92 #[.val (.int p1), .val (.int p2), .val (.int p3), .val (.int p4), .val (.int (Int32.ofNat kk)), .val (.ref sx), .val (.ref qc), .val (.ref rv), .val (.ref qc)] [])) _
          refine XS.iconst X8.here hx rfl (hb hby at_92) ?_
          show Steps p.tables e below (T8.setTop (mkF m 93 #[.val (.int p1), .val (.int p2), .val (.int p3), .val (.int p4), .val (.int (Int32.ofNat kk)), .val (.ref sx), .val (.ref qc), .val (.ref rv), .val (.ref qc)] [(.int (1 : Int32))])) _
          refine XS.goto X8.here hx rfl (pc0 := 93) (pc' := 97) rfl (hb hby at_93) (by decide) (by decide) ?_
          show Steps p.tables e below (T8.setTop (mkF m 97 #[.val (.int p1), .val (.int p2), .val (.int p3), .val (.int p4), .val (.int (Int32.ofNat kk)), .val (.ref sx), .val (.ref qc), .val (.ref rv), .val (.ref qc)] [(.int (1 : Int32))])) _
          exact kt
        obtain ⟨fs, hr, hrun, hended, hW⟩ := X8.leaveW hSQ (by rw [e8]; exact hk_W) (v := some (.int (1 : Int32))) (fun h => by rw [Bd.returns] at h; cases h)
        refine ⟨_, _, castTop (ef_0 m p1 p2 p3 p4) ?_, hrun, hended, _, _, rfl, ⟨rfl, MR⟩, own_w hW (by decide) (by decide)⟩
        show Steps p.tables e below (s₁.setTop (mkF m 0 #[.val (.int p1), .val (.int p2), .val (.int p3), .val (.int p4), .unset, .unset, .unset, .unset, .unset] [])) _
        refine sg1 _ ?_
        show Steps p.tables e below (s₁.setTop (mkF m 14 #[.val (.int p1), .val (.int p2), .val (.int p3), .val (.int p4), .val (.int (Int32.ofNat kk)), .unset, .unset, .unset, .unset] [(.int p4), (.int p3), (.int p2), (.int (Int32.ofNat kk))])) _
        refine stK.trans ?_
        show Steps p.tables e below (TK.setTop (mkF m 17 #[.val (.int p1), .val (.int p2), .val (.int p3), .val (.int p4), .val (.int (Int32.ofNat kk)), .unset, .unset, .unset, .unset] [(.ref sx)])) _
        refine sg2 _ ?_
        show Steps p.tables e below (TK.setTop (mkF m 29 #[.val (.int p1), .val (.int p2), .val (.int p3), .val (.int p4), .val (.int (Int32.ofNat kk)), .val (.ref sx), .val .null, .unset, .unset] [(.ref sx)])) _
        refine stP _ ?_
        show Steps p.tables e below (TP.setTop (mkF m 31 #[.val (.int p1), .val (.int p2), .val (.int p3), .val (.int p4), .val (.int (Int32.ofNat kk)), .val (.ref sx), .val .null, .unset, .unset] [(.ref uP), (.ref sx)])) _
        refine stEP.trans ?_
        show Steps p.tables e below (TEP.setTop (mkF m 34 #[.val (.int p1), .val (.int p2), .val (.int p3), .val (.int p4), .val (.int (Int32.ofNat kk)), .val (.ref sx), .val .null, .unset, .unset] [(.int (0 : Int32))])) _
        refine sg3 _ ?_
        show Steps p.tables e below (TEP.setTop (mkF m 47 #[.val (.int p1), .val (.int p2), .val (.int p3), .val (.int p4), .val (.int (Int32.ofNat kk)), .val (.ref sx), .val .null, .unset, .unset] [(.ref sx)])) _
        refine stQ _ ?_
        show Steps p.tables e below (TQ.setTop (mkF m 49 #[.val (.int p1), .val (.int p2), .val (.int p3), .val (.int p4), .val (.int (Int32.ofNat kk)), .val (.ref sx), .val .null, .unset, .unset] [(.ref uQ), (.ref sx)])) _
        refine stEQ.trans ?_
        show Steps p.tables e below (TEQ.setTop (mkF m 52 #[.val (.int p1), .val (.int p2), .val (.int p3), .val (.int p4), .val (.int (Int32.ofNat kk)), .val (.ref sx), .val .null, .unset, .unset] [(.int (1 : Int32))])) _
        refine sg4 _ ?_
        show Steps p.tables e below (TEQ.setTop (mkF m 55 #[.val (.int p1), .val (.int p2), .val (.int p3), .val (.int p4), .val (.int (Int32.ofNat kk)), .val (.ref sx), .val .null, .unset, .unset] [])) _
        refine st5 _ ?_
        show Steps p.tables e below (T5.setTop (mkF m 58 #[.val (.int p1), .val (.int p2), .val (.int p3), .val (.int p4), .val (.int (Int32.ofNat kk)), .val (.ref sx), .val .null, .unset, .unset] [(.ref qc)])) _
        refine sg6 _ ?_
        show Steps p.tables e below (T5.setTop (mkF m 62 #[.val (.int p1), .val (.int p2), .val (.int p3), .val (.int p4), .val (.int (Int32.ofNat kk)), .val (.ref sx), .val (.ref qc), .unset, .unset] [(.ref sx)])) _
        refine stW _ ?_
        show Steps p.tables e below (TW.setTop (mkF m 65 #[.val (.int p1), .val (.int p2), .val (.int p3), .val (.int p4), .val (.int (Int32.ofNat kk)), .val (.ref sx), .val (.ref qc), .unset, .unset] [(.ref rv)])) _
        refine sg7 _ ?_
        show Steps p.tables e below (TW.setTop (mkF m 77 #[.val (.int p1), .val (.int p2), .val (.int p3), .val (.int p4), .val (.int (Int32.ofNat kk)), .val (.ref sx), .val (.ref qc), .val (.ref rv), .unset] [.null, (.ref rv)])) _
        refine stR.trans ?_
        show Steps p.tables e below (TR.setTop (mkF m 80 #[.val (.int p1), .val (.int p2), .val (.int p3), .val (.int p4), .val (.int (Int32.ofNat kk)), .val (.ref sx), .val (.ref qc), .val (.ref rv), .unset] [(.ref qc)])) _
        refine st8 _ ?_
        show Steps p.tables e below (T8.setTop (mkF m 83 #[.val (.int p1), .val (.int p2), .val (.int p3), .val (.int p4), .val (.int (Int32.ofNat kk)), .val (.ref sx), .val (.ref qc), .val (.ref rv), .unset] [(.ref qc)])) _
        refine sg9 _ ?_
        show Steps p.tables e below (T8.setTop (mkF m 97 #[.val (.int p1), .val (.int p2), .val (.int p3), .val (.int p4), .val (.int (Int32.ofNat kk)), .val (.ref sx), .val (.ref qc), .val (.ref rv), .val (.ref qc)] [(.int (1 : Int32))])) _
        exact retN X8 hx (t := .boolean) Bd.returns (by simp) (hb hby at_97) hr
      · have sg4 : ∀ target, Steps p.tables e below (TEQ.setTop (mkF m 62 #[.val (.int p1), .val (.int p2), .val (.int p3), .val (.int p4), .val (.int (Int32.ofNat kk)), .val (.ref sx), .val .null, .unset, .unset] [(.ref sx)])) target → Steps p.tables e below (TEQ.setTop (mkF m 52 #[.val (.int p1), .val (.int p2), .val (.int p3), .val (.int p4), .val (.int (Int32.ofNat kk)), .val (.ref sx), .val .null, .unset, .unset] [(.int (0 : Int32))])) target := by
          intro target kt
          show Steps p.tables e below (TEQ.setTop (mkF m 52 #[.val (.int p1), .val (.int p2), .val (.int p3), .val (.int p4), .val (.int (Int32.ofNat kk)), .val (.ref sx), .val .null, .unset, .unset] [(.int (0 : Int32))])) _
          refine XS.ifYes XEQ.here hx rfl (pc0 := 52) (pc' := 60) rfl (hb hby at_52) rfl (by decide) (by decide) (by decide) ?_
          show Steps p.tables e below (TEQ.setTop (mkF m 60 #[.val (.int p1), .val (.int p2), .val (.int p3), .val (.int p4), .val (.int (Int32.ofNat kk)), .val (.ref sx), .val .null, .unset, .unset] [])) _
          refine XS.aload XEQ.here hx rfl (hb hby at_60) rfl rfl ?_
          show Steps p.tables e below (TEQ.setTop (mkF m 62 #[.val (.int p1), .val (.int p2), .val (.int p3), .val (.int p4), .val (.int (Int32.ofNat kk)), .val (.ref sx), .val .null, .unset, .unset] [(.ref sx)])) _
          exact kt
        obtain ⟨_, _, ⟨TW, LW, kW, nW⟩, -, XW, ⟨LcW, hQW, lW, yW, zW⟩, stW⟩ := Jvm.LawKit.callS XEQ hx (y := (⟨"com/example/ombudsign/ombudsign/dss/CertType", "fromValue", "(Ljava/lang/String;)Ljava/util/Optional;"⟩ : MethodName)) hownQ (mvT hZQ (hw _ (List.mem_of_getElem? (i := 5) rfl))) (mvT hZQ (hw _ (List.mem_of_getElem? (i := 6) rfl))) (mvT hZQ (hw _ (List.mem_of_getElem? (i := 7) rfl))) (mvT hZQ (hw _ (List.mem_of_getElem? (i := 8) rfl))) (by decide) (backOf (W := 0) (rmW l Z a0 hw va kv pk qc ps qs em hQ n0 (Nat.le_trans Z0 En_Q.1) Gg_Q G O_Q hG sx cs lcs h4 SK_Q) hZQ (hw _ (List.mem_of_getElem? (i := 8) rfl)) (hw _ (List.mem_of_getElem? (i := 7) rfl)) (by decide) (by decide)) (g := (mkF m 62 #[.val (.int p1), .val (.int p2), .val (.int p3), .val (.int p4), .val (.int (Int32.ofNat kk)), .val (.ref sx), .val .null, .unset, .unset] [(.ref sx)])) rfl (by rw [hml]; rfl) (argsL := [(.ref sx)]) (rest := []) (lenOf pdW rfl) rfl (by show 2 * 0 + _ ≤ _; exact Nat.le_of_eq rfl) (hb hby at_62) (fun _ _ => ⟨rfl, eEQ, Nat.le_of_ble_eq_true rfl, Nat.le_of_ble_eq_true rfl⟩)
        dsimp only [Pt.U, Pt.locs, Pt.cells, Pt.slots] at XW lW yW zW stW hQW
        subst lW yW zW
        obtain ⟨rv, rfl, NW, EW, AW, FW⟩ := hQW
        have MW := Fr.app (MEQ) NW
        rw [(show own_val cs pk qc = .null from (if_neg qP).trans (if_neg qQ))] at FW
        have O_W := O_Q.ext EW
        have Gg_W := Gg_Q.ext EW
        have SK_W := SK_Q.ext EW
        have SP_W := SP_Q.ext EW
        have SQ_W := SQ.ext EW
        have En_W := own_ext_trans En_Q EW
        have R_W := RQ.trans (CHr.ext EW RQ.1)
        have hk_W : kQ ≤ TW.heap.size := Nat.le_trans hkQ EW.1
        have sg5 : ∀ target, Steps p.tables e below (TW.setTop (mkF m 77 #[.val (.int p1), .val (.int p2), .val (.int p3), .val (.int p4), .val (.int (Int32.ofNat kk)), .val (.ref sx), .val .null, .val (.ref rv), .unset] [.null, (.ref rv)])) target → Steps p.tables e below (TW.setTop (mkF m 65 #[.val (.int p1), .val (.int p2), .val (.int p3), .val (.int p4), .val (.int (Int32.ofNat kk)), .val (.ref sx), .val .null, .unset, .unset] [(.ref rv)])) target := by
          intro target kt
          show Steps p.tables e below (TW.setTop (mkF m 65 #[.val (.int p1), .val (.int p2), .val (.int p3), .val (.int p4), .val (.int (Int32.ofNat kk)), .val (.ref sx), .val .null, .unset, .unset] [(.ref rv)])) _
          refine XS.astore XW.here hx rfl (hb hby at_65) rfl rfl (l' := #[.val (.int p1), .val (.int p2), .val (.int p3), .val (.int p4), .val (.int (Int32.ofNat kk)), .val (.ref sx), .val .null, .val (.ref rv), .unset]) rfl ?_
          show Steps p.tables e below (TW.setTop (mkF m 67 #[.val (.int p1), .val (.int p2), .val (.int p3), .val (.int p4), .val (.int (Int32.ofNat kk)), .val (.ref sx), .val .null, .val (.ref rv), .unset] [])) _
          refine XS.aload XW.here hx rfl (hb hby at_67) rfl rfl ?_
          show Steps p.tables e below (TW.setTop (mkF m 69 #[.val (.int p1), .val (.int p2), .val (.int p3), .val (.int p4), .val (.int (Int32.ofNat kk)), .val (.ref sx), .val .null, .val (.ref rv), .unset] [(.ref rv)])) _
          refine XS.ifnonnullYes XW.here hx rfl (pc0 := 69) (pc' := 74) rfl (hb hby at_69) rfl (by decide) (by decide) ?_
          show Steps p.tables e below (TW.setTop (mkF m 74 #[.val (.int p1), .val (.int p2), .val (.int p3), .val (.int p4), .val (.int (Int32.ofNat kk)), .val (.ref sx), .val .null, .val (.ref rv), .unset] [])) _
          refine XS.aload XW.here hx rfl (hb hby at_74) rfl rfl ?_
          show Steps p.tables e below (TW.setTop (mkF m 76 #[.val (.int p1), .val (.int p2), .val (.int p3), .val (.int p4), .val (.int (Int32.ofNat kk)), .val (.ref sx), .val .null, .val (.ref rv), .unset] [(.ref rv)])) _
          refine XS.aconstNull XW.here hx rfl (hb hby at_76) ?_
          show Steps p.tables e below (TW.setTop (mkF m 77 #[.val (.int p1), .val (.int p2), .val (.int p3), .val (.int p4), .val (.int (Int32.ofNat kk)), .val (.ref sx), .val .null, .val (.ref rv), .unset] [.null, (.ref rv)])) _
          exact kt
        obtain ⟨cqR, kqR, qaR, qbR, qcR⟩ := isOf hZQ rfl AW
        obtain ⟨_, _, ⟨TR, LR, kR, nR⟩, -, XR, ⟨LcR, hQR, lR, yR, zR⟩, stR⟩ := XW.virtualBack hx (y := (⟨"java/util/Optional", "orElse", "(Ljava/lang/Object;)Ljava/lang/Object;"⟩ : MethodName)) (z := (⟨"java/util/Optional", "orElse", "(Ljava/lang/Object;)Ljava/lang/Object;"⟩ : MethodName)) hownQ (mvT hZQ (hw _ (List.mem_of_getElem? (i := 39) rfl))) (mvT hZQ (hw _ (List.mem_of_getElem? (i := 40) rfl))) (notFace_of_selects (args := #[]) (mvT hZQ (hw _ (List.mem_of_getElem? (i := 42) rfl)))) (mvT hZQ (hw _ (List.mem_of_getElem? (i := 42) rfl))) (mvT hZQ (hw _ (List.mem_of_getElem? (i := 41) rfl))) (by decide) (backOf (W := 0) (rmRn l Z a0 hw rv rv TW.heap n0 FW) hZQ (hw _ (List.mem_of_getElem? (i := 43) rfl)) (hw _ (List.mem_of_getElem? (i := 36) rfl)) (by decide) (by decide)) qaR qcR (g := (mkF m 77 #[.val (.int p1), .val (.int p2), .val (.int p3), .val (.int p4), .val (.int (Int32.ofNat kk)), .val (.ref sx), .val .null, .val (.ref rv), .unset] [.null, (.ref rv)])) rfl (by rw [hml]; rfl) (Steps.refl _) (argsL := [.null]) (rest := []) (lenOf pdR rfl) rfl (by show 2 * 0 + _ ≤ _; exact Nat.le_of_eq rfl) (hb hby at_77) (fun _ _ => ⟨rfl, rfl, Nat.le_of_ble_eq_true rfl, Nat.le_of_ble_eq_true rfl⟩)
        dsimp only [Pt.U, Pt.locs, Pt.cells, Pt.slots] at XR lR yR zR stR hQR
        subst lR yR zR
        obtain ⟨rfl, NR, eR⟩ := hQR
        have MR := Fr.app (MW) NR
        have stc := XR.checkcastNull hx (g := (mkF m 80 #[.val (.int p1), .val (.int p2), .val (.int p3), .val (.int p4), .val (.int (Int32.ofNat kk)), .val (.ref sx), .val .null, .val (.ref rv), .unset] [.null])) rfl rfl (hb hby at_80)
        have sg6 : ∀ target, Steps p.tables e below (TR.setTop (mkF m 97 #[.val (.int p1), .val (.int p2), .val (.int p3), .val (.int p4), .val (.int (Int32.ofNat kk)), .val (.ref sx), .val .null, .val (.ref rv), .val .null] [(.int (1 : Int32))])) target → Steps p.tables e below (TR.setTop (mkF m 83 #[.val (.int p1), .val (.int p2), .val (.int p3), .val (.int p4), .val (.int (Int32.ofNat kk)), .val (.ref sx), .val .null, .val (.ref rv), .unset] [.null])) target := by
          intro target kt
          show Steps p.tables e below (TR.setTop (mkF m 83 #[.val (.int p1), .val (.int p2), .val (.int p3), .val (.int p4), .val (.int (Int32.ofNat kk)), .val (.ref sx), .val .null, .val (.ref rv), .unset] [.null])) _
          refine XS.astore XR.here hx rfl (hb hby at_83) rfl rfl (l' := #[.val (.int p1), .val (.int p2), .val (.int p3), .val (.int p4), .val (.int (Int32.ofNat kk)), .val (.ref sx), .val .null, .val (.ref rv), .val .null]) rfl ?_
          show Steps p.tables e below (TR.setTop (mkF m 85 #[.val (.int p1), .val (.int p2), .val (.int p3), .val (.int p4), .val (.int (Int32.ofNat kk)), .val (.ref sx), .val .null, .val (.ref rv), .val .null] [])) _
          refine XS.aload XR.here hx rfl (hb hby at_85) rfl rfl ?_
          show Steps p.tables e below (TR.setTop (mkF m 87 #[.val (.int p1), .val (.int p2), .val (.int p3), .val (.int p4), .val (.int (Int32.ofNat kk)), .val (.ref sx), .val .null, .val (.ref rv), .val .null] [.null])) _
          refine XS.aload XR.here hx rfl (hb hby at_87) rfl rfl ?_
          show Steps p.tables e below (TR.setTop (mkF m 89 #[.val (.int p1), .val (.int p2), .val (.int p3), .val (.int p4), .val (.int (Int32.ofNat kk)), .val (.ref sx), .val .null, .val (.ref rv), .val .null] [.null, .null])) _
          refine acmp XR hx rfl (x := .null) (y := .null) rfl rfl (pc0 := 89) (pc' := 92) (same := true) rfl (hb hby at_89) rfl (by simp) (by decide) (by decide) ?_
          show Steps p.tables e below (TR.setTop (mkF m 92 #[.val (.int p1), .val (.int p2), .val (.int p3), .val (.int p4), .val (.int (Int32.ofNat kk)), .val (.ref sx), .val .null, .val (.ref rv), .val .null] [])) _
          refine XS.iconst XR.here hx rfl (hb hby at_92) ?_
          show Steps p.tables e below (TR.setTop (mkF m 93 #[.val (.int p1), .val (.int p2), .val (.int p3), .val (.int p4), .val (.int (Int32.ofNat kk)), .val (.ref sx), .val .null, .val (.ref rv), .val .null] [(.int (1 : Int32))])) _
          refine XS.goto XR.here hx rfl (pc0 := 93) (pc' := 97) rfl (hb hby at_93) (by decide) (by decide) ?_
          show Steps p.tables e below (TR.setTop (mkF m 97 #[.val (.int p1), .val (.int p2), .val (.int p3), .val (.int p4), .val (.int (Int32.ofNat kk)), .val (.ref sx), .val .null, .val (.ref rv), .val .null] [(.int (1 : Int32))])) _
          exact kt
        obtain ⟨fs, hr, hrun, hended, hW⟩ := XR.leaveW hSQ (by rw [eR]; exact hk_W) (v := some (.int (1 : Int32))) (fun h => by rw [Bd.returns] at h; cases h)
        refine ⟨_, _, castTop (ef_0 m p1 p2 p3 p4) ?_, hrun, hended, _, _, rfl, ⟨rfl, MR⟩, own_w hW (by decide) (by decide)⟩
        show Steps p.tables e below (s₁.setTop (mkF m 0 #[.val (.int p1), .val (.int p2), .val (.int p3), .val (.int p4), .unset, .unset, .unset, .unset, .unset] [])) _
        refine sg1 _ ?_
        show Steps p.tables e below (s₁.setTop (mkF m 14 #[.val (.int p1), .val (.int p2), .val (.int p3), .val (.int p4), .val (.int (Int32.ofNat kk)), .unset, .unset, .unset, .unset] [(.int p4), (.int p3), (.int p2), (.int (Int32.ofNat kk))])) _
        refine stK.trans ?_
        show Steps p.tables e below (TK.setTop (mkF m 17 #[.val (.int p1), .val (.int p2), .val (.int p3), .val (.int p4), .val (.int (Int32.ofNat kk)), .unset, .unset, .unset, .unset] [(.ref sx)])) _
        refine sg2 _ ?_
        show Steps p.tables e below (TK.setTop (mkF m 29 #[.val (.int p1), .val (.int p2), .val (.int p3), .val (.int p4), .val (.int (Int32.ofNat kk)), .val (.ref sx), .val .null, .unset, .unset] [(.ref sx)])) _
        refine stP _ ?_
        show Steps p.tables e below (TP.setTop (mkF m 31 #[.val (.int p1), .val (.int p2), .val (.int p3), .val (.int p4), .val (.int (Int32.ofNat kk)), .val (.ref sx), .val .null, .unset, .unset] [(.ref uP), (.ref sx)])) _
        refine stEP.trans ?_
        show Steps p.tables e below (TEP.setTop (mkF m 34 #[.val (.int p1), .val (.int p2), .val (.int p3), .val (.int p4), .val (.int (Int32.ofNat kk)), .val (.ref sx), .val .null, .unset, .unset] [(.int (0 : Int32))])) _
        refine sg3 _ ?_
        show Steps p.tables e below (TEP.setTop (mkF m 47 #[.val (.int p1), .val (.int p2), .val (.int p3), .val (.int p4), .val (.int (Int32.ofNat kk)), .val (.ref sx), .val .null, .unset, .unset] [(.ref sx)])) _
        refine stQ _ ?_
        show Steps p.tables e below (TQ.setTop (mkF m 49 #[.val (.int p1), .val (.int p2), .val (.int p3), .val (.int p4), .val (.int (Int32.ofNat kk)), .val (.ref sx), .val .null, .unset, .unset] [(.ref uQ), (.ref sx)])) _
        refine stEQ.trans ?_
        show Steps p.tables e below (TEQ.setTop (mkF m 52 #[.val (.int p1), .val (.int p2), .val (.int p3), .val (.int p4), .val (.int (Int32.ofNat kk)), .val (.ref sx), .val .null, .unset, .unset] [(.int (0 : Int32))])) _
        refine sg4 _ ?_
        show Steps p.tables e below (TEQ.setTop (mkF m 62 #[.val (.int p1), .val (.int p2), .val (.int p3), .val (.int p4), .val (.int (Int32.ofNat kk)), .val (.ref sx), .val .null, .unset, .unset] [(.ref sx)])) _
        refine stW _ ?_
        show Steps p.tables e below (TW.setTop (mkF m 65 #[.val (.int p1), .val (.int p2), .val (.int p3), .val (.int p4), .val (.int (Int32.ofNat kk)), .val (.ref sx), .val .null, .unset, .unset] [(.ref rv)])) _
        refine sg5 _ ?_
        show Steps p.tables e below (TW.setTop (mkF m 77 #[.val (.int p1), .val (.int p2), .val (.int p3), .val (.int p4), .val (.int (Int32.ofNat kk)), .val (.ref sx), .val .null, .val (.ref rv), .unset] [.null, (.ref rv)])) _
        refine stR.trans ?_
        show Steps p.tables e below (TR.setTop (mkF m 80 #[.val (.int p1), .val (.int p2), .val (.int p3), .val (.int p4), .val (.int (Int32.ofNat kk)), .val (.ref sx), .val .null, .val (.ref rv), .unset] [.null])) _
        refine stc _ ?_
        show Steps p.tables e below (TR.setTop (mkF m 83 #[.val (.int p1), .val (.int p2), .val (.int p3), .val (.int p4), .val (.int (Int32.ofNat kk)), .val (.ref sx), .val .null, .val (.ref rv), .unset] [.null])) _
        refine sg6 _ ?_
        show Steps p.tables e below (TR.setTop (mkF m 97 #[.val (.int p1), .val (.int p2), .val (.int p3), .val (.int p4), .val (.int (Int32.ofNat kk)), .val (.ref sx), .val .null, .val (.ref rv), .val .null] [(.int (1 : Int32))])) _
        exact retN XR hx (t := .boolean) Bd.returns (by simp) (hb hby at_97) hr
theorem own_lenAt {t : Term} {args : Array Value} {s : State} {a : Addr} {c : Cell} {n : Int32} (et : t.eval args s none [] s = some (.ref a)) (ha : s.arrayAt? a = some c) (h : (Term.length t).eval args s none [] s = some (.int n)) : c.slots.size < 2 ^ 31 ∧ c.slots.size.toInt32 = n := by
  simp [Term.eval, et, ha] at h
  exact h
theorem own_eqR {Z : State} {args : Array Value} {X F : Term} {y : Addr} (hF : F.eval args Z none [] Z = some (.ref y)) (h : (Cond.eq X F).value args Z none Z [] = some true) : X.eval args Z none [] Z = some (.ref y) := by
  obtain ⟨x, y', e1, e2, k1, k2⟩ := cmp_v (Or.inl h)
  cases hF.symm.trans e2
  rw [e1]
  have q : x.isRef = true := by cases x <;> simp_all [Kin, Value.isRef]
  have r := (eq_R e1 hF q rfl).symm.trans h
  simpa using r
theorem own_elemAt {t : Term} {args : Array Value} {s : State} {a : Addr} {c : Cell} {j : Int32} {v : Value} (et : t.eval args s none [] s = some (.ref a)) (ha : s.arrayAt? a = some c) (hj : ¬ j < 0) (h : (Term.elem t (.int j)).eval args s none [] s = some v) : c.slots[j.toNatClampNeg]? = some v := (elem_f et (Term.int_eval j) ha hj).symm.trans h
/-- a String of known bytes, from the words of the case -/
theorem own_strAt {s : State} {args : Array Value} {t : Term} {x : Addr} {cs : List Int32} (hf : Fit s) (hb : cs.length < 2 ^ 31) (et : t.eval args s none [] s = some (.ref x)) (ex : Exa s s.heap x "java/lang/String")
    (hc : (Cond.eq (.field t "java/lang/String" "coder" "B") (.int 0)).value args s none s [] = some true)
    (ha : (Cond.arrayOf (.field t "java/lang/String" "value" "[B") .byte).value args s none s [] = some true)
    (hl : (Cond.eq (.length (.field t "java/lang/String" "value" "[B")) (.int (Int32.ofNat cs.length))).value args s none s [] = some true)
    (he : ∀ j, j < cs.length → (Cond.eq (.elem (.field t "java/lang/String" "value" "[B") (.int (Int32.ofNat j))) (.int (cs.getD j 0).toInt8.toInt32)).value args s none s [] = some true) : own_Str s s.heap x cs := by
  have e1 := eqv_i (Term.int_eval (0)) hc
  obtain ⟨b, e2⟩ := arr_v ha
  obtain ⟨cb, Ab⟩ := Arr.start e2 ha
  have hat := Ab.fin (Vm.Alike.refl _)
  obtain ⟨l1, l2⟩ := own_lenAt e2 hat (eqv_i (Term.int_eval _) hl)
  have n32 : ∀ j, j < 2 ^ 31 → (Int32.ofNat j).toNatClampNeg = j := fun j hj => by rw [Int32.toNatClampNeg, Int32.toInt_ofNat_of_lt hj]; rfl
  have nn : ∀ j, j < 2 ^ 31 → ¬ Int32.ofNat j < 0 := fun j hj => by rw [Int32.lt_iff_toInt_lt, Int32.toInt_ofNat_of_lt hj, show (0 : Int32).toInt = 0 from rfl]; omega
  have H : ∀ j, j < cs.length → cb.slots[j]? = some (.int (cs.getD j 0).toInt8.toInt32) := fun j hj => by
    have q := own_elemAt e2 hat (nn j (by omega)) (eqv_i (Term.int_eval _) (he j hj))
    rwa [n32 j (by omega)] at q
  refine ⟨ex, Fld.start ((fld_at et).symm.trans e1), b, cb.cls, Fld.start ((fld_at et).symm.trans e2), Arv.start hf Ab l1 l2 (nn _ hb) (by rw [n32 _ hb]; simp) ?_⟩
  have key : ∀ (ds : List Int32) (i : Nat), (∀ j, j < ds.length → cb.slots[i + j]? = some (.int (ds.getD j 0).toInt8.toInt32)) → HasL cb i ((ds.map fun c => c.toInt8.toInt32).map Value.int) := by
    intro ds
    induction ds with
    | nil => intro i _; trivial
    | cons d ds ih =>
      intro i hd
      refine ⟨by have := hd 0 (by simp); simpa using this, ih (i + 1) fun j hj => ?_⟩
      have := hd (j + 1) (by simp; omega)
      rw [show i + 1 + j = i + (j + 1) by omega]
      simpa using this
  exact key cs 0 (fun j hj => by rw [Nat.zero_add]; exact H j hj)
set_option maxRecDepth 65536 in
set_option maxHeartbeats 40000000 in
theorem comes_1 {Post : Tables → Env → Array Value → State → Outcome → State → Prop} (hpost : ∀ tb e args s v u, (limb_1_1.after args s (.returned v) u = true ∧ limb_1_2.after args s (.returned v) u = true ∧ True) → ReturnedEndW s (.returned v) u (Jvm.fieldLocs frame_1_writes args s ++ Jvm.arrayLocs frame_1_arrays args s ++ Jvm.staticLocs frame_1_statics s) 24 3200 → Post tb e args s (.returned v) u) :
    ArmFor flags0 classFile x code maxLocals ret World_1 tables_1 room_1 Calls_1 rest_1 Pre_1 Post := by
  intro l hfl _ _ p e ha hc hk s m args below hf hA hF happ hP
  obtain ⟨hcalls, hrest, hpre⟩ := hP
  obtain ⟨-, -, -, hnamed, -, -, -, hat⟩ := (Spec.applies_iff hf).mp happ
  obtain ⟨hg, hn⟩ := and_e (Cond.before_iff.mp (show (Jvm.Cond.and given_1 narrow_1).before args s = true from hpre))
  obtain ⟨h1, h2⟩ := and_e hg
  obtain ⟨h3, h4⟩ := and_e h2
  obtain ⟨h5, h6⟩ := and_e h4
  obtain ⟨h7, h8⟩ := and_e h6
  obtain ⟨w0, w1, w2, w3, rfl⟩ : ∃ w0 w1 w2 w3 : Value, args = #[w0, w1, w2, w3] := by
    have hs : args.size = 4 := by simpa [Cond.value, given_1] using h1
    obtain ⟨L⟩ := args
    match L, hs with
    | [w0, w1, w2, w3], _ => exact ⟨w0, w1, w2, w3, rfl⟩
  have hw := fun d (hd : d ∈ tables_1) => atoms_spec (ws := Jvm.Cond.code x code maxLocals ret :: tables_1) hat d (List.mem_cons_of_mem _ hd)
  obtain ⟨hsets, hown0⟩ := atoms_of _ (rest_1_c_eq ▸ (show rest_1_c.before _ s = true from hrest))
  have hfit : Fit s := fun {y c} hc i hi => by
    obtain ⟨ha, rfl⟩ := Array.getElem?_eq_some_iff.mp hc
    have q := List.all_eq_true.mp ((Array.all_eq_true_iff_forall_mem.mp hF) _ (Array.getElem_mem ha)) i (List.mem_range.mpr hi)
    simpa [Array.getElem?_eq_getElem hi] using q
  have n5 := not_v (Cond.before_iff.mp (hsets _ (List.mem_of_getElem? (i := 6) rfl)))
  obtain ⟨i0, e0⟩ := is_v h3
  obtain rfl : w0 = (.int i0) := Option.some.inj e0
  obtain ⟨i1, e1⟩ := is_v h5
  obtain rfl : w1 = (.int i1) := Option.some.inj e1
  obtain ⟨i2, e2⟩ := is_v h7
  obtain rfl : w2 = (.int i2) := Option.some.inj e2
  obtain ⟨i3, e3⟩ := is_v h8
  obtain rfl : w3 = (.int i3) := Option.some.inj e3
  obtain ⟨i11, e11⟩ := is_v (Cond.before_iff.mp (hsets _ (List.mem_of_getElem? (i := 5) rfl)))
  have S12 : Sta s s.heap "java/lang/String" "COMPACT_STRINGS" "Z" (.int i11) := Sta.start e11 (Or.inl (hsets _ (List.mem_of_getElem? (i := 4) rfl)))
  have c17 : ¬ (i11 = (0 : Int32)) := gotF (Cond.eq_ints e11 (Term.int_eval (0))) n5
  have hEL : EW s _ consts_1 := EW.cons (hw _ (List.mem_of_getElem? (i := 81) rfl)) (by decide) (EW.cons (hw _ (List.mem_of_getElem? (i := 90) rfl)) (by decide) (EW.cons (hw _ (List.mem_of_getElem? (i := 91) rfl)) (by simp) EW.nil))
  have hch : ∀ p ∈ consts_1, Jvm.Lit.constHeld s p.1 p.2 := hcalls.1
  have H0 : CHv s consts_1 s.vm s.heap := CHv.start hEL hch (hsets _ (List.mem_of_getElem? (i := 6) rfl)) (hw _ (List.mem_of_getElem? (i := 70) rfl)) (hw _ (List.mem_of_getElem? (i := 54) rfl))
  obtain ⟨m0, r0⟩ := and_e hn
  obtain ⟨m1, r1⟩ := and_e r0
  obtain ⟨m2, r2⟩ := and_e r1
  obtain ⟨m3, r3⟩ := and_e r2
  obtain ⟨m4, r4⟩ := and_e r3
  obtain ⟨m5, r5⟩ := and_e r4
  obtain ⟨m6, r6⟩ := and_e r5
  obtain ⟨m7, r7⟩ := and_e r6
  obtain ⟨m8, r8⟩ := and_e r7
  obtain ⟨m9, r9⟩ := and_e r8
  obtain ⟨m10, r10⟩ := and_e r9
  obtain ⟨m11, r11⟩ := and_e r10
  obtain ⟨m12, r12⟩ := and_e r11
  obtain ⟨m13, r13⟩ := and_e r12
  obtain ⟨m14, r14⟩ := and_e r13
  obtain ⟨m15, r15⟩ := and_e r14
  obtain ⟨m16, r16⟩ := and_e r15
  obtain ⟨m17, r17⟩ := and_e r16
  obtain ⟨m18, r18⟩ := and_e r17
  obtain ⟨m19, r19⟩ := and_e r18
  obtain ⟨m20, r20⟩ := and_e r19
  obtain ⟨m21, r21⟩ := and_e r20
  obtain ⟨m22, r22⟩ := and_e r21
  obtain ⟨m23, r23⟩ := and_e r22
  have m24 := r23
  obtain ⟨va, ev⟩ := arr_v m0
  obtain ⟨cv, Av⟩ := Arr.start ev m0
  have hat0 := Av.fin (Vm.Alike.refl _)
  obtain ⟨pk, ep⟩ := exa_v m3
  obtain ⟨qc, eq⟩ := exa_v m5
  obtain ⟨ps, eps⟩ := exa_v m7
  obtain ⟨qs, eqs⟩ := exa_v m8
  obtain ⟨v1, v2⟩ := own_lenAt ev hat0 (eqv_i (Term.int_eval (2)) m2)
  have x0 := own_elemAt ev hat0 (by decide) (own_eqR ep m4)
  have x1 := own_elemAt ev hat0 (by decide) (own_eqR eq m6)
  have VA : Arv s s.heap va cv.cls (.object "com/example/ombudsign/ombudsign/dss/CertType") (2 : Int32) [.ref pk, .ref qc] .null := Arv.start hfit Av v1 v2 (by decide) rfl ⟨x0, x1, trivial⟩
  have SP : own_Str s s.heap ps own_P := own_strAt hfit (by decide) eps (Exa.start eps m7) m9 m10 m11 (fun j hj => match j, hj with
    | 0, _ => m15 | 1, _ => m16 | 2, _ => m17)
  have SQ : own_Str s s.heap qs own_Q := own_strAt hfit (by decide) eqs (Exa.start eqs m8) m12 m13 m14 (fun j hj => match j, hj with
    | 0, _ => m18 | 1, _ => m19 | 2, _ => m20 | 3, _ => m21 | 4, _ => m22 | 5, _ => m23 | 6, _ => m24)
  obtain ⟨em, ee⟩ := exa_v (Cond.before_iff.mp (hsets _ (List.mem_of_getElem? (i := 2) rfl)))
  have fe := null_v (Cond.before_iff.mp (hsets _ (List.mem_of_getElem? (i := 3) rfl)))
  have Gg : own_G s s.heap va cv.cls pk qc ps qs em := ⟨⟨Sta.start ev (Or.inl (hw _ (List.mem_of_getElem? (i := 23) rfl))), Exa.start ev m1, VA⟩, ⟨Sta.start ep (Or.inr ⟨(hw _ (List.mem_of_getElem? (i := 7) rfl)), (hw _ (List.mem_of_getElem? (i := 21) rfl))⟩), Exa.start ep m3, Fld.start ((fld_at ep).symm.trans eps), SP⟩, ⟨Sta.start eq (Or.inr ⟨(hw _ (List.mem_of_getElem? (i := 7) rfl)), (hw _ (List.mem_of_getElem? (i := 22) rfl))⟩), Exa.start eq m5, Fld.start ((fld_at eq).symm.trans eqs), SQ⟩, ⟨Sta.start ee (Or.inl (hsets _ (List.mem_of_getElem? (i := 1) rfl))), Exa.start ee (Cond.before_iff.mp (hsets _ (List.mem_of_getElem? (i := 2) rfl))), Fld.start ((fld_at ee).symm.trans fe)⟩⟩
  obtain ⟨n, o, h1, h2, h3, _, L, rfl, ⟨rfl, N⟩, hq⟩ := rm0 l s _ hw tables_1 consts_1 rfl hEL i0 i1 i2 i3 i11 va cv.cls pk qc ps qs em s.heap s.heap.size (Nat.le_refl _) S12 c17 Gg p e ha hc hk s m _ below hf ((Spec.applies_iff_loose hf).mp happ).1 ⟨rfl, State.Warmed39.refl s, rfl, H0⟩ trivial
  refine ⟨n, _, h1, h2, h3, hpost _ _ _ _ _ _ ⟨Cond.after_iff.mpr rfl, Cond.after_iff.mpr (eq_i res_at (Term.int_eval (1)) rfl), trivial⟩ ⟨hq.1, hq.2.1, hq.2.2.1, (hq.2.2.2.sift fun y hy => Or.inr (N y hy)).mono (by decide) (by decide)⟩⟩
theorem main_1_1 : Claimed_1_1 := comes_1 fun _ _ _ _ _ _ h hF => ⟨h.1, hF⟩
theorem main_1_2 : Claimed_1_2 := comes_1 fun _ _ _ _ _ _ h hF => ⟨h.2.1, hF⟩
end Jvm.Pilot.@@N@@
namespace Jvm.Pilot.@@N@@
open Jvm Jvm.ClassFile Sem Op Lib Jvm.Free Jvm.Stand Jvm.Pilot.@@N@@.Jvm.D
/-! MADE BY PROGRAM (witnessworld.py) out of the Statement's table words and the real class files: 24 classes; the members and pool entries that the words name. The judged class is class 1, her method 1. -/
namespace start1
open Jvm.ClassFile
def u (s : String) : CpInfo := .utf8 (stringToUtf16 s)
/-- a pool by its gaps: so many unusable entries, then the entry; so many at the end -/
def gap : Nat → List CpInfo → List CpInfo
  | 0, r => r
  | n + 1, r => .unusable :: gap n r
def poolList (es : List (Nat × CpInfo)) (last : Nat) : List CpInfo := es.foldr (fun e r => gap e.1 (e.2 :: r)) (gap last [])
def pool (es : List (Nat × CpInfo)) (last : Nat) : Array CpInfo := ⟨poolList es last⟩
def fileOf (pool : Array CpInfo) (this : Nat) (attrs : Array Attribute := #[]) (ms : Array MethodInfo := #[]) (fl : Nat := 33) (sup : Nat := 0) (ifs : Array Nat := #[]) (fds : Array FieldInfo := #[]) : ClassFile where
  minorVersion := 0
  majorVersion := 65
  constantPool := pool
  accessFlags := fl
  thisClass := this
  superClass := sup
  interfaces := ifs
  fields := fds
  methods := ms
  attributes := attrs
def plain (name : String) (sup : Option ClassId) : Class where
  name := name
  kind := .ordinary
  loader := none
  accessFlags := 33
  super := sup
  interfaces := #[]
  cf := none
  fields := #[]
  methods := #[]
  instanceTypes := #[]
  staticTypes := #[]
  resolved := #[]
  callSites := []
  init := .initialized
  statics := none
  mirror := none

def pool0 : Array CpInfo := pool [(5, u "<init>"), (0, u "()V"), (1, .class_ 10), (1, u "java/lang/Object"), (85, u "clone"), (0, u "()Ljava/lang/Object;")] 26

def k0c0 : Code := { maxStack := 0, maxLocals := 1, code := object_method_1_code, exceptionTable := #[], attributes := #[] }
def k0m0 : Method := { name := "<init>", desc := "()V", sig := { parameters := [], returnType := none }, accessFlags := 1, code := some k0c0 }
def k0m1 : Method := { name := "clone", desc := "()Ljava/lang/Object;", sig := { parameters := [], returnType := some (.object "java/lang/Object") }, accessFlags := 260, code := none }
/-- java/lang/Object -/
def k0 : Class := { plain "java/lang/Object" none with
  accessFlags := 33
  interfaces := #[]
  cf := some (fileOf pool0 8 #[] #[{ accessFlags := 1, nameIndex := 5, descriptorIndex := 6, attributes := #[] }, { accessFlags := 260, nameIndex := 96, descriptorIndex := 97, attributes := #[] }] 33 0 #[] #[])
  fields := #[]
  methods := #[k0m0, k0m1]
  instanceTypes := #[]
  staticTypes := #[]
  resolved := Array.replicate 124 none
  statics := none }

def pool1 : Array CpInfo := pool [(2, .class_ 4), (1, u "java/lang/Object"), (0, u "<init>"), (0, u "()V"), (0, .integer 2147483647), (0, .methodref 9 10), (0, .class_ 11), (0, .nameAndType 12 13), (0, u "com/example/ombudsign/ombudsign/dss/CertTypeFromValuePinLaw"), (0, u "make"), (0, u "(IIII)Ljava/lang/String;"), (0, .string 15), (0, u "PKC"), (0, .methodref 17 18), (0, .class_ 19), (0, .nameAndType 20 21), (0, u "java/lang/String"), (0, u "equals"), (0, u "(Ljava/lang/Object;)Z"), (0, .fieldref 23 24), (0, .class_ 25), (0, .nameAndType 15 26), (0, u "com/example/ombudsign/ombudsign/dss/CertType"), (0, u "Lcom/example/ombudsign/ombudsign/dss/CertType;"), (0, .string 28), (0, u "QC/SSCD"), (0, .fieldref 23 30), (0, .nameAndType 31 26), (0, u "QC_SSCD"), (0, .methodref 23 33), (0, .nameAndType 34 35), (0, u "fromValue"), (0, u "(Ljava/lang/String;)Ljava/util/Optional;"), (0, .methodref 37 38), (0, .class_ 39), (0, .nameAndType 40 41), (0, u "java/util/Optional"), (0, u "orElse"), (0, u "(Ljava/lang/Object;)Ljava/lang/Object;"), (0, .methodref 9 43), (0, .nameAndType 44 45), (0, u "drawn"), (0, u "(III)C"), (0, .methodref 17 47), (0, .nameAndType 5 48), (0, u "([C)V"), (0, .methodref 9 50), (0, .nameAndType 51 52), (0, u "ch"), (0, u "(ICIII)C"), (2, u "law"), (0, u "(IIII)Z")] 3

def k1m0 : Method := { name := "<init>", desc := "()V", sig := { parameters := [], returnType := none }, accessFlags := 1, code := none }
def k1c1 : Code := { maxStack := 4, maxLocals := 9, code := code, exceptionTable := #[], attributes := #[] }
def k1m1 : Method := { name := "law", desc := "(IIII)Z", sig := { parameters := [.int, .int, .int, .int], returnType := some .boolean }, accessFlags := 9, code := some k1c1 }
def k1c2 : Code := { maxStack := 4, maxLocals := 4, code := method_3_code, exceptionTable := #[], attributes := #[] }
def k1m2 : Method := { name := "drawn", desc := "(III)C", sig := { parameters := [.int, .int, .int], returnType := some .char }, accessFlags := 10, code := some k1c2 }
def k1c3 : Code := { maxStack := 3, maxLocals := 5, code := method_4_code, exceptionTable := #[], attributes := #[] }
def k1m3 : Method := { name := "ch", desc := "(ICIII)C", sig := { parameters := [.int, .char, .int, .int, .int], returnType := some .char }, accessFlags := 10, code := some k1c3 }
def k1c4 : Code := { maxStack := 7, maxLocals := 5, code := method_5_code, exceptionTable := #[], attributes := #[] }
def k1m4 : Method := { name := "make", desc := "(IIII)Ljava/lang/String;", sig := { parameters := [.int, .int, .int, .int], returnType := some (.object "java/lang/String") }, accessFlags := 10, code := some k1c4 }
/-- com/example/ombudsign/ombudsign/dss/CertTypeFromValuePinLaw -/
def k1 : Class := { plain "com/example/ombudsign/ombudsign/dss/CertTypeFromValuePinLaw" (some 0) with
  accessFlags := 49
  interfaces := #[]
  cf := some (fileOf pool1 9 #[] #[{ accessFlags := 1, nameIndex := 5, descriptorIndex := 6, attributes := #[] }, { accessFlags := 9, nameIndex := 55, descriptorIndex := 56, attributes := #[] }, { accessFlags := 10, nameIndex := 44, descriptorIndex := 45, attributes := #[] }, { accessFlags := 10, nameIndex := 51, descriptorIndex := 52, attributes := #[] }, { accessFlags := 10, nameIndex := 12, descriptorIndex := 13, attributes := #[] }] 49 2 #[] #[])
  fields := #[]
  methods := #[k1m0, k1m1, k1m2, k1m3, k1m4]
  instanceTypes := #[]
  staticTypes := #[]
  resolved := Array.replicate 60 none
  statics := none }

def pool2 : Array CpInfo := pool [(1, .class_ 2), (0, u "java/lang/constant/Constable"), (0, .class_ 4), (0, u "java/lang/Object")] 6

/-- java/lang/constant/Constable -/
def k2 : Class := { plain "java/lang/constant/Constable" (some 0) with
  accessFlags := 1537
  interfaces := #[]
  cf := some (fileOf pool2 1 #[] #[] 1537 3 #[] #[])
  fields := #[]
  methods := #[]
  instanceTypes := #[]
  staticTypes := #[]
  resolved := Array.replicate 11 none
  statics := none }

def pool3 : Array CpInfo := pool [(1, .class_ 2), (0, u "java/lang/Comparable"), (0, .class_ 4), (0, u "java/lang/Object")] 7

/-- java/lang/Comparable -/
def k3 : Class := { plain "java/lang/Comparable" (some 0) with
  accessFlags := 1537
  interfaces := #[]
  cf := some (fileOf pool3 1 #[] #[] 1537 3 #[] #[])
  fields := #[]
  methods := #[]
  instanceTypes := #[]
  staticTypes := #[]
  resolved := Array.replicate 12 none
  statics := none }

def pool4 : Array CpInfo := pool [(1, .class_ 2), (0, u "java/io/Serializable"), (0, .class_ 4), (0, u "java/lang/Object")] 2

/-- java/io/Serializable -/
def k4 : Class := { plain "java/io/Serializable" (some 0) with
  accessFlags := 1537
  interfaces := #[]
  cf := some (fileOf pool4 1 #[] #[] 1537 3 #[] #[])
  fields := #[]
  methods := #[]
  instanceTypes := #[]
  staticTypes := #[]
  resolved := Array.replicate 7 none
  statics := none }

def pool5 : Array CpInfo := pool [(2, .class_ 4), (1, u "java/lang/Enum"), (0, u "name"), (0, u "Ljava/lang/String;"), (2, u "ordinal"), (0, u "I"), (1, .class_ 14), (1, u "java/lang/Object"), (4, u "hash"), (86, .class_ 108), (1, u "java/lang/Enum$EnumDesc"), (2, .class_ 112), (0, u "java/lang/constant/Constable"), (0, .class_ 114), (0, u "java/lang/Comparable"), (0, .class_ 116), (0, u "java/io/Serializable")] 87

/-- java/lang/Enum -/
def k5 : Class := { plain "java/lang/Enum" (some 0) with
  accessFlags := 1057
  interfaces := #[2, 3, 4]
  cf := some (fileOf pool5 2 #[.nestMembers #[106]] #[] 1057 12 #[111, 113, 115] #[{ accessFlags := 18, nameIndex := 5, descriptorIndex := 6, attributes := #[] }, { accessFlags := 18, nameIndex := 9, descriptorIndex := 10, attributes := #[] }, { accessFlags := 2, nameIndex := 19, descriptorIndex := 10, attributes := #[] }])
  fields := #[{ name := "name", type := (.object "java/lang/String"), accessFlags := 18, slot := 0, constantValue := 0 }, { name := "ordinal", type := .int, accessFlags := 18, slot := 1, constantValue := 0 }, { name := "hash", type := .int, accessFlags := 2, slot := 2, constantValue := 0 }]
  methods := #[]
  instanceTypes := #[(.object "java/lang/String"), .int, .int]
  staticTypes := #[]
  resolved := Array.replicate 204 none
  statics := none }

def pool6 : Array CpInfo := pool [(1, .class_ 2), (0, u "com/example/ombudsign/ombudsign/dss/CertType"), (2, u "PKC"), (0, u "Lcom/example/ombudsign/ombudsign/dss/CertType;"), (2, u "QC_SSCD"), (0, .fieldref 1 11), (0, .nameAndType 12 13), (0, u "$VALUES"), (0, u "[Lcom/example/ombudsign/ombudsign/dss/CertType;"), (0, .methodref 15 16), (0, .class_ 13), (0, .nameAndType 17 18), (0, u "clone"), (0, u "()Ljava/lang/Object;"), (1, .class_ 22), (1, u "java/lang/Enum"), (6, .fieldref 1 30), (0, .nameAndType 31 32), (0, u "value"), (0, u "Ljava/lang/String;"), (2, u "qualified"), (0, u "Z"), (2, u "sscd"), (0, .methodref 1 41), (0, .nameAndType 42 43), (0, u "values"), (0, u "()[Lcom/example/ombudsign/ombudsign/dss/CertType;"), (0, .methodref 45 46), (0, .class_ 47), (0, .nameAndType 48 49), (0, u "java/lang/String"), (0, u "equals"), (0, u "(Ljava/lang/Object;)Z"), (0, .methodref 51 52), (0, .class_ 53), (0, .nameAndType 54 55), (0, u "java/util/Optional"), (0, u "of"), (0, u "(Ljava/lang/Object;)Ljava/util/Optional;"), (0, .methodref 51 57), (0, .nameAndType 58 59), (0, u "empty"), (0, u "()Ljava/util/Optional;"), (16, u "fromValue"), (0, u "(Ljava/lang/String;)Ljava/util/Optional;")] 12

def k6c0 : Code := { maxStack := 1, maxLocals := 0, code := prog_5_method_1_code, exceptionTable := #[], attributes := #[] }
def k6m0 : Method := { name := "values", desc := "()[Lcom/example/ombudsign/ombudsign/dss/CertType;", sig := { parameters := [], returnType := some (.array (.object "com/example/ombudsign/ombudsign/dss/CertType")) }, accessFlags := 9, code := some k6c0 }
def k6c1 : Code := { maxStack := 2, maxLocals := 5, code := prog_5_method_4_code, exceptionTable := #[], attributes := #[] }
def k6m1 : Method := { name := "fromValue", desc := "(Ljava/lang/String;)Ljava/util/Optional;", sig := { parameters := [(.object "java/lang/String")], returnType := some (.object "java/util/Optional") }, accessFlags := 9, code := some k6c1 }
/-- com/example/ombudsign/ombudsign/dss/CertType -/
def k6 : Class := { plain "com/example/ombudsign/ombudsign/dss/CertType" (some 5) with
  accessFlags := 16433
  interfaces := #[]
  cf := some (fileOf pool6 1 #[] #[{ accessFlags := 9, nameIndex := 42, descriptorIndex := 43, attributes := #[] }, { accessFlags := 9, nameIndex := 76, descriptorIndex := 77, attributes := #[] }] 16433 20 #[] #[{ accessFlags := 16409, nameIndex := 5, descriptorIndex := 6, attributes := #[] }, { accessFlags := 16409, nameIndex := 9, descriptorIndex := 6, attributes := #[] }, { accessFlags := 18, nameIndex := 31, descriptorIndex := 32, attributes := #[] }, { accessFlags := 18, nameIndex := 35, descriptorIndex := 36, attributes := #[] }, { accessFlags := 18, nameIndex := 39, descriptorIndex := 36, attributes := #[] }, { accessFlags := 4122, nameIndex := 12, descriptorIndex := 13, attributes := #[] }])
  fields := #[{ name := "PKC", type := (.object "com/example/ombudsign/ombudsign/dss/CertType"), accessFlags := 16409, slot := 0, constantValue := 0 }, { name := "QC_SSCD", type := (.object "com/example/ombudsign/ombudsign/dss/CertType"), accessFlags := 16409, slot := 1, constantValue := 0 }, { name := "value", type := (.object "java/lang/String"), accessFlags := 18, slot := 3, constantValue := 0 }, { name := "qualified", type := .boolean, accessFlags := 18, slot := 4, constantValue := 0 }, { name := "sscd", type := .boolean, accessFlags := 18, slot := 5, constantValue := 0 }, { name := "$VALUES", type := (.array (.object "com/example/ombudsign/ombudsign/dss/CertType")), accessFlags := 4122, slot := 2, constantValue := 0 }]
  methods := #[k6m0, k6m1]
  instanceTypes := #[(.object "java/lang/String"), .int, .int, (.object "java/lang/String"), .boolean, .boolean]
  staticTypes := #[(.object "com/example/ombudsign/ombudsign/dss/CertType"), (.object "com/example/ombudsign/ombudsign/dss/CertType"), (.array (.object "com/example/ombudsign/ombudsign/dss/CertType"))]
  resolved := Array.replicate 90 none
  statics := some 0 }

def pool7 : Array CpInfo := pool [(1, .class_ 2), (0, u "java/lang/Cloneable"), (0, .class_ 4), (0, u "java/lang/Object")] 2

/-- java/lang/Cloneable -/
def k7 : Class := { plain "java/lang/Cloneable" (some 0) with
  accessFlags := 1537
  interfaces := #[]
  cf := some (fileOf pool7 1 #[] #[] 1537 3 #[] #[])
  fields := #[]
  methods := #[]
  instanceTypes := #[]
  staticTypes := #[]
  resolved := Array.replicate 7 none
  statics := none }

def pool8 : Array CpInfo := pool [(2, .class_ 4), (1, u "java/lang/CharSequence"), (42, .class_ 48), (0, u "java/lang/CharSequence$1CodePointIterator"), (10, .class_ 60), (0, u "java/lang/CharSequence$1CharIterator"), (5, .class_ 67), (0, u "java/lang/Object")] 63

/-- java/lang/CharSequence -/
def k8 : Class := { plain "java/lang/CharSequence" (some 0) with
  accessFlags := 1537
  interfaces := #[]
  cf := some (fileOf pool8 2 #[.nestMembers #[47, 59]] #[] 1537 66 #[] #[])
  fields := #[]
  methods := #[]
  instanceTypes := #[]
  staticTypes := #[]
  resolved := Array.replicate 131 none
  statics := none }

def pool9 : Array CpInfo := pool [(1, .class_ 2), (0, u "java/lang/constant/ConstantDesc"), (0, .class_ 4), (0, u "java/lang/Object")] 32

/-- java/lang/constant/ConstantDesc -/
def k9 : Class := { plain "java/lang/constant/ConstantDesc" (some 0) with
  accessFlags := 1537
  interfaces := #[]
  cf := some (fileOf pool9 1 #[] #[] 1537 3 #[] #[])
  fields := #[]
  methods := #[]
  instanceTypes := #[]
  staticTypes := #[]
  resolved := Array.replicate 37 none
  statics := none }

def pool10 : Array CpInfo := pool [(1, .methodref 2 3), (0, .class_ 4), (0, .nameAndType 5 6), (0, u "java/lang/Object"), (0, u "<init>"), (0, u "()V"), (0, .string 8), (0, u ""), (0, .fieldref 10 11), (0, .class_ 12), (0, .nameAndType 13 14), (0, u "java/lang/String"), (0, u "value"), (0, u "[B"), (0, .fieldref 10 16), (0, .nameAndType 17 18), (0, u "coder"), (0, u "B"), (2, u "hash"), (0, u "I"), (2, u "hashIsZero"), (0, u "Z"), (0, .methodref 10 28), (0, .nameAndType 5 29), (0, u "([CIILjava/lang/Void;)V"), (8, .fieldref 10 39), (0, .nameAndType 40 26), (0, u "COMPACT_STRINGS"), (1, .class_ 44), (1, u "java/lang/StringUTF16"), (0, u "compress"), (1, .methodref 42 48), (0, .nameAndType 49 50), (0, u "coderFromArrayLen"), (0, u "([BI)B"), (56, .class_ 109), (1, u "java/lang/StringLatin1"), (67, .methodref 42 178), (0, .nameAndType 45 179), (0, u "([CII)[B"), (361, .methodref 107 542), (0, .nameAndType 543 544), (0, u "equals"), (0, u "([B[B)Z"), (28, u "(Ljava/lang/Object;)Z"), (1, .class_ 576), (0, u "java/lang/CharSequence"), (22, u "CASE_INSENSITIVE_ORDER"), (0, u "Ljava/util/Comparator;"), (409, u "([C)V"), (90, u "serialPersistentFields"), (0, u "[Ljava/io/ObjectStreamField;"), (0, .class_ 1104), (0, u "java/lang/String$CaseInsensitiveComparator"), (1, .class_ 1107), (0, u "java/io/Serializable"), (0, .class_ 1109), (0, u "java/lang/Comparable"), (0, .class_ 1111), (0, u "java/lang/constant/Constable"), (0, .class_ 1113), (0, u "java/lang/constant/ConstantDesc"), (2, u "serialVersionUID"), (0, u "J"), (3, u "REPL"), (0, u "C"), (2, u "LATIN1"), (1, u "UTF16")] 323

def k10m0 : Method := { name := "<init>", desc := "()V", sig := { parameters := [], returnType := none }, accessFlags := 1, code := none }
def k10c1 : Code := { maxStack := 5, maxLocals := 2, code := jdk_42_method_3_code, exceptionTable := #[], attributes := #[] }
def k10m1 : Method := { name := "<init>", desc := "([C)V", sig := { parameters := [(.array .char)], returnType := none }, accessFlags := 1, code := some k10c1 }
def k10c2 : Code := { maxStack := 2, maxLocals := 3, code := jdk_42_method_66_code, exceptionTable := #[], attributes := #[] }
def k10m2 : Method := { name := "equals", desc := "(Ljava/lang/Object;)Z", sig := { parameters := [(.object "java/lang/Object")], returnType := some .boolean }, accessFlags := 1, code := some k10c2 }
def k10c3 : Code := { maxStack := 4, maxLocals := 6, code := jdk_42_method_149_code, exceptionTable := #[], attributes := #[] }
def k10m3 : Method := { name := "<init>", desc := "([CIILjava/lang/Void;)V", sig := { parameters := [(.array .char), .int, .int, (.object "java/lang/Void")], returnType := none }, accessFlags := 2, code := some k10c3 }
/-- java/lang/String -/
def k10 : Class := { plain "java/lang/String" (some 0) with
  accessFlags := 49
  interfaces := #[4, 3, 8, 2, 9]
  cf := some (fileOf pool10 10 #[.nestMembers #[1103]] #[{ accessFlags := 1, nameIndex := 5, descriptorIndex := 6, attributes := #[] }, { accessFlags := 1, nameIndex := 5, descriptorIndex := 1010, attributes := #[] }, { accessFlags := 1, nameIndex := 543, descriptorIndex := 573, attributes := #[] }, { accessFlags := 2, nameIndex := 5, descriptorIndex := 29, attributes := #[] }] 49 2 #[1106, 1108, 575, 1110, 1112] #[{ accessFlags := 18, nameIndex := 13, descriptorIndex := 14, attributes := #[] }, { accessFlags := 18, nameIndex := 17, descriptorIndex := 18, attributes := #[] }, { accessFlags := 2, nameIndex := 21, descriptorIndex := 22, attributes := #[] }, { accessFlags := 2, nameIndex := 25, descriptorIndex := 26, attributes := #[] }, { accessFlags := 26, nameIndex := 1116, descriptorIndex := 1117, attributes := #[] }, { accessFlags := 24, nameIndex := 40, descriptorIndex := 26, attributes := #[] }, { accessFlags := 26, nameIndex := 1101, descriptorIndex := 1102, attributes := #[] }, { accessFlags := 26, nameIndex := 1121, descriptorIndex := 1122, attributes := #[] }, { accessFlags := 25, nameIndex := 599, descriptorIndex := 600, attributes := #[] }, { accessFlags := 24, nameIndex := 1125, descriptorIndex := 18, attributes := #[] }, { accessFlags := 24, nameIndex := 1127, descriptorIndex := 18, attributes := #[] }])
  fields := #[{ name := "value", type := (.array .byte), accessFlags := 18, slot := 0, constantValue := 0 }, { name := "coder", type := .byte, accessFlags := 18, slot := 1, constantValue := 0 }, { name := "hash", type := .int, accessFlags := 2, slot := 2, constantValue := 0 }, { name := "hashIsZero", type := .boolean, accessFlags := 2, slot := 3, constantValue := 0 }, { name := "serialVersionUID", type := .long, accessFlags := 26, slot := 0, constantValue := 0 }, { name := "COMPACT_STRINGS", type := .boolean, accessFlags := 24, slot := 1, constantValue := 0 }, { name := "serialPersistentFields", type := (.array (.object "java/io/ObjectStreamField")), accessFlags := 26, slot := 2, constantValue := 0 }, { name := "REPL", type := .char, accessFlags := 26, slot := 3, constantValue := 0 }, { name := "CASE_INSENSITIVE_ORDER", type := (.object "java/util/Comparator"), accessFlags := 25, slot := 4, constantValue := 0 }, { name := "LATIN1", type := .byte, accessFlags := 24, slot := 5, constantValue := 0 }, { name := "UTF16", type := .byte, accessFlags := 24, slot := 6, constantValue := 0 }]
  methods := #[k10m0, k10m1, k10m2, k10m3]
  instanceTypes := #[(.array .byte), .byte, .int, .boolean]
  staticTypes := #[.long, .boolean, (.array (.object "java/io/ObjectStreamField")), .char, (.object "java/util/Comparator"), .byte, .byte]
  resolved := Array.replicate 1451 none
  statics := some 1 }

def pool11 : Array CpInfo := pool [(1, .fieldref 2 3), (0, .class_ 4), (0, .nameAndType 5 6), (0, u "java/util/Optional"), (0, u "EMPTY"), (0, u "Ljava/util/Optional;"), (0, .methodref 8 9), (0, .class_ 10), (0, .nameAndType 11 12), (0, u "java/lang/Object"), (0, u "<init>"), (0, u "()V"), (0, .fieldref 2 14), (0, .nameAndType 15 16), (0, u "value"), (0, u "Ljava/lang/Object;"), (0, .methodref 18 19), (0, .class_ 20), (0, .nameAndType 21 22), (0, u "java/util/Objects"), (0, u "requireNonNull"), (0, u "(Ljava/lang/Object;)Ljava/lang/Object;"), (0, .methodref 2 24), (0, .nameAndType 11 25), (0, u "(Ljava/lang/Object;)V"), (29, u "empty"), (0, u "()Ljava/util/Optional;"), (8, u "(Ljava/lang/Object;)Ljava/util/Optional;"), (16, u "of"), (82, u "orElse")] 21

def k11c0 : Code := { maxStack := 1, maxLocals := 1, code := jdk_32_method_1_code, exceptionTable := #[], attributes := #[] }
def k11m0 : Method := { name := "empty", desc := "()Ljava/util/Optional;", sig := { parameters := [], returnType := some (.object "java/util/Optional") }, accessFlags := 9, code := some k11c0 }
def k11c1 : Code := { maxStack := 2, maxLocals := 2, code := jdk_32_method_2_code, exceptionTable := #[], attributes := #[] }
def k11m1 : Method := { name := "<init>", desc := "(Ljava/lang/Object;)V", sig := { parameters := [(.object "java/lang/Object")], returnType := none }, accessFlags := 2, code := some k11c1 }
def k11c2 : Code := { maxStack := 3, maxLocals := 1, code := jdk_32_method_3_code, exceptionTable := #[], attributes := #[] }
def k11m2 : Method := { name := "of", desc := "(Ljava/lang/Object;)Ljava/util/Optional;", sig := { parameters := [(.object "java/lang/Object")], returnType := some (.object "java/util/Optional") }, accessFlags := 9, code := some k11c2 }
def k11c3 : Code := { maxStack := 1, maxLocals := 2, code := jdk_32_method_15_code, exceptionTable := #[], attributes := #[] }
def k11m3 : Method := { name := "orElse", desc := "(Ljava/lang/Object;)Ljava/lang/Object;", sig := { parameters := [(.object "java/lang/Object")], returnType := some (.object "java/lang/Object") }, accessFlags := 1, code := some k11c3 }
/-- java/util/Optional -/
def k11 : Class := { plain "java/util/Optional" (some 0) with
  accessFlags := 49
  interfaces := #[]
  cf := some (fileOf pool11 2 #[] #[{ accessFlags := 9, nameIndex := 55, descriptorIndex := 56, attributes := #[] }, { accessFlags := 2, nameIndex := 11, descriptorIndex := 25, attributes := #[] }, { accessFlags := 9, nameIndex := 82, descriptorIndex := 65, attributes := #[] }, { accessFlags := 1, nameIndex := 165, descriptorIndex := 22, attributes := #[] }] 49 8 #[] #[{ accessFlags := 26, nameIndex := 5, descriptorIndex := 6, attributes := #[] }, { accessFlags := 18, nameIndex := 15, descriptorIndex := 16, attributes := #[] }])
  fields := #[{ name := "EMPTY", type := (.object "java/util/Optional"), accessFlags := 26, slot := 0, constantValue := 0 }, { name := "value", type := (.object "java/lang/Object"), accessFlags := 18, slot := 0, constantValue := 0 }]
  methods := #[k11m0, k11m1, k11m2, k11m3]
  instanceTypes := #[(.object "java/lang/Object")]
  staticTypes := #[(.object "java/util/Optional")]
  resolved := Array.replicate 187 none
  statics := some 2 }

def pool12 : Array CpInfo := pool [(6, .class_ 8), (1, u "java/lang/Object"), (0, u "<init>"), (0, u "()V"), (1, .class_ 14), (1, u "java/lang/StringUTF16"), (31, u "$assertionsDisabled"), (0, u "Z"), (13, u "HI_BYTE_SHIFT"), (0, u "I"), (2, u "LO_BYTE_SHIFT"), (49, .methodref 12 116), (0, .nameAndType 117 118), (0, u "compress"), (0, u "([CI[BII)I"), (3, u "([CII)[B"), (138, u "coderFromArrayLen"), (0, u "([BI)B"), (106, .class_ 371), (1, u "java/lang/StringUTF16$LinesSpliterator"), (58, u "MAX_LENGTH"), (196, .class_ 628), (0, u "java/lang/StringUTF16$CodePointsSpliterator"), (0, .class_ 630), (0, u "java/lang/StringUTF16$CharsSpliterator")] 4

def k12m0 : Method := { name := "<init>", desc := "()V", sig := { parameters := [], returnType := none }, accessFlags := 0, code := none }
def k12c1 : Code := { maxStack := 2, maxLocals := 2, code := jdk_52_method_15_code, exceptionTable := #[], attributes := #[] }
def k12m1 : Method := { name := "coderFromArrayLen", desc := "([BI)B", sig := { parameters := [(.array .byte), .int], returnType := some .byte }, accessFlags := 8, code := some k12c1 }
def k12c2 : Code := { maxStack := 5, maxLocals := 6, code := jdk_52_method_16_code, exceptionTable := #[], attributes := #[] }
def k12m2 : Method := { name := "compress", desc := "([CII)[B", sig := { parameters := [(.array .char), .int, .int], returnType := some (.array .byte) }, accessFlags := 9, code := some k12c2 }
def k12c3 : Code := { maxStack := 3, maxLocals := 7, code := jdk_52_method_21_code, exceptionTable := #[], attributes := #[] }
def k12m3 : Method := { name := "compress", desc := "([CI[BII)I", sig := { parameters := [(.array .char), .int, (.array .byte), .int, .int], returnType := some .int }, accessFlags := 9, code := some k12c3 }
/-- java/lang/StringUTF16 -/
def k12 : Class := { plain "java/lang/StringUTF16" (some 0) with
  accessFlags := 48
  interfaces := #[]
  cf := some (fileOf pool12 12 #[.nestMembers #[627, 629, 369]] #[{ accessFlags := 0, nameIndex := 9, descriptorIndex := 10, attributes := #[] }, { accessFlags := 8, nameIndex := 261, descriptorIndex := 262, attributes := #[] }, { accessFlags := 9, nameIndex := 117, descriptorIndex := 122, attributes := #[] }, { accessFlags := 9, nameIndex := 117, descriptorIndex := 118, attributes := #[] }] 48 6 #[] #[{ accessFlags := 26, nameIndex := 61, descriptorIndex := 62, attributes := #[] }, { accessFlags := 26, nameIndex := 65, descriptorIndex := 62, attributes := #[] }, { accessFlags := 24, nameIndex := 430, descriptorIndex := 62, attributes := #[] }, { accessFlags := 4120, nameIndex := 46, descriptorIndex := 47, attributes := #[] }])
  fields := #[{ name := "HI_BYTE_SHIFT", type := .int, accessFlags := 26, slot := 0, constantValue := 0 }, { name := "LO_BYTE_SHIFT", type := .int, accessFlags := 26, slot := 1, constantValue := 0 }, { name := "MAX_LENGTH", type := .int, accessFlags := 24, slot := 2, constantValue := 0 }, { name := "$assertionsDisabled", type := .boolean, accessFlags := 4120, slot := 3, constantValue := 0 }]
  methods := #[k12m0, k12m1, k12m2, k12m3]
  instanceTypes := #[]
  staticTypes := #[.int, .int, .int, .boolean]
  resolved := Array.replicate 635 none
  statics := none }

def pool13 : Array CpInfo := pool [(4, .class_ 6), (1, u "java/lang/Object"), (0, u "<init>"), (0, u "()V"), (5, .class_ 16), (1, u "java/lang/StringLatin1"), (104, u "$assertionsDisabled"), (0, u "Z"), (98, .class_ 223), (1, u "java/lang/StringLatin1$LinesSpliterator"), (57, u "equals"), (0, u "([B[B)Z"), (107, .class_ 391), (0, u "java/lang/StringLatin1$CharsSpliterator")] 3

def k13m0 : Method := { name := "<init>", desc := "()V", sig := { parameters := [], returnType := none }, accessFlags := 0, code := none }
def k13c1 : Code := { maxStack := 3, maxLocals := 3, code := jdk_43_method_13_code, exceptionTable := #[], attributes := #[] }
def k13m1 : Method := { name := "equals", desc := "([B[B)Z", sig := { parameters := [(.array .byte), (.array .byte)], returnType := some .boolean }, accessFlags := 9, code := some k13c1 }
/-- java/lang/StringLatin1 -/
def k13 : Class := { plain "java/lang/StringLatin1" (some 0) with
  accessFlags := 48
  interfaces := #[]
  cf := some (fileOf pool13 14 #[.nestMembers #[390, 221]] #[{ accessFlags := 0, nameIndex := 7, descriptorIndex := 8, attributes := #[] }, { accessFlags := 9, nameIndex := 281, descriptorIndex := 282, attributes := #[] }] 48 4 #[] #[{ accessFlags := 4120, nameIndex := 121, descriptorIndex := 122, attributes := #[] }])
  fields := #[{ name := "$assertionsDisabled", type := .boolean, accessFlags := 4120, slot := 0, constantValue := 0 }]
  methods := #[k13m0, k13m1]
  instanceTypes := #[]
  staticTypes := #[.boolean]
  resolved := Array.replicate 395 none
  statics := none }

def pool14 : Array CpInfo := pool [(2, .class_ 4), (1, u "java/lang/Object"), (0, u "<init>"), (0, u "()V"), (35, .class_ 44), (1, u "java/util/Objects"), (0, u "requireNonNull"), (0, u "(Ljava/lang/Object;)Ljava/lang/Object;")] 137

def k14m0 : Method := { name := "<init>", desc := "()V", sig := { parameters := [], returnType := none }, accessFlags := 2, code := none }
def k14c1 : Code := { maxStack := 2, maxLocals := 1, code := jdk_31_method_10_code, exceptionTable := #[], attributes := #[] }
def k14m1 : Method := { name := "requireNonNull", desc := "(Ljava/lang/Object;)Ljava/lang/Object;", sig := { parameters := [(.object "java/lang/Object")], returnType := some (.object "java/lang/Object") }, accessFlags := 9, code := some k14c1 }
/-- java/util/Objects -/
def k14 : Class := { plain "java/util/Objects" (some 0) with
  accessFlags := 49
  interfaces := #[]
  cf := some (fileOf pool14 42 #[] #[{ accessFlags := 2, nameIndex := 5, descriptorIndex := 6, attributes := #[] }, { accessFlags := 9, nameIndex := 45, descriptorIndex := 46, attributes := #[] }] 49 2 #[] #[])
  fields := #[]
  methods := #[k14m0, k14m1]
  instanceTypes := #[]
  staticTypes := #[]
  resolved := Array.replicate 184 none
  statics := none }

def pool15 : Array CpInfo := pool [(2, .class_ 4), (1, u "java/lang/Object"), (0, u "<init>"), (0, u "()V"), (17, .class_ 26), (1, u "jdk/internal/util/Preconditions"), (28, .class_ 56), (0, u "jdk/internal/util/Preconditions$4"), (57, .class_ 115), (0, u "jdk/internal/util/Preconditions$1"), (7, u "SIOOBE_FORMATTER"), (0, u "Ljava/util/function/BiFunction;"), (0, .class_ 126), (0, u "jdk/internal/util/Preconditions$2"), (3, u "AIOOBE_FORMATTER"), (0, .class_ 132), (0, u "jdk/internal/util/Preconditions$3"), (3, u "IOOBE_FORMATTER")] 57

def k15m0 : Method := { name := "<init>", desc := "()V", sig := { parameters := [], returnType := none }, accessFlags := 1, code := none }
/-- jdk/internal/util/Preconditions -/
def k15 : Class := { plain "jdk/internal/util/Preconditions" (some 0) with
  accessFlags := 33
  interfaces := #[]
  cf := some (fileOf pool15 24 #[.nestMembers #[55, 131, 125, 114]] #[{ accessFlags := 1, nameIndex := 5, descriptorIndex := 6, attributes := #[] }] 33 2 #[] #[{ accessFlags := 25, nameIndex := 123, descriptorIndex := 124, attributes := #[] }, { accessFlags := 25, nameIndex := 130, descriptorIndex := 124, attributes := #[] }, { accessFlags := 25, nameIndex := 136, descriptorIndex := 124, attributes := #[] }])
  fields := #[{ name := "SIOOBE_FORMATTER", type := (.object "java/util/function/BiFunction"), accessFlags := 25, slot := 0, constantValue := 0 }, { name := "AIOOBE_FORMATTER", type := (.object "java/util/function/BiFunction"), accessFlags := 25, slot := 1, constantValue := 0 }, { name := "IOOBE_FORMATTER", type := (.object "java/util/function/BiFunction"), accessFlags := 25, slot := 2, constantValue := 0 }]
  methods := #[k15m0]
  instanceTypes := #[]
  staticTypes := #[(.object "java/util/function/BiFunction"), (.object "java/util/function/BiFunction"), (.object "java/util/function/BiFunction")]
  resolved := Array.replicate 194 none
  statics := some 3 }

def pool16 : Array CpInfo := pool [(9, u "<init>"), (6, .class_ 18), (1, u "java/lang/Object"), (0, u "()V"), (1, .class_ 23), (1, u "jdk/internal/util/ArraysSupport"), (0, u "LOG2_ARRAY_LONG_INDEX_SCALE"), (0, u "I"), (2, u "U"), (0, u "Ljdk/internal/misc/Unsafe;"), (8, u "BIG_ENDIAN"), (0, u "Z"), (8, u "LOG2_BYTE_BIT_SIZE"), (4, u "LOG2_ARRAY_INT_INDEX_SCALE"), (54, u "JLA"), (0, u "Ljdk/internal/access/JavaLangAccess;"), (11, u "LOG2_ARRAY_BOOLEAN_INDEX_SCALE"), (9, u "LOG2_ARRAY_BYTE_INDEX_SCALE"), (5, u "LOG2_ARRAY_CHAR_INDEX_SCALE"), (5, u "LOG2_ARRAY_SHORT_INDEX_SCALE"), (18, u "LOG2_ARRAY_FLOAT_INDEX_SCALE"), (24, u "LOG2_ARRAY_DOUBLE_INDEX_SCALE"), (89, u "T_BOOLEAN"), (2, u "T_CHAR"), (1, u "T_FLOAT"), (1, u "T_DOUBLE"), (1, u "T_BYTE"), (1, u "T_SHORT"), (1, u "T_INT"), (1, u "T_LONG"), (1, u "SOFT_MAX_ARRAY_LENGTH")] 83

def k16m0 : Method := { name := "<init>", desc := "()V", sig := { parameters := [], returnType := none }, accessFlags := 2, code := none }
/-- jdk/internal/util/ArraysSupport -/
def k16 : Class := { plain "jdk/internal/util/ArraysSupport" (some 0) with
  accessFlags := 33
  interfaces := #[]
  cf := some (fileOf pool16 21 #[] #[{ accessFlags := 2, nameIndex := 9, descriptorIndex := 19, attributes := #[] }] 33 16 #[] #[{ accessFlags := 24, nameIndex := 28, descriptorIndex := 29, attributes := #[] }, { accessFlags := 26, nameIndex := 38, descriptorIndex := 39, attributes := #[] }, { accessFlags := 25, nameIndex := 121, descriptorIndex := 25, attributes := #[] }, { accessFlags := 25, nameIndex := 131, descriptorIndex := 25, attributes := #[] }, { accessFlags := 25, nameIndex := 137, descriptorIndex := 25, attributes := #[] }, { accessFlags := 25, nameIndex := 143, descriptorIndex := 25, attributes := #[] }, { accessFlags := 25, nameIndex := 53, descriptorIndex := 25, attributes := #[] }, { accessFlags := 25, nameIndex := 24, descriptorIndex := 25, attributes := #[] }, { accessFlags := 25, nameIndex := 162, descriptorIndex := 25, attributes := #[] }, { accessFlags := 25, nameIndex := 187, descriptorIndex := 25, attributes := #[] }, { accessFlags := 26, nameIndex := 48, descriptorIndex := 25, attributes := #[] }, { accessFlags := 25, nameIndex := 277, descriptorIndex := 25, attributes := #[] }, { accessFlags := 25, nameIndex := 280, descriptorIndex := 25, attributes := #[] }, { accessFlags := 25, nameIndex := 282, descriptorIndex := 25, attributes := #[] }, { accessFlags := 25, nameIndex := 284, descriptorIndex := 25, attributes := #[] }, { accessFlags := 25, nameIndex := 286, descriptorIndex := 25, attributes := #[] }, { accessFlags := 25, nameIndex := 288, descriptorIndex := 25, attributes := #[] }, { accessFlags := 25, nameIndex := 290, descriptorIndex := 25, attributes := #[] }, { accessFlags := 25, nameIndex := 292, descriptorIndex := 25, attributes := #[] }, { accessFlags := 26, nameIndex := 108, descriptorIndex := 109, attributes := #[] }, { accessFlags := 25, nameIndex := 294, descriptorIndex := 25, attributes := #[] }])
  fields := #[{ name := "U", type := (.object "jdk/internal/misc/Unsafe"), accessFlags := 24, slot := 0, constantValue := 0 }, { name := "BIG_ENDIAN", type := .boolean, accessFlags := 26, slot := 1, constantValue := 0 }, { name := "LOG2_ARRAY_BOOLEAN_INDEX_SCALE", type := .int, accessFlags := 25, slot := 2, constantValue := 0 }, { name := "LOG2_ARRAY_BYTE_INDEX_SCALE", type := .int, accessFlags := 25, slot := 3, constantValue := 0 }, { name := "LOG2_ARRAY_CHAR_INDEX_SCALE", type := .int, accessFlags := 25, slot := 4, constantValue := 0 }, { name := "LOG2_ARRAY_SHORT_INDEX_SCALE", type := .int, accessFlags := 25, slot := 5, constantValue := 0 }, { name := "LOG2_ARRAY_INT_INDEX_SCALE", type := .int, accessFlags := 25, slot := 6, constantValue := 0 }, { name := "LOG2_ARRAY_LONG_INDEX_SCALE", type := .int, accessFlags := 25, slot := 7, constantValue := 0 }, { name := "LOG2_ARRAY_FLOAT_INDEX_SCALE", type := .int, accessFlags := 25, slot := 8, constantValue := 0 }, { name := "LOG2_ARRAY_DOUBLE_INDEX_SCALE", type := .int, accessFlags := 25, slot := 9, constantValue := 0 }, { name := "LOG2_BYTE_BIT_SIZE", type := .int, accessFlags := 26, slot := 10, constantValue := 0 }, { name := "T_BOOLEAN", type := .int, accessFlags := 25, slot := 11, constantValue := 0 }, { name := "T_CHAR", type := .int, accessFlags := 25, slot := 12, constantValue := 0 }, { name := "T_FLOAT", type := .int, accessFlags := 25, slot := 13, constantValue := 0 }, { name := "T_DOUBLE", type := .int, accessFlags := 25, slot := 14, constantValue := 0 }, { name := "T_BYTE", type := .int, accessFlags := 25, slot := 15, constantValue := 0 }, { name := "T_SHORT", type := .int, accessFlags := 25, slot := 16, constantValue := 0 }, { name := "T_INT", type := .int, accessFlags := 25, slot := 17, constantValue := 0 }, { name := "T_LONG", type := .int, accessFlags := 25, slot := 18, constantValue := 0 }, { name := "JLA", type := (.object "jdk/internal/access/JavaLangAccess"), accessFlags := 26, slot := 19, constantValue := 0 }, { name := "SOFT_MAX_ARRAY_LENGTH", type := .int, accessFlags := 25, slot := 20, constantValue := 0 }]
  methods := #[k16m0]
  instanceTypes := #[]
  staticTypes := #[(.object "jdk/internal/misc/Unsafe"), .boolean, .int, .int, .int, .int, .int, .int, .int, .int, .int, .int, .int, .int, .int, .int, .int, .int, .int, (.object "jdk/internal/access/JavaLangAccess"), .int]
  resolved := Array.replicate 378 none
  statics := none }

/-- the primitive byte -/
def k17 : Class := { plain "byte" none with kind := .primitive 'B', accessFlags := 0x411 }
/-- [B -/
def k18 : Class := { plain "[B" (some 0) with kind := .array 17 .byte, interfaces := #[7, 4], accessFlags := 1041 }

/-- the primitive char -/
def k19 : Class := { plain "char" none with kind := .primitive 'C', accessFlags := 0x411 }
/-- [C -/
def k20 : Class := { plain "[C" (some 0) with kind := .array 19 .char, interfaces := #[7, 4], accessFlags := 1041 }

/-- the primitive int -/
def k21 : Class := { plain "int" none with kind := .primitive 'I', accessFlags := 0x411 }
/-- [I -/
def k22 : Class := { plain "[I" (some 0) with kind := .array 21 .int, interfaces := #[7, 4], accessFlags := 1041 }

/-- [Lcom/example/ombudsign/ombudsign/dss/CertType; -/
def k23 : Class := { plain "[Lcom/example/ombudsign/ombudsign/dss/CertType;" (some 0) with kind := .array 6 (.object "com/example/ombudsign/ombudsign/dss/CertType"), interfaces := #[7, 4], accessFlags := 1041 }

def heap : Heap := #[{ cls := 6, slots := #[.ref 5, .ref 6, .ref 4], vm := .statics 6 },
  { cls := 10, slots := #[.long 0, .int 1, .null, .int 0, .null, .int 0, .int 0], vm := .statics 10 },
  { cls := 11, slots := #[.ref 11], vm := .statics 11 },
  { cls := 15, slots := #[.null, .null, .null], vm := .statics 15 },
  { cls := 23, slots := #[.ref 5, .ref 6], vm := .none },
  { cls := 6, slots := #[.null, .int 0, .int 0, .ref 7, .int 0, .int 0], vm := .none },
  { cls := 6, slots := #[.null, .int 1, .int 0, .ref 8, .int 0, .int 0], vm := .none },
  { cls := 10, slots := #[.ref 9, .int 0, .int 0, .int 0], vm := .none },
  { cls := 10, slots := #[.ref 10, .int 0, .int 0, .int 0], vm := .none },
  { cls := 18, slots := #[.int 80, .int 75, .int 67], vm := .none },
  { cls := 18, slots := #[.int 81, .int 67, .int 47, .int 83, .int 83, .int 67, .int 68], vm := .none },
  { cls := 11, slots := #[.null], vm := .none }]
def classes : Array Class := #[k0, k1, k2, k3, k4, k5, k6, k7, k8, k9, k10, k11, k12, k13, k14, k15, k16, k17, k18, k19, k20, k21, k22, k23]
def interned : List (Array UInt16 × Addr) := []
def slotsUsed : Nat := 47
def theMethod : MethodId := ⟨1, 1⟩
def args0 : Array Value := #[.int 5, .int 7, .int 3, .int 11]
def aboutOver (below : List Frame) : State where
  vm := { classes := classes, interned := interned.toArray }
  heap := heap
  slotsUsed := slotsUsed
  threads := #[{ frames := .invoking theMethod args0 :: below }]
def below0 : List Frame := [.native { method := ⟨0, 0⟩, args := #[] }]
def about1 : State := aboutOver below0
def p0 : Program := .bare "" "" ""
def e0 : Env := launch0.env 0 0 0
theorem w_frames : about1.frames = Frame.invoking theMethod args0 :: below0 := rfl
set_option maxRecDepth 65536 in
theorem w_args : argsFit about1.vm theMethod args0 = true := by decide +kernel
set_option maxRecDepth 65536 in
theorem w_heap : heapFits about1 = true := by decide +kernel
set_option maxRecDepth 65536 in
theorem w_runnable : about1.curStatus? = some .runnable := by decide +kernel
set_option maxRecDepth 65536 in
theorem w_alone : about1.alone = true := by decide +kernel
set_option maxRecDepth 65536 in
theorem w_named : about1.methodNamed? x = some theMethod := by decide +kernel
set_option maxRecDepth 65536 in
theorem w_hears : about1.hears theMethod below0 = true := by decide +kernel
set_option maxRecDepth 65536 in
theorem w_ripe : about1.ripe theMethod args0 below0 = true := by decide +kernel
theorem w_running : about1.status = .running := rfl
set_option maxRecDepth 65536 in
theorem w_room : about1.hasRoom e0.platform room_1 = true :=
  launch0.hasRoom_least _ room_1 (by decide +kernel) (by decide +kernel) (by decide +kernel) (by decide +kernel) (by decide +kernel) (by decide +kernel)
theorem allAtoms_all (ts : List Jvm.Cond) (a : Array Jvm.Value) (st : Jvm.State) : (allAtoms ts).before a st = ts.all (fun c => c.before a st) := by
  induction ts with
  | nil => rfl
  | cons c t ih =>
    show (Jvm.Cond.and c (allAtoms t)).before a st = _
    rw [Jvm.Cond.before_and, ih, List.all_cons]
def words1 : List Jvm.Cond := Jvm.Cond.code x code maxLocals ret :: tables_1
/-- a 'code' word, met by the world's own term for the bytes: nothing is compared byte by byte -/
theorem code_word {y : MethodName} {bytes : ByteArray} {mx : Nat} {rt : Option FieldType} {a : Array Value} {s : State} {m : MethodId} {meth : Method} {c : Code} (h1 : s.methodNamed? y = some m) (h2 : s.vm.method? m = some meth) (h3 : meth.code = some c) (h4 : c.code = bytes)
    (h5 : (c.maxLocals == mx && c.exceptionTable.isEmpty && decide (c.maxStack ≤ mostOperands) && decide (meth.sig.returnType = rt) && !meth.locks && decide (parseMethodDescriptor y.desc = some meth.sig)) = true) : (Jvm.Cond.code y bytes mx rt).before a s = true := by
  simp only [Bool.and_eq_true, beq_iff_eq, Bool.not_eq_true', decide_eq_true_eq] at h5
  obtain ⟨⟨⟨⟨⟨g1, g2⟩, g3⟩, g4⟩, g5⟩, g6⟩ := h5
  simp [Cond.before, Cond.holds, Cond.value, h1, h2, h3, h4, g1, g2, g3, g4, g5, g6]
def isCode : Jvm.Cond → Bool
  | .code _ _ _ _ => true
  | _ => false
theorem all_split {L : List Jvm.Cond} {P : Jvm.Cond → Bool} (h1 : L.all (fun c => isCode c || P c) = true) (h2 : ∀ c ∈ L.filter isCode, P c = true) : L.all P = true := by
  refine List.all_eq_true.mpr fun c hc => ?_
  have h := List.all_eq_true.mp h1 c hc
  rcases Bool.eq_false_or_eq_true (isCode c) with hi | hi
  · exact h2 c (List.mem_filter.mpr ⟨hc, hi⟩)
  · simpa [hi] using h
set_option maxRecDepth 65536 in
theorem w_c0 : (Jvm.Cond.code x code maxLocals ret).before args0 about1 = true := code_word (m := ⟨1, 1⟩) (meth := k1m1) (c := k1c1) (by decide +kernel) rfl rfl rfl (by decide +kernel)
set_option maxRecDepth 65536 in
theorem w_c1 : (Jvm.Cond.code ({ cls := "com/example/ombudsign/ombudsign/dss/CertTypeFromValuePinLaw", name := "make", desc := "(IIII)Ljava/lang/String;" } : Jvm.MethodName) method_5_code (5 : Nat) (Option.some (Jvm.ClassFile.FieldType.object "java/lang/String"))).before args0 about1 = true := code_word (m := ⟨1, 4⟩) (meth := k1m4) (c := k1c4) (by decide +kernel) rfl rfl rfl (by decide +kernel)
set_option maxRecDepth 65536 in
theorem w_c2 : (Jvm.Cond.code ({ cls := "com/example/ombudsign/ombudsign/dss/CertType", name := "fromValue", desc := "(Ljava/lang/String;)Ljava/util/Optional;" } : Jvm.MethodName) prog_5_method_4_code (5 : Nat) (Option.some (Jvm.ClassFile.FieldType.object "java/util/Optional"))).before args0 about1 = true := code_word (m := ⟨6, 1⟩) (meth := k6m1) (c := k6c1) (by decide +kernel) rfl rfl rfl (by decide +kernel)
set_option maxRecDepth 65536 in
theorem w_c3 : (Jvm.Cond.code ({ cls := "com/example/ombudsign/ombudsign/dss/CertType", name := "values", desc := "()[Lcom/example/ombudsign/ombudsign/dss/CertType;" } : Jvm.MethodName) prog_5_method_1_code (0 : Nat) (Option.some (Jvm.ClassFile.FieldType.array (Jvm.ClassFile.FieldType.object "com/example/ombudsign/ombudsign/dss/CertType")))).before args0 about1 = true := code_word (m := ⟨6, 0⟩) (meth := k6m0) (c := k6c0) (by decide +kernel) rfl rfl rfl (by decide +kernel)
set_option maxRecDepth 65536 in
theorem w_c4 : (Jvm.Cond.code ({ cls := "java/lang/String", name := "equals", desc := "(Ljava/lang/Object;)Z" } : Jvm.MethodName) jdk_42_method_66_code (3 : Nat) (Option.some Jvm.ClassFile.FieldType.boolean)).before args0 about1 = true := code_word (m := ⟨10, 2⟩) (meth := k10m2) (c := k10c2) (by decide +kernel) rfl rfl rfl (by decide +kernel)
set_option maxRecDepth 65536 in
theorem w_c5 : (Jvm.Cond.code ({ cls := "java/util/Optional", name := "empty", desc := "()Ljava/util/Optional;" } : Jvm.MethodName) jdk_32_method_1_code (1 : Nat) (Option.some (Jvm.ClassFile.FieldType.object "java/util/Optional"))).before args0 about1 = true := code_word (m := ⟨11, 0⟩) (meth := k11m0) (c := k11c0) (by decide +kernel) rfl rfl rfl (by decide +kernel)
set_option maxRecDepth 65536 in
theorem w_c6 : (Jvm.Cond.code ({ cls := "java/util/Optional", name := "orElse", desc := "(Ljava/lang/Object;)Ljava/lang/Object;" } : Jvm.MethodName) jdk_32_method_15_code (2 : Nat) (Option.some (Jvm.ClassFile.FieldType.object "java/lang/Object"))).before args0 about1 = true := code_word (m := ⟨11, 3⟩) (meth := k11m3) (c := k11c3) (by decide +kernel) rfl rfl rfl (by decide +kernel)
set_option maxRecDepth 65536 in
theorem w_c7 : (Jvm.Cond.code ({ cls := "com/example/ombudsign/ombudsign/dss/CertTypeFromValuePinLaw", name := "ch", desc := "(ICIII)C" } : Jvm.MethodName) method_4_code (5 : Nat) (Option.some Jvm.ClassFile.FieldType.char)).before args0 about1 = true := code_word (m := ⟨1, 3⟩) (meth := k1m3) (c := k1c3) (by decide +kernel) rfl rfl rfl (by decide +kernel)
set_option maxRecDepth 65536 in
theorem w_c8 : (Jvm.Cond.code ({ cls := "com/example/ombudsign/ombudsign/dss/CertTypeFromValuePinLaw", name := "drawn", desc := "(III)C" } : Jvm.MethodName) method_3_code (4 : Nat) (Option.some Jvm.ClassFile.FieldType.char)).before args0 about1 = true := code_word (m := ⟨1, 2⟩) (meth := k1m2) (c := k1c2) (by decide +kernel) rfl rfl rfl (by decide +kernel)
set_option maxRecDepth 65536 in
theorem w_c9 : (Jvm.Cond.code ({ cls := "java/lang/String", name := "<init>", desc := "([C)V" } : Jvm.MethodName) jdk_42_method_3_code (2 : Nat) (Option.none : Option Jvm.ClassFile.FieldType)).before args0 about1 = true := code_word (m := ⟨10, 1⟩) (meth := k10m1) (c := k10c1) (by decide +kernel) rfl rfl rfl (by decide +kernel)
set_option maxRecDepth 65536 in
theorem w_c10 : (Jvm.Cond.code ({ cls := "java/lang/String", name := "<init>", desc := "([CIILjava/lang/Void;)V" } : Jvm.MethodName) jdk_42_method_149_code (6 : Nat) (Option.none : Option Jvm.ClassFile.FieldType)).before args0 about1 = true := code_word (m := ⟨10, 3⟩) (meth := k10m3) (c := k10c3) (by decide +kernel) rfl rfl rfl (by decide +kernel)
set_option maxRecDepth 65536 in
theorem w_c11 : (Jvm.Cond.code ({ cls := "java/lang/Object", name := "<init>", desc := "()V" } : Jvm.MethodName) object_method_1_code (1 : Nat) (Option.none : Option Jvm.ClassFile.FieldType)).before args0 about1 = true := code_word (m := ⟨0, 0⟩) (meth := k0m0) (c := k0c0) (by decide +kernel) rfl rfl rfl (by decide +kernel)
set_option maxRecDepth 65536 in
theorem w_c12 : (Jvm.Cond.code ({ cls := "java/lang/StringUTF16", name := "compress", desc := "([CII)[B" } : Jvm.MethodName) jdk_52_method_16_code (6 : Nat) (Option.some (Jvm.ClassFile.FieldType.array Jvm.ClassFile.FieldType.byte))).before args0 about1 = true := code_word (m := ⟨12, 2⟩) (meth := k12m2) (c := k12c2) (by decide +kernel) rfl rfl rfl (by decide +kernel)
set_option maxRecDepth 65536 in
theorem w_c13 : (Jvm.Cond.code ({ cls := "java/lang/StringUTF16", name := "compress", desc := "([CI[BII)I" } : Jvm.MethodName) jdk_52_method_21_code (7 : Nat) (Option.some Jvm.ClassFile.FieldType.int)).before args0 about1 = true := code_word (m := ⟨12, 3⟩) (meth := k12m3) (c := k12c3) (by decide +kernel) rfl rfl rfl (by decide +kernel)
set_option maxRecDepth 65536 in
theorem w_c14 : (Jvm.Cond.code ({ cls := "java/lang/StringUTF16", name := "coderFromArrayLen", desc := "([BI)B" } : Jvm.MethodName) jdk_52_method_15_code (2 : Nat) (Option.some Jvm.ClassFile.FieldType.byte)).before args0 about1 = true := code_word (m := ⟨12, 1⟩) (meth := k12m1) (c := k12c1) (by decide +kernel) rfl rfl rfl (by decide +kernel)
set_option maxRecDepth 65536 in
theorem w_c15 : (Jvm.Cond.code ({ cls := "java/lang/StringLatin1", name := "equals", desc := "([B[B)Z" } : Jvm.MethodName) jdk_43_method_13_code (3 : Nat) (Option.some Jvm.ClassFile.FieldType.boolean)).before args0 about1 = true := code_word (m := ⟨13, 1⟩) (meth := k13m1) (c := k13c1) (by decide +kernel) rfl rfl rfl (by decide +kernel)
set_option maxRecDepth 65536 in
theorem w_c16 : (Jvm.Cond.code ({ cls := "java/util/Optional", name := "of", desc := "(Ljava/lang/Object;)Ljava/util/Optional;" } : Jvm.MethodName) jdk_32_method_3_code (1 : Nat) (Option.some (Jvm.ClassFile.FieldType.object "java/util/Optional"))).before args0 about1 = true := code_word (m := ⟨11, 2⟩) (meth := k11m2) (c := k11c2) (by decide +kernel) rfl rfl rfl (by decide +kernel)
set_option maxRecDepth 65536 in
theorem w_c17 : (Jvm.Cond.code ({ cls := "java/util/Objects", name := "requireNonNull", desc := "(Ljava/lang/Object;)Ljava/lang/Object;" } : Jvm.MethodName) jdk_31_method_10_code (1 : Nat) (Option.some (Jvm.ClassFile.FieldType.object "java/lang/Object"))).before args0 about1 = true := code_word (m := ⟨14, 1⟩) (meth := k14m1) (c := k14c1) (by decide +kernel) rfl rfl rfl (by decide +kernel)
set_option maxRecDepth 65536 in
theorem w_c18 : (Jvm.Cond.code ({ cls := "java/util/Optional", name := "<init>", desc := "(Ljava/lang/Object;)V" } : Jvm.MethodName) jdk_32_method_2_code (2 : Nat) (Option.none : Option Jvm.ClassFile.FieldType)).before args0 about1 = true := code_word (m := ⟨11, 1⟩) (meth := k11m1) (c := k11c1) (by decide +kernel) rfl rfl rfl (by decide +kernel)
def codes1 : List Jvm.Cond := [Jvm.Cond.code x code maxLocals ret, Jvm.Cond.code ({ cls := "com/example/ombudsign/ombudsign/dss/CertTypeFromValuePinLaw", name := "make", desc := "(IIII)Ljava/lang/String;" } : Jvm.MethodName) method_5_code (5 : Nat) (Option.some (Jvm.ClassFile.FieldType.object "java/lang/String")), Jvm.Cond.code ({ cls := "com/example/ombudsign/ombudsign/dss/CertType", name := "fromValue", desc := "(Ljava/lang/String;)Ljava/util/Optional;" } : Jvm.MethodName) prog_5_method_4_code (5 : Nat) (Option.some (Jvm.ClassFile.FieldType.object "java/util/Optional")), Jvm.Cond.code ({ cls := "com/example/ombudsign/ombudsign/dss/CertType", name := "values", desc := "()[Lcom/example/ombudsign/ombudsign/dss/CertType;" } : Jvm.MethodName) prog_5_method_1_code (0 : Nat) (Option.some (Jvm.ClassFile.FieldType.array (Jvm.ClassFile.FieldType.object "com/example/ombudsign/ombudsign/dss/CertType"))), Jvm.Cond.code ({ cls := "java/lang/String", name := "equals", desc := "(Ljava/lang/Object;)Z" } : Jvm.MethodName) jdk_42_method_66_code (3 : Nat) (Option.some Jvm.ClassFile.FieldType.boolean), Jvm.Cond.code ({ cls := "java/util/Optional", name := "empty", desc := "()Ljava/util/Optional;" } : Jvm.MethodName) jdk_32_method_1_code (1 : Nat) (Option.some (Jvm.ClassFile.FieldType.object "java/util/Optional")), Jvm.Cond.code ({ cls := "java/util/Optional", name := "orElse", desc := "(Ljava/lang/Object;)Ljava/lang/Object;" } : Jvm.MethodName) jdk_32_method_15_code (2 : Nat) (Option.some (Jvm.ClassFile.FieldType.object "java/lang/Object")), Jvm.Cond.code ({ cls := "com/example/ombudsign/ombudsign/dss/CertTypeFromValuePinLaw", name := "ch", desc := "(ICIII)C" } : Jvm.MethodName) method_4_code (5 : Nat) (Option.some Jvm.ClassFile.FieldType.char), Jvm.Cond.code ({ cls := "com/example/ombudsign/ombudsign/dss/CertTypeFromValuePinLaw", name := "drawn", desc := "(III)C" } : Jvm.MethodName) method_3_code (4 : Nat) (Option.some Jvm.ClassFile.FieldType.char), Jvm.Cond.code ({ cls := "java/lang/String", name := "<init>", desc := "([C)V" } : Jvm.MethodName) jdk_42_method_3_code (2 : Nat) (Option.none : Option Jvm.ClassFile.FieldType), Jvm.Cond.code ({ cls := "java/lang/String", name := "<init>", desc := "([CIILjava/lang/Void;)V" } : Jvm.MethodName) jdk_42_method_149_code (6 : Nat) (Option.none : Option Jvm.ClassFile.FieldType), Jvm.Cond.code ({ cls := "java/lang/Object", name := "<init>", desc := "()V" } : Jvm.MethodName) object_method_1_code (1 : Nat) (Option.none : Option Jvm.ClassFile.FieldType), Jvm.Cond.code ({ cls := "java/lang/StringUTF16", name := "compress", desc := "([CII)[B" } : Jvm.MethodName) jdk_52_method_16_code (6 : Nat) (Option.some (Jvm.ClassFile.FieldType.array Jvm.ClassFile.FieldType.byte)), Jvm.Cond.code ({ cls := "java/lang/StringUTF16", name := "compress", desc := "([CI[BII)I" } : Jvm.MethodName) jdk_52_method_21_code (7 : Nat) (Option.some Jvm.ClassFile.FieldType.int), Jvm.Cond.code ({ cls := "java/lang/StringUTF16", name := "coderFromArrayLen", desc := "([BI)B" } : Jvm.MethodName) jdk_52_method_15_code (2 : Nat) (Option.some Jvm.ClassFile.FieldType.byte), Jvm.Cond.code ({ cls := "java/lang/StringLatin1", name := "equals", desc := "([B[B)Z" } : Jvm.MethodName) jdk_43_method_13_code (3 : Nat) (Option.some Jvm.ClassFile.FieldType.boolean), Jvm.Cond.code ({ cls := "java/util/Optional", name := "of", desc := "(Ljava/lang/Object;)Ljava/util/Optional;" } : Jvm.MethodName) jdk_32_method_3_code (1 : Nat) (Option.some (Jvm.ClassFile.FieldType.object "java/util/Optional")), Jvm.Cond.code ({ cls := "java/util/Objects", name := "requireNonNull", desc := "(Ljava/lang/Object;)Ljava/lang/Object;" } : Jvm.MethodName) jdk_31_method_10_code (1 : Nat) (Option.some (Jvm.ClassFile.FieldType.object "java/lang/Object")), Jvm.Cond.code ({ cls := "java/util/Optional", name := "<init>", desc := "(Ljava/lang/Object;)V" } : Jvm.MethodName) jdk_32_method_2_code (2 : Nat) (Option.none : Option Jvm.ClassFile.FieldType)]
set_option maxRecDepth 65536 in
theorem codes_eq : words1.filter isCode = codes1 := rfl
theorem w_codes : ∀ c ∈ words1.filter isCode, c.before args0 about1 = true := by
  rw [codes_eq]
  intro c hc
  simp only [codes1, List.mem_cons, List.not_mem_nil, or_false] at hc
  rcases hc with rfl | rfl | rfl | rfl | rfl | rfl | rfl | rfl | rfl | rfl | rfl | rfl | rfl | rfl | rfl | rfl | rfl | rfl | rfl
  · exact w_c0
  · exact w_c1
  · exact w_c2
  · exact w_c3
  · exact w_c4
  · exact w_c5
  · exact w_c6
  · exact w_c7
  · exact w_c8
  · exact w_c9
  · exact w_c10
  · exact w_c11
  · exact w_c12
  · exact w_c13
  · exact w_c14
  · exact w_c15
  · exact w_c16
  · exact w_c17
  · exact w_c18
set_option maxRecDepth 65536 in
theorem w_t1 : (words1.take 24).all (fun c => isCode c || c.before args0 about1) = true := by decide +kernel
set_option maxRecDepth 65536 in
theorem w_t2 : ((words1.drop 24).take 24).all (fun c => isCode c || c.before args0 about1) = true := by decide +kernel
set_option maxRecDepth 65536 in
theorem w_t3 : (((words1.drop 24).drop 24).take 24).all (fun c => isCode c || c.before args0 about1) = true := by decide +kernel
set_option maxRecDepth 65536 in
theorem w_t4 : ((((words1.drop 24).drop 24).drop 24).take 24).all (fun c => isCode c || c.before args0 about1) = true := by decide +kernel
set_option maxRecDepth 65536 in
theorem w_t5 : ((((words1.drop 24).drop 24).drop 24).drop 24).all (fun c => isCode c || c.before args0 about1) = true := by decide +kernel
theorem w_tables : (allAtoms (Jvm.Cond.code x code maxLocals ret :: tables_1)).before args0 about1 = true := by
  rw [allAtoms_all]
  show words1.all (fun c => c.before args0 about1) = true
  refine all_split ?_ w_codes
  rw [← List.take_append_drop 24 words1, List.all_append, w_t1, ← List.take_append_drop 24 (words1.drop 24), List.all_append, w_t2, ← List.take_append_drop 24 ((words1.drop 24).drop 24), List.all_append, w_t3, ← List.take_append_drop 24 (((words1.drop 24).drop 24).drop 24), List.all_append, w_t4, w_t5]
  rfl
set_option maxRecDepth 65536 in
theorem w_rest : rest_1_c.before args0 about1 = true := by decide +kernel
set_option maxRecDepth 65536 in
theorem w_case : (Jvm.Cond.and given_1 narrow_1).before args0 about1 = true := by decide +kernel
set_option maxRecDepth 65536 in
theorem w_consts : constsHeld consts_1 about1 := Jvm.Lit.constsHeldB_iff.mp (by decide +kernel)
theorem w_applies : (headSpec (Jvm.Cond.code x code maxLocals ret :: tables_1) room_1).applies x e0.platform about1 = true :=
  (Spec.applies_iff w_frames).mpr ⟨w_running, w_runnable, w_alone, w_named, w_hears, w_ripe, w_room, w_tables⟩
theorem atStart : AtStart classFile x code maxLocals ret World_1 tables_1 room_1 Calls_1 rest_1 Pre_1 launch0 p0 e0 about1 theMethod args0 below0 :=
  ⟨lists_1, trivial, launch0.admits_env _ _ _, launch0.least_env, fairChoices_fair.cas, fairChoices_fair.clock, w_frames, w_args, w_heap, w_applies, ⟨w_consts, trivial⟩, w_rest, w_case⟩
end start1
theorem witness_1 : WitnessClaimed_1 := ⟨start1.p0, start1.e0, start1.about1, start1.theMethod, start1.args0, start1.below0, start1.atStart⟩
end Jvm.Pilot.@@N@@
