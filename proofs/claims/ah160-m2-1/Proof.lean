import JvmDerived
import JvmDerived.Pilot.@@N@@Statement
import JvmDerived.Pilot.@@N@@Code
set_option linter.unusedVariables false
set_option linter.unusedSimpArgs false
/- laws to paste: Road.backV, Road.eqW, Road.codOf (cut by pick.py; bodies as the Statement names them) -/
namespace Jvm.Pilot.@@N@@
namespace StrChars
open Jvm Sem ClassFile Op Lib Jvm.Stand Jvm.Free.XT Jvm.Free.ALB Jvm.Free.JM Jvm.Free
open Jvm.Lib.Cold (StaticIs)
/-- a char array whose places are chars -/
def Ch (a : Addr) (A : Cell) (U : State) : Prop := Arr .char a A U ∧ Typed .char A
theorem Ch.mv {a : Addr} {A : Cell} {U U' : State} (h : Ch a A U) (hal : U.vm.Alike U'.vm) (hh : U'.heap = U.heap) : Ch a A U' := ⟨h.1.mv hal hh, h.2⟩
theorem Ch.keep {a : Addr} {A : Cell} {U U' : State} (h : Ch a A U) (hal : U.vm.Alike U'.vm) (hk : U'.heap[a]? = some A) : Ch a A U' := ⟨h.1.keep hal hk, h.2⟩
/-- what place i of a char[]'s cell holds -/
def cv (A : Cell) (i : Nat) : Int32 := match A.slots[i]? with | some (.int x) => x | _ => 0
theorem Ch.get {a : Addr} {A : Cell} {U : State} (h : Ch a A U) {i : Nat} (hi : i < A.slots.size) : A.slots[i]? = some (.int (cv A i)) := by
  have e := Array.getElem?_eq_getElem hi
  have f := h.2 i _ e
  unfold cv; rw [e]
  generalize A.slots[i] = v at f
  cases v <;> simp [fits] at f ⊢
/-- the byte that i2b leaves of a char -/
def lo8 (x : Int32) : Int32 := x.toInt8.toInt32
theorem fits_lo8 (y : Int32) : fits .byte (.int (lo8 y)) = true := by
  have h1 := y.toInt8.le_toInt
  have h2 := y.toInt8.toInt_lt
  simp only [lo8, fits, Bool.and_eq_true, decide_eq_true_eq, Int32.le_iff_toInt_le, Int8.toInt_toInt32, show (-128 : Int32).toInt = -128 from by decide, show (127 : Int32).toInt = 127 from by decide]
  omega
/-- A' is A but that each place j of lo .. hi - 1 holds f j -/
def Laid (A A' : Cell) (lo hi : Nat) (f : Nat → Value) : Prop := A'.cls = A.cls ∧ A'.vm = A.vm ∧ A'.slots.size = A.slots.size ∧ ∀ i, A'.slots[i]? = if lo ≤ i ∧ i < hi then some (f i) else A.slots[i]?
theorem Laid.zero (A : Cell) (lo : Nat) (f : Nat → Value) : Laid A A lo (lo + 0) f := ⟨rfl, rfl, rfl, fun i => by rw [if_neg (by omega)]⟩
theorem Laid.step {A Ak : Cell} {lo k : Nat} {f : Nat → Value} {v : Value} (h : Laid A Ak lo k f) (hlo : lo ≤ k) (hk : k < Ak.slots.size) (hv : v = f k) : Laid A (Ak.setSlot k v) lo (k + 1) f := by
  refine ⟨h.1, h.2.1, by simpa [Cell.setSlot] using h.2.2.1, fun i => ?_⟩
  by_cases e : k = i
  · subst e; rw [Cell.slots_setSlot_self v hk, if_pos (by omega), hv]
  · rw [Cell.slots_setSlot_ne v e, h.2.2.2 i]
    by_cases q : lo ≤ i ∧ i < k
    · rw [if_pos q, if_pos (by omega)]
    · rw [if_neg q, if_neg (by omega)]
def U16 : String := "java/lang/StringUTF16"
namespace Cmp5
def yN : MethodName := ⟨"java/lang/StringUTF16", "compress", "([CI[BII)I"⟩
abbrev yB : ByteArray := jdk_52_method_21_code
theorem d0 : decode yB 0 = .ok (.iconst 0, 1) := by decide +kernel
theorem d1 : decode yB 1 = .ok (.istore 5, 2) := by decide +kernel
theorem d3 : decode yB 3 = .ok (.iload 5, 2) := by decide +kernel
theorem d5 : decode yB 5 = .ok (.iload 4, 2) := by decide +kernel
theorem d7 : decode yB 7 = .ok (.if_icmp (.ge) 37, 3) := by decide +kernel
theorem d10 : decode yB 10 = .ok (.aload_n 0, 1) := by decide +kernel
theorem d11 : decode yB 11 = .ok (.iload_n 1, 1) := by decide +kernel
theorem d12 : decode yB 12 = .ok (.caload, 1) := by decide +kernel
theorem d13 : decode yB 13 = .ok (.istore 6, 2) := by decide +kernel
theorem d15 : decode yB 15 = .ok (.iload 6, 2) := by decide +kernel
theorem d17 : decode yB 17 = .ok (.sipush 255, 3) := by decide +kernel
theorem d20 : decode yB 20 = .ok (.if_icmp (.le) 6, 3) := by decide +kernel
theorem d26 : decode yB 26 = .ok (.aload_n 2, 1) := by decide +kernel
theorem d27 : decode yB 27 = .ok (.iload_n 3, 1) := by decide +kernel
theorem d28 : decode yB 28 = .ok (.iload 6, 2) := by decide +kernel
theorem d30 : decode yB 30 = .ok (.i2b, 1) := by decide +kernel
theorem d31 : decode yB 31 = .ok (.bastore, 1) := by decide +kernel
theorem d32 : decode yB 32 = .ok (.iinc 1 1, 3) := by decide +kernel
theorem d35 : decode yB 35 = .ok (.iinc 3 1, 3) := by decide +kernel
theorem d38 : decode yB 38 = .ok (.iinc 5 1, 3) := by decide +kernel
theorem d41 : decode yB 41 = .ok (.goto (-38), 3) := by decide +kernel
theorem d44 : decode yB 44 = .ok (.iload 4, 2) := by decide +kernel
theorem d46 : decode yB 46 = .ok (.ireturn, 1) := by decide +kernel
def site : List Cond := []
def tab : Cond := tabOf yN yB 7 (some .int) site
def P (b : Addr) (A : Cell) (d : Addr) (B : Cell) (o q len : Nat) (args : Array Value) (s : State) : Prop := args = #[.ref b, .int (Int32.ofNat o), .ref d, .int (Int32.ofNat q), .int (Int32.ofNat len)] ∧ Ch b A s ∧ Arr .byte d B s ∧ b ≠ d ∧ o + len ≤ A.slots.size ∧ q + len ≤ B.slots.size ∧ ∀ i, i < len → ¬ 255 < cv A (o + i)
def E (b : Addr) (A : Cell) (d : Addr) (B : Cell) (o q len : Nat) (r : Option Value) (s u : State) : Prop := r = some (.int (Int32.ofNat len)) ∧ ∃ B', Put d B' s u ∧ Laid B B' q (q + len) (fun j => Value.int (lo8 (cv A (o + (j - q)))))
/-- no char of the range above 255: len; the places written hold each char's low byte -/
theorem law (l : Launch) (b : Addr) (A : Cell) (d : Addr) (B : Cell) (o q len : Nat) : Law l yN 5 5 0 0 yB 7 (some .int) site (P b A d B o q len) (E b A d B o q len) (copyLocs d q len) 0 0 := by
  refine Law.of_walk (plainFor_of_name (by decide +kernel)) (by decide +kernel) (by decide +kernel) (by decide) (fun _ _ h => by rw [h.1]; rfl) (fun _ U U' hal hh h => ⟨h.1, h.2.1.mv hal hh, h.2.2.1.mv hal hh, h.2.2.2⟩) (fun r U U' V V' h1 hal h2 h => ⟨h.1, h.2.elim fun B' q => ⟨B', q.1.mv h1 h2, q.2⟩⟩) ?_
  intro p e s m args below meth c s₁ X0 hexec hbytes hml hret hlk hnm hown hh0 W hP
  obtain ⟨rfl, hA, hB, hne, l1, l2, hp⟩ := hP
  have c1 : Steps p.tables e below (s₁.setTop (entryFrame m #[.ref b, .int (Int32.ofNat o), .ref d, .int (Int32.ofNat q), .int (Int32.ofNat len)] 7)) (s₁.setTop (mkF m 0 #[.val (.ref b), .val (.int (Int32.ofNat o)), .val (.ref d), .val (.int (Int32.ofNat q)), .val (.int (Int32.ofNat len)), .unset, .unset] [])) := entry rfl
  have hA0 := hA.1.mv X0.warmed.alike hh0
  have hB0 := hB.mv X0.warmed.alike hh0
  have a31 := hA.1.2.2.2
  have c2 : Steps p.tables e below (s₁.setTop (entryFrame m #[.ref b, .int (Int32.ofNat o), .ref d, .int (Int32.ofNat q), .int (Int32.ofNat len)] 7)) (s₁.setTop (mkF m 3 #[.val (.ref b), .val (.int (Int32.ofNat o)), .val (.ref d), .val (.int (Int32.ofNat q)), .val (.int (Int32.ofNat len)), .val (.int 0), .unset] [])) := c1.trans (by
    refine iconstV X0.here hexec rfl 0 (hb hbytes d0) (by decide) ?_
    refine XS.istore X0.here hexec rfl (hb hbytes d1) rfl rfl ?_
    exact Steps.refl _)
  have loop : ∀ (r i : Nat), i + r = len → ∀ (z : Slot), (z = .unset ∨ ∃ w, z = .val w ∧ w.category = 1) → ∀ (Tl : State) (Bk : Cell), Stand p l e { frames := 0, locals := 0, cells := 0, slots := 0 } s m #[.ref b, .int (Int32.ofNat o), .ref d, .int (Int32.ofNat q), .int (Int32.ofNat len)] below meth c Tl ([] ++ copyLocs d q i) 0 0 → Put d Bk s₁ Tl → Laid B Bk q (q + i) (fun j => Value.int (lo8 (cv A (o + (j - q))))) →
      Steps p.tables e below (s₁.setTop (entryFrame m #[.ref b, .int (Int32.ofNat o), .ref d, .int (Int32.ofNat q), .int (Int32.ofNat len)] 7)) (Tl.setTop (mkF m 3 #[.val (.ref b), .val (.int (Int32.ofNat (o + i))), .val (.ref d), .val (.int (Int32.ofNat (q + i))), .val (.int (Int32.ofNat len)), .val (.int (Int32.ofNat i)), z] [])) → ∃ (T' : State) (B' : Cell) (z' : Slot), Stand p l e { frames := 0, locals := 0, cells := 0, slots := 0 } s m #[.ref b, .int (Int32.ofNat o), .ref d, .int (Int32.ofNat q), .int (Int32.ofNat len)] below meth c T' ([] ++ copyLocs d q len) 0 0 ∧ Put d B' s₁ T' ∧ Laid B B' q (q + len) (fun j => Value.int (lo8 (cv A (o + (j - q))))) ∧
      Steps p.tables e below (s₁.setTop (entryFrame m #[.ref b, .int (Int32.ofNat o), .ref d, .int (Int32.ofNat q), .int (Int32.ofNat len)] 7)) (T'.setTop (mkF m 3 #[.val (.ref b), .val (.int (Int32.ofNat (o + len))), .val (.ref d), .val (.int (Int32.ofNat (q + len))), .val (.int (Int32.ofNat len)), .val (.int (Int32.ofNat len)), z'] [])) := by
    intro r
    induction r with
    | zero =>
      intro i hi z hz Tl Bk Xl pl fl cl
      have hil : i = len := by omega
      rw [hil] at Xl fl cl
      exact ⟨Tl, Bk, z, Xl, pl, fl, cl⟩
    | succ r ih =>
      intro i hi z hz Tl Bk Xl pl fl cl
      have all := X0.warmed.alike.symm.trans Xl.warmed.alike
      have hAl := hA0.keep all (pl.other hne hA0.1)
      have hBk := hB0.like all pl.1 fl.1 fl.2.1 fl.2.2.1
      have hlt : q + i < Bk.slots.size := by rw [fl.2.2.1]; omega
      have c3 : Steps p.tables e below (s₁.setTop (entryFrame m #[.ref b, .int (Int32.ofNat o), .ref d, .int (Int32.ofNat q), .int (Int32.ofNat len)] 7)) (Tl.setTop (mkF m 12 #[.val (.ref b), .val (.int (Int32.ofNat (o + i))), .val (.ref d), .val (.int (Int32.ofNat (q + i))), .val (.int (Int32.ofNat len)), .val (.int (Int32.ofNat i)), z] [.int (Int32.ofNat (o + i)), .ref b])) := cl.trans (by
        refine XS.iload Xl.here hexec rfl (hb hbytes d3) rfl ?_
        refine XS.iload Xl.here hexec rfl (hb hbytes d5) rfl ?_
        refine XS.icmpNo Xl.here hexec rfl (hb hbytes d7) rfl (ii_ge_f (lt32 (by omega) (by omega))) ?_
        refine XS.aloadN Xl.here hexec rfl (hb hbytes d10) rfl rfl ?_
        refine XS.iloadN Xl.here hexec rfl (hb hbytes d11) rfl ?_
        exact Steps.refl _)
      have c4 : Steps p.tables e below (s₁.setTop (entryFrame m #[.ref b, .int (Int32.ofNat o), .ref d, .int (Int32.ofNat q), .int (Int32.ofNat len)] 7)) (Tl.setTop (mkF m 13 #[.val (.ref b), .val (.int (Int32.ofNat (o + i))), .val (.ref d), .val (.int (Int32.ofNat (q + i))), .val (.int (Int32.ofNat len)), .val (.int (Int32.ofNat i)), z] [.int (cv A (o + i))])) := c3.trans (by
        refine Xl.aget hexec hAl rfl (hA.get (i := o + i) (by omega)) rfl rfl (hb hbytes d12) ?_
        exact Steps.refl _)
      have c5 : Steps p.tables e below (s₁.setTop (entryFrame m #[.ref b, .int (Int32.ofNat o), .ref d, .int (Int32.ofNat q), .int (Int32.ofNat len)] 7)) (Tl.setTop (mkF m 15 #[.val (.ref b), .val (.int (Int32.ofNat (o + i))), .val (.ref d), .val (.int (Int32.ofNat (q + i))), .val (.int (Int32.ofNat len)), .val (.int (Int32.ofNat i)), .val (.int (cv A (o + i)))] [])) := c4.trans (by
        refine XS.istoreS Xl.here hexec rfl (hb hbytes d13) rfl rfl hz ?_
        exact Steps.refl _)
      have c6 : Steps p.tables e below (s₁.setTop (entryFrame m #[.ref b, .int (Int32.ofNat o), .ref d, .int (Int32.ofNat q), .int (Int32.ofNat len)] 7)) (Tl.setTop (mkF m 31 #[.val (.ref b), .val (.int (Int32.ofNat (o + i))), .val (.ref d), .val (.int (Int32.ofNat (q + i))), .val (.int (Int32.ofNat len)), .val (.int (Int32.ofNat i)), .val (.int (cv A (o + i)))] [.int (lo8 (cv A (o + i))), .int (Int32.ofNat (q + i)), .ref d])) := c5.trans (by
        refine XS.iload Xl.here hexec rfl (hb hbytes d15) rfl ?_
        refine sipushV Xl.here hexec rfl 255 (hb hbytes d17) (by decide) ?_
        refine XS.icmpYes Xl.here hexec rfl (pc0 := 20) rfl (hb hbytes d20) rfl (ii_le_t (hp i (by omega))) (by decide) rfl ?_
        refine XS.aloadN Xl.here hexec rfl (hb hbytes d26) rfl rfl ?_
        refine XS.iloadN Xl.here hexec rfl (hb hbytes d27) rfl ?_
        refine XS.iload Xl.here hexec rfl (hb hbytes d28) rfl ?_
        refine i2b Xl.here hexec rfl (hb hbytes d30) rfl ?_
        exact Steps.refl _)
      obtain ⟨T7, X7, p7, st7⟩ := Xl.aput hexec hBk rfl hlt rfl (fits_lo8 (cv A (o + i))) (g := (mkF m 31 #[.val (.ref b), .val (.int (Int32.ofNat (o + i))), .val (.ref d), .val (.int (Int32.ofNat (q + i))), .val (.int (Int32.ofNat len)), .val (.int (Int32.ofNat i)), .val (.int (cv A (o + i)))] [.int (lo8 (cv A (o + i))), .int (Int32.ofNat (q + i)), .ref d])) rfl (rest := []) rfl (hb hbytes d31)
      have c8 : Steps p.tables e below (s₁.setTop (entryFrame m #[.ref b, .int (Int32.ofNat o), .ref d, .int (Int32.ofNat q), .int (Int32.ofNat len)] 7)) (T7.setTop (mkF m 32 #[.val (.ref b), .val (.int (Int32.ofNat (o + i))), .val (.ref d), .val (.int (Int32.ofNat (q + i))), .val (.int (Int32.ofNat len)), .val (.int (Int32.ofNat i)), .val (.int (cv A (o + i)))] [])) := c6.trans (st7 _ (Steps.refl _))
      have c9 : Steps p.tables e below (s₁.setTop (entryFrame m #[.ref b, .int (Int32.ofNat o), .ref d, .int (Int32.ofNat q), .int (Int32.ofNat len)] 7)) (T7.setTop (mkF m 3 #[.val (.ref b), .val (.int (Int32.ofNat (o + i) + 1)), .val (.ref d), .val (.int (Int32.ofNat (q + i) + 1)), .val (.int (Int32.ofNat len)), .val (.int (Int32.ofNat i + 1)), .val (.int (cv A (o + i)))] [])) := c8.trans (by
        refine iincV X7.here hexec rfl 1 (hb hbytes d32) (by decide) rfl rfl ?_
        refine iincV X7.here hexec rfl 1 (hb hbytes d35) (by decide) rfl rfl ?_
        refine iincV X7.here hexec rfl 1 (hb hbytes d38) (by decide) rfl rfl ?_
        refine XS.goto X7.here hexec rfl (pc0 := 41) rfl (hb hbytes d41) (by decide) rfl ?_
        exact Steps.refl _)
      have c10 : Steps p.tables e below (s₁.setTop (entryFrame m #[.ref b, .int (Int32.ofNat o), .ref d, .int (Int32.ofNat q), .int (Int32.ofNat len)] 7)) (T7.setTop (mkF m 3 #[.val (.ref b), .val (.int (Int32.ofNat (o + (i + 1)))), .val (.ref d), .val (.int (Int32.ofNat (q + (i + 1)))), .val (.int (Int32.ofNat len)), .val (.int (Int32.ofNat (i + 1))), .val (.int (cv A (o + i)))] [])) := by
        have := c9
        rw [succ32, succ32, succ32] at this
        exact this
      exact ih (i + 1) (by omega) _ (Or.inr ⟨_, rfl, rfl⟩) T7 _ (by rw [copyLocs_step, ← List.append_assoc]; exact X7) (pl.trans p7) (fl.step (by omega) hlt (by simp)) c10
  obtain ⟨T9, B9, z9, X9, p9, f9, g9⟩ := loop len 0 (by omega) .unset (Or.inl rfl) s₁ B (by simpa [copyLocs] using X0) ⟨hB0.1, fun _ _ => rfl, rfl⟩ (Laid.zero _ _ _) c2
  have c11 : Steps p.tables e below (s₁.setTop (entryFrame m #[.ref b, .int (Int32.ofNat o), .ref d, .int (Int32.ofNat q), .int (Int32.ofNat len)] 7)) (T9.setTop (mkF m 46 #[.val (.ref b), .val (.int (Int32.ofNat (o + len))), .val (.ref d), .val (.int (Int32.ofNat (q + len))), .val (.int (Int32.ofNat len)), .val (.int (Int32.ofNat len)), z9] [.int (Int32.ofNat len)])) := g9.trans (by
    refine XS.iload X9.here hexec rfl (hb hbytes d3) rfl ?_
    refine XS.iload X9.here hexec rfl (hb hbytes d5) rfl ?_
    refine XS.icmpYes X9.here hexec rfl (pc0 := 7) rfl (hb hbytes d7) rfl (ii_ge_t (nlt32 (by omega) (Nat.le_refl _))) (by decide) rfl ?_
    refine XS.iload X9.here hexec rfl (hb hbytes d44) rfl ?_
    exact Steps.refl _)
  exact ⟨T9, some (.int (Int32.ofNat len)), _, _, _, X9, by simp, rfl, rfl, (fun h => by cases h), ⟨rfl, B9, p9.from hh0, f9⟩, fun fs hl => c11.trans (X9.ireturnOut hexec hret rfl (Or.inl rfl) (hb hbytes d46) hl)⟩
end Cmp5
namespace Cmp3
def yN : MethodName := ⟨"java/lang/StringUTF16", "compress", "([CII)[B"⟩
abbrev yB : ByteArray := jdk_52_method_16_code
theorem d0 : decode yB 0 = .ok (.iload_n 2, 1) := by decide +kernel
theorem d1 : decode yB 1 = .ok (.newarray .byte, 2) := by decide +kernel
theorem d3 : decode yB 3 = .ok (.astore_n 3, 1) := by decide +kernel
theorem d4 : decode yB 4 = .ok (.aload_n 0, 1) := by decide +kernel
theorem d5 : decode yB 5 = .ok (.iload_n 1, 1) := by decide +kernel
theorem d6 : decode yB 6 = .ok (.aload_n 3, 1) := by decide +kernel
theorem d7 : decode yB 7 = .ok (.iconst 0, 1) := by decide +kernel
theorem d8 : decode yB 8 = .ok (.iload_n 2, 1) := by decide +kernel
theorem d9 : decode yB 9 = .ok (.invokestatic 115, 3) := by decide +kernel
theorem d12 : decode yB 12 = .ok (.istore 4, 2) := by decide +kernel
theorem d14 : decode yB 14 = .ok (.iload 4, 2) := by decide +kernel
theorem d16 : decode yB 16 = .ok (.iload_n 2, 1) := by decide +kernel
theorem d17 : decode yB 17 = .ok (.if_icmp (.eq) 40, 3) := by decide +kernel
theorem d57 : decode yB 57 = .ok (.aload_n 3, 1) := by decide +kernel
theorem d58 : decode yB 58 = .ok (.areturn, 1) := by decide +kernel
def site : List Cond := [.arrayClass .byte, Cmp5.tab] ++ staticW U16 115 Cmp5.yN
def tab : Cond := tabOf yN yB 6 (some (.array .byte)) site
def P (b : Addr) (A : Cell) (o len : Nat) (args : Array Value) (s : State) : Prop := args = #[.ref b, .int (Int32.ofNat o), .int (Int32.ofNat len)] ∧ Ch b A s ∧ o + len ≤ A.slots.size ∧ len ≤ 536870912 ∧ ∀ i, i < len → ¬ 255 < cv A (o + i)
def E (b : Addr) (A : Cell) (o len : Nat) (r : Option Value) (s u : State) : Prop := NewArr .byte "[B" len (fun j => .int (lo8 (cv A (o + j)))) r s u ∧ u.heap.size = s.heap.size + 1
/-- no char of the range above 255: a new byte[] of their low bytes -/
theorem law (l : Launch) (b : Addr) (A : Cell) (o len : Nat) : Law l yN 3 3 1 18 yB 6 (some (.array .byte)) site (P b A o len) (E b A o len) [] 1 len := by
  refine Law.of_walk (plainFor_of_name (by decide +kernel)) (by decide +kernel) (by decide +kernel) (by decide) (fun _ _ h => by rw [h.1]; rfl) (fun _ U U' hal hh h => ⟨h.1, h.2.1.mv hal hh, h.2.2⟩) (fun r U U' V V' h1 hal h2 h => ⟨NewArr.mv r U U' V V' h1 hal h2 h.1, by rw [h1, h2]; exact h.2⟩) ?_
  intro p e s m args below meth c s₁ X0 hexec hbytes hml hret hlk hnm hown hh0 W hP
  obtain ⟨rfl, hA, l1, l2, hp⟩ := hP
  have a31 := hA.1.2.2.2
  have c1 : Steps p.tables e below (s₁.setTop (entryFrame m #[.ref b, .int (Int32.ofNat o), .int (Int32.ofNat len)] 6)) (s₁.setTop (mkF m 0 #[.val (.ref b), .val (.int (Int32.ofNat o)), .val (.int (Int32.ofNat len)), .unset, .unset, .unset] [])) := entry rfl
  have c2 : Steps p.tables e below (s₁.setTop (entryFrame m #[.ref b, .int (Int32.ofNat o), .int (Int32.ofNat len)] 6)) (s₁.setTop (mkF m 1 #[.val (.ref b), .val (.int (Int32.ofNat o)), .val (.int (Int32.ofNat len)), .unset, .unset, .unset] [.int (Int32.ofNat len)])) := c1.trans (by
    refine XS.iloadN X0.here hexec rfl (hb hbytes d0) rfl ?_
    exact Steps.refl _)
  obtain ⟨T3, B3, X3, ba3, bs3, bv3, bh3, bf3, st3⟩ := X0.anew hexec (atype := .byte) (wk W (.arrayClass .byte)) rfl (by show len * 1 ≤ _; omega) (by omega) (g := (mkF m 1 #[.val (.ref b), .val (.int (Int32.ofNat o)), .val (.int (Int32.ofNat len)), .unset, .unset, .unset] [.int (Int32.ofNat len)])) rfl (hb hbytes d1) (rest := []) rfl (Nat.le_refl _) (by show 0 + len ≤ len; omega)
  rw [hh0] at ba3 st3
  have kp3 : XT.Kept s T3 := (XT.Kept.of_eq hh0).push bh3
  have hA3 := hA.keep X3.warmed.alike (kp3 _ _ hA.1.1)
  have hne : b ≠ s.heap.size := hA.1.ne
  have c4 : Steps p.tables e below (s₁.setTop (entryFrame m #[.ref b, .int (Int32.ofNat o), .int (Int32.ofNat len)] 6)) (T3.setTop (mkF m 3 #[.val (.ref b), .val (.int (Int32.ofNat o)), .val (.int (Int32.ofNat len)), .unset, .unset, .unset] [.ref s.heap.size])) := c2.trans (st3 _ (Steps.refl _))
  have c5 : Steps p.tables e below (s₁.setTop (entryFrame m #[.ref b, .int (Int32.ofNat o), .int (Int32.ofNat len)] 6)) (T3.setTop (mkF m 9 #[.val (.ref b), .val (.int (Int32.ofNat o)), .val (.int (Int32.ofNat len)), .val (.ref s.heap.size), .unset, .unset] [.int (Int32.ofNat len), .int 0, .ref s.heap.size, .int (Int32.ofNat o), .ref b])) := c4.trans (by
    refine XS.astoreN X3.here hexec rfl (hb hbytes d3) rfl rfl rfl ?_
    refine XS.aloadN X3.here hexec rfl (hb hbytes d4) rfl rfl ?_
    refine XS.iloadN X3.here hexec rfl (hb hbytes d5) rfl ?_
    refine XS.aloadN X3.here hexec rfl (hb hbytes d6) rfl rfl ?_
    refine iconstV X3.here hexec rfl 0 (hb hbytes d7) (by decide) ?_
    refine XS.iloadN X3.here hexec rfl (hb hbytes d8) rfl ?_
    exact Steps.refl _)
  obtain ⟨v6, T6, X6, E6, g6⟩ := X3.callS hexec (Cmp5.law l b A s.heap.size B3 o 0 len) hown (wks W (staticW U16 115 Cmp5.yN)) (wk W Cmp5.tab) (W := 0) (Nat.le_of_ble_eq_true rfl) (Nat.le_of_ble_eq_true rfl) (Nat.le_refl _) (by show 0 + len + 0 ≤ len; omega) (g := (mkF m 9 #[.val (.ref b), .val (.int (Int32.ofNat o)), .val (.int (Int32.ofNat len)), .val (.ref s.heap.size), .unset, .unset] [.int (Int32.ofNat len), .int (Int32.ofNat 0), .ref s.heap.size, .int (Int32.ofNat o), .ref b])) rfl (by rw [hml]; rfl) c5 (argsL := [.ref b, .int (Int32.ofNat o), .ref s.heap.size, .int (Int32.ofNat 0), .int (Int32.ofNat len)]) (rest := []) rfl rfl (by show 2 * 0 + 0 ≤ _; decide) (hb hbytes d9) (⟨rfl, hA3, ba3, hne, l1, by rw [bs3]; simp, hp⟩)
  obtain ⟨rfl, B6, p6, f6⟩ := E6
  have c7 : Steps p.tables e below (s₁.setTop (entryFrame m #[.ref b, .int (Int32.ofNat o), .int (Int32.ofNat len)] 6)) (T6.setTop (mkF m 12 #[.val (.ref b), .val (.int (Int32.ofNat o)), .val (.int (Int32.ofNat len)), .val (.ref s.heap.size), .unset, .unset] [.int (Int32.ofNat len)])) := g6
  have c8 : Steps p.tables e below (s₁.setTop (entryFrame m #[.ref b, .int (Int32.ofNat o), .int (Int32.ofNat len)] 6)) (T6.setTop (mkF m 58 #[.val (.ref b), .val (.int (Int32.ofNat o)), .val (.int (Int32.ofNat len)), .val (.ref s.heap.size), .val (.int (Int32.ofNat len)), .unset] [.ref s.heap.size])) := c7.trans (by
    refine XS.istore X6.here hexec rfl (hb hbytes d12) rfl rfl ?_
    refine XS.iload X6.here hexec rfl (hb hbytes d14) rfl ?_
    refine XS.iloadN X6.here hexec rfl (hb hbytes d16) rfl ?_
    refine XS.icmpYes X6.here hexec rfl (pc0 := 17) rfl (hb hbytes d17) rfl (ii_eq_t rfl) (by decide) rfl ?_
    refine XS.aloadN X6.here hexec rfl (hb hbytes d57) rfl rfl ?_
    exact Steps.refl _)
  have X8 := X6.wide (L' := []) (cells' := 1) (slots' := len) (fun x hx hlt => by
    simp only [List.nil_append, copyLocs, List.mem_map, List.mem_range] at hx
    obtain ⟨i, -, rfl⟩ := hx
    exact absurd hlt (Nat.lt_irrefl _)) (Nat.le_refl _) (by omega)
  exact ⟨T6, some (.ref s.heap.size), _, _, _, X8, rfl, rfl, rfl, (fun h => by cases h), ⟨⟨rfl, B6, ba3.like (X3.warmed.alike.symm.trans X6.warmed.alike) p6.1 f6.1 f6.2.1 f6.2.2.1, f6.2.1.trans bv3, by rw [X6.warmed.alike.findClass, f6.1]; exact bf3, by rw [f6.2.2.1, bs3]; simp, fun j hj => by rw [f6.2.2.2 j, if_pos (by omega)]; rfl, kp3.put p6 (Nat.le_refl _)⟩, by rw [p6.2.2, bh3, hh0]; simp⟩, fun fs hl => c8.trans (X8.areturnOut hexec rfl hret rfl (hb hbytes d58) hl)⟩
end Cmp3
namespace CodL
def yN : MethodName := ⟨"java/lang/StringUTF16", "coderFromArrayLen", "([BI)B"⟩
abbrev yB : ByteArray := jdk_52_method_15_code
theorem d0 : decode yB 0 = .ok (.iload_n 1, 1) := by decide +kernel
theorem d1 : decode yB 1 = .ok (.aload_n 0, 1) := by decide +kernel
theorem d2 : decode yB 2 = .ok (.arraylength, 1) := by decide +kernel
theorem d3 : decode yB 3 = .ok (.isub, 1) := by decide +kernel
theorem d4 : decode yB 4 = .ok (.bipush 31, 2) := by decide +kernel
theorem d6 : decode yB 6 = .ok (.iushr, 1) := by decide +kernel
theorem d7 : decode yB 7 = .ok (.i2b, 1) := by decide +kernel
theorem d8 : decode yB 8 = .ok (.ireturn, 1) := by decide +kernel
def site : List Cond := []
def tab : Cond := tabOf yN yB 2 (some .byte) site
def P (d : Addr) (B : Cell) (args : Array Value) (s : State) : Prop := args = #[.ref d, .int (Int32.ofNat B.slots.size)] ∧ Arr .byte d B s
def E (r : Option Value) (s u : State) : Prop := XT.PureE (some (.int 0)) r s u
/-- an array as long as the number of chars: LATIN1 -/
theorem law (l : Launch) (d : Addr) (B : Cell) : Law l yN 2 2 0 0 yB 2 (some .byte) site (P d B) E [] 0 0 := by
  refine Law.of_walk (plainFor_of_name (by decide +kernel)) (by decide +kernel) (by decide +kernel) (by decide) (fun _ _ h => by rw [h.1]; rfl) (fun _ U U' hal hh h => ⟨h.1, h.2.mv hal hh⟩) (fun r U U' V V' h1 hal h2 h => XT.PureE.mv r U U' V V' h1 hal h2 h) ?_
  intro p e s m args below meth c s₁ X0 hexec hbytes hml hret hlk hnm hown hh0 W hP
  obtain ⟨rfl, hB⟩ := hP
  have hB0 := hB.mv X0.warmed.alike hh0
  have c1 : Steps p.tables e below (s₁.setTop (entryFrame m #[.ref d, .int (Int32.ofNat B.slots.size)] 2)) (s₁.setTop (mkF m 0 #[.val (.ref d), .val (.int (Int32.ofNat B.slots.size))] [])) := entry rfl
  have c2 : Steps p.tables e below (s₁.setTop (entryFrame m #[.ref d, .int (Int32.ofNat B.slots.size)] 2)) (s₁.setTop (mkF m 2 #[.val (.ref d), .val (.int (Int32.ofNat B.slots.size))] [.ref d, .int (Int32.ofNat B.slots.size)])) := c1.trans (by
    refine XS.iloadN X0.here hexec rfl (hb hbytes d0) rfl ?_
    refine XS.aloadN X0.here hexec rfl (hb hbytes d1) rfl rfl ?_
    exact Steps.refl _)
  have c3 : Steps p.tables e below (s₁.setTop (entryFrame m #[.ref d, .int (Int32.ofNat B.slots.size)] 2)) (s₁.setTop (mkF m 8 #[.val (.ref d), .val (.int (Int32.ofNat B.slots.size))] [.int (lo8 (ushr (Int32.ofNat B.slots.size - Int32.ofNat B.slots.size) 31))])) := c2.trans (by
    refine X0.alen hexec hB0 rfl rfl (hb hbytes d2) ?_
    refine XS.isub X0.here hexec rfl (hb hbytes d3) rfl ?_
    refine bipushV X0.here hexec rfl 31 (hb hbytes d4) (by decide) ?_
    refine iushr X0.here hexec rfl (hb hbytes d6) rfl ?_
    refine i2b X0.here hexec rfl (hb hbytes d7) rfl ?_
    exact Steps.refl _)
  have e0 : lo8 (ushr (Int32.ofNat B.slots.size - Int32.ofNat B.slots.size) 31) = 0 := by rw [Int32.sub_self]; decide
  rw [e0] at c3
  exact ⟨s₁, some (.int 0), _, _, _, X0, rfl, rfl, rfl, (fun h => by cases h), ⟨rfl, hh0⟩, fun fs hl => c3.trans (X0.ireturnOut hexec hret rfl (Or.inr (Or.inr (Or.inl rfl))) (hb hbytes d8) hl)⟩
end CodL
/-- the String at a is Latin-1 over a new byte[] (the heap's one new cell): the low bytes of the len chars of A from o on; every cell but a is kept -/
def Got (a : Addr) (D : Cell) (fV fC : Field) (A : Cell) (o len : Nat) (r : Option Value) (s u : State) : Prop := r = none ∧ ∃ D' V : Cell, Blank "java/lang/String" a D' u ∧ Same D D' [fV.slot, fC.slot] ∧ D'.slots[fV.slot]? = some (.ref s.heap.size) ∧ D'.slots[fC.slot]? = some (.int 0) ∧ Arr .byte s.heap.size V u ∧ V.vm = .none ∧ u.vm.findClass "[B" = some V.cls ∧ V.slots.size = len ∧ (∀ j, j < len → V.slots[j]? = some (.int (lo8 (cv A (o + j))))) ∧ (∀ (y : Addr) (c : Cell), y ≠ a → s.heap[y]? = some c → u.heap[y]? = some c) ∧ u.heap.size = s.heap.size + 1
theorem Got.mv {a : Addr} {D A : Cell} {fV fC : Field} {o len : Nat} : ∀ r (U U' V V' : State), U'.heap = U.heap → V.vm.Alike V'.vm → V'.heap = V.heap → Got a D fV fC A o len r U V → Got a D fV fC A o len r U' V' :=
  fun r U U' V V' h1 hal h2 ⟨e0, D', X, a1, a2, a3, a4, a5, a6, a7, a8, a9, a10, a11⟩ => ⟨e0, D', X, a1.mv hal h2, a2, by rw [h1]; exact a3, a4, by rw [h1]; exact a5.mv hal h2, a6, by rw [hal.findClass]; exact a7, a8, a9, by rw [h1, h2]; exact a10, by rw [h1, h2]; exact a11⟩
namespace New4
def yN : MethodName := ⟨"java/lang/String", "<init>", "([CIILjava/lang/Void;)V"⟩
abbrev yB : ByteArray := jdk_42_method_149_code
theorem d0 : decode yB 0 = .ok (.aload_n 0, 1) := by decide +kernel
theorem d1 : decode yB 1 = .ok (.invokespecial 1, 3) := by decide +kernel
theorem d4 : decode yB 4 = .ok (.iload_n 3, 1) := by decide +kernel
theorem d5 : decode yB 5 = .ok (.ifCond (.ne) 22, 3) := by decide +kernel
theorem d27 : decode yB 27 = .ok (.getstatic 38, 3) := by decide +kernel
theorem d30 : decode yB 30 = .ok (.ifCond (.eq) 28, 3) := by decide +kernel
theorem d33 : decode yB 33 = .ok (.aload_n 1, 1) := by decide +kernel
theorem d34 : decode yB 34 = .ok (.iload_n 2, 1) := by decide +kernel
theorem d35 : decode yB 35 = .ok (.iload_n 3, 1) := by decide +kernel
theorem d36 : decode yB 36 = .ok (.invokestatic 177, 3) := by decide +kernel
theorem d39 : decode yB 39 = .ok (.astore 5, 2) := by decide +kernel
theorem d41 : decode yB 41 = .ok (.aload_n 0, 1) := by decide +kernel
theorem d42 : decode yB 42 = .ok (.aload 5, 2) := by decide +kernel
theorem d44 : decode yB 44 = .ok (.iload_n 3, 1) := by decide +kernel
theorem d45 : decode yB 45 = .ok (.invokestatic 47, 3) := by decide +kernel
theorem d48 : decode yB 48 = .ok (.putfield 15, 3) := by decide +kernel
theorem d51 : decode yB 51 = .ok (.aload_n 0, 1) := by decide +kernel
theorem d52 : decode yB 52 = .ok (.aload 5, 2) := by decide +kernel
theorem d54 : decode yB 54 = .ok (.putfield 9, 3) := by decide +kernel
theorem d57 : decode yB 57 = .ok (.return_, 1) := by decide +kernel
def site : List Cond := [.fieldLink "java/lang/String" 38 "java/lang/String" "COMPACT_STRINGS" "Z", Cmp3.tab, CodL.tab, .laysFinal "java/lang/String" "java/lang/String" "value" "[B", .fieldLink "java/lang/String" 9 "java/lang/String" "value" "[B", .laysFinal "java/lang/String" "java/lang/String" "coder" "B", .fieldLink "java/lang/String" 15 "java/lang/String" "coder" "B"] ++ objW "java/lang/String" 1 ++ staticW "java/lang/String" 177 Cmp3.yN ++ staticW "java/lang/String" 47 CodL.yN
def tab : Cond := tabOf yN yB 6 none site
def P (a : Addr) (D : Cell) (fV fC : Field) (b : Addr) (A : Cell) (z : Int32) (o len : Nat) (args : Array Value) (s : State) : Prop := args = #[.ref a, .ref b, .int (Int32.ofNat o), .int (Int32.ofNat len), .null] ∧ Blank "java/lang/String" a D s ∧ Found "java/lang/String" "value" "[B" fV s ∧ Found "java/lang/String" "coder" "B" fC s ∧ Ch b A s ∧ StaticIs s "java/lang/String" "COMPACT_STRINGS" "Z" (.int z) ∧ ¬ z = 0 ∧ 0 < len ∧ o + len ≤ A.slots.size ∧ len ≤ 536870912 ∧ ∀ i, i < len → ¬ 255 < cv A (o + i)
def E (a : Addr) (D : Cell) (fV fC : Field) (A : Cell) (o len : Nat) (r : Option Value) (s u : State) : Prop := Got a D fV fC A o len r s u
/-- len > 0, no char of the range above 255: a Latin-1 String of their low bytes -/
theorem law (l : Launch) (a : Addr) (D : Cell) (fV fC : Field) (b : Addr) (A : Cell) (z : Int32) (o len : Nat) : Law l yN 5 4 2 35 yB 6 none site (P a D fV fC b A z o len) (E a D fV fC A o len) [⟨a, fC.slot⟩, ⟨a, fV.slot⟩] 1 len := by
  refine Law.of_walk (plainFor_of_name (by decide +kernel)) (by decide +kernel) (by decide +kernel) (by decide) (fun _ _ h => by rw [h.1]; rfl) (fun _ U U' hal hh h => ⟨h.1, h.2.1.mv hal hh, h.2.2.1.al hal, h.2.2.2.1.al hal, h.2.2.2.2.1.mv hal hh, h.2.2.2.2.2.1.there hal hh, h.2.2.2.2.2.2⟩) (fun r U U' V V' h1 hal h2 h => Got.mv r U U' V V' h1 hal h2 h) ?_
  intro p e s m args below meth c s₁ X0 hexec hbytes hml hret hlk hnm hown hh0 W hP
  obtain ⟨rfl, hB, f1, f2, hA, s1, hz, l0, l1, l2, hp⟩ := hP
  have a31 := hA.1.2.2.2
  have c1 : Steps p.tables e below (s₁.setTop (entryFrame m #[.ref a, .ref b, .int (Int32.ofNat o), .int (Int32.ofNat len), .null] 6)) (s₁.setTop (mkF m 0 #[.val (.ref a), .val (.ref b), .val (.int (Int32.ofNat o)), .val (.int (Int32.ofNat len)), .val .null, .unset] [])) := entry rfl
  have c2 : Steps p.tables e below (s₁.setTop (entryFrame m #[.ref a, .ref b, .int (Int32.ofNat o), .int (Int32.ofNat len), .null] 6)) (s₁.setTop (mkF m 1 #[.val (.ref a), .val (.ref b), .val (.int (Int32.ofNat o)), .val (.int (Int32.ofNat len)), .val .null, .unset] [.ref a])) := c1.trans (by
    refine XS.aloadN X0.here hexec rfl (hb hbytes d0) rfl rfl ?_
    exact Steps.refl _)
  obtain ⟨T3, X3, q3, st3⟩ := X0.oinit hexec hown (wks W (objW "java/lang/String" 1)) (g := (mkF m 1 #[.val (.ref a), .val (.ref b), .val (.int (Int32.ofNat o)), .val (.int (Int32.ofNat len)), .val .null, .unset] [.ref a])) rfl (by rw [hml]; rfl) (rest := []) rfl (hb hbytes d1) (W := 0) (by show 2 * 0 + 0 ≤ _; decide) (Nat.le_of_ble_eq_true rfl) (Nat.le_of_ble_eq_true rfl)
  have hh3 := q3.trans hh0
  have c4 : Steps p.tables e below (s₁.setTop (entryFrame m #[.ref a, .ref b, .int (Int32.ofNat o), .int (Int32.ofNat len), .null] 6)) (T3.setTop (mkF m 27 #[.val (.ref a), .val (.ref b), .val (.int (Int32.ofNat o)), .val (.int (Int32.ofNat len)), .val .null, .unset] [])) := (c2.trans (st3 _ (Steps.refl _))).trans (by
    refine XS.iloadN X3.here hexec rfl (hb hbytes d4) rfl ?_
    refine XS.ifYes X3.here hexec rfl (pc0 := 5) rfl (hb hbytes d5) rfl (i0_ne_t (nz32 (by omega) l0)) (by decide) rfl ?_
    exact Steps.refl _)
  obtain ⟨T5, X5, q5, st5⟩ := X3.sget hexec hown (wk W (.fieldLink "java/lang/String" 38 "java/lang/String" "COMPACT_STRINGS" "Z")) s1 (fun _ _ h => by rw [hh3]; exact h) (g := (mkF m 27 #[.val (.ref a), .val (.ref b), .val (.int (Int32.ofNat o)), .val (.int (Int32.ofNat len)), .val .null, .unset] [])) rfl (hb hbytes d27)
  have hh5 := q5.trans hh3
  have c6 : Steps p.tables e below (s₁.setTop (entryFrame m #[.ref a, .ref b, .int (Int32.ofNat o), .int (Int32.ofNat len), .null] 6)) (T5.setTop (mkF m 30 #[.val (.ref a), .val (.ref b), .val (.int (Int32.ofNat o)), .val (.int (Int32.ofNat len)), .val .null, .unset] [.int z])) := c4.trans (st5 _ (Steps.refl _))
  have c7 : Steps p.tables e below (s₁.setTop (entryFrame m #[.ref a, .ref b, .int (Int32.ofNat o), .int (Int32.ofNat len), .null] 6)) (T5.setTop (mkF m 36 #[.val (.ref a), .val (.ref b), .val (.int (Int32.ofNat o)), .val (.int (Int32.ofNat len)), .val .null, .unset] [.int (Int32.ofNat len), .int (Int32.ofNat o), .ref b])) := c6.trans (by
    refine XS.ifNo X5.here hexec rfl (hb hbytes d30) rfl (i0_eq_f hz) ?_
    refine XS.aloadN X5.here hexec rfl (hb hbytes d33) rfl rfl ?_
    refine XS.iloadN X5.here hexec rfl (hb hbytes d34) rfl ?_
    refine XS.iloadN X5.here hexec rfl (hb hbytes d35) rfl ?_
    exact Steps.refl _)
  obtain ⟨v8, T8, X8, E8, g8⟩ := X5.callS hexec (Cmp3.law l b A o len) hown (wks W (staticW "java/lang/String" 177 Cmp3.yN)) (wk W Cmp3.tab) (W := 0) (Nat.le_of_ble_eq_true rfl) (Nat.le_of_ble_eq_true rfl) (Nat.le_refl _) (by show 0 + len ≤ len; omega) (g := (mkF m 36 #[.val (.ref a), .val (.ref b), .val (.int (Int32.ofNat o)), .val (.int (Int32.ofNat len)), .val .null, .unset] [.int (Int32.ofNat len), .int (Int32.ofNat o), .ref b])) rfl (by rw [hml]; rfl) c7 (argsL := [.ref b, .int (Int32.ofNat o), .int (Int32.ofNat len)]) (rest := []) rfl rfl (by show 2 * 0 + 0 ≤ _; decide) (hb hbytes d36) (⟨rfl, hA.mv X5.warmed.alike hh5, l1, l2, hp⟩)
  obtain ⟨e8, z8⟩ := E8
  obtain ⟨rfl, N, n1, n2, n3, n4, n5, n6⟩ := NewArr.mv _ T5 s _ _ hh5.symm (Vm.Alike.refl _) rfl e8
  rw [hh5] at z8
  have hB1 := hB.keep X8.warmed.alike (n6 _ _ hB.1)
  have hne : s.heap.size ≠ a := (Nat.ne_of_lt (Array.getElem?_eq_some_iff.mp hB.1).1).symm
  have c9 : Steps p.tables e below (s₁.setTop (entryFrame m #[.ref a, .ref b, .int (Int32.ofNat o), .int (Int32.ofNat len), .null] 6)) (T8.setTop (mkF m 39 #[.val (.ref a), .val (.ref b), .val (.int (Int32.ofNat o)), .val (.int (Int32.ofNat len)), .val .null, .unset] [.ref s.heap.size])) := g8
  have c10 : Steps p.tables e below (s₁.setTop (entryFrame m #[.ref a, .ref b, .int (Int32.ofNat o), .int (Int32.ofNat len), .null] 6)) (T8.setTop (mkF m 45 #[.val (.ref a), .val (.ref b), .val (.int (Int32.ofNat o)), .val (.int (Int32.ofNat len)), .val .null, .val (.ref s.heap.size)] [.int (Int32.ofNat N.slots.size), .ref s.heap.size, .ref a])) := by
    have hc : Steps p.tables e below (s₁.setTop (entryFrame m #[.ref a, .ref b, .int (Int32.ofNat o), .int (Int32.ofNat len), .null] 6)) (T8.setTop (mkF m 45 #[.val (.ref a), .val (.ref b), .val (.int (Int32.ofNat o)), .val (.int (Int32.ofNat len)), .val .null, .val (.ref s.heap.size)] [.int (Int32.ofNat len), .ref s.heap.size, .ref a])) := c9.trans (by
      refine XS.astore X8.here hexec rfl (hb hbytes d39) rfl rfl rfl ?_
      refine XS.aloadN X8.here hexec rfl (hb hbytes d41) rfl rfl ?_
      refine XS.aload X8.here hexec rfl (hb hbytes d42) rfl rfl ?_
      refine XS.iloadN X8.here hexec rfl (hb hbytes d44) rfl ?_
      exact Steps.refl _)
    rw [n4]; exact hc
  obtain ⟨v11, T11, X11, E11, g11⟩ := X8.callS hexec (CodL.law l s.heap.size N) hown (wks W (staticW "java/lang/String" 47 CodL.yN)) (wk W CodL.tab) (W := 1) (Nat.le_of_ble_eq_true rfl) (Nat.le_of_ble_eq_true rfl) (Nat.le_refl _) (by show 0 + len + 0 ≤ len; omega) (g := (mkF m 45 #[.val (.ref a), .val (.ref b), .val (.int (Int32.ofNat o)), .val (.int (Int32.ofNat len)), .val .null, .val (.ref s.heap.size)] [.int (Int32.ofNat N.slots.size), .ref s.heap.size, .ref a])) rfl (by rw [hml]; rfl) c10 (argsL := [.ref s.heap.size, .int (Int32.ofNat N.slots.size)]) (rest := [.ref a]) rfl rfl (by show 2 * 0 + (1 + 0) ≤ _; decide) (hb hbytes d45) (⟨rfl, n1⟩)
  obtain ⟨rfl, q11⟩ := E11
  have hB11 := hB1.mv (X8.warmed.alike.symm.trans X11.warmed.alike) q11
  have c12 : Steps p.tables e below (s₁.setTop (entryFrame m #[.ref a, .ref b, .int (Int32.ofNat o), .int (Int32.ofNat len), .null] 6)) (T11.setTop (mkF m 48 #[.val (.ref a), .val (.ref b), .val (.int (Int32.ofNat o)), .val (.int (Int32.ofNat len)), .val .null, .val (.ref s.heap.size)] [.int 0, .ref a])) := g11
  obtain ⟨T13, X13, p13, bl13, sl13, st13⟩ := X11.finit hexec hown (wk W (.fieldLink "java/lang/String" 15 "java/lang/String" "coder" "B")) (Or.inr ⟨_, (wk W (.laysFinal "java/lang/String" "java/lang/String" "coder" "B"))⟩) (Or.inl ⟨rfl, hnm⟩) f2 (Or.inl rfl) hB11 (t := .byte) (by decide +kernel) rfl (g := (mkF m 48 #[.val (.ref a), .val (.ref b), .val (.int (Int32.ofNat o)), .val (.int (Int32.ofNat len)), .val .null, .val (.ref s.heap.size)] [.int 0, .ref a])) rfl (rest := []) rfl (hb hbytes d48)
  have c14 : Steps p.tables e below (s₁.setTop (entryFrame m #[.ref a, .ref b, .int (Int32.ofNat o), .int (Int32.ofNat len), .null] 6)) (T13.setTop (mkF m 54 #[.val (.ref a), .val (.ref b), .val (.int (Int32.ofNat o)), .val (.int (Int32.ofNat len)), .val .null, .val (.ref s.heap.size)] [.ref s.heap.size, .ref a])) := (c12.trans (st13 _ (Steps.refl _))).trans (by
    refine XS.aloadN X13.here hexec rfl (hb hbytes d51) rfl rfl ?_
    refine XS.aload X13.here hexec rfl (hb hbytes d52) rfl rfl ?_
    exact Steps.refl _)
  obtain ⟨T15, X15, p15, bl15, sl15, st15⟩ := X13.finit hexec hown (wk W (.fieldLink "java/lang/String" 9 "java/lang/String" "value" "[B")) (Or.inr ⟨_, (wk W (.laysFinal "java/lang/String" "java/lang/String" "value" "[B"))⟩) (Or.inl ⟨rfl, hnm⟩) f1 (Or.inl rfl) bl13 (t := (.array .byte)) (by decide +kernel) rfl (g := (mkF m 54 #[.val (.ref a), .val (.ref b), .val (.int (Int32.ofNat o)), .val (.int (Int32.ofNat len)), .val .null, .val (.ref s.heap.size)] [.ref s.heap.size, .ref a])) rfl (rest := []) rfl (hb hbytes d54)
  have c16 : Steps p.tables e below (s₁.setTop (entryFrame m #[.ref a, .ref b, .int (Int32.ofNat o), .int (Int32.ofNat len), .null] 6)) (T15.setTop (mkF m 57 #[.val (.ref a), .val (.ref b), .val (.int (Int32.ofNat o)), .val (.int (Int32.ofNat len)), .val .null, .val (.ref s.heap.size)] [])) := c14.trans (st15 _ (Steps.refl _))
  have ap := apart (Or.inr ⟨_, (wk W (.laysFinal "java/lang/String" "java/lang/String" "value" "[B"))⟩) (Or.inr ⟨_, (wk W (.laysFinal "java/lang/String" "java/lang/String" "coder" "B"))⟩) f1 f2 (t₁ := .array .byte) (t₂ := .byte) (by decide +kernel) (by decide +kernel) (by decide)
  have al := X8.warmed.alike.symm.trans X15.warmed.alike
  have n7 : T11.heap[s.heap.size]? = some N := by rw [q11]; exact n1.1
  exact ⟨T15, none, _, _, _, X15, by simp, rfl, by omega, (fun _ => rfl), ⟨rfl, _, N, bl15, ((Same.refl D _).set _ (by simp)).set _ (by simp), sl15, (Cell.slots_setSlot_ne _ ap).trans sl13, n1.keep al (p15.other hne (p13.other hne n7)), n2, by rw [al.findClass]; exact n3, n4, n5, fun y c h1 h2 => p15.other h1 (p13.other h1 (by rw [q11]; exact n6 y c h2)), by rw [p15.2.2, p13.2.2, q11]; exact z8⟩, fun fs hl => c16.trans (X15.returnOut hexec hret (hb hbytes d57) hl)⟩
end New4
namespace New1
def yN : MethodName := ⟨"java/lang/String", "<init>", "([C)V"⟩
abbrev yB : ByteArray := jdk_42_method_3_code
theorem d0 : decode yB 0 = .ok (.aload_n 0, 1) := by decide +kernel
theorem d1 : decode yB 1 = .ok (.aload_n 1, 1) := by decide +kernel
theorem d2 : decode yB 2 = .ok (.iconst 0, 1) := by decide +kernel
theorem d3 : decode yB 3 = .ok (.aload_n 1, 1) := by decide +kernel
theorem d4 : decode yB 4 = .ok (.arraylength, 1) := by decide +kernel
theorem d5 : decode yB 5 = .ok (.aconst_null, 1) := by decide +kernel
theorem d6 : decode yB 6 = .ok (.invokespecial 27, 3) := by decide +kernel
theorem d9 : decode yB 9 = .ok (.return_, 1) := by decide +kernel
def site : List Cond := [New4.tab] ++ initW "java/lang/String" 27 New4.yN
def tab : Cond := tabOf yN yB 2 none site
def P (a : Addr) (D : Cell) (fV fC : Field) (b : Addr) (A : Cell) (z : Int32) (args : Array Value) (s : State) : Prop := args = #[.ref a, .ref b] ∧ Blank "java/lang/String" a D s ∧ Found "java/lang/String" "value" "[B" fV s ∧ Found "java/lang/String" "coder" "B" fC s ∧ Ch b A s ∧ StaticIs s "java/lang/String" "COMPACT_STRINGS" "Z" (.int z) ∧ ¬ z = 0 ∧ 0 < A.slots.size ∧ A.slots.size ≤ 536870912 ∧ ∀ i, i < A.slots.size → ¬ 255 < cv A i
def E (a : Addr) (D : Cell) (fV fC : Field) (A : Cell) (r : Option Value) (s u : State) : Prop := Got a D fV fC A 0 A.slots.size r s u
/-- new String(chars), not empty, no char above 255: a Latin-1 String of their low bytes -/
theorem law (l : Launch) (a : Addr) (D : Cell) (fV fC : Field) (b : Addr) (A : Cell) (z : Int32) : Law l yN 2 1 3 52 yB 2 none site (P a D fV fC b A z) (E a D fV fC A) [⟨a, fC.slot⟩, ⟨a, fV.slot⟩] 1 A.slots.size := by
  refine Law.of_walk (plainFor_of_name (by decide +kernel)) (by decide +kernel) (by decide +kernel) (by decide) (fun _ _ h => by rw [h.1]; rfl) (fun _ U U' hal hh h => ⟨h.1, h.2.1.mv hal hh, h.2.2.1.al hal, h.2.2.2.1.al hal, h.2.2.2.2.1.mv hal hh, h.2.2.2.2.2.1.there hal hh, h.2.2.2.2.2.2⟩) (fun r U U' V V' h1 hal h2 h => Got.mv r U U' V V' h1 hal h2 h) ?_
  intro p e s m args below meth c s₁ X0 hexec hbytes hml hret hlk hnm hown hh0 W hP
  obtain ⟨rfl, hB, f1, f2, hA, s1, hz, l0, l2, hp⟩ := hP
  have c1 : Steps p.tables e below (s₁.setTop (entryFrame m #[.ref a, .ref b] 2)) (s₁.setTop (mkF m 0 #[.val (.ref a), .val (.ref b)] [])) := entry rfl
  have c2 : Steps p.tables e below (s₁.setTop (entryFrame m #[.ref a, .ref b] 2)) (s₁.setTop (mkF m 6 #[.val (.ref a), .val (.ref b)] [.null, .int (Int32.ofNat A.slots.size), .int 0, .ref b, .ref a])) := c1.trans (by
    refine XS.aloadN X0.here hexec rfl (hb hbytes d0) rfl rfl ?_
    refine XS.aloadN X0.here hexec rfl (hb hbytes d1) rfl rfl ?_
    refine iconstV X0.here hexec rfl 0 (hb hbytes d2) (by decide) ?_
    refine XS.aloadN X0.here hexec rfl (hb hbytes d3) rfl rfl ?_
    refine X0.alen hexec (hA.1.mv X0.warmed.alike hh0) rfl rfl (hb hbytes d4) ?_
    refine XS.aconstNull X0.here hexec rfl (hb hbytes d5) ?_
    exact Steps.refl _)
  obtain ⟨v3, T3, X3, E3, g3⟩ := X0.callN hexec (New4.law l a D fV fC b A z 0 A.slots.size) rfl hown (wks W (initW "java/lang/String" 27 New4.yN)) (W New4.tab (by simp only [site, List.mem_cons, List.mem_append, true_or, or_true])) (W := 0) (Nat.le_of_ble_eq_true rfl) (Nat.le_of_ble_eq_true rfl) (Nat.le_refl _) (by show 0 + A.slots.size ≤ A.slots.size; omega) (g := (mkF m 6 #[.val (.ref a), .val (.ref b)] [.null, .int (Int32.ofNat A.slots.size), .int (Int32.ofNat 0), .ref b, .ref a])) rfl (by rw [hml]; rfl) c2 (argsL := [.ref b, .int (Int32.ofNat 0), .int (Int32.ofNat A.slots.size), .null]) (rest := []) rfl rfl (by show 2 * 0 + 0 ≤ _; decide) (hb hbytes d6) (⟨rfl, hB.mv X0.warmed.alike hh0, f1.al X0.warmed.alike, f2.al X0.warmed.alike, hA.mv X0.warmed.alike hh0, s1.there X0.warmed.alike hh0, hz, l0, by omega, l2, fun i hi => by rw [Nat.zero_add]; exact hp i hi⟩)
  have e0 := Got.mv _ s₁ s _ _ hh0.symm (Vm.Alike.refl _) rfl E3
  obtain rfl := e0.1
  have c4 : Steps p.tables e below (s₁.setTop (entryFrame m #[.ref a, .ref b] 2)) (T3.setTop (mkF m 9 #[.val (.ref a), .val (.ref b)] [])) := g3
  exact ⟨T3, none, _, _, _, X3, by simp, rfl, by omega, (fun _ => rfl), e0, fun fs hl => c4.trans (X3.returnOut hexec hret (hb hbytes d9) hl)⟩
theorem pays {l : Launch} {R : Room} {p : Program} {e : Env} {below : List Frame} {s : State} {sargs : Array Value} {len W : Nat} (a : Addr) (D : Cell) (fV fC : Field) (b : Addr) (A : Cell) (z : Int32) (htab : tab.before sargs s = true) (hfr : 4 ≤ R.frames) (hlo : W + 65 ≤ R.locals) :
    Back l R p e below s sargs yN len W (fun A₁ a₁ => A₁.cells + 1 ≤ R.cells ∧ A₁.slots + A.slots.size ≤ R.slots ∧ P a D fV fC b A z a₁ A₁.U) (fun A₁ _ v₁ B₁ => E a D fV fC A v₁ A₁.U B₁.U ∧ B₁.locs = A₁.locs ++ [⟨a, fC.slot⟩, ⟨a, fV.slot⟩] ∧ B₁.cells = A₁.cells + 1 ∧ B₁.slots = A₁.slots + A.slots.size) :=
  (law l a D fV fC b A z).pays htab hfr (by omega)
end New1
/-- the byte, read back as charAt reads it, is the char -/
theorem lo8_mask {x : Int32} (h0 : ¬ x < 0) (h1 : ¬ 255 < x) : lo8 x &&& 255 = x := by
  have t : ∀ k : Fin 256, lo8 (Int32.ofNat k.val) &&& 255 = Int32.ofNat k.val := by decide +kernel
  rw [Int32.lt_iff_toInt_lt] at h0 h1
  have e0 : (0 : Int32).toInt = 0 := rfl
  have e1 : (255 : Int32).toInt = 255 := rfl
  obtain ⟨k, hk⟩ : ∃ k : Nat, x.toInt = k := ⟨x.toInt.toNat, by omega⟩
  have hx : x = Int32.ofNat k := Int32.toInt_inj.mp (by rw [hk, Int32.toInt_ofNat_small (by omega)])
  rw [hx]
  exact t ⟨k, by omega⟩
end StrChars
namespace StrChars.Road
open Jvm Sem ClassFile Op Lib Jvm.Stand Jvm.Free Jvm.Free.XT
open Jvm.Lib.Cold (StaticIs)
abbrev ST : String := "java/lang/String"
/-- every table word that New1's law asks, flat -/
abbrev words : List Jvm.Cond := [.code New1.yN New1.yB 2 none, .initialized ST, .methodLink ST 27 New4.yN, .instanceMethod New4.yN,
  .code New4.yN New4.yB 6 none, .fieldLink ST 38 ST "COMPACT_STRINGS" "Z", .laysFinal ST ST "value" "[B", .fieldLink ST 9 ST "value" "[B", .laysFinal ST ST "coder" "B", .fieldLink ST 15 ST "coder" "B",
  .methodLink ST 1 Lib.objectInit, .instanceMethod Lib.objectInit, .code Lib.objectInit ⟨#[0xb1]⟩ 1 none, .methodLink ST 177 Cmp3.yN, .static Cmp3.yN, .methodLink ST 47 CodL.yN, .static CodL.yN,
  .code Cmp3.yN Cmp3.yB 6 (some (.array .byte)), .initialized U16, .arrayClass .byte, .methodLink U16 115 Cmp5.yN, .static Cmp5.yN, .code Cmp5.yN Cmp5.yB 7 (some .int), .code CodL.yN CodL.yB 2 (some .byte)]
theorem tab_of {a : Array Value} {s : State} (h : ∀ w ∈ words, w.before a s = true) : New1.tab.before a s = true := by
  have h5 : Cmp5.tab.before a s = true := unparts (wk h (.code Cmp5.yN Cmp5.yB 7 (some .int))) (wks h (.initialized Cmp5.yN.cls :: Cmp5.site))
  have hc : CodL.tab.before a s = true := unparts (wk h (.code CodL.yN CodL.yB 2 (some .byte))) (wks h (.initialized CodL.yN.cls :: CodL.site))
  have q5 : ∀ w ∈ Cmp5.tab :: words, w.before a s = true := fun w hw => (List.mem_cons.mp hw).elim (fun e => e ▸ h5) (h w)
  have h3 : Cmp3.tab.before a s = true := unparts (wk q5 (.code Cmp3.yN Cmp3.yB 6 (some (.array .byte)))) (wks q5 (.initialized Cmp3.yN.cls :: Cmp3.site))
  have q3 : ∀ w ∈ Cmp3.tab :: CodL.tab :: words, w.before a s = true := fun w hw => (List.mem_cons.mp hw).elim (fun e => e ▸ h3) fun hw => (List.mem_cons.mp hw).elim (fun e => e ▸ hc) (h w)
  have h4 : New4.tab.before a s = true := unparts (wk q3 (.code New4.yN New4.yB 6 none)) (wks q3 (.initialized New4.yN.cls :: New4.site))
  have q4 : ∀ w ∈ New4.tab :: words, w.before a s = true := fun w hw => (List.mem_cons.mp hw).elim (fun e => e ▸ h4) (h w)
  exact unparts (wk q4 (.code New1.yN New1.yB 2 none)) (wks q4 (.initialized New1.yN.cls :: New1.site))
/-- the words ride from the start Z to the walk's own state -/
theorem moved {Z s : State} {a0 args : Array Value} (hZ : Z.Warmed39 s.vm) (hw : ∀ d ∈ words, d.before a0 Z = true) : ∀ d ∈ words, d.before args s = true := fun d hd => by
  have q := hw d hd
  have t : ∀ d ∈ words, d = .arrayClass .byte ∨ (d.onTables && d.keepsFace) = true := by decide +kernel
  rcases t d hd with rfl | t
  · exact RoadKit.mvA hZ q
  · exact RoadKit.mv hZ q t
/-- WHAT COMES BACK, over the tables of the start Z: h the heap at the call, h' behind it -/
def Q (Z : State) (x : Addr) (A : Cell) (h : Heap) (v : Option Value) (h' : Heap) (L : List Loc) : Prop := v = none ∧ (∀ y ∈ L, y.base = x) ∧ RoadKit.Keep h h' [x] ∧ h'.size = h.size + 1 ∧ RoadKit.Exa Z h' x ST ∧ RoadKit.Fld Z h' x ST "value" "[B" (.ref h.size) ∧ RoadKit.Fld Z h' x ST "coder" "B" (.int 0) ∧
  (∃ V : Cell, RoadKit.Arr Z h' h.size V .byte ∧ V.vm = .none ∧ Z.vm.findClass "[B" = some V.cls ∧ V.slots.size = A.slots.size ∧ ∀ j, j < A.slots.size → V.slots[j]? = some (.int (lo8 (cv A j)))) ∧
  ∀ (O n d : String) (w : Value), RoadKit.Fld Z h x O n d w → RoadKit.slotOf Z O n d ≠ RoadKit.slotOf Z ST "value" "[B" → RoadKit.slotOf Z O n d ≠ RoadKit.slotOf Z ST "coder" "B" → RoadKit.Fld Z h' x O n d w
/-- **new String(chars) AT A CALL, IN THE ROAD'S FORM**: for specialBack behind newO: x the fresh String, b the char[] with the cell A -/
theorem back {p : Program} {l : Launch} {e : Env} {R : Room} {s : State} {args : Array Value} {below : List Frame} {len W : Nat} {Z : State} {a0 : Array Value} {h : Heap} (hZ : Z.Warmed39 s.vm) (hw : ∀ d ∈ words, d.before a0 Z = true) {kI : Nat} (wi : (Jvm.Cond.instantiable ST kI).before a0 Z = true)
    {x b : Addr} {A : Cell} {z : Int32} {v0 c0 : Value} (E : RoadKit.Exa Z h x ST) (V : RoadKit.Fld Z h x ST "value" "[B" v0) (C : RoadKit.Fld Z h x ST "coder" "B" c0) (K : RoadKit.Arr Z h b A .char) (hty : Typed .char A) (S : RoadKit.Sta Z h ST "COMPACT_STRINGS" "Z" (.int z)) (hz : ¬ z = 0)
    (l0 : 0 < A.slots.size) (l2 : A.slots.size ≤ 536870912) (hp : ∀ i, i < A.slots.size → ¬ 255 < cv A i) (hfr : 4 ≤ R.frames) (hlo : W + 65 ≤ R.locals) :
    Back l R p e below s args New1.yN len W (fun P a => a = #[.ref x, .ref b] ∧ P.U.heap = h ∧ P.cells + 1 ≤ R.cells ∧ P.slots + A.slots.size ≤ R.slots)
      (fun P _ v B => ∃ L, Q Z x A h v B.U.heap L ∧ B.locs = P.locs ++ L ∧ B.cells = P.cells + 1 ∧ B.slots = P.slots + A.slots.size) := by
  intro m meth c P g ig mk a X hg hsize hdg hW hn hp'
  obtain ⟨rfl, rfl, r1, r2⟩ := hp'
  have al : Z.vm.Alike P.U.vm := hZ.alike.trans X.warmed.alike
  obtain ⟨D, cfV, kV, iV, fV, hD, gV, stV, knV, obV, asV, slV⟩ := id V
  obtain ⟨D', cfC, kC, iC, fC, hD', gC, stC, -, -, asC, slC⟩ := id C
  cases hD.symm.trans hD'
  obtain ⟨D2, kD, e1, e2, e3, e4, e5⟩ := id E
  cases hD.symm.trans e1
  obtain ⟨c2, k2, i1, i2, i3, -⟩ := Cond.instantiable_spec wi
  cases e2.symm.trans i1
  cases e3.symm.trans i2
  obtain ⟨kU, u1, u2⟩ := al.2.2 _ _ e3
  have hB : Blank ST x D P.U := ⟨hD, ⟨knV, fun q hq => by rw [hq] at obV; cases obV⟩, by rw [al.findClass]; exact e2, kU, u1, by rw [u2]; exact i3, by rw [u2]; exact e5 i3⟩
  have F1 : Found ST "value" "[B" fV P.U := ⟨SBG.found_only al ⟨cfV, kV, iV, gV⟩, stV⟩
  have F2 : Found ST "coder" "B" fC P.U := ⟨SBG.found_only al ⟨cfC, kC, iC, gC⟩, stC⟩
  have hA : Ch b A P.U := ⟨⟨K.1, State.isArrayOf_alike al K.2.1, K.2.2, by omega⟩, hty⟩
  have hS : StaticIs P.U ST "COMPACT_STRINGS" "Z" (.int z) := by
    obtain ⟨cfS, iS, kS, fS, st, cS, t1, t2, t3, t4, t5, t6, t7⟩ := S
    exact StaticIs.there (s := { Z with heap := P.U.heap }) ⟨cfS, iS, kS, fS, st, cS, t1, t2, t3, t4, t5, (fun q => by rw [q] at t6; cases t6), t7⟩ al rfl
  obtain ⟨v, B, X', ⟨⟨hv, E', V', q1, q2, q3, q4, q5, q6, q7, q8, q9, q10, q11⟩, hl, hc, hs⟩, st⟩ := New1.pays x D fV fC b A z (tab_of (moved hZ hw)) hfr hlo m meth c P g ig mk _ X hg hsize hdg hW hn ⟨r1, r2, rfl, hB, F1, F2, hA, hS, hz, l0, l2, hp⟩
  have al' : Z.vm.Alike B.U.vm := hZ.alike.trans X'.warmed.alike
  have hsz : E'.slots.size = D.slots.size := by
    obtain ⟨-, -, -, kB, w1, w2, w3⟩ := q1
    obtain ⟨kB', y1, y2⟩ := al'.2.2 _ _ e3
    rw [q2.2.1] at w1
    cases w1.symm.trans y1
    rw [w3, e5 i3, y2]
  refine ⟨v, B, X', ⟨_, ⟨hv, ?_, ⟨by omega, fun y cy hy hn' => q10 y cy (by simpa using hn') hy, fun y cy hy => ?_⟩, q11, ⟨E', _, q1.1, by rw [q2.2.1]; exact e2, by rw [q2.2.1]; exact e3, by rw [q2.1]; exact obV, fun _ => by rw [hsz]; exact e5 i3⟩,
    ⟨E', cfV, kV, iV, fV, q1.1, gV, stV, by rw [q2.1]; exact knV, by rw [q2.1]; exact obV, by rw [q2.2.1]; exact asV, q3⟩, ⟨E', cfC, kC, iC, fC, q1.1, gC, stC, by rw [q2.1]; exact knV, by rw [q2.1]; exact obV, by rw [q2.2.1]; exact asC, q4⟩,
    ⟨V', ⟨q5.1, State.isArrayOf_alike al'.symm q5.2.1, q5.2.2.1⟩, q6, by rw [← al'.findClass]; exact q7, q8, fun j hj => by have := q9 j hj; rwa [Nat.zero_add] at this⟩, fun O n d w F n1 n2 => ?_⟩, hl, hc, hs⟩, st⟩
  · intro y hy
    simp only [List.mem_cons, List.not_mem_nil, or_false] at hy
    rcases hy with rfl | rfl <;> rfl
  · by_cases q : y = x
    · subst q
      cases hD.symm.trans hy
      exact ⟨E', q1.1, q2.2.1, q2.1, hsz⟩
    · exact ⟨cy, q10 y cy q hy, rfl, rfl, rfl⟩
  · obtain ⟨D3, cf, k, i, f, g1, g2, g3, g4, g5, g6, g7⟩ := F
    cases hD.symm.trans g1
    simp only [RoadKit.slotOf, g2, gV, gC, Option.map_some, Option.getD_some] at n1 n2
    exact ⟨E', cf, k, i, f, q1.1, g2, g3, by rw [q2.1]; exact g4, by rw [q2.1]; exact g5, by rw [q2.2.1]; exact g6, by rw [q2.2.2 f.slot (by simp [n1, n2])]; exact g7⟩
end StrChars.Road
namespace StrChars.Road
open Jvm Sem ClassFile Op Lib Jvm.Stand Jvm.Free Jvm.Free.XT
/-- WHAT COMES BACK, the byte[] as a list of values -/
def QA (Z : State) (x : Addr) (zn : Int32) (cs : List Int32) (h : Heap) (v : Option Value) (h' : Heap) (L : List Loc) : Prop := v = none ∧ (∀ y ∈ L, y.base = x) ∧ RoadKit.Keep h h' [x] ∧ h'.size = h.size + 1 ∧ RoadKit.Exa Z h' x ST ∧ RoadKit.Fld Z h' x ST "value" "[B" (.ref h.size) ∧ RoadKit.Fld Z h' x ST "coder" "B" (.int 0) ∧
  (∃ kb, Z.vm.findClass "[B" = some kb ∧ RoadKit.Arv Z h' h.size kb .byte zn (cs.map fun c => .int (lo8 c)) (.int 0)) ∧
  ∀ (O n d : String) (w : Value), RoadKit.Fld Z h x O n d w → RoadKit.slotOf Z O n d ≠ RoadKit.slotOf Z ST "value" "[B" → RoadKit.slotOf Z O n d ≠ RoadKit.slotOf Z ST "coder" "B" → RoadKit.Fld Z h' x O n d w
/-- **new String(chars) AT A CALL, THE ARRAYS AS LISTS**: the char[] at b holds cs, not empty, no char above 255 -/
theorem backArv {p : Program} {l : Launch} {e : Env} {R : Room} {s : State} {args : Array Value} {below : List Frame} {len W : Nat} {Z : State} {a0 : Array Value} {h : Heap} (hZ : Z.Warmed39 s.vm) (hw : ∀ d ∈ words, d.before a0 Z = true) {kI : Nat} (wi : (Jvm.Cond.instantiable ST kI).before a0 Z = true)
    {x b : Addr} {k : ClassId} {zn z : Int32} {cs : List Int32} {dv v0 c0 : Value} (E : RoadKit.Exa Z h x ST) (V : RoadKit.Fld Z h x ST "value" "[B" v0) (C : RoadKit.Fld Z h x ST "coder" "B" c0) (K : RoadKit.Arv Z h b k .char zn (cs.map Value.int) dv) (S : RoadKit.Sta Z h ST "COMPACT_STRINGS" "Z" (.int z)) (hz : ¬ z = 0)
    (hlen : zn.toNatClampNeg = cs.length) (h0 : 0 < cs.length) (hbig : cs.length ≤ 536870912) (hall : ∀ c ∈ cs, ¬ 255 < c) (hfr : 4 ≤ R.frames) (hlo : W + 65 ≤ R.locals) :
    Back l R p e below s args New1.yN len W (fun P a => a = #[.ref x, .ref b] ∧ P.U.heap = h ∧ P.cells + 1 ≤ R.cells ∧ P.slots + cs.length ≤ R.slots)
      (fun P _ v B => ∃ L, QA Z x zn cs h v B.U.heap L ∧ B.locs = P.locs ++ L ∧ B.cells = P.cells + 1 ∧ B.slots = P.slots + cs.length) := by
  obtain ⟨A, K1, K2, K3, K4, K5, K6⟩ := K
  have e : A.slots.size = cs.length := K3.trans hlen
  have hat : ∀ (i : Nat) (hi : i < cs.length), A.slots[i]? = some (.int cs[i]) := fun i hi => by rw [K5 i (by omega)]; simp [List.getD_eq_getElem?_getD, hi]
  have hcv : ∀ (i : Nat) (hi : i < cs.length), cv A i = cs[i] := fun i hi => by unfold cv; rw [hat i hi]
  have hty : Typed .char A := fun i v hv => by
    have hi : i < A.slots.size := (Array.getElem?_eq_some_iff.mp hv).1
    have q := K5 i hi
    rw [hv] at q
    rw [Option.some.inj q]
    exact K6 i hi
  refine Back.mono (back hZ hw wi E V C K1 hty S hz (by omega) (by omega) (fun i hi => by rw [hcv i (by omega)]; exact hall _ (List.getElem_mem _)) hfr hlo) (fun P a hp => ⟨hp.1, hp.2.1, hp.2.2.1, by rw [e]; exact hp.2.2.2⟩) (fun P a v B hp hq => ?_)
  obtain ⟨L, ⟨q1, q2, q3, q4, q5, q6, q7, ⟨V', v1, v2, v3, v4, v5⟩, q9⟩, hl, hc, hs⟩ := hq
  refine ⟨L, ⟨q1, q2, q3, q4, q5, q6, q7, ⟨V'.cls, v3, V', v1, rfl, by rw [v4, e, hlen], K4, fun i hi => ?_, fun i hi => ?_⟩, q9⟩, hl, hc, by rw [hs, e]⟩
  · have hi' : i < cs.length := by omega
    rw [v5 i (by omega), hcv i hi']; simp [List.getD_eq_getElem?_getD, hi']
  · have hi' : i < cs.length := by omega
    simp only [List.getD_eq_getElem?_getD, List.getElem?_map, List.getElem?_eq_getElem hi', Option.map_some, Option.getD_some]
    exact fits_lo8 _
end StrChars.Road
namespace StrChars.Road
open Jvm Sem ClassFile Op Lib Jvm.Stand Jvm.Free Jvm.Free.XT
/-- WHAT COMES BACK, in the writer's own shape -/
def QV (Z : State) (x : Addr) (N : Int32) (bs : List Int32) (h : Heap) (n0 : Nat) (v : Option Value) (h' : Heap) (L : List Loc) : Prop := v = none ∧ RoadKit.Fr n0 L ∧ RoadKit.Keep h h' [x] ∧ RoadKit.Exa Z h' x ST ∧ RoadKit.Fld Z h' x ST "coder" "B" (.int 0) ∧
  ∃ (t : Addr) (kb : ClassId), n0 ≤ t ∧ h.size ≤ t ∧ ¬ t = x ∧ RoadKit.Fld Z h' x ST "value" "[B" (.ref t) ∧ RoadKit.Arv Z h' t kb .byte N (bs.map Value.int) (.int 0)
/-- **new String(chars) AT A CALL, FOR THE WRITER**: a char[] of n known ints, each 0 to 255 -/
theorem backV {p : Program} {l : Launch} {e : Env} {R : Room} {s : State} {args : Array Value} {below : List Frame} {len W : Nat} {Z : State} {a0 : Array Value} {h : Heap} (hZ : Z.Warmed39 s.vm) (hw : ∀ d ∈ words, d.before a0 Z = true) {kI : Nat} (wi : (Jvm.Cond.instantiable ST kI).before a0 Z = true)
    {x b : Addr} {kC : ClassId} {cs bs : List Int32} {d v0 c0 : Value} {z N : Int32} {n n0 : Nat} (hx0 : n0 ≤ x) (hh0 : n0 ≤ h.size) (E : RoadKit.Exa Z h x ST) (V : RoadKit.Fld Z h x ST "value" "[B" v0) (C : RoadKit.Fld Z h x ST "coder" "B" c0) (K : RoadKit.Arv Z h b kC .char N (cs.map Value.int) d) (S : RoadKit.Sta Z h ST "COMPACT_STRINGS" "Z" (.int z)) (hz : ¬ z = 0)
    (hn : cs.length = n) (hN : N = Int32.ofNat n) (l0 : 0 < n) (l2 : n ≤ 4000) (hp : ∀ c ∈ cs, ¬ c < 0 ∧ ¬ (255 : Int32) < c) (hb : bs = cs.map (fun c => c.toInt8.toInt32)) (hfr : 4 ≤ R.frames) (hlo : W + 65 ≤ R.locals) :
    Back l R p e below s args (⟨"java/lang/String", "<init>", "([C)V"⟩ : MethodName) len W (fun P a => a = #[.ref x, .ref b] ∧ P.U.heap = h ∧ P.cells + 1 ≤ R.cells ∧ P.slots + n ≤ R.slots)
      (fun P _ v B => ∃ L, QV Z x N bs h n0 v B.U.heap L ∧ B.locs = P.locs ++ L ∧ B.cells = P.cells + 1 ∧ B.slots = P.slots + n) := by
  subst hn hN hb
  refine Back.mono (backArv hZ hw wi E V C K S hz (n32 (by omega)) l0 (by omega) (fun c hc => (hp c hc).2) hfr hlo) (fun P a hp => hp) (fun P a v B hp hq => ?_)
  obtain ⟨L, ⟨q1, q2, q3, q4, q5, q6, q7, ⟨kb, v1, v2⟩, q9⟩, hl, hc, hs⟩ := hq
  exact ⟨L, ⟨q1, fun y hy => by rw [q2 y hy]; exact hx0, q3, q5, q7, h.size, kb, hh0, Nat.le_refl _, Nat.ne_of_gt E.lt, q6, by rw [List.map_map]; exact v2⟩, hl, hc, hs⟩
end StrChars.Road
namespace StrChars
open Jvm Sem ClassFile Op Lib Jvm.Stand Jvm.Free.XT Jvm.Free.ALB Jvm.Free.JM Jvm.Free
open Jvm.Lib.Cold (StaticIs)
def hi8 (x : Int32) : Int32 := lo8 (x >>> ((8 : Int32) &&& 31))
/-- what StringUTF16.getChar makes of two bytes -/
def pairCh (u v : Int32) : Int32 := (((u &&& 255) <<< ((0 : Int32) &&& 31)) ||| ((v &&& 255) <<< ((8 : Int32) &&& 31))).toUInt32.toUInt16.toUInt32.toInt32
theorem lo8_and (x : Int32) : (lo8 x &&& 255).toBitVec.toNat = x.toBitVec.toNat % 256 := by
  have h : (lo8 x).toBitVec = (x.toBitVec.signExtend 8).signExtend 32 := by rw [lo8, Int8.toBitVec_toInt32, Int32.toBitVec_toInt8]
  rw [Int32.toBitVec_and, BitVec.toNat_and, h]
  have e : ((x.toBitVec.signExtend 8).signExtend 32).toNat % 256 = x.toBitVec.toNat % 256 := by
    rw [BitVec.toNat_signExtend]
    have hlt := x.toBitVec.isLt
    simp only [BitVec.toNat_setWidth, BitVec.toNat_signExtend]
    split <;> split <;> omega
  rw [← e]
  exact Nat.and_two_pow_sub_one_eq_mod _ 8
theorem pair_says {c : Int32} (h0 : ¬ c < 0) (h1 : ¬ 65535 < c) : pairCh (lo8 c) (hi8 c) = c := by
  rw [Int32.lt_iff_toInt_lt] at h0 h1
  have e0 : (0 : Int32).toInt = 0 := rfl
  have e1 : (65535 : Int32).toInt = 65535 := rfl
  have hc : c.toInt = c.toBitVec.toNat := by
    have := c.toBitVec.isLt
    have e : c.toInt = c.toBitVec.toInt := rfl
    rw [e] at h0 h1
    rw [e]
    rw [BitVec.toInt_eq_toNat_cond] at h0 h1 ⊢
    split at h0 <;> split <;> omega
  have hn : c.toBitVec.toNat < 65536 := by omega
  have a1 := lo8_and c
  have a2 : (hi8 c &&& 255).toBitVec.toNat = c.toBitVec.toNat / 256 := by
    rw [hi8, lo8_and]
    have e : ((8 : Int32) &&& 31) = 8 := by decide
    rw [e, Int32.toBitVec_shiftRight]
    have e2 : ((8 : Int32).toBitVec.smod 32) = 8#32 := by decide
    rw [e2, BitVec.sshiftRight_eq', BitVec.toNat_sshiftRight_of_msb_false (by rw [BitVec.msb_eq_false_iff_two_mul_lt]; omega)]
    show c.toBitVec.toNat >>> 8 % 256 = _
    rw [Nat.shiftRight_eq_div_pow]
    omega
  unfold pairCh
  apply Int32.toBitVec_inj.mp
  apply BitVec.eq_of_toNat_eq
  have f0 : ((0 : Int32) &&& 31) = 0 := by decide
  have f8 : ((8 : Int32) &&& 31) = 8 := by decide
  rw [f0, f8]
  have g : (((lo8 c &&& 255) <<< (0 : Int32)) ||| ((hi8 c &&& 255) <<< (8 : Int32))).toBitVec.toNat = c.toBitVec.toNat := by
    rw [Int32.toBitVec_or, Int32.toBitVec_shiftLeft, Int32.toBitVec_shiftLeft]
    have s0 : ((0 : Int32).toBitVec.smod 32) = 0#32 := by decide
    have s8 : ((8 : Int32).toBitVec.smod 32) = 8#32 := by decide
    rw [s0, s8, BitVec.toNat_or]
    simp only [BitVec.shiftLeft_eq', BitVec.toNat_shiftLeft, a1, a2]
    show (c.toBitVec.toNat % 256) <<< 0 % 2 ^ 32 ||| (c.toBitVec.toNat / 256) <<< 8 % 2 ^ 32 = _
    rw [Nat.shiftLeft_zero, Nat.mod_eq_of_lt (show c.toBitVec.toNat % 256 < 2 ^ 32 by omega), Nat.mod_eq_of_lt (show (c.toBitVec.toNat / 256) <<< 8 < 2 ^ 32 by rw [Nat.shiftLeft_eq]; omega), Nat.or_comm, ← Nat.shiftLeft_add_eq_or_of_lt (by omega), Nat.shiftLeft_eq]
    omega
  show BitVec.toNat (((((lo8 c &&& 255) <<< (0 : Int32)) ||| ((hi8 c &&& 255) <<< (8 : Int32))).toBitVec.setWidth 16).setWidth 32) = _
  rw [BitVec.toNat_setWidth, BitVec.toNat_setWidth, g]
  omega
end StrChars
namespace StrChars
open Jvm Sem ClassFile Op Lib Jvm.Stand Jvm.Free.XT Jvm.Free.ALB Jvm.Free.JM Jvm.Free
open Jvm.Lib.Cold (StaticIs)
/-- the array's cell V codes the n chars f 0 .. f (n - 1) by the coder cd, as the JDK does: coder 1 just where some char is above 255 -/
def Cod (cd : Int32) (n : Nat) (f : Nat → Int32) (V : Cell) : Prop := (cd = 0 ∧ V.slots.size = n ∧ ∀ j, j < n → V.slots[j]? = some (.int (lo8 (f j))) ∧ ¬ 255 < f j) ∨ (cd = 1 ∧ V.slots.size = 2 * n ∧ (∀ j, j < n → V.slots[2 * j]? = some (.int (lo8 (f j))) ∧ V.slots[2 * j + 1]? = some (.int (hi8 (f j)))) ∧ ∃ j, j < n ∧ 255 < f j)
/-- **x is a String of the n chars f 0 .. f (n - 1)**, Latin-1 or UTF-16; its array at t has the cell V -/
def Txt (x t : Addr) (V : Cell) (cd : Int32) (n : Nat) (f : Nat → Int32) (U : State) : Prop := Exact "java/lang/String" x U ∧ Has x "java/lang/String" "value" "[B" (.ref t) U ∧ Has x "java/lang/String" "coder" "B" (.int cd) U ∧ XT.Arr .byte t V U ∧ Cod cd n f V ∧ ∀ j, j < n → ¬ f j < 0 ∧ ¬ 65535 < f j
theorem Txt.mv {x t : Addr} {V : Cell} {cd : Int32} {n : Nat} {f : Nat → Int32} {U U' : State} (h : Txt x t V cd n f U) (hal : U.vm.Alike U'.vm) (hh : U'.heap = U.heap) : Txt x t V cd n f U' := ⟨h.1.mv hal hh, h.2.1.mv hal hh, h.2.2.1.mv hal hh, h.2.2.2.1.mv hal hh, h.2.2.2.2⟩
end StrChars
namespace StrChars.Road
open Jvm Sem ClassFile Op Lib Jvm.Stand Jvm.Free Jvm.Free.XT
open Jvm.Lib.Cold (StaticIs)
theorem consq {a : Array Value} {s : State} {c : Jvm.Cond} {L : List Jvm.Cond} (h0 : c.before a s = true) (h : ∀ w ∈ L, w.before a s = true) : ∀ w ∈ c :: L, w.before a s = true := fun w hw => (List.mem_cons.mp hw).elim (fun e => e ▸ h0) (h w)
/-- the bytes of the chars cs, low before high -/
def wideBytes : List Int32 → List Value
  | [] => []
  | c :: cs => .int (lo8 c) :: .int (hi8 c) :: wideBytes cs
theorem wide_lo (d : Value) : ∀ (cs : List Int32) (j : Nat), j < cs.length → (wideBytes cs).getD (2 * j) d = .int (lo8 (cs.getD j 0))
  | [], j, h => absurd h (Nat.not_lt_zero j)
  | c :: cs, 0, _ => rfl
  | c :: cs, j + 1, h => by
    have q := wide_lo d cs j (by simpa using h)
    rw [show 2 * (j + 1) = 2 * j + 1 + 1 from by omega]
    simpa [wideBytes] using q
theorem wide_hi (d : Value) : ∀ (cs : List Int32) (j : Nat), j < cs.length → (wideBytes cs).getD (2 * j + 1) d = .int (hi8 (cs.getD j 0))
  | [], j, h => absurd h (Nat.not_lt_zero j)
  | c :: cs, 0, _ => rfl
  | c :: cs, j + 1, h => by
    have q := wide_hi d cs j (by simpa using h)
    rw [show 2 * (j + 1) + 1 = 2 * j + 1 + 1 + 1 from by omega]
    simpa [wideBytes] using q
theorem low_at (d : Value) (cs : List Int32) (j : Nat) (h : j < cs.length) : (cs.map fun c => Value.int (lo8 c)).getD j d = .int (lo8 (cs.getD j 0)) := by
  simp [List.getD_eq_getElem?_getD, h]
/-- an array of N2 bytes vs codes the chars cs by the coder cd -/
def CodA (cs : List Int32) (cd N2 : Int32) (vs : List Value) : Prop := (cd = 0 ∧ N2 = Int32.ofNat cs.length ∧ vs = (cs.map fun c => Value.int (lo8 c)) ∧ ∀ c ∈ cs, ¬ 255 < c) ∨ (cd = 1 ∧ N2 = Int32.ofNat (2 * cs.length) ∧ vs = wideBytes cs ∧ ∃ c ∈ cs, 255 < c)
theorem CodA.cod {cs : List Int32} {cd N2 : Int32} {vs : List Value} {V : Cell} (h : CodA cs cd N2 vs) (hn : 2 * cs.length < 2 ^ 31) (hs : V.slots.size = N2.toNatClampNeg) (hv : RoadKit.Has V vs (.int 0)) : Cod cd cs.length (fun j => cs.getD j 0) V := by
  rcases h with ⟨rfl, rfl, rfl, h⟩ | ⟨rfl, rfl, rfl, c, hc, hw⟩
  · rw [n32 (by omega)] at hs
    exact Or.inl ⟨rfl, hs, fun j hj => ⟨by rw [hv j (by omega), low_at _ _ _ hj], by
      have e : cs.getD j 0 = cs[j] := by simp [List.getD_eq_getElem?_getD, hj]
      show ¬ 255 < cs.getD j 0
      rw [e]; exact h _ (List.getElem_mem _)⟩⟩
  · rw [n32 (by omega)] at hs
    obtain ⟨j, hj, rfl⟩ := List.getElem_of_mem hc
    exact Or.inr ⟨rfl, hs, fun j hj => ⟨by rw [hv _ (by omega), wide_lo _ _ _ hj], by rw [hv _ (by omega), wide_hi _ _ _ hj]⟩, j, hj, by
      have e : cs.getD j 0 = cs[j] := by simp [List.getD_eq_getElem?_getD, hj]
      show 255 < cs.getD j 0
      rw [e]; exact hw⟩
/-- an object of exactly java/lang/String, its two fields found: as the laws ask it -/
theorem strObj {Z U : State} {a0 : Array Value} {kI : Nat} (wi : (Jvm.Cond.instantiable ST kI).before a0 Z = true) (al : Z.vm.Alike U.vm) {x : Addr} {v0 c0 : Value} (E : RoadKit.Exa Z U.heap x ST) (V : RoadKit.Fld Z U.heap x ST "value" "[B" v0) (C : RoadKit.Fld Z U.heap x ST "coder" "B" c0) :
    ∃ (D : Cell) (fV fC : Field), Blank ST x D U ∧ Found ST "value" "[B" fV U ∧ Found ST "coder" "B" fC U ∧ D.slots[fV.slot]? = some v0 ∧ D.slots[fC.slot]? = some c0 ∧ RoadKit.slotOf Z ST "value" "[B" = fV.slot ∧ RoadKit.slotOf Z ST "coder" "B" = fC.slot := by
  obtain ⟨D, cfV, kV, iV, fV, hD, gV, stV, knV, obV, asV, slV⟩ := V
  obtain ⟨D', cfC, kC, iC, fC, hD', gC, stC, -, -, asC, slC⟩ := C
  cases hD.symm.trans hD'
  obtain ⟨D2, kD, e1, e2, e3, e4, e5⟩ := E
  cases hD.symm.trans e1
  obtain ⟨c2, k2, i1, i2, i3, -⟩ := Cond.instantiable_spec wi
  cases e2.symm.trans i1
  cases e3.symm.trans i2
  obtain ⟨kU, u1, u2⟩ := al.2.2 _ _ e3
  exact ⟨D, fV, fC, ⟨hD, ⟨knV, fun q hq => by rw [hq] at obV; cases obV⟩, by rw [al.findClass]; exact e2, kU, u1, by rw [u2]; exact i3, by rw [u2]; exact e5 i3⟩, ⟨SBG.found_only al ⟨cfV, kV, iV, gV⟩, stV⟩, ⟨SBG.found_only al ⟨cfC, kC, iC, gC⟩, stC⟩, slV, slC, by simp [RoadKit.slotOf, gV], by simp [RoadKit.slotOf, gC]⟩
theorem sta_is {Z U : State} (al : Z.vm.Alike U.vm) {C n d : String} {v : Value} (S : RoadKit.Sta Z U.heap C n d v) : StaticIs U C n d v := by
  obtain ⟨cfS, iS, kS, fS, st, cS, t1, t2, t3, t4, t5, t6, t7⟩ := S
  exact StaticIs.there (s := { Z with heap := U.heap }) ⟨cfS, iS, kS, fS, st, cS, t1, t2, t3, t4, t5, (fun q => by rw [q] at t6; cases t6), t7⟩ al rfl
end StrChars.Road
namespace StrChars
open Jvm Sem ClassFile Op Lib Jvm.Stand Jvm.Free.XT Jvm.Free.ALB Jvm.Free.JM Jvm.Free
open Jvm.Lib.Cold (StaticIs)
/-- what place i of a byte[]'s cell holds -/
def yv (A : Cell) (i : Nat) : Int32 := match A.slots[i]? with | some (.int x) => x | _ => 0
theorem yv_get {a : Addr} {A : Cell} {U : State} (h : XT.Arr .byte a A U) (ht : Typed .byte A) {i : Nat} (hi : i < A.slots.size) : A.slots[i]? = some (.int (yv A i)) := by
  have e := Array.getElem?_eq_getElem hi
  have f := ht i _ e
  unfold yv; rw [e]
  generalize A.slots[i] = v at f
  cases v <;> simp [fits] at f ⊢
/-- the two arrays are equal, place for place -/
def EqC (A B : Cell) : Prop := A.slots.size = B.slots.size ∧ ∀ i, i < A.slots.size → yv A i = yv B i
/-- a boolean that says whether p -/
def Says01 (q : Prop) (r : Option Value) (s u : State) : Prop := ∃ v : Int32, r = some (.int v) ∧ u.heap = s.heap ∧ ((v = 1 ∧ q) ∨ (v = 0 ∧ ¬ q))
theorem Says01.mv {q : Prop} : ∀ r (U U' V V' : State), U'.heap = U.heap → V.vm.Alike V'.vm → V'.heap = V.heap → Says01 q r U V → Says01 q r U' V' :=
  fun r U U' V V' h1 _ h2 ⟨v, a, b, c⟩ => ⟨v, a, by rw [h1, h2]; exact b, c⟩
namespace LEq
def yN : MethodName := ⟨"java/lang/StringLatin1", "equals", "([B[B)Z"⟩
abbrev yB : ByteArray := jdk_43_method_13_code
theorem d0 : decode yB 0 = .ok (.aload_n 0, 1) := by decide +kernel
theorem d1 : decode yB 1 = .ok (.arraylength, 1) := by decide +kernel
theorem d2 : decode yB 2 = .ok (.aload_n 1, 1) := by decide +kernel
theorem d3 : decode yB 3 = .ok (.arraylength, 1) := by decide +kernel
theorem d4 : decode yB 4 = .ok (.if_icmp (.ne) 30, 3) := by decide +kernel
theorem d7 : decode yB 7 = .ok (.iconst 0, 1) := by decide +kernel
theorem d8 : decode yB 8 = .ok (.istore_n 2, 1) := by decide +kernel
theorem d9 : decode yB 9 = .ok (.iload_n 2, 1) := by decide +kernel
theorem d10 : decode yB 10 = .ok (.aload_n 0, 1) := by decide +kernel
theorem d11 : decode yB 11 = .ok (.arraylength, 1) := by decide +kernel
theorem d12 : decode yB 12 = .ok (.if_icmp (.ge) 20, 3) := by decide +kernel
theorem d15 : decode yB 15 = .ok (.aload_n 0, 1) := by decide +kernel
theorem d16 : decode yB 16 = .ok (.iload_n 2, 1) := by decide +kernel
theorem d17 : decode yB 17 = .ok (.baload, 1) := by decide +kernel
theorem d18 : decode yB 18 = .ok (.aload_n 1, 1) := by decide +kernel
theorem d19 : decode yB 19 = .ok (.iload_n 2, 1) := by decide +kernel
theorem d20 : decode yB 20 = .ok (.baload, 1) := by decide +kernel
theorem d21 : decode yB 21 = .ok (.if_icmp (.eq) 5, 3) := by decide +kernel
theorem d24 : decode yB 24 = .ok (.iconst 0, 1) := by decide +kernel
theorem d25 : decode yB 25 = .ok (.ireturn, 1) := by decide +kernel
theorem d26 : decode yB 26 = .ok (.iinc 2 1, 3) := by decide +kernel
theorem d29 : decode yB 29 = .ok (.goto (-20), 3) := by decide +kernel
theorem d32 : decode yB 32 = .ok (.iconst 1, 1) := by decide +kernel
theorem d33 : decode yB 33 = .ok (.ireturn, 1) := by decide +kernel
theorem d34 : decode yB 34 = .ok (.iconst 0, 1) := by decide +kernel
theorem d35 : decode yB 35 = .ok (.ireturn, 1) := by decide +kernel
def site : List Cond := []
def tab : Cond := tabOf yN yB 3 (some .boolean) site
def P (a : Addr) (A : Cell) (b : Addr) (B : Cell) (args : Array Value) (s : State) : Prop := args = #[.ref a, .ref b] ∧ XT.Arr .byte a A s ∧ Typed .byte A ∧ XT.Arr .byte b B s ∧ Typed .byte B
/-- whether two byte[] are equal, place for place -/
theorem law (l : Launch) (a : Addr) (A : Cell) (b : Addr) (B : Cell) : Law l yN 2 2 0 0 yB 3 (some .boolean) site (P a A b B) (Says01 (EqC A B)) [] 0 0 := by
  refine Law.of_walk (plainFor_of_name (by decide +kernel)) (by decide +kernel) (by decide +kernel) (by decide) (fun _ _ h => by rw [h.1]; rfl) (fun _ U U' hal hh h => ⟨h.1, h.2.1.mv hal hh, h.2.2.1, h.2.2.2.1.mv hal hh, h.2.2.2.2⟩) (fun r U U' V V' h1 hal h2 h => Says01.mv r U U' V V' h1 hal h2 h) ?_
  intro p e s m args below meth c s₁ X0 hexec hbytes hml hret hlk hnm hown hh0 W hP
  obtain ⟨rfl, hA, tA, hB, tB⟩ := hP
  have a31 := hA.2.2.2
  have b31 := hB.2.2.2
  have hA0 := hA.mv X0.warmed.alike hh0
  have hB0 := hB.mv X0.warmed.alike hh0
  have c1 : Steps p.tables e below (s₁.setTop (entryFrame m #[.ref a, .ref b] 3)) (s₁.setTop (mkF m 0 #[.val (.ref a), .val (.ref b), .unset] [])) := entry rfl
  have c2 : Steps p.tables e below (s₁.setTop (entryFrame m #[.ref a, .ref b] 3)) (s₁.setTop (mkF m 4 #[.val (.ref a), .val (.ref b), .unset] [.int (Int32.ofNat B.slots.size), .int (Int32.ofNat A.slots.size)])) := c1.trans (by
    refine XS.aloadN X0.here hexec rfl (hb hbytes d0) rfl rfl ?_
    refine X0.alen hexec hA0 rfl rfl (hb hbytes d1) ?_
    refine XS.aloadN X0.here hexec rfl (hb hbytes d2) rfl rfl ?_
    refine X0.alen hexec hB0 rfl rfl (hb hbytes d3) ?_
    exact Steps.refl _)
  by_cases hs : A.slots.size = B.slots.size
  · have c3 : Steps p.tables e below (s₁.setTop (entryFrame m #[.ref a, .ref b] 3)) (s₁.setTop (mkF m 9 #[.val (.ref a), .val (.ref b), .val (.int 0)] [])) := c2.trans (by
      refine XS.icmpNo X0.here hexec rfl (hb hbytes d4) rfl (ii_ne_f (by rw [hs])) ?_
      refine iconstV X0.here hexec rfl 0 (hb hbytes d7) (by decide) ?_
      refine XS.istoreN X0.here hexec rfl (hb hbytes d8) rfl rfl ?_
      exact Steps.refl _)
    have loop : ∀ (r i : Nat), i + r = A.slots.size → (∀ j, j < i → yv A j = yv B j) → Steps p.tables e below (s₁.setTop (entryFrame m #[.ref a, .ref b] 3)) (s₁.setTop (mkF m 9 #[.val (.ref a), .val (.ref b), .val (.int (Int32.ofNat i))] [])) → ∃ (pc : Nat) (Ls : Array Slot) (v : Int32), (pc = 25 ∨ pc = 33) ∧ ((v = 1 ∧ EqC A B) ∨ (v = 0 ∧ ¬ EqC A B)) ∧ Steps p.tables e below (s₁.setTop (entryFrame m #[.ref a, .ref b] 3)) (s₁.setTop (mkF m pc Ls [.int v])) := by
      intro r
      induction r with
      | zero =>
        intro i hi he cl
        exact ⟨33, _, 1, Or.inr rfl, Or.inl ⟨rfl, hs, fun j hj => he j (by omega)⟩, cl.trans (by
          refine XS.iloadN X0.here hexec rfl (hb hbytes d9) rfl ?_
          refine XS.aloadN X0.here hexec rfl (hb hbytes d10) rfl rfl ?_
          refine X0.alen hexec hA0 rfl rfl (hb hbytes d11) ?_
          refine XS.icmpYes X0.here hexec rfl (pc0 := 12) rfl (hb hbytes d12) rfl (ii_ge_t (nlt32 (by omega) (by omega))) (by decide) rfl ?_
          refine iconstV X0.here hexec rfl 1 (hb hbytes d32) (by decide) ?_
          exact Steps.refl _)⟩
      | succ r ih =>
        intro i hi he cl
        have c4 : Steps p.tables e below (s₁.setTop (entryFrame m #[.ref a, .ref b] 3)) (s₁.setTop (mkF m 21 #[.val (.ref a), .val (.ref b), .val (.int (Int32.ofNat i))] [.int (yv B i), .int (yv A i)])) := cl.trans (by
          refine XS.iloadN X0.here hexec rfl (hb hbytes d9) rfl ?_
          refine XS.aloadN X0.here hexec rfl (hb hbytes d10) rfl rfl ?_
          refine X0.alen hexec hA0 rfl rfl (hb hbytes d11) ?_
          refine XS.icmpNo X0.here hexec rfl (hb hbytes d12) rfl (ii_ge_f (lt32 (by omega) (by omega))) ?_
          refine XS.aloadN X0.here hexec rfl (hb hbytes d15) rfl rfl ?_
          refine XS.iloadN X0.here hexec rfl (hb hbytes d16) rfl ?_
          refine X0.aget hexec hA0 rfl (yv_get hA tA (i := i) (by omega)) rfl rfl (hb hbytes d17) ?_
          refine XS.aloadN X0.here hexec rfl (hb hbytes d18) rfl rfl ?_
          refine XS.iloadN X0.here hexec rfl (hb hbytes d19) rfl ?_
          refine X0.aget hexec hB0 rfl (yv_get hB tB (i := i) (by omega)) rfl rfl (hb hbytes d20) ?_
          exact Steps.refl _)
        by_cases hv : yv A i = yv B i
        · have c5 : Steps p.tables e below (s₁.setTop (entryFrame m #[.ref a, .ref b] 3)) (s₁.setTop (mkF m 9 #[.val (.ref a), .val (.ref b), .val (.int (Int32.ofNat i + 1))] [])) := c4.trans (by
            refine XS.icmpYes X0.here hexec rfl (pc0 := 21) rfl (hb hbytes d21) rfl (ii_eq_t hv) (by decide) rfl ?_
            refine iincV X0.here hexec rfl 1 (hb hbytes d26) (by decide) rfl rfl ?_
            refine XS.goto X0.here hexec rfl (pc0 := 29) rfl (hb hbytes d29) (by decide) rfl ?_
            exact Steps.refl _)
          rw [succ32] at c5
          exact ih (i + 1) (by omega) (fun j hj => by
            by_cases e : j = i
            · rw [e]; exact hv
            · exact he j (by omega)) c5
        · exact ⟨25, _, 0, Or.inl rfl, Or.inr ⟨rfl, fun q => hv (q.2 i (by omega))⟩, c4.trans (by
            refine XS.icmpNo X0.here hexec rfl (hb hbytes d21) rfl (ii_eq_f hv) ?_
            refine iconstV X0.here hexec rfl 0 (hb hbytes d24) (by decide) ?_
            exact Steps.refl _)⟩
    obtain ⟨pc, Ls, v, hpc, hv, cz⟩ := loop A.slots.size 0 (by omega) (fun j hj => absurd hj (Nat.not_lt_zero j)) c3
    have nv : narrow .boolean (.int v) = .int v := by rcases hv with ⟨rfl, -⟩ | ⟨rfl, -⟩ <;> rfl
    rcases hpc with rfl | rfl
    · exact ⟨s₁, some (.int v), _, _, _, X0, rfl, rfl, rfl, (fun h => by cases h), ⟨v, rfl, hh0, hv⟩, fun fs hl => cz.trans (X0.ireturnOut hexec hret nv (Or.inr (Or.inl rfl)) (hb hbytes d25) hl)⟩
    · exact ⟨s₁, some (.int v), _, _, _, X0, rfl, rfl, rfl, (fun h => by cases h), ⟨v, rfl, hh0, hv⟩, fun fs hl => cz.trans (X0.ireturnOut hexec hret nv (Or.inr (Or.inl rfl)) (hb hbytes d33) hl)⟩
  · have c3 : Steps p.tables e below (s₁.setTop (entryFrame m #[.ref a, .ref b] 3)) (s₁.setTop (mkF m 35 #[.val (.ref a), .val (.ref b), .unset] [.int 0])) := c2.trans (by
      refine XS.icmpYes X0.here hexec rfl (pc0 := 4) rfl (hb hbytes d4) rfl (ii_ne_t (ne32 a31 b31 hs)) (by decide) rfl ?_
      refine iconstV X0.here hexec rfl 0 (hb hbytes d34) (by decide) ?_
      exact Steps.refl _)
    exact ⟨s₁, some (.int 0), _, _, _, X0, rfl, rfl, rfl, (fun h => by cases h), ⟨0, rfl, hh0, Or.inr ⟨rfl, fun q => hs q.1⟩⟩, fun fs hl => c3.trans (X0.ireturnOut hexec hret rfl (Or.inr (Or.inl rfl)) (hb hbytes d35) hl)⟩
end LEq
theorem Cod.ty {cd : Int32} {n : Nat} {f : Nat → Int32} {V : Cell} (h : Cod cd n f V) : Typed .byte V := fun i v hv => by
  have hi : i < V.slots.size := (Array.getElem?_eq_some_iff.mp hv).1
  rcases h with ⟨-, k1, k2⟩ | ⟨-, k1, k2, -⟩
  · rw [(k2 i (by omega)).1] at hv; cases hv; exact fits_lo8 _
  · rcases Nat.mod_two_eq_zero_or_one i with e | e
    · obtain ⟨j, rfl⟩ : ∃ j, i = 2 * j := ⟨i / 2, by omega⟩
      rw [(k2 j (by omega)).1] at hv; cases hv; exact fits_lo8 _
    · obtain ⟨j, rfl⟩ : ∃ j, i = 2 * j + 1 := ⟨i / 2, by omega⟩
      rw [(k2 j (by omega)).2] at hv; cases hv; exact fits_lo8 _
/-- the same text -/
def SameT (n : Nat) (f : Nat → Int32) (k : Nat) (g : Nat → Int32) : Prop := n = k ∧ ∀ j, j < n → f j = g j
theorem lo8_inj {x y : Int32} (h0 : ¬ x < 0) (h1 : ¬ 255 < x) (k0 : ¬ y < 0) (k1 : ¬ 255 < y) (h : lo8 x = lo8 y) : x = y := by
  rw [← lo8_mask h0 h1, ← lo8_mask k0 k1, h]
/-- arrays coded by one coder are equal just where the texts are -/
theorem Cod.eqv {cd : Int32} {n k : Nat} {f g : Nat → Int32} {V V' : Cell} (h : Cod cd n f V) (h' : Cod cd k g V') (hf : ∀ j, j < n → ¬ f j < 0 ∧ ¬ 65535 < f j) (hg : ∀ j, j < k → ¬ g j < 0 ∧ ¬ 65535 < g j) : EqC V V' ↔ SameT n f k g := by
  have yvv : ∀ {W : Cell} {i : Nat} {x : Int32}, W.slots[i]? = some (.int x) → yv W i = x := fun q => by unfold yv; rw [q]
  rcases h with ⟨rfl, k1, k2⟩ | ⟨rfl, k1, k2, -⟩
  · rcases h' with ⟨-, m1, m2⟩ | ⟨e, -⟩
    · constructor
      · rintro ⟨e1, e2⟩
        refine ⟨by omega, fun j hj => ?_⟩
        have q := e2 j (by omega)
        rw [yvv (k2 j hj).1, yvv (m2 j (by omega)).1] at q
        exact lo8_inj (hf j hj).1 (k2 j hj).2 (hg j (by omega)).1 (m2 j (by omega)).2 q
      · rintro ⟨rfl, e2⟩
        refine ⟨by omega, fun j hj => ?_⟩
        rw [yvv (k2 j (by omega)).1, yvv (m2 j (by omega)).1, e2 j (by omega)]
    · exact absurd e (by decide)
  · rcases h' with ⟨e, -⟩ | ⟨-, m1, m2, -⟩
    · exact absurd e (by decide)
    · constructor
      · rintro ⟨e1, e2⟩
        refine ⟨by omega, fun j hj => ?_⟩
        have q1 := e2 (2 * j) (by omega)
        have q2 := e2 (2 * j + 1) (by omega)
        rw [yvv (k2 j hj).1, yvv (m2 j (by omega)).1] at q1
        rw [yvv (k2 j hj).2, yvv (m2 j (by omega)).2] at q2
        rw [← pair_says (hf j hj).1 (hf j hj).2, ← pair_says (hg j (by omega)).1 (hg j (by omega)).2, q1, q2]
      · rintro ⟨rfl, e2⟩
        refine ⟨by omega, fun i hi => ?_⟩
        rcases Nat.mod_two_eq_zero_or_one i with e | e
        · obtain ⟨j, rfl⟩ : ∃ j, i = 2 * j := ⟨i / 2, by omega⟩
          rw [yvv (k2 j (by omega)).1, yvv (m2 j (by omega)).1, e2 j (by omega)]
        · obtain ⟨j, rfl⟩ : ∃ j, i = 2 * j + 1 := ⟨i / 2, by omega⟩
          rw [yvv (k2 j (by omega)).2, yvv (m2 j (by omega)).2, e2 j (by omega)]
/-- two codings differ: so do the texts -/
theorem Cod.dif {cd cd' : Int32} {n k : Nat} {f g : Nat → Int32} {V V' : Cell} (h : Cod cd n f V) (h' : Cod cd' k g V') (hne : ¬ cd = cd') : ¬ SameT n f k g := by
  rintro ⟨rfl, e⟩
  rcases h with ⟨rfl, -, k2⟩ | ⟨rfl, -, -, j, hj, hw⟩
  · rcases h' with ⟨rfl, -⟩ | ⟨-, -, -, j, hj, hw⟩
    · exact hne rfl
    · exact (k2 j hj).2 (by rw [e j hj]; exact hw)
  · rcases h' with ⟨-, -, m2⟩ | ⟨rfl, -⟩
    · exact (m2 j hj).2 (by rw [← e j hj]; exact hw)
    · exact hne rfl
/-- an object of exactly C is an instance of C -/
theorem cinst {p : Program} {l : Launch} {e : Env} {R : Room} {s : State} {m : MethodId} {args : Array Value} {below : List Frame} {meth : Method} {c : Code} {T : State} {locs : List Loc} {cells slots : Nat} (X : Stand p l e R s m args below meth c T locs cells slots) (hexec : p.tables.exec = Jvm.exec) {own C : String} {index : Nat} (hown : s.vm.findClass own = some m.cls) (hlink : (Cond.classLink own index C).before args s = true) {a : Addr} (hE : Exact C a T)
    {g : JFrame} (hg : g.method = m) {rest : List Value} (hstack : g.stack = .ref a :: rest) (hdg : decode c.code g.pc = .ok (.instanceof index, 3)) :
    ∃ T', Stand p l e R s m args below meth c T' locs cells slots ∧ T'.heap = T.heap ∧ ∀ target, Steps p.tables e below (T'.setTop { g with pc := g.pc + 3, stack := .int 1 :: rest }) target → Steps p.tables e below (T.setTop g) target := by
  obtain ⟨cB, h1, D, h2, h3, h4⟩ := hE
  have h1' : s.vm.findClass C = some cB := by rw [← X.warmed.alike.findClass]; exact h1
  obtain ⟨vm', X', st⟩ := X.instanceofYes hexec hown hlink h2 h4 h1' (by rw [h3]; exact Jvm.Free.SB.assignable_self _ _) hg hstack hdg
  exact ⟨_, X', rfl, st⟩
theorem cself {p : Program} {l : Launch} {e : Env} {R : Room} {s : State} {m : MethodId} {args : Array Value} {below : List Frame} {meth : Method} {c : Code} {T : State} {locs : List Loc} {cells slots : Nat} (X : Stand p l e R s m args below meth c T locs cells slots) (hexec : p.tables.exec = Jvm.exec) {own C : String} {index : Nat} (hown : s.vm.findClass own = some m.cls) (hlink : (Cond.classLink own index C).before args s = true) {a : Addr} (hE : Exact C a T)
    {g : JFrame} (hg : g.method = m) {rest : List Value} (hstack : g.stack = .ref a :: rest) (hdg : decode c.code g.pc = .ok (.checkcast index, 3)) :
    ∃ T', Stand p l e R s m args below meth c T' locs cells slots ∧ T'.heap = T.heap ∧ ∀ target, Steps p.tables e below (T'.setTop { g with pc := g.pc + 3, stack := .ref a :: rest }) target → Steps p.tables e below (T.setTop g) target := by
  obtain ⟨cB, h1, D, h2, h3, h4⟩ := hE
  have h1' : s.vm.findClass C = some cB := by rw [← X.warmed.alike.findClass]; exact h1
  obtain ⟨vm', X', st⟩ := X.checkcastYes hexec hown hlink h2 h4 h1' (by rw [h3]; exact Jvm.Free.SB.assignable_self _ _) hg hstack hdg
  exact ⟨_, X', rfl, fun t h => st t (by rw [← hstack] at h; exact h)⟩
namespace SEq
def yN : MethodName := ⟨"java/lang/String", "equals", "(Ljava/lang/Object;)Z"⟩
abbrev yB : ByteArray := jdk_42_method_66_code
theorem d0 : decode yB 0 = .ok (.aload_n 0, 1) := by decide +kernel
theorem d1 : decode yB 1 = .ok (.aload_n 1, 1) := by decide +kernel
theorem d2 : decode yB 2 = .ok (.if_acmp (.ne) 5, 3) := by decide +kernel
theorem d5 : decode yB 5 = .ok (.iconst 1, 1) := by decide +kernel
theorem d6 : decode yB 6 = .ok (.ireturn, 1) := by decide +kernel
theorem d7 : decode yB 7 = .ok (.aload_n 1, 1) := by decide +kernel
theorem d8 : decode yB 8 = .ok (.instanceof 10, 3) := by decide +kernel
theorem d11 : decode yB 11 = .ok (.ifCond (.eq) 43, 3) := by decide +kernel
theorem d14 : decode yB 14 = .ok (.aload_n 1, 1) := by decide +kernel
theorem d15 : decode yB 15 = .ok (.checkcast 10, 3) := by decide +kernel
theorem d18 : decode yB 18 = .ok (.astore_n 2, 1) := by decide +kernel
theorem d19 : decode yB 19 = .ok (.getstatic 38, 3) := by decide +kernel
theorem d22 : decode yB 22 = .ok (.ifCond (.eq) 14, 3) := by decide +kernel
theorem d25 : decode yB 25 = .ok (.aload_n 0, 1) := by decide +kernel
theorem d26 : decode yB 26 = .ok (.getfield 15, 3) := by decide +kernel
theorem d29 : decode yB 29 = .ok (.aload_n 2, 1) := by decide +kernel
theorem d30 : decode yB 30 = .ok (.getfield 15, 3) := by decide +kernel
theorem d33 : decode yB 33 = .ok (.if_icmp (.ne) 21, 3) := by decide +kernel
theorem d36 : decode yB 36 = .ok (.aload_n 0, 1) := by decide +kernel
theorem d37 : decode yB 37 = .ok (.getfield 9, 3) := by decide +kernel
theorem d40 : decode yB 40 = .ok (.aload_n 2, 1) := by decide +kernel
theorem d41 : decode yB 41 = .ok (.getfield 9, 3) := by decide +kernel
theorem d44 : decode yB 44 = .ok (.invokestatic 541, 3) := by decide +kernel
theorem d47 : decode yB 47 = .ok (.ifCond (.eq) 7, 3) := by decide +kernel
theorem d50 : decode yB 50 = .ok (.iconst 1, 1) := by decide +kernel
theorem d51 : decode yB 51 = .ok (.goto 4, 3) := by decide +kernel
theorem d54 : decode yB 54 = .ok (.iconst 0, 1) := by decide +kernel
theorem d55 : decode yB 55 = .ok (.ireturn, 1) := by decide +kernel
def site : List Cond := [.classLink "java/lang/String" 10 "java/lang/String", .fieldLink "java/lang/String" 38 "java/lang/String" "COMPACT_STRINGS" "Z", .fieldLink "java/lang/String" 15 "java/lang/String" "coder" "B", .fieldLink "java/lang/String" 9 "java/lang/String" "value" "[B", LEq.tab] ++ staticW "java/lang/String" 541 LEq.yN
def tab : Cond := tabOf yN yB 3 (some .boolean) site
def P (x t : Addr) (V : Cell) (cd : Int32) (n : Nat) (f : Nat → Int32) (y t' : Addr) (V' : Cell) (cd' : Int32) (k : Nat) (g : Nat → Int32) (z : Int32) (args : Array Value) (s : State) : Prop := args = #[.ref x, .ref y] ∧ Txt x t V cd n f s ∧ Txt y t' V' cd' k g s ∧ StaticIs s "java/lang/String" "COMPACT_STRINGS" "Z" (.int z) ∧ ¬ z = 0
/-- equals(Object) of two Strings: whether the texts are the same -/
theorem law (l : Launch) (x t : Addr) (V : Cell) (cd : Int32) (n : Nat) (f : Nat → Int32) (y t' : Addr) (V' : Cell) (cd' : Int32) (k : Nat) (g : Nat → Int32) (z : Int32) : Law l yN 2 1 1 14 yB 3 (some .boolean) site (P x t V cd n f y t' V' cd' k g z) (Says01 (SameT n f k g)) [] 0 0 := by
  refine Law.of_walk (plainFor_of_name (by decide +kernel)) (by decide +kernel) (by decide +kernel) (by decide) (fun _ _ h => by rw [h.1]; rfl) (fun _ U U' hal hh h => ⟨h.1, h.2.1.mv hal hh, h.2.2.1.mv hal hh, h.2.2.2.1.there hal hh, h.2.2.2.2⟩) (fun r U U' V V' h1 hal h2 h => Says01.mv r U U' V V' h1 hal h2 h) ?_
  intro p e s m args below meth c s₁ X0 hexec hbytes hml hret hlk hnm hown hh0 W hP
  obtain ⟨rfl, hx, hy, s1, hz⟩ := hP
  have c1 : Steps p.tables e below (s₁.setTop (entryFrame m #[.ref x, .ref y] 3)) (s₁.setTop (mkF m 2 #[.val (.ref x), .val (.ref y), .unset] [.ref y, .ref x])) := Steps.trans (entry rfl) (by
    show Steps p.tables e below (s₁.setTop (mkF m 0 #[.val (.ref x), .val (.ref y), .unset] [])) _
    refine XS.aloadN X0.here hexec rfl (hb hbytes d0) rfl rfl ?_
    refine XS.aloadN X0.here hexec rfl (hb hbytes d1) rfl rfl ?_
    exact Steps.refl _)
  by_cases hxy : x = y
  · have c2 : Steps p.tables e below (s₁.setTop (entryFrame m #[.ref x, .ref y] 3)) (s₁.setTop (mkF m 6 #[.val (.ref x), .val (.ref y), .unset] [.int 1])) := c1.trans (by
      refine acmpNo X0.here hexec rfl (hb hbytes d2) rfl rfl rfl (by simp [acmp, hxy]) ?_
      refine iconstV X0.here hexec rfl 1 (hb hbytes d5) (by decide) ?_
      exact Steps.refl _)
    subst hxy
    have ec : cd = cd' := by
      obtain ⟨D, fd, a1, a2, a3⟩ := hx.2.2.1
      obtain ⟨D', fd', b1, b2, b3⟩ := hy.2.2.1
      cases a1.symm.trans b1
      obtain ⟨q1, q2, q3, q4⟩ := a2.1
      obtain ⟨r1, r2, r3, r4⟩ := b2.1
      cases q4.symm.trans r4
      cases a3.symm.trans b3; rfl
    have et : t = t' := by
      obtain ⟨D, fd, a1, a2, a3⟩ := hx.2.1
      obtain ⟨D', fd', b1, b2, b3⟩ := hy.2.1
      cases a1.symm.trans b1
      obtain ⟨q1, q2, q3, q4⟩ := a2.1
      obtain ⟨r1, r2, r3, r4⟩ := b2.1
      cases q4.symm.trans r4
      cases a3.symm.trans b3; rfl
    subst ec et
    have ev : V = V' := by cases hx.2.2.2.1.1.symm.trans hy.2.2.2.1.1; rfl
    subst ev
    have hs : SameT n f k g := (Cod.eqv hx.2.2.2.2.1 hy.2.2.2.2.1 hx.2.2.2.2.2 hy.2.2.2.2.2).mp ⟨rfl, fun _ _ => rfl⟩
    exact ⟨s₁, some (.int 1), _, _, _, X0, rfl, rfl, rfl, (fun h => by cases h), ⟨1, rfl, hh0, Or.inl ⟨rfl, hs⟩⟩, fun fs hl => c2.trans (X0.ireturnOut hexec hret rfl (Or.inr (Or.inl rfl)) (hb hbytes d6) hl)⟩
  · have c2 : Steps p.tables e below (s₁.setTop (entryFrame m #[.ref x, .ref y] 3)) (s₁.setTop (mkF m 8 #[.val (.ref x), .val (.ref y), .unset] [.ref y])) := c1.trans (by
      refine acmpYes X0.here hexec rfl (pc0 := 2) rfl (hb hbytes d2) rfl rfl rfl (by simp [acmp, hxy]) (by decide) rfl ?_
      refine XS.aloadN X0.here hexec rfl (hb hbytes d7) rfl rfl ?_
      exact Steps.refl _)
    obtain ⟨T3, X3, q3, st3⟩ := cinst X0 hexec hown (wk W (.classLink "java/lang/String" 10 "java/lang/String")) (hy.mv X0.warmed.alike hh0).1 (g := (mkF m 8 #[.val (.ref x), .val (.ref y), .unset] [.ref y])) rfl (rest := []) rfl (hb hbytes d8)
    have hh3 := q3.trans hh0
    have c4 : Steps p.tables e below (s₁.setTop (entryFrame m #[.ref x, .ref y] 3)) (T3.setTop (mkF m 15 #[.val (.ref x), .val (.ref y), .unset] [.ref y])) := (c2.trans (st3 _ (Steps.refl _))).trans (by
      refine XS.ifNo X3.here hexec rfl (hb hbytes d11) rfl (i0_eq_f (by decide)) ?_
      refine XS.aloadN X3.here hexec rfl (hb hbytes d14) rfl rfl ?_
      exact Steps.refl _)
    obtain ⟨T5, X5, q5, st5⟩ := cself X3 hexec hown (wk W (.classLink "java/lang/String" 10 "java/lang/String")) (hy.mv X3.warmed.alike hh3).1 (g := (mkF m 15 #[.val (.ref x), .val (.ref y), .unset] [.ref y])) rfl (rest := []) rfl (hb hbytes d15)
    have hh5 := q5.trans hh3
    have c6 : Steps p.tables e below (s₁.setTop (entryFrame m #[.ref x, .ref y] 3)) (T5.setTop (mkF m 19 #[.val (.ref x), .val (.ref y), .val (.ref y)] [])) := (c4.trans (st5 _ (Steps.refl _))).trans (by
      refine XS.astoreN X5.here hexec rfl (hb hbytes d18) rfl rfl rfl ?_
      exact Steps.refl _)
    obtain ⟨T7, X7, q7, st7⟩ := X5.sget hexec hown (wk W (.fieldLink "java/lang/String" 38 "java/lang/String" "COMPACT_STRINGS" "Z")) s1 (fun _ _ h => by rw [hh5]; exact h) (g := (mkF m 19 #[.val (.ref x), .val (.ref y), .val (.ref y)] [])) rfl (hb hbytes d19)
    have hh7 := q7.trans hh5
    have c8 : Steps p.tables e below (s₁.setTop (entryFrame m #[.ref x, .ref y] 3)) (T7.setTop (mkF m 26 #[.val (.ref x), .val (.ref y), .val (.ref y)] [.ref x])) := (c6.trans (st7 _ (Steps.refl _))).trans (by
      refine XS.ifNo X7.here hexec rfl (hb hbytes d22) rfl (i0_eq_f hz) ?_
      refine XS.aloadN X7.here hexec rfl (hb hbytes d25) rfl rfl ?_
      exact Steps.refl _)
    obtain ⟨T9, X9, q9, st9⟩ := X7.hget hexec hown (wk W (.fieldLink "java/lang/String" 15 "java/lang/String" "coder" "B")) (hx.mv X7.warmed.alike hh7).2.2.1 (g := (mkF m 26 #[.val (.ref x), .val (.ref y), .val (.ref y)] [.ref x])) rfl (rest := []) rfl (hb hbytes d26)
    have hh9 := q9.trans hh7
    have c10 : Steps p.tables e below (s₁.setTop (entryFrame m #[.ref x, .ref y] 3)) (T9.setTop (mkF m 30 #[.val (.ref x), .val (.ref y), .val (.ref y)] [.ref y, .int cd])) := (c8.trans (st9 _ (Steps.refl _))).trans (by
      refine XS.aloadN X9.here hexec rfl (hb hbytes d29) rfl rfl ?_
      exact Steps.refl _)
    obtain ⟨T11, X11, q11, st11⟩ := X9.hget hexec hown (wk W (.fieldLink "java/lang/String" 15 "java/lang/String" "coder" "B")) (hy.mv X9.warmed.alike hh9).2.2.1 (g := (mkF m 30 #[.val (.ref x), .val (.ref y), .val (.ref y)] [.ref y, .int cd])) rfl (rest := [.int cd]) rfl (hb hbytes d30)
    have hh11 := q11.trans hh9
    have c12 : Steps p.tables e below (s₁.setTop (entryFrame m #[.ref x, .ref y] 3)) (T11.setTop (mkF m 33 #[.val (.ref x), .val (.ref y), .val (.ref y)] [.int cd', .int cd])) := c10.trans (st11 _ (Steps.refl _))
    by_cases hcd : cd = cd'
    · subst hcd
      have c13 : Steps p.tables e below (s₁.setTop (entryFrame m #[.ref x, .ref y] 3)) (T11.setTop (mkF m 37 #[.val (.ref x), .val (.ref y), .val (.ref y)] [.ref x])) := c12.trans (by
        refine XS.icmpNo X11.here hexec rfl (hb hbytes d33) rfl (ii_ne_f rfl) ?_
        refine XS.aloadN X11.here hexec rfl (hb hbytes d36) rfl rfl ?_
        exact Steps.refl _)
      obtain ⟨T14, X14, q14, st14⟩ := X11.hget hexec hown (wk W (.fieldLink "java/lang/String" 9 "java/lang/String" "value" "[B")) (hx.mv X11.warmed.alike hh11).2.1 (g := (mkF m 37 #[.val (.ref x), .val (.ref y), .val (.ref y)] [.ref x])) rfl (rest := []) rfl (hb hbytes d37)
      have hh14 := q14.trans hh11
      have c15 : Steps p.tables e below (s₁.setTop (entryFrame m #[.ref x, .ref y] 3)) (T14.setTop (mkF m 41 #[.val (.ref x), .val (.ref y), .val (.ref y)] [.ref y, .ref t])) := (c13.trans (st14 _ (Steps.refl _))).trans (by
        refine XS.aloadN X14.here hexec rfl (hb hbytes d40) rfl rfl ?_
        exact Steps.refl _)
      obtain ⟨T16, X16, q16, st16⟩ := X14.hget hexec hown (wk W (.fieldLink "java/lang/String" 9 "java/lang/String" "value" "[B")) (hy.mv X14.warmed.alike hh14).2.1 (g := (mkF m 41 #[.val (.ref x), .val (.ref y), .val (.ref y)] [.ref y, .ref t])) rfl (rest := [.ref t]) rfl (hb hbytes d41)
      have hh16 := q16.trans hh14
      have c17 : Steps p.tables e below (s₁.setTop (entryFrame m #[.ref x, .ref y] 3)) (T16.setTop (mkF m 44 #[.val (.ref x), .val (.ref y), .val (.ref y)] [.ref t', .ref t])) := c15.trans (st16 _ (Steps.refl _))
      obtain ⟨v18, T18, X18, E18, g18⟩ := X16.callS hexec (LEq.law l t V t' V') hown (wks W (staticW "java/lang/String" 541 LEq.yN)) (wk W LEq.tab) (W := 0) (Nat.le_of_ble_eq_true rfl) (Nat.le_of_ble_eq_true rfl) (Nat.le_refl _) (Nat.le_refl _) (g := (mkF m 44 #[.val (.ref x), .val (.ref y), .val (.ref y)] [.ref t', .ref t])) rfl (by rw [hml]; rfl) c17 (argsL := [.ref t, .ref t']) (rest := []) rfl rfl (by show 2 * 0 + 0 ≤ _; decide) (hb hbytes d44) (⟨rfl, hx.2.2.2.1.mv X16.warmed.alike hh16, hx.2.2.2.2.1.ty, hy.2.2.2.1.mv X16.warmed.alike hh16, hy.2.2.2.2.1.ty⟩)
      obtain ⟨v, rfl, q18, hv⟩ := E18
      have iff := Cod.eqv hx.2.2.2.2.1 hy.2.2.2.2.1 hx.2.2.2.2.2 hy.2.2.2.2.2
      rcases hv with ⟨rfl, he⟩ | ⟨rfl, he⟩
      · have c19 : Steps p.tables e below (s₁.setTop (entryFrame m #[.ref x, .ref y] 3)) (T18.setTop (mkF m 55 #[.val (.ref x), .val (.ref y), .val (.ref y)] [.int 1])) := Steps.trans g18 (by
          refine XS.ifNo X18.here hexec rfl (hb hbytes d47) rfl (i0_eq_f (by decide)) ?_
          refine iconstV X18.here hexec rfl 1 (hb hbytes d50) (by decide) ?_
          refine XS.goto X18.here hexec rfl (pc0 := 51) rfl (hb hbytes d51) (by decide) rfl ?_
          exact Steps.refl _)
        exact ⟨T18, some (.int 1), _, _, _, X18, rfl, rfl, rfl, (fun h => by cases h), ⟨1, rfl, q18.trans hh16, Or.inl ⟨rfl, iff.mp he⟩⟩, fun fs hl => c19.trans (X18.ireturnOut hexec hret rfl (Or.inr (Or.inl rfl)) (hb hbytes d55) hl)⟩
      · have c19 : Steps p.tables e below (s₁.setTop (entryFrame m #[.ref x, .ref y] 3)) (T18.setTop (mkF m 55 #[.val (.ref x), .val (.ref y), .val (.ref y)] [.int 0])) := Steps.trans g18 (by
          refine XS.ifYes X18.here hexec rfl (pc0 := 47) rfl (hb hbytes d47) rfl (i0_eq_t rfl) (by decide) rfl ?_
          refine iconstV X18.here hexec rfl 0 (hb hbytes d54) (by decide) ?_
          exact Steps.refl _)
        exact ⟨T18, some (.int 0), _, _, _, X18, rfl, rfl, rfl, (fun h => by cases h), ⟨0, rfl, q18.trans hh16, Or.inr ⟨rfl, fun q => he (iff.mpr q)⟩⟩, fun fs hl => c19.trans (X18.ireturnOut hexec hret rfl (Or.inr (Or.inl rfl)) (hb hbytes d55) hl)⟩
    · have c13 : Steps p.tables e below (s₁.setTop (entryFrame m #[.ref x, .ref y] 3)) (T11.setTop (mkF m 55 #[.val (.ref x), .val (.ref y), .val (.ref y)] [.int 0])) := c12.trans (by
        refine XS.icmpYes X11.here hexec rfl (pc0 := 33) rfl (hb hbytes d33) rfl (ii_ne_t hcd) (by decide) rfl ?_
        refine iconstV X11.here hexec rfl 0 (hb hbytes d54) (by decide) ?_
        exact Steps.refl _)
      exact ⟨T11, some (.int 0), _, _, _, X11, rfl, rfl, rfl, (fun h => by cases h), ⟨0, rfl, hh11, Or.inr ⟨rfl, Cod.dif hx.2.2.2.2.1 hy.2.2.2.2.1 hcd⟩⟩, fun fs hl => c13.trans (X11.ireturnOut hexec hret rfl (Or.inr (Or.inl rfl)) (hb hbytes d55) hl)⟩
theorem pays {l : Launch} {R : Room} {p : Program} {e : Env} {below : List Frame} {s : State} {sargs : Array Value} {len W : Nat} (x t : Addr) (V : Cell) (cd : Int32) (n : Nat) (f : Nat → Int32) (y t' : Addr) (V' : Cell) (cd' : Int32) (k : Nat) (g : Nat → Int32) (z : Int32) (htab : tab.before sargs s = true) (hfr : 2 ≤ R.frames) (hlo : W + 28 ≤ R.locals) :
    Back l R p e below s sargs yN len W (fun A₁ a₁ => A₁.cells + 0 ≤ R.cells ∧ A₁.slots + 0 ≤ R.slots ∧ P x t V cd n f y t' V' cd' k g z a₁ A₁.U) (fun A₁ _ v₁ B₁ => Says01 (SameT n f k g) v₁ A₁.U B₁.U ∧ B₁.locs = A₁.locs ++ [] ∧ B₁.cells = A₁.cells + 0 ∧ B₁.slots = A₁.slots + 0) :=
  (law l x t V cd n f y t' V' cd' k g z).pays htab hfr (by omega)
end SEq
end StrChars
namespace StrChars.Road
open Jvm Sem ClassFile Op Lib Jvm.Stand Jvm.Free Jvm.Free.XT
open Jvm.Lib.Cold (StaticIs)
/-- the words of String.equals(Object) -/
abbrev wordsEq : List Jvm.Cond := [.code SEq.yN SEq.yB 3 (some .boolean), .initialized ST, .classLink ST 10 ST, .fieldLink ST 38 ST "COMPACT_STRINGS" "Z", .fieldLink ST 15 ST "coder" "B", .fieldLink ST 9 ST "value" "[B", .methodLink ST 541 LEq.yN, .static LEq.yN, .code LEq.yN LEq.yB 3 (some .boolean), .initialized "java/lang/StringLatin1"]
theorem tabEq_of {a : Array Value} {s : State} (h : ∀ w ∈ wordsEq, w.before a s = true) : SEq.tab.before a s = true := by
  have hl : LEq.tab.before a s = true := unparts (wk h (.code LEq.yN LEq.yB 3 (some .boolean))) (wks h (.initialized LEq.yN.cls :: LEq.site))
  have q := consq hl h
  exact unparts (wk q (.code SEq.yN SEq.yB 3 (some .boolean))) (wks q (.initialized SEq.yN.cls :: SEq.site))
theorem movedEq {Z s : State} {a0 args : Array Value} (hZ : Z.Warmed39 s.vm) (hw : ∀ d ∈ wordsEq, d.before a0 Z = true) : ∀ d ∈ wordsEq, d.before args s = true := fun d hd => by
  have t : ∀ d ∈ wordsEq, (d.onTables && d.keepsFace) = true := by decide +kernel
  exact RoadKit.mv hZ (hw d hd) (t d hd)
/-- the road's facts of a String, as the laws ask it -/
theorem txt_of {Z U : State} {a0 : Array Value} {kI : Nat} (wi : (Jvm.Cond.instantiable ST kI).before a0 Z = true) (al : Z.vm.Alike U.vm) {x t : Addr} {kb : ClassId} {cs : List Int32} {cd N2 : Int32} {vs : List Value} (E : RoadKit.Exa Z U.heap x ST) (V : RoadKit.Fld Z U.heap x ST "value" "[B" (.ref t)) (C : RoadKit.Fld Z U.heap x ST "coder" "B" (.int cd)) (K : RoadKit.Arv Z U.heap t kb .byte N2 vs (.int 0)) (hc : CodA cs cd N2 vs) (hb : ∀ c ∈ cs, ¬ c < 0 ∧ ¬ (65535 : Int32) < c) (l2 : cs.length ≤ 4000) :
    ∃ A, Txt x t A cd cs.length (fun j => cs.getD j 0) U := by
  obtain ⟨A, K1, K2, K3, K4, K5, K6⟩ := K
  have hcod := hc.cod (by omega) K3 K5
  obtain ⟨D, fV, fC, hB, F1, F2, g1, g2, -, -⟩ := strObj wi al E V C
  exact ⟨A, ⟨_, hB.2.2.1, D, hB.1, rfl, by cases q : D.vm <;> first | rfl | exact absurd q (hB.2.1.2 _)⟩, Has.of hB F1 g1, Has.of hB F2 g2, ⟨K1.1, State.isArrayOf_alike al K1.2.1, K1.2.2, by rcases hcod with ⟨-, q, -⟩ | ⟨-, q, -⟩ <;> omega⟩, hcod, fun j hj => by
    have e : cs.getD j 0 = cs[j] := by simp [List.getD_eq_getElem?_getD, hj]
    show ¬ cs.getD j 0 < 0 ∧ ¬ 65535 < cs.getD j 0
    rw [e]; exact hb _ (List.getElem_mem _)⟩
theorem same_list (cs ds : List Int32) : SameT cs.length (fun j => cs.getD j 0) ds.length (fun j => ds.getD j 0) ↔ cs = ds := by
  constructor
  · rintro ⟨e, q⟩
    refine List.ext_getElem e fun j h1 h2 => ?_
    have := q j h1
    simpa [List.getD_eq_getElem?_getD, h1, h2] using this
  · rintro rfl
    exact ⟨rfl, fun _ _ => rfl⟩
/-- **equals(Object) OF TWO SUCH STRINGS**: 1 just where the chars are the same -/
theorem eqW {p : Program} {l : Launch} {e : Env} {R : Room} {s : State} {args : Array Value} {below : List Frame} {len W : Nat} {Z : State} {a0 : Array Value} {h : Heap} (hZ : Z.Warmed39 s.vm) (hw : ∀ d ∈ wordsEq, d.before a0 Z = true) {kI : Nat} (wi : (Jvm.Cond.instantiable ST kI).before a0 Z = true)
    {x t : Addr} {kb : ClassId} {cs : List Int32} {cd N2 : Int32} {vs : List Value} (E : RoadKit.Exa Z h x ST) (V : RoadKit.Fld Z h x ST "value" "[B" (.ref t)) (C : RoadKit.Fld Z h x ST "coder" "B" (.int cd)) (K : RoadKit.Arv Z h t kb .byte N2 vs (.int 0)) (hc : CodA cs cd N2 vs) (hb : ∀ c ∈ cs, ¬ c < 0 ∧ ¬ (65535 : Int32) < c) (l2 : cs.length ≤ 4000)
    {y t' : Addr} {kb' : ClassId} {ds : List Int32} {cd' N2' : Int32} {vs' : List Value} (E' : RoadKit.Exa Z h y ST) (V' : RoadKit.Fld Z h y ST "value" "[B" (.ref t')) (C' : RoadKit.Fld Z h y ST "coder" "B" (.int cd')) (K' : RoadKit.Arv Z h t' kb' .byte N2' vs' (.int 0)) (hc' : CodA ds cd' N2' vs') (hb' : ∀ c ∈ ds, ¬ c < 0 ∧ ¬ (65535 : Int32) < c) (l2' : ds.length ≤ 4000)
    {z : Int32} (S : RoadKit.Sta Z h ST "COMPACT_STRINGS" "Z" (.int z)) (hz : ¬ z = 0) (hfr : 2 ≤ R.frames) (hlo : W + 28 ≤ R.locals) :
    Back l R p e below s args (⟨"java/lang/String", "equals", "(Ljava/lang/Object;)Z"⟩ : MethodName) len W (fun P a => a = #[.ref x, .ref y] ∧ P.U.heap = h ∧ P.cells + 0 ≤ R.cells ∧ P.slots + 0 ≤ R.slots)
      (fun P _ v B => ∃ L, (((v = some (.int 1) ∧ cs = ds) ∨ (v = some (.int 0) ∧ ¬ cs = ds)) ∧ L = [] ∧ B.U.heap = h) ∧ B.locs = P.locs ++ L ∧ B.cells = P.cells + 0 ∧ B.slots = P.slots + 0) := by
  intro m meth c P g ig mk a X hg hsize hdg hW hn hp'
  obtain ⟨rfl, rfl, r1, r2⟩ := hp'
  have al : Z.vm.Alike P.U.vm := hZ.alike.trans X.warmed.alike
  obtain ⟨A, hx⟩ := txt_of wi al E V C K hc hb l2
  obtain ⟨A', hy⟩ := txt_of wi al E' V' C' K' hc' hb' l2'
  obtain ⟨v, B, X', ⟨⟨w, hv, hh, hq⟩, hl, hk, hs⟩, st⟩ := SEq.pays x t A cd cs.length (fun j => cs.getD j 0) y t' A' cd' ds.length (fun j => ds.getD j 0) z (tabEq_of (movedEq hZ hw)) hfr hlo m meth c P g ig mk _ X hg hsize hdg hW hn ⟨r1, r2, rfl, hx, hy, sta_is al S, hz⟩
  refine ⟨v, B, X', ⟨[], ⟨?_, rfl, hh⟩, hl, hk, hs⟩, st⟩
  rcases hq with ⟨rfl, q⟩ | ⟨rfl, q⟩
  · exact Or.inl ⟨hv, (same_list cs ds).mp q⟩
  · exact Or.inr ⟨hv, fun e => q ((same_list cs ds).mpr e)⟩
end StrChars.Road
namespace StrChars.Road
open Jvm Sem ClassFile Op Lib Jvm.Stand Jvm.Free Jvm.Free.XT
open Jvm.Lib.Cold (StaticIs)
/-- what backV says of its String, as the contracts of this text ask it: cs's low bytes, coder 0 -/
theorem codOf {cs : List Int32} {n : Nat} (hn : cs.length = n) (hb : ∀ c ∈ cs, ¬ 255 < c) : CodA cs 0 (Int32.ofNat n) ((cs.map lo8).map Value.int) := Or.inl ⟨rfl, by rw [hn], by simp [List.map_map, Function.comp_def], hb⟩
end StrChars.Road
end Jvm.Pilot.@@N@@
namespace Jvm.Pilot.@@N@@
open Jvm Jvm.ClassFile Sem Op Lib Jvm.Free Jvm.Stand Jvm.LawKit Jvm.RoadKit Bundle Jvm.Pilot.@@N@@.Jvm.D

/-! Strings -/
abbrev own_ST : String := "java/lang/String"
theorem own_ext_refl (h : Heap) : Ext h h := ⟨Nat.le_refl _, fun _ _ q => q⟩
theorem own_ext_trans {h h1 h2 : Heap} (E : Ext h h1) (F : Ext h1 h2) : Ext h h2 := ⟨Nat.le_trans E.1 F.1, fun a c q => F.2 a c (E.2 a c q)⟩
theorem own_ext_keep {h h1 h2 : Heap} {ws : List Addr} (E : Ext h h1) (K : Keep h1 h2 ws) (q : ∀ w ∈ ws, h.size ≤ w) : Ext h h2 :=
  ⟨Nat.le_trans E.1 K.1, fun a c r => K.2.1 a c (E.2 a c r) fun z => absurd (Array.getElem?_eq_some_iff.mp r).1 (Nat.not_lt.mpr (q a z))⟩
theorem own_ext_wr {h h1 h2 : Heap} {a : Addr} {sl : Nat} {v : Value} (E : Ext h h1) (W : Wr h1 h2 a sl v) (q : h.size ≤ a) : Ext h h2 := own_ext_keep E (Keep.of_wr W) (allS q all0)
/-- x is a String of the chars cs, Latin-1 -/
def own_Str (Z : State) (h : Heap) (x : Addr) (cs : List Int32) : Prop := Exa Z h x "java/lang/String" ∧ Fld Z h x "java/lang/String" "coder" "B" (.int 0) ∧
  ∃ (t : Addr) (kb : ClassId), Fld Z h x "java/lang/String" "value" "[B" (.ref t) ∧ Arv Z h t kb .byte (Int32.ofNat cs.length) ((cs.map fun c => c.toInt8.toInt32).map Value.int) (.int 0)
theorem own_Str.ext {Z : State} {h h' : Heap} {x : Addr} {cs : List Int32} (F : own_Str Z h x cs) (E : Ext h h') : own_Str Z h' x cs := by
  obtain ⟨a, b, t, kb, c, d⟩ := F
  exact ⟨a.ext E, b.ext E, t, kb, c.ext E, d.ext E⟩
/-- each char is Latin-1 -/
def own_lat (cs : List Int32) : Prop := ∀ c ∈ cs, ¬ c < 0 ∧ ¬ (255 : Int32) < c
theorem own_up {cs : List Int32} (h : own_lat cs) : ∀ c ∈ cs, ¬ c < 0 ∧ ¬ (65535 : Int32) < c := fun c hc => ⟨(h c hc).1, fun q => (h c hc).2 (by rw [Int32.lt_iff_toInt_lt] at q ⊢; have e1 : (65535 : Int32).toInt = 65535 := rfl; have e2 : (255 : Int32).toInt = 255 := rfl; omega)⟩
theorem own_safe {Z : State} {EL : List (String × Nat)} {vm : Vm} {h : Heap} {x : Addr} (hal : Z.vm.Alike vm) (E : Exa Z h x "java/lang/String") (F : Fld Z h x "java/lang/String" "value" "[B" .null) : Safe Z EL vm h x := fun B => by
  obtain ⟨p, -, u, a, -, q, -, G, rfl | rfl⟩ := B
  · obtain ⟨cell, cf, k, i, f, h1, h2, h3, h4, h5, h6, h7⟩ := F
    cases (show h[q.sa]? = some q.sC from G.ha).symm.trans h1
    obtain ⟨cS, ⟨⟨s1, s2, s3, ⟨cv, kv, iv, s4, s4'⟩, -, s6, s7, s8, -⟩, -, -⟩, -⟩ := G
    obtain ⟨kv', z4⟩ := ff_back (U := Wst Z vm h) hal s4
    cases h2.symm.trans z4
    rw [h7] at s8
    cases s8
  · obtain ⟨cell, k, e1, e2, e3, -, -⟩ := E
    cases (show h[q.sd]? = some q.SA from G.hd).symm.trans e1
    obtain ⟨cS, -, -, fB, -⟩ := G
    have fB' : Z.vm.findClass "[B" = some q.SA.cls := by rw [← hal.findClass]; exact fB
    exact ids_ne e2 fB' (by decide) rfl
theorem own_w {s t : State} {o : Outcome} {L : List Loc} {k n k' n' : Nat} (h : ReturnedEndW s o t L k n) (hk : k ≤ k') (hn : n ≤ n') : ReturnedEndW s o t L k' n' := ⟨h.1, h.2.1, h.2.2.1, h.2.2.2.mono hk hn⟩
theorem dE4_0 : decode jdk_42_method_149_code 0 = .ok (.aload_n 0, 1) := by decide +kernel
theorem dE4_1 : decode jdk_42_method_149_code 1 = .ok (.invokespecial 1, 3) := by decide +kernel
theorem dE4_4 : decode jdk_42_method_149_code 4 = .ok (.iload_n 3, 1) := by decide +kernel
theorem dE4_5 : decode jdk_42_method_149_code 5 = .ok (.ifCond .ne 22, 3) := by decide +kernel
theorem dE4_8 : decode jdk_42_method_149_code 8 = .ok (.aload_n 0, 1) := by decide +kernel
theorem dE4_9 : decode jdk_42_method_149_code 9 = .ok (.ldc 7, 2) := by decide +kernel
theorem dE4_11 : decode jdk_42_method_149_code 11 = .ok (.getfield 9, 3) := by decide +kernel
theorem dE4_14 : decode jdk_42_method_149_code 14 = .ok (.putfield 9, 3) := by decide +kernel
theorem dE4_17 : decode jdk_42_method_149_code 17 = .ok (.aload_n 0, 1) := by decide +kernel
theorem dE4_18 : decode jdk_42_method_149_code 18 = .ok (.ldc 7, 2) := by decide +kernel
theorem dE4_20 : decode jdk_42_method_149_code 20 = .ok (.getfield 15, 3) := by decide +kernel
theorem dE4_23 : decode jdk_42_method_149_code 23 = .ok (.putfield 15, 3) := by decide +kernel
theorem dE4_26 : decode jdk_42_method_149_code 26 = .ok (.return_, 1) := by decide +kernel
theorem dE1_0 : decode jdk_42_method_3_code 0 = .ok (.aload_n 0, 1) := by decide +kernel
theorem dE1_1 : decode jdk_42_method_3_code 1 = .ok (.aload_n 1, 1) := by decide +kernel
theorem dE1_2 : decode jdk_42_method_3_code 2 = .ok (.iconst 0, 1) := by decide +kernel
theorem dE1_3 : decode jdk_42_method_3_code 3 = .ok (.aload_n 1, 1) := by decide +kernel
theorem dE1_4 : decode jdk_42_method_3_code 4 = .ok (.arraylength, 1) := by decide +kernel
theorem dE1_5 : decode jdk_42_method_3_code 5 = .ok (.aconst_null, 1) := by decide +kernel
theorem dE1_6 : decode jdk_42_method_3_code 6 = .ok (.invokespecial 27, 3) := by decide +kernel
theorem dE1_9 : decode jdk_42_method_3_code 9 = .ok (.return_, 1) := by decide +kernel
theorem pn_S : plainName "java/lang/String" = true := by first | (simp [plainName, overriddenIn]; done) | decide +kernel
theorem efE4 (m : MethodId) (x b : Addr) (i j : Int32) : entryFrame m #[(.ref x), (.ref b), (.int i), (.int j), .null] 6 = mkF m 0 #[.val (.ref x), .val (.ref b), .val (.int i), .val (.int j), .val .null, .unset] [] := by first | (simp [entryFrame, mkF, argsToLocals, Value.category]; done) | rfl
theorem efE1 (m : MethodId) (x0 : Addr) (x1 : Addr) : entryFrame m #[(.ref x0), (.ref x1)] 2 = mkF m 0 #[.val (.ref x0), .val (.ref x1)] [] := by first | (simp [entryFrame, mkF, argsToLocals, Value.category, maxLocals]; done) | rfl
theorem pdE4 : parseMethodDescriptor "([CIILjava/lang/Void;)V" = some ⟨[(.array .char), .int, .int, (.object "java/lang/Void")], none⟩ := by decide +kernel
theorem pdE1 : parseMethodDescriptor "([C)V" = some ⟨[(.array .char)], none⟩ := by decide +kernel
def own_QE (Z : State) (x : Addr) (h0 : Heap) (n0 : Nat) (v : Option Value) (h : Heap) (L : List Loc) : Prop := v = none ∧ Fr n0 L ∧ Keep h0 h [x] ∧ own_Str Z h x []
set_option maxRecDepth 65536 in
set_option maxHeartbeats 40000000 in
theorem own_E4 (l : Launch) (Z : State) (a0 : Array Value) (hw : ∀ d ∈ tables_1, d.before a0 Z = true) (EL : List (String × Nat)) (hEL : EW Z a0 EL) (hmem : ("java/lang/String", 7) ∈ EL) (x b : Addr) (h0 : Heap) (n0 : Nat) (ge : n0 ≤ x) (Ex : Exa Z h0 x "java/lang/String") (Fv : Fld Z h0 x "java/lang/String" "value" "[B" .null) (Fc : Fld Z h0 x "java/lang/String" "coder" "B" (.int (0 : Int32))) :
    MetFree l (⟨"java/lang/String", "<init>", "([CIILjava/lang/Void;)V"⟩ : MethodName) (head1 [Jvm.Cond.code (⟨"java/lang/String", "<init>", "([CIILjava/lang/Void;)V"⟩ : MethodName) jdk_42_method_149_code 6 none] ({ frames := 1, cells := 2, slots := 4, locals := 20 } : Room)) (fun a U => a = #[(.ref x), (.ref b), (.int (0 : Int32)), (.int (0 : Int32)), .null] ∧ Z.Warmed39 U.vm ∧ U.heap = h0 ∧ CHv Z EL U.vm h0) (fun _ _ _ _ _ => True) (fun _ U o U' => ∃ v L, o = .returned v ∧ own_QE Z x h0 n0 v U'.heap L ∧ CHr Z EL U.vm U.heap U'.vm U'.heap ∧ ReturnedEndW U o U' L ({ frames := 1, cells := 2, slots := 4, locals := 20 } : Room).cells ({ frames := 1, cells := 2, slots := 4, locals := 20 } : Room).slots) := by
  refine MetFree.of_bodySF (plainFor_of_name pn_S) hisR ?_
  intro p e s m args below meth c s₁ Bd hml0 hP hK
  obtain ⟨rfl, hZ, hh, H0⟩ := hP
  have hx := Bd.exec
  have hby := Bd.bytes
  have hml : c.maxLocals = 6 := hml0
  have hown : s.vm.findClass "java/lang/String" = some m.cls := findClass_of_methodNamed Bd.named
  have hnm := (name_of_methodNamed Bd.named Bd.method).1
  have X0 : Stand p l e ({ frames := 1, cells := 2, slots := 4, locals := 20 } : Room) (s.setVm s.vm) m #[(.ref x), (.ref b), (.int (0 : Int32)), (.int (0 : Int32)), .null] below meth c s₁ [] 0 0 := Stand.of_body Bd
  have e0 : s₁.heap = h0 := by rw [← hh, Bd.state]; rfl
  have hS0 : s.Since s.vm s.heap.size := (State.WarmedH.refl s).since _
  have cne : RoadKit.slotOf Z "java/lang/String" "coder" "B" ≠ RoadKit.slotOf Z "java/lang/String" "value" "[B" := slot_ne (Or.inr (hw _ (List.mem_of_getElem? (i := 32) rfl))) (Or.inr (hw _ (List.mem_of_getElem? (i := 34) rfl))) (by decide) (t := .byte) (t' := .array .byte) (by decide) (by decide)
  have S0 : Safe Z EL s.vm h0 x := own_safe hZ.alike Ex Fv
  have xlt : x < h0.size := Ex.lt
  have hwS : ∀ a ∈ Bundle.stringAtoms, a.before a0 Z = true := fun d hd => hw d ((by decide +kernel : ∀ d ∈ Bundle.stringAtoms, d ∈ tables_1) d hd)
  have sg1 : ∀ target, Steps p.tables e below (s₁.setTop (mkF m 1 #[.val (.ref x), .val (.ref b), .val (.int (0 : Int32)), .val (.int (0 : Int32)), .val .null, .unset] [(.ref x)])) target → Steps p.tables e below (s₁.setTop (mkF m 0 #[.val (.ref x), .val (.ref b), .val (.int (0 : Int32)), .val (.int (0 : Int32)), .val .null, .unset] [])) target := by
    intro target kt
    show Steps p.tables e below (s₁.setTop (mkF m 0 #[.val (.ref x), .val (.ref b), .val (.int (0 : Int32)), .val (.int (0 : Int32)), .val .null, .unset] [])) _
    refine XS.aloadN X0.here hx rfl (hb hby dE4_0) rfl rfl ?_
    show Steps p.tables e below (s₁.setTop (mkF m 1 #[.val (.ref x), .val (.ref b), .val (.int (0 : Int32)), .val (.int (0 : Int32)), .val .null, .unset] [(.ref x)])) _
    exact kt
  obtain ⟨T1, X1, e1, st1⟩ := initO X0 hx hZ hown (hw _ (List.mem_of_getElem? (i := 16) rfl)) (hw _ (List.mem_of_getElem? (i := 17) rfl)) (hw _ (List.mem_of_getElem? (i := 18) rfl)) e0 (g := (mkF m 1 #[.val (.ref x), .val (.ref b), .val (.int (0 : Int32)), .val (.int (0 : Int32)), .val .null, .unset] [(.ref x)])) rfl (by rw [hml]; rfl) rfl (hb hby dE4_1) (by decide) (W := 0) (by show 2 * 0 + _ ≤ _; exact Nat.le_of_eq rfl) (by decide)
  have sg2 : ∀ target, Steps p.tables e below (T1.setTop (mkF m 9 #[.val (.ref x), .val (.ref b), .val (.int (0 : Int32)), .val (.int (0 : Int32)), .val .null, .unset] [(.ref x)])) target → Steps p.tables e below (T1.setTop (mkF m 4 #[.val (.ref x), .val (.ref b), .val (.int (0 : Int32)), .val (.int (0 : Int32)), .val .null, .unset] [])) target := by
    intro target kt
    show Steps p.tables e below (T1.setTop (mkF m 4 #[.val (.ref x), .val (.ref b), .val (.int (0 : Int32)), .val (.int (0 : Int32)), .val .null, .unset] [])) _
    refine XS.iloadN X1.here hx rfl (hb hby dE4_4) rfl ?_
    show Steps p.tables e below (T1.setTop (mkF m 5 #[.val (.ref x), .val (.ref b), .val (.int (0 : Int32)), .val (.int (0 : Int32)), .val .null, .unset] [(.int (0 : Int32))])) _
    refine XS.ifNo X1.here hx rfl (hb hby dE4_5) rfl (by decide) ?_
    show Steps p.tables e below (T1.setTop (mkF m 8 #[.val (.ref x), .val (.ref b), .val (.int (0 : Int32)), .val (.int (0 : Int32)), .val .null, .unset] [])) _
    refine XS.aloadN X1.here hx rfl (hb hby dE4_8) rfl rfl ?_
    show Steps p.tables e below (T1.setTop (mkF m 9 #[.val (.ref x), .val (.ref b), .val (.int (0 : Int32)), .val (.int (0 : Int32)), .val .null, .unset] [(.ref x)])) _
    exact kt
  obtain ⟨q, T2, h2, k2, t, kb, X2, e2, E2, hS2, hk2, hZ2, hown2, Aq, Cq, Vq, Kq, lq, lt, R2, Lq, ne2, st2⟩ := ldcCH (vm0 := s.vm) (text := "") X1 hx hZ hown (hw _ (List.mem_of_getElem? (i := 64) rfl)) hwS e1 hS0 (Nat.le_of_eq (by rw [hh])) hEL hmem H0 (vs := []) (z := 0) ⟨by simp, by simp⟩ (by decide) (by decide) (g := (mkF m 9 #[.val (.ref x), .val (.ref b), .val (.int (0 : Int32)), .val (.int (0 : Int32)), .val .null, .unset] [(.ref x)])) rfl (hb hby dE4_9) (n := 0) (by simp) (by decide) (by decide) (by decide)
  have S2 : Safe Z EL T2.vm h2 x := R2.safe xlt S0
  obtain ⟨nxq, nxt⟩ := ne2 x S2
  obtain ⟨T3, X3, e3, st3⟩ := getF X2 hx hZ2 hown2 (host := "") (Or.inl (hw _ (List.mem_of_getElem? (i := 33) rfl))) Via.refl e2 Vq (g := (mkF m 11 #[.val (.ref x), .val (.ref b), .val (.int (0 : Int32)), .val (.int (0 : Int32)), .val .null, .unset] [(.ref q), (.ref x)])) rfl rfl (hb hby dE4_11)
  obtain ⟨T4, h4, X4, e4, W4, st4⟩ := putF X3 hx hZ2 hown2 (host := "") (Or.inl (hw _ (List.mem_of_getElem? (i := 33) rfl))) Via.refl e3 (Fv.ext E2) (Ex.ext E2) (Or.inr ⟨(hw _ (List.mem_of_getElem? (i := 34) rfl)), rfl, hnm⟩) (hw _ (List.mem_of_getElem? (i := 6) rfl)) (ty := (.array .byte)) (by decide) rfl rfl (g := (mkF m 14 #[.val (.ref x), .val (.ref b), .val (.int (0 : Int32)), .val (.int (0 : Int32)), .val .null, .unset] [(.ref t), (.ref x)])) rfl rfl (hb hby dE4_14)
  have S4 : Safe Z EL T2.vm h4 x := Safe.wr W4 S2 R2.1 S2
  have sg5 : ∀ target, Steps p.tables e below (T4.setTop (mkF m 18 #[.val (.ref x), .val (.ref b), .val (.int (0 : Int32)), .val (.int (0 : Int32)), .val .null, .unset] [(.ref x)])) target → Steps p.tables e below (T4.setTop (mkF m 17 #[.val (.ref x), .val (.ref b), .val (.int (0 : Int32)), .val (.int (0 : Int32)), .val .null, .unset] [])) target := by
    intro target kt
    show Steps p.tables e below (T4.setTop (mkF m 17 #[.val (.ref x), .val (.ref b), .val (.int (0 : Int32)), .val (.int (0 : Int32)), .val .null, .unset] [])) _
    refine XS.aloadN X4.here hx rfl (hb hby dE4_17) rfl rfl ?_
    show Steps p.tables e below (T4.setTop (mkF m 18 #[.val (.ref x), .val (.ref b), .val (.int (0 : Int32)), .val (.int (0 : Int32)), .val .null, .unset] [(.ref x)])) _
    exact kt
  have st6 := ldcAgain X4 hx hZ2 hown2 (hw _ (List.mem_of_getElem? (i := 64) rfl)) Lq (g := (mkF m 18 #[.val (.ref x), .val (.ref b), .val (.int (0 : Int32)), .val (.int (0 : Int32)), .val .null, .unset] [(.ref x)])) rfl (hb hby dE4_18)
  obtain ⟨T7, X7, e7, st7⟩ := getF X4 hx hZ2 hown2 (host := "") (Or.inl (hw _ (List.mem_of_getElem? (i := 31) rfl))) Via.refl e4 (Cq.other W4 (Or.inl (Ne.symm nxq))) (g := (mkF m 20 #[.val (.ref x), .val (.ref b), .val (.int (0 : Int32)), .val (.int (0 : Int32)), .val .null, .unset] [(.ref q), (.ref x)])) rfl rfl (hb hby dE4_20)
  obtain ⟨T8, h8, X8, e8, W8, st8⟩ := putF X7 hx hZ2 hown2 (host := "") (Or.inl (hw _ (List.mem_of_getElem? (i := 31) rfl))) Via.refl e7 ((Fc.ext E2).other W4 (Or.inr cne)) ((Ex.ext E2).wr W4) (Or.inr ⟨(hw _ (List.mem_of_getElem? (i := 32) rfl)), rfl, hnm⟩) (hw _ (List.mem_of_getElem? (i := 6) rfl)) (ty := .byte) (by decide) rfl rfl (g := (mkF m 23 #[.val (.ref x), .val (.ref b), .val (.int (0 : Int32)), .val (.int (0 : Int32)), .val .null, .unset] [(.int (0 : Int32)), (.ref x)])) rfl rfl (hb hby dE4_23)
  have R6 : CHr Z EL T2.vm h2 T2.vm h8 := (CHr.wr W4 S2 R2.1).trans (CHr.wr W8 S4 (CHr.wr W4 S2 R2.1).1)
  have R7 : CHr Z EL T2.vm h8 T8.vm h8 := CHv.at X8 hZ2 hEL R6.1
  have kk : k2 ≤ T8.heap.size := by rw [e8, W8.size, W4.size]; exact hk2
  obtain ⟨fs, hr, hrun, hended, hW⟩ := X8.leaveW hS2 kk (v := none) (fun _ => rfl)
  have K6 : Keep h0 h8 [x] := (((Keep.refl h0 [x]).ext E2).wr W4 (Or.inl (List.mem_cons_self ..))).wr W8 (Or.inl (List.mem_cons_self ..))
  have N6 : Fr n0 _ := Fr.snoc X8 (Fr.snoc X4 (Fr.nil n0) ge) ge
  have Sx : own_Str Z h8 x [] := ⟨((Ex.ext E2).wr W4).wr W8, Fld.same W8 ((Fc.ext E2).other W4 (Or.inr cne)), t, kb, (Fld.same W4 (Fv.ext E2)).other W8 (Or.inr (Ne.symm cne)), (Kq.other W4 (Ne.symm nxt)).other W8 (Ne.symm nxt)⟩
  refine ⟨_, _, castTop (efE4 m x b 0 0) ?_, hrun, hended, _, _, rfl, ⟨rfl, N6, ?_, ?_⟩, ?_, own_w hW (by decide) (by decide)⟩
  · show Steps p.tables e below (s₁.setTop (mkF m 0 #[.val (.ref x), .val (.ref b), .val (.int (0 : Int32)), .val (.int (0 : Int32)), .val .null, .unset] [])) _
    refine sg1 _ ?_
    show Steps p.tables e below (s₁.setTop (mkF m 1 #[.val (.ref x), .val (.ref b), .val (.int (0 : Int32)), .val (.int (0 : Int32)), .val .null, .unset] [(.ref x)])) _
    refine st1 _ ?_
    show Steps p.tables e below (T1.setTop (mkF m 4 #[.val (.ref x), .val (.ref b), .val (.int (0 : Int32)), .val (.int (0 : Int32)), .val .null, .unset] [])) _
    refine sg2 _ ?_
    show Steps p.tables e below (T1.setTop (mkF m 9 #[.val (.ref x), .val (.ref b), .val (.int (0 : Int32)), .val (.int (0 : Int32)), .val .null, .unset] [(.ref x)])) _
    refine st2 _ ?_
    show Steps p.tables e below (T2.setTop (mkF m 11 #[.val (.ref x), .val (.ref b), .val (.int (0 : Int32)), .val (.int (0 : Int32)), .val .null, .unset] [(.ref q), (.ref x)])) _
    refine st3 _ ?_
    show Steps p.tables e below (T3.setTop (mkF m 14 #[.val (.ref x), .val (.ref b), .val (.int (0 : Int32)), .val (.int (0 : Int32)), .val .null, .unset] [(.ref t), (.ref x)])) _
    refine st4 _ ?_
    show Steps p.tables e below (T4.setTop (mkF m 17 #[.val (.ref x), .val (.ref b), .val (.int (0 : Int32)), .val (.int (0 : Int32)), .val .null, .unset] [])) _
    refine sg5 _ ?_
    show Steps p.tables e below (T4.setTop (mkF m 18 #[.val (.ref x), .val (.ref b), .val (.int (0 : Int32)), .val (.int (0 : Int32)), .val .null, .unset] [(.ref x)])) _
    refine st6 _ ?_
    show Steps p.tables e below (T4.setTop (mkF m 20 #[.val (.ref x), .val (.ref b), .val (.int (0 : Int32)), .val (.int (0 : Int32)), .val .null, .unset] [(.ref q), (.ref x)])) _
    refine st7 _ ?_
    show Steps p.tables e below (T7.setTop (mkF m 23 #[.val (.ref x), .val (.ref b), .val (.int (0 : Int32)), .val (.int (0 : Int32)), .val .null, .unset] [(.int (0 : Int32)), (.ref x)])) _
    refine st8 _ ?_
    show Steps p.tables e below (T8.setTop (mkF m 26 #[.val (.ref x), .val (.ref b), .val (.int (0 : Int32)), .val (.int (0 : Int32)), .val .null, .unset] [])) _
    exact X8.returnOut hx Bd.returns (hb hby dE4_26) hr
  · show Keep h0 T8.heap [x]
    rw [e8]; exact K6
  · show own_Str Z T8.heap x []
    rw [e8]; exact Sx
  · show CHr Z EL s.vm s.heap T8.vm T8.heap
    rw [e8, hh]; exact (R2.trans R6).trans R7
set_option maxRecDepth 65536 in
set_option maxHeartbeats 40000000 in
theorem own_E1 (l : Launch) (Z : State) (a0 : Array Value) (hw : ∀ d ∈ tables_1, d.before a0 Z = true) (EL : List (String × Nat)) (hEL : EW Z a0 EL) (hmem : ("java/lang/String", 7) ∈ EL) (x b : Addr) (h0 : Heap) (n0 : Nat) (ge : n0 ≤ x) (Ex : Exa Z h0 x "java/lang/String") (Fv : Fld Z h0 x "java/lang/String" "value" "[B" .null) (Fc : Fld Z h0 x "java/lang/String" "coder" "B" (.int (0 : Int32))) (kb : ClassId) (Kb : Arv Z h0 b kb .char (0 : Int32) [] (.int (0 : Int32))) :
    MetFree l (⟨"java/lang/String", "<init>", "([C)V"⟩ : MethodName) (head1 [Jvm.Cond.code (⟨"java/lang/String", "<init>", "([C)V"⟩ : MethodName) jdk_42_method_3_code 2 none] ({ frames := 2, cells := 2, slots := 4, locals := 37 } : Room)) (fun a U => a = #[(.ref x), (.ref b)] ∧ Z.Warmed39 U.vm ∧ U.heap = h0 ∧ CHv Z EL U.vm h0) (fun _ _ _ _ _ => True) (fun _ U o U' => ∃ v L, o = .returned v ∧ own_QE Z x h0 n0 v U'.heap L ∧ CHr Z EL U.vm U.heap U'.vm U'.heap ∧ ReturnedEndW U o U' L ({ frames := 2, cells := 2, slots := 4, locals := 37 } : Room).cells ({ frames := 2, cells := 2, slots := 4, locals := 37 } : Room).slots) := by
  refine MetFree.of_bodySF (plainFor_of_name pn_S) hisR ?_
  intro p e s m args below meth c s₁ Bd hml0 hP hK
  obtain ⟨rfl, hZ, hh, H0⟩ := hP
  have hx := Bd.exec
  have hby := Bd.bytes
  have hml : c.maxLocals = 2 := hml0
  have hown : s.vm.findClass "java/lang/String" = some m.cls := findClass_of_methodNamed Bd.named
  have X0 : Stand p l e ({ frames := 2, cells := 2, slots := 4, locals := 37 } : Room) s m #[(.ref x), (.ref b)] below meth c s₁ [] 0 0 := Stand.of_body Bd
  have e0 : s₁.heap = h0 := by rw [← hh, Bd.state]; rfl
  obtain ⟨cl, Ab, -, Sb, Mb, -, -⟩ := Kb
  have sg1 : ∀ target, Steps p.tables e below (s₁.setTop (mkF m 6 #[.val (.ref x), .val (.ref b)] [.null, (.int (0 : Int32)), (.int (0 : Int32)), (.ref b), (.ref x)])) target → Steps p.tables e below (s₁.setTop (mkF m 0 #[.val (.ref x), .val (.ref b)] [])) target := by
    intro target kt
    show Steps p.tables e below (s₁.setTop (mkF m 0 #[.val (.ref x), .val (.ref b)] [])) _
    refine XS.aloadN X0.here hx rfl (hb hby dE1_0) rfl rfl ?_
    show Steps p.tables e below (s₁.setTop (mkF m 1 #[.val (.ref x), .val (.ref b)] [(.ref x)])) _
    refine XS.aloadN X0.here hx rfl (hb hby dE1_1) rfl rfl ?_
    show Steps p.tables e below (s₁.setTop (mkF m 2 #[.val (.ref x), .val (.ref b)] [(.ref b), (.ref x)])) _
    refine XS.iconst X0.here hx rfl (hb hby dE1_2) ?_
    show Steps p.tables e below (s₁.setTop (mkF m 3 #[.val (.ref x), .val (.ref b)] [(.int (0 : Int32)), (.ref b), (.ref x)])) _
    refine XS.aloadN X0.here hx rfl (hb hby dE1_3) rfl rfl ?_
    show Steps p.tables e below (s₁.setTop (mkF m 4 #[.val (.ref x), .val (.ref b)] [(.ref b), (.int (0 : Int32)), (.ref b), (.ref x)])) _
    refine X0.arraylength hx (cell := cl) (by rw [e0]; exact Ab.1) (State.isArrayOf_alike hZ.alike Ab.2.1) (g := (mkF m 4 #[.val (.ref x), .val (.ref b)] [(.ref b), (.int (0 : Int32)), (.ref b), (.ref x)])) rfl (rest := [(.int (0 : Int32)), (.ref b), (.ref x)]) rfl (hb hby dE1_4) _ ?_
    rw [len_of Sb Mb]
    show Steps p.tables e below (s₁.setTop (mkF m 5 #[.val (.ref x), .val (.ref b)] [(.int (0 : Int32)), (.int (0 : Int32)), (.ref b), (.ref x)])) _
    refine XS.aconstNull X0.here hx rfl (hb hby dE1_5) ?_
    show Steps p.tables e below (s₁.setTop (mkF m 6 #[.val (.ref x), .val (.ref b)] [.null, (.int (0 : Int32)), (.int (0 : Int32)), (.ref b), (.ref x)])) _
    exact kt
  obtain ⟨_, _, ⟨T1, L1, k1, n1⟩, -, X1, hS1, gr1, ⟨Lc1, hQ1, l1, y1, z1, R1⟩, st1⟩ := X0.specialBackS hx (y := (⟨"java/lang/String", "<init>", "([CIILjava/lang/Void;)V"⟩ : MethodName)) rfl hown (mvT hZ (hw _ (List.mem_of_getElem? (i := 12) rfl))) (mvT hZ (hw _ (List.mem_of_getElem? (i := 13) rfl))) (mvT hZ (hw _ (List.mem_of_getElem? (i := 15) rfl))) (by decide) (backOfSH (W := 0) (own_E4 l Z a0 hw EL hEL hmem x b h0 n0 ge Ex Fv Fc) hZ (hw _ (List.mem_of_getElem? (i := 15) rfl)) (hw _ (List.mem_of_getElem? (i := 7) rfl)) (by decide) (by decide) hEL H0) (g := (mkF m 6 #[.val (.ref x), .val (.ref b)] [.null, (.int (0 : Int32)), (.int (0 : Int32)), (.ref b), (.ref x)])) rfl (by rw [hml]; rfl) (Steps.refl _) (a := x) (argsL := [(.ref b), (.int (0 : Int32)), (.int (0 : Int32)), .null]) (rest := []) (lenOf pdE4 rfl) rfl (by show 2 * 0 + _ ≤ _; exact Nat.le_of_eq rfl) (hb hby dE1_6) (fun _ _ => ⟨rfl, e0, Nat.le_of_ble_eq_true rfl, Nat.le_of_ble_eq_true rfl⟩)
  dsimp only [Pt.U, Pt.locs, Pt.cells, Pt.slots] at X1 hS1 gr1 l1 y1 z1 R1 st1 hQ1
  subst l1 y1 z1
  obtain ⟨rfl, N1, K1, S1⟩ := hQ1
  have hZ1 : Z.Warmed39 T1.vm := State.Warmed39.trans (t := s) hZ hS1.1
  have R7 := CHv.at X1 hZ1 hEL R1.1
  obtain ⟨fs, hr, hrun, hended, hW⟩ := X1.leaveW hS1 (Nat.le_refl _) (v := none) (fun _ => rfl)
  refine ⟨_, _, castTop (efE1 m x b) ?_, hrun, hended, _, _, rfl, ⟨rfl, N1, K1, S1⟩, ?_, own_w hW (by decide) (by decide)⟩
  · show Steps p.tables e below (s₁.setTop (mkF m 0 #[.val (.ref x), .val (.ref b)] [])) _
    refine sg1 _ ?_
    show Steps p.tables e below (s₁.setTop (mkF m 6 #[.val (.ref x), .val (.ref b)] [.null, (.int (0 : Int32)), (.int (0 : Int32)), (.ref b), (.ref x)])) _
    refine st1.trans ?_
    show Steps p.tables e below (T1.setTop (mkF m 9 #[.val (.ref x), .val (.ref b)] [])) _
    exact X1.returnOut hx Bd.returns (hb hby dE1_9) hr
  · show CHr Z EL s.vm s.heap T1.vm T1.heap
    rw [hh]; exact R1
theorem own_nar {c : Int32} (h : ¬ c < 0 ∧ ¬ (255 : Int32) < c) : nar .char c = c := by
  have h1 := c_i2c c
  have e0 : (0 : Int32).toInt = 0 := rfl
  have e1 : (255 : Int32).toInt = 255 := rfl
  obtain ⟨h2, h3⟩ := h
  rw [Int32.lt_iff_toInt_lt] at h2 h3
  show c.toUInt32.toUInt16.toUInt32.toInt32 = c
  rw [← Int32.toInt_inj]
  omega
theorem own_ch8 (x : Int32) : ¬ ((x &&& (255 : Int32)).toUInt32.toUInt16.toUInt32.toInt32) < 0 ∧ ¬ (255 : Int32) < ((x &&& (255 : Int32)).toUInt32.toUInt16.toUInt32.toInt32) := by
  have h1 := c_i2c (x &&& (255 : Int32))
  have h2 := c_and x 255 (by decide)
  have e0 : (0 : Int32).toInt = 0 := rfl
  have e1 : (255 : Int32).toInt = 255 := rfl
  rw [Int32.lt_iff_toInt_lt, Int32.lt_iff_toInt_lt]
  omega
theorem own_fc {c : Int32} (h : ¬ c < 0 ∧ ¬ (255 : Int32) < c) : fits .char (.int c) = true := by
  have q := fits_nar_char c
  rwa [own_nar h] at q
theorem own_hws : ∀ d ∈ StrChars.Road.words, d ∈ tables_1 := by decide +kernel
theorem own_heq : ∀ d ∈ StrChars.Road.wordsEq, d ∈ tables_1 := by decide +kernel
theorem own_cod {cs : List Int32} (h : own_lat cs) : StrChars.Road.CodA cs 0 (Int32.ofNat cs.length) ((cs.map fun c => c.toInt8.toInt32).map Value.int) := StrChars.Road.codOf rfl (fun c hc => (h c hc).2)
theorem dT_0 : decode method_3_code 0 = .ok (.iload_n 0, 1) := by decide +kernel
theorem dT_1 : decode method_3_code 1 = .ok (.ifCond .ne 14, 3) := by decide +kernel
theorem dT_4 : decode method_3_code 4 = .ok (.new 27, 3) := by decide +kernel
theorem dT_7 : decode method_3_code 7 = .ok (.dup, 1) := by decide +kernel
theorem dT_8 : decode method_3_code 8 = .ok (.iconst 0, 1) := by decide +kernel
theorem dT_9 : decode method_3_code 9 = .ok (.newarray .char, 2) := by decide +kernel
theorem dT_11 : decode method_3_code 11 = .ok (.invokespecial 29, 3) := by decide +kernel
theorem dT_14 : decode method_3_code 14 = .ok (.areturn, 1) := by decide +kernel
theorem dT_15 : decode method_3_code 15 = .ok (.iload_n 0, 1) := by decide +kernel
theorem dT_16 : decode method_3_code 16 = .ok (.iconst 1, 1) := by decide +kernel
theorem dT_17 : decode method_3_code 17 = .ok (.if_icmp .ne 18, 3) := by decide +kernel
theorem dT_20 : decode method_3_code 20 = .ok (.new 27, 3) := by decide +kernel
theorem dT_23 : decode method_3_code 23 = .ok (.dup, 1) := by decide +kernel
theorem dT_24 : decode method_3_code 24 = .ok (.iconst 1, 1) := by decide +kernel
theorem dT_25 : decode method_3_code 25 = .ok (.newarray .char, 2) := by decide +kernel
theorem dT_27 : decode method_3_code 27 = .ok (.dup, 1) := by decide +kernel
theorem dT_28 : decode method_3_code 28 = .ok (.iconst 0, 1) := by decide +kernel
theorem dT_29 : decode method_3_code 29 = .ok (.iload_n 1, 1) := by decide +kernel
theorem dT_30 : decode method_3_code 30 = .ok (.castore, 1) := by decide +kernel
theorem dT_31 : decode method_3_code 31 = .ok (.invokespecial 29, 3) := by decide +kernel
theorem dT_34 : decode method_3_code 34 = .ok (.areturn, 1) := by decide +kernel
theorem dT_35 : decode method_3_code 35 = .ok (.iload_n 0, 1) := by decide +kernel
theorem dT_36 : decode method_3_code 36 = .ok (.iconst 2, 1) := by decide +kernel
theorem dT_37 : decode method_3_code 37 = .ok (.if_icmp .ne 22, 3) := by decide +kernel
theorem dT_40 : decode method_3_code 40 = .ok (.new 27, 3) := by decide +kernel
theorem dT_43 : decode method_3_code 43 = .ok (.dup, 1) := by decide +kernel
theorem dT_44 : decode method_3_code 44 = .ok (.iconst 2, 1) := by decide +kernel
theorem dT_45 : decode method_3_code 45 = .ok (.newarray .char, 2) := by decide +kernel
theorem dT_47 : decode method_3_code 47 = .ok (.dup, 1) := by decide +kernel
theorem dT_48 : decode method_3_code 48 = .ok (.iconst 0, 1) := by decide +kernel
theorem dT_49 : decode method_3_code 49 = .ok (.iload_n 1, 1) := by decide +kernel
theorem dT_50 : decode method_3_code 50 = .ok (.castore, 1) := by decide +kernel
theorem dT_51 : decode method_3_code 51 = .ok (.dup, 1) := by decide +kernel
theorem dT_52 : decode method_3_code 52 = .ok (.iconst 1, 1) := by decide +kernel
theorem dT_53 : decode method_3_code 53 = .ok (.iload_n 2, 1) := by decide +kernel
theorem dT_54 : decode method_3_code 54 = .ok (.castore, 1) := by decide +kernel
theorem dT_55 : decode method_3_code 55 = .ok (.invokespecial 29, 3) := by decide +kernel
theorem dT_58 : decode method_3_code 58 = .ok (.areturn, 1) := by decide +kernel
theorem dT_59 : decode method_3_code 59 = .ok (.new 27, 3) := by decide +kernel
theorem dT_62 : decode method_3_code 62 = .ok (.dup, 1) := by decide +kernel
theorem dT_63 : decode method_3_code 63 = .ok (.iconst 3, 1) := by decide +kernel
theorem dT_64 : decode method_3_code 64 = .ok (.newarray .char, 2) := by decide +kernel
theorem dT_66 : decode method_3_code 66 = .ok (.dup, 1) := by decide +kernel
theorem dT_67 : decode method_3_code 67 = .ok (.iconst 0, 1) := by decide +kernel
theorem dT_68 : decode method_3_code 68 = .ok (.iload_n 1, 1) := by decide +kernel
theorem dT_69 : decode method_3_code 69 = .ok (.castore, 1) := by decide +kernel
theorem dT_70 : decode method_3_code 70 = .ok (.dup, 1) := by decide +kernel
theorem dT_71 : decode method_3_code 71 = .ok (.iconst 1, 1) := by decide +kernel
theorem dT_72 : decode method_3_code 72 = .ok (.iload_n 2, 1) := by decide +kernel
theorem dT_73 : decode method_3_code 73 = .ok (.castore, 1) := by decide +kernel
theorem dT_74 : decode method_3_code 74 = .ok (.dup, 1) := by decide +kernel
theorem dT_75 : decode method_3_code 75 = .ok (.iconst 2, 1) := by decide +kernel
theorem dT_76 : decode method_3_code 76 = .ok (.iload_n 3, 1) := by decide +kernel
theorem dT_77 : decode method_3_code 77 = .ok (.castore, 1) := by decide +kernel
theorem dT_78 : decode method_3_code 78 = .ok (.invokespecial 29, 3) := by decide +kernel
theorem dT_81 : decode method_3_code 81 = .ok (.areturn, 1) := by decide +kernel
theorem pn_L : plainName "com/example/bare_migrate/baremigrate/ScriptEqualsPinLaw" = true := by first | (simp [plainName, overriddenIn]; done) | decide +kernel
theorem efT (m : MethodId) (x0 : Int32) (x1 : Int32) (x2 : Int32) (x3 : Int32) : entryFrame m #[(.int x0), (.int x1), (.int x2), (.int x3)] 4 = mkF m 0 #[.val (.int x0), .val (.int x1), .val (.int x2), .val (.int x3)] [] := by first | (simp [entryFrame, mkF, argsToLocals, Value.category, maxLocals]; done) | rfl
theorem pdT : parseMethodDescriptor "(ICCC)Ljava/lang/String;" = some ⟨[.int, .char, .char, .char], some (.object "java/lang/String")⟩ := by decide +kernel
def own_QT (Z : State) (cs : List Int32) (h0 : Heap) (n0 : Nat) (v : Option Value) (h : Heap) (L : List Loc) : Prop := ∃ a, v = some (.ref a) ∧ Fr n0 L ∧ Ext h0 h ∧ h0.size ≤ a ∧ own_Str Z h a cs
set_option maxRecDepth 65536 in
set_option maxHeartbeats 40000000 in
theorem rmT (l : Launch) (Z : State) (a0 : Array Value) (hw : ∀ d ∈ tables_1, d.before a0 Z = true) (EL : List (String × Nat)) (hEL : EW Z a0 EL) (hmem : ("java/lang/String", 7) ∈ EL) (n : Nat) (hn : n ≤ 3) (c0 c1 c2 : Int32) (hl : own_lat [c0, c1, c2]) (G : Int32) (h0 : Heap) (n0 : Nat) (Z0 : n0 ≤ h0.size) (O : Sta Z h0 "java/lang/String" "COMPACT_STRINGS" "Z" (.int G)) (hG : ¬ G = 0) :
    MetFree l (⟨"com/example/bare_migrate/baremigrate/ScriptEqualsPinLaw", "text", "(ICCC)Ljava/lang/String;"⟩ : MethodName) (head1 [Jvm.Cond.code (⟨"com/example/bare_migrate/baremigrate/ScriptEqualsPinLaw", "text", "(ICCC)Ljava/lang/String;"⟩ : MethodName) method_3_code 4 (some (.object "java/lang/String"))] ({ frames := 4, cells := 4, slots := 10, locals := 66 } : Room)) (fun a U => a = #[(.int (Int32.ofNat n)), (.int c0), (.int c1), (.int c2)] ∧ Z.Warmed39 U.vm ∧ U.heap = h0 ∧ CHv Z EL U.vm h0) (fun _ _ _ _ _ => True) (fun _ U o U' => ∃ v L, o = .returned v ∧ own_QT Z ([c0, c1, c2].take n) h0 n0 v U'.heap L ∧ CHr Z EL U.vm U.heap U'.vm U'.heap ∧ ReturnedEndW U o U' L ({ frames := 4, cells := 4, slots := 10, locals := 66 } : Room).cells ({ frames := 4, cells := 4, slots := 10, locals := 66 } : Room).slots) := by
  refine MetFree.of_bodySF (plainFor_of_name pn_L) hisR ?_
  intro p e s m args below meth c s₁ Bd hml0 hP hK
  obtain ⟨rfl, hZ, hh, H0⟩ := hP
  have hx := Bd.exec
  have hby := Bd.bytes
  have hml : c.maxLocals = 4 := hml0
  have hown : s.vm.findClass "com/example/bare_migrate/baremigrate/ScriptEqualsPinLaw" = some m.cls := findClass_of_methodNamed Bd.named
  have e0 : s₁.heap = h0 := by rw [← hh, Bd.state]; rfl
  have hws : ∀ d ∈ StrChars.Road.words, d.before a0 Z = true := fun d hd => hw d (own_hws d hd)
  have l0 := hl c0 (by simp)
  have l1 := hl c1 (by simp)
  have l2 := hl c2 (by simp)
  obtain rfl | rfl | rfl | rfl : n = 0 ∨ n = 1 ∨ n = 2 ∨ n = 3 := by omega
  · have X0 : Stand p l e ({ frames := 4, cells := 4, slots := 10, locals := 66 } : Room) s m #[(.int (Int32.ofNat 0)), (.int c0), (.int c1), (.int c2)] below meth c s₁ [] 0 0 := Stand.of_body Bd
    have sg1 : ∀ target, Steps p.tables e below (s₁.setTop (mkF m 4 #[.val (.int (Int32.ofNat 0)), .val (.int c0), .val (.int c1), .val (.int c2)] [])) target → Steps p.tables e below (s₁.setTop (mkF m 0 #[.val (.int (Int32.ofNat 0)), .val (.int c0), .val (.int c1), .val (.int c2)] [])) target := by
      intro target kt
      show Steps p.tables e below (s₁.setTop (mkF m 0 #[.val (.int (Int32.ofNat 0)), .val (.int c0), .val (.int c1), .val (.int c2)] [])) _
      refine XS.iloadN X0.here hx rfl (hb hby dT_0) rfl ?_
      show Steps p.tables e below (s₁.setTop (mkF m 1 #[.val (.int (Int32.ofNat 0)), .val (.int c0), .val (.int c1), .val (.int c2)] [(.int (Int32.ofNat 0))])) _
      refine XS.ifNo X0.here hx rfl (hb hby dT_1) rfl (by decide) ?_
      show Steps p.tables e below (s₁.setTop (mkF m 4 #[.val (.int (Int32.ofNat 0)), .val (.int c0), .val (.int c1), .val (.int c2)] [])) _
      exact kt
    obtain ⟨T2, h2, X2, e2, E2, A2, D2, -, st2⟩ := newO X0 hx hZ hown (hw _ (List.mem_of_getElem? (i := 5) rfl)) (hw _ (List.mem_of_getElem? (i := 6) rfl)) (hw _ (List.mem_of_getElem? (i := 7) rfl)) e0 (g := (mkF m 4 #[.val (.int (Int32.ofNat 0)), .val (.int c0), .val (.int c1), .val (.int c2)] [])) rfl (hb hby dT_4) (by decide) (by decide)
    obtain ⟨a2, g2⟩ : ∃ z, z = h0.size := ⟨_, rfl⟩
    rw [← g2] at A2 D2 st2
    have sg3 : ∀ target, Steps p.tables e below (T2.setTop (mkF m 9 #[.val (.int (Int32.ofNat 0)), .val (.int c0), .val (.int c1), .val (.int c2)] [(.int (0 : Int32)), (.ref a2), (.ref a2)])) target → Steps p.tables e below (T2.setTop (mkF m 7 #[.val (.int (Int32.ofNat 0)), .val (.int c0), .val (.int c1), .val (.int c2)] [(.ref a2)])) target := by
      intro target kt
      show Steps p.tables e below (T2.setTop (mkF m 7 #[.val (.int (Int32.ofNat 0)), .val (.int c0), .val (.int c1), .val (.int c2)] [(.ref a2)])) _
      refine XS.dup X2.here hx rfl (hb hby dT_7) rfl rfl ?_
      show Steps p.tables e below (T2.setTop (mkF m 8 #[.val (.int (Int32.ofNat 0)), .val (.int c0), .val (.int c1), .val (.int c2)] [(.ref a2), (.ref a2)])) _
      refine XS.iconst X2.here hx rfl (hb hby dT_8) ?_
      show Steps p.tables e below (T2.setTop (mkF m 9 #[.val (.int (Int32.ofNat 0)), .val (.int c0), .val (.int c1), .val (.int c2)] [(.int (0 : Int32)), (.ref a2), (.ref a2)])) _
      exact kt
    obtain ⟨T4, h4, k4, X4, e4, E4, A4, st4⟩ := newP X2 hx hZ (hw _ (List.mem_of_getElem? (i := 8) rfl)) e2 (g := (mkF m 9 #[.val (.int (Int32.ofNat 0)), .val (.int c0), .val (.int c1), .val (.int c2)] [(.int (0 : Int32)), (.ref a2), (.ref a2)])) rfl (hb hby dT_9) rfl (by decide) (cap := 0) (by decide) (by decide) (by decide) (by decide)
    obtain ⟨a4, g4⟩ : ∃ z, z = h2.size := ⟨_, rfl⟩
    rw [← g4] at A4 st4
    have E24 : Ext h0 h4 := own_ext_trans E2 E4
    have gx : n0 ≤ a2 := by rw [g2]; exact Z0
    have gb : h0.size ≤ a4 := by rw [g4]; exact E2.1
    have nab : a2 ≠ a4 := Nat.ne_of_lt (by rw [g4]; exact A2.lt)
    have V4 : Arv Z h4 a4 k4 .char (0 : Int32) [] (.int (0 : Int32)) := Arv.new A4 (by decide)
    have En : Ext h0 h4 := E24
    have Fv : Fld Z h4 a2 "java/lang/String" "value" "[B" .null := (D2 (Or.inr (hw _ (List.mem_of_getElem? (i := 34) rfl))) (ty := (.array .byte)) (by decide)).ext E4
    have Fc : Fld Z h4 a2 "java/lang/String" "coder" "B" (.int (0 : Int32)) := (D2 (Or.inr (hw _ (List.mem_of_getElem? (i := 32) rfl))) (ty := .byte) (by decide)).ext E4
    have Ex : Exa Z h4 a2 "java/lang/String" := (A2.ext E4)
    obtain ⟨_, _, ⟨T9, L9, k9, n9⟩, -, X9, hS9, gr9, ⟨Lc9, hQ9, l9, y9, z9, R9⟩, st9⟩ := X4.specialBackS hx (y := (⟨"java/lang/String", "<init>", "([C)V"⟩ : MethodName)) rfl hown (mvT hZ (hw _ (List.mem_of_getElem? (i := 9) rfl))) (mvT hZ (hw _ (List.mem_of_getElem? (i := 10) rfl))) (mvT hZ (hw _ (List.mem_of_getElem? (i := 11) rfl))) (by decide) (backOfSH (vm0 := s.vm) (W := 1) (own_E1 l Z a0 hw EL hEL hmem a2 a4 h4 n0 gx Ex Fv Fc k4 V4) hZ (hw _ (List.mem_of_getElem? (i := 11) rfl)) (hw _ (List.mem_of_getElem? (i := 7) rfl)) (by decide) (by decide) hEL (H0.ext En)) (g := (mkF m 11 #[.val (.int (Int32.ofNat 0)), .val (.int c0), .val (.int c1), .val (.int c2)] [(.ref a4), (.ref a2), (.ref a2)])) rfl (by rw [hml]; rfl) (Steps.refl _) (a := a2) (argsL := [(.ref a4)]) (rest := [(.ref a2)]) (lenOf pdE1 rfl) rfl (by show 2 * 0 + _ ≤ _; exact Nat.le_of_eq rfl) (hb hby dT_11) (fun _ _ => ⟨rfl, e4, Nat.le_of_ble_eq_true rfl, Nat.le_of_ble_eq_true rfl⟩)
    dsimp only [Pt.U, Pt.locs, Pt.cells, Pt.slots] at X9 hS9 gr9 l9 y9 z9 R9 st9 hQ9
    subst l9 y9 z9
    obtain ⟨rfl, N9, K9, S9⟩ := hQ9
    have E9 : Ext h0 T9.heap := own_ext_keep En K9 (allS (by rw [g2]; exact Nat.le_refl _) all0)
    have hZ9 : Z.Warmed39 T9.vm := State.Warmed39.trans (t := s) hZ hS9.1
    obtain ⟨fs, hr, hrun, hended, hW⟩ := X9.leaveW hS9 (Nat.le_refl _) (v := some (.ref a2)) (fun h => by rw [Bd.returns] at h; cases h)
    have RR : CHr Z EL s.vm h0 T9.vm T9.heap := (CHr.ext En H0).trans R9
    refine ⟨_, _, castTop (efT m (Int32.ofNat 0) c0 c1 c2) ?_, hrun, hended, _, _, rfl, ⟨a2, rfl, Fr.app (Fr.nil n0) N9, E9, by rw [g2]; exact Nat.le_refl _, S9⟩, ?_, own_w hW (by decide) (by decide)⟩
    · show Steps p.tables e below (s₁.setTop (mkF m 0 #[.val (.int (Int32.ofNat 0)), .val (.int c0), .val (.int c1), .val (.int c2)] [])) _
      refine sg1 _ ?_
      show Steps p.tables e below (s₁.setTop (mkF m 4 #[.val (.int (Int32.ofNat 0)), .val (.int c0), .val (.int c1), .val (.int c2)] [])) _
      refine st2 _ ?_
      show Steps p.tables e below (T2.setTop (mkF m 7 #[.val (.int (Int32.ofNat 0)), .val (.int c0), .val (.int c1), .val (.int c2)] [(.ref a2)])) _
      refine sg3 _ ?_
      show Steps p.tables e below (T2.setTop (mkF m 9 #[.val (.int (Int32.ofNat 0)), .val (.int c0), .val (.int c1), .val (.int c2)] [(.int (0 : Int32)), (.ref a2), (.ref a2)])) _
      refine st4 _ ?_
      show Steps p.tables e below (T4.setTop (mkF m 11 #[.val (.int (Int32.ofNat 0)), .val (.int c0), .val (.int c1), .val (.int c2)] [(.ref a4), (.ref a2), (.ref a2)])) _
      refine st9.trans ?_
      show Steps p.tables e below (T9.setTop (mkF m 14 #[.val (.int (Int32.ofNat 0)), .val (.int c0), .val (.int c1), .val (.int c2)] [(.ref a2)])) _
      exact retOut X9 hx (t := .object "java/lang/String") Bd.returns rfl (Or.inr (Or.inr (Or.inr (Or.inr ⟨rfl, rfl, rfl⟩)))) (hb hby dT_14) hr
    · show CHr Z EL s.vm s.heap T9.vm T9.heap
      rw [hh]; exact RR
  · have X0 : Stand p l e ({ frames := 4, cells := 4, slots := 10, locals := 66 } : Room) s m #[(.int (Int32.ofNat 1)), (.int c0), (.int c1), (.int c2)] below meth c s₁ [] 0 0 := Stand.of_body Bd
    have sg1 : ∀ target, Steps p.tables e below (s₁.setTop (mkF m 20 #[.val (.int (Int32.ofNat 1)), .val (.int c0), .val (.int c1), .val (.int c2)] [])) target → Steps p.tables e below (s₁.setTop (mkF m 0 #[.val (.int (Int32.ofNat 1)), .val (.int c0), .val (.int c1), .val (.int c2)] [])) target := by
      intro target kt
      show Steps p.tables e below (s₁.setTop (mkF m 0 #[.val (.int (Int32.ofNat 1)), .val (.int c0), .val (.int c1), .val (.int c2)] [])) _
      refine XS.iloadN X0.here hx rfl (hb hby dT_0) rfl ?_
      show Steps p.tables e below (s₁.setTop (mkF m 1 #[.val (.int (Int32.ofNat 1)), .val (.int c0), .val (.int c1), .val (.int c2)] [(.int (Int32.ofNat 1))])) _
      refine XS.ifYes X0.here hx rfl (pc0 := 1) (pc' := 15) rfl (hb hby dT_1) rfl (by decide) (by decide) (by decide) ?_
      show Steps p.tables e below (s₁.setTop (mkF m 15 #[.val (.int (Int32.ofNat 1)), .val (.int c0), .val (.int c1), .val (.int c2)] [])) _
      refine XS.iloadN X0.here hx rfl (hb hby dT_15) rfl ?_
      show Steps p.tables e below (s₁.setTop (mkF m 16 #[.val (.int (Int32.ofNat 1)), .val (.int c0), .val (.int c1), .val (.int c2)] [(.int (Int32.ofNat 1))])) _
      refine XS.iconst X0.here hx rfl (hb hby dT_16) ?_
      show Steps p.tables e below (s₁.setTop (mkF m 17 #[.val (.int (Int32.ofNat 1)), .val (.int c0), .val (.int c1), .val (.int c2)] [(.int (1 : Int32)), (.int (Int32.ofNat 1))])) _
      refine XS.icmpNo X0.here hx rfl (hb hby dT_17) rfl (by decide) ?_
      show Steps p.tables e below (s₁.setTop (mkF m 20 #[.val (.int (Int32.ofNat 1)), .val (.int c0), .val (.int c1), .val (.int c2)] [])) _
      exact kt
    obtain ⟨T2, h2, X2, e2, E2, A2, D2, -, st2⟩ := newO X0 hx hZ hown (hw _ (List.mem_of_getElem? (i := 5) rfl)) (hw _ (List.mem_of_getElem? (i := 6) rfl)) (hw _ (List.mem_of_getElem? (i := 7) rfl)) e0 (g := (mkF m 20 #[.val (.int (Int32.ofNat 1)), .val (.int c0), .val (.int c1), .val (.int c2)] [])) rfl (hb hby dT_20) (by decide) (by decide)
    obtain ⟨a2, g2⟩ : ∃ z, z = h0.size := ⟨_, rfl⟩
    rw [← g2] at A2 D2 st2
    have sg3 : ∀ target, Steps p.tables e below (T2.setTop (mkF m 25 #[.val (.int (Int32.ofNat 1)), .val (.int c0), .val (.int c1), .val (.int c2)] [(.int (1 : Int32)), (.ref a2), (.ref a2)])) target → Steps p.tables e below (T2.setTop (mkF m 23 #[.val (.int (Int32.ofNat 1)), .val (.int c0), .val (.int c1), .val (.int c2)] [(.ref a2)])) target := by
      intro target kt
      show Steps p.tables e below (T2.setTop (mkF m 23 #[.val (.int (Int32.ofNat 1)), .val (.int c0), .val (.int c1), .val (.int c2)] [(.ref a2)])) _
      refine XS.dup X2.here hx rfl (hb hby dT_23) rfl rfl ?_
      show Steps p.tables e below (T2.setTop (mkF m 24 #[.val (.int (Int32.ofNat 1)), .val (.int c0), .val (.int c1), .val (.int c2)] [(.ref a2), (.ref a2)])) _
      refine XS.iconst X2.here hx rfl (hb hby dT_24) ?_
      show Steps p.tables e below (T2.setTop (mkF m 25 #[.val (.int (Int32.ofNat 1)), .val (.int c0), .val (.int c1), .val (.int c2)] [(.int (1 : Int32)), (.ref a2), (.ref a2)])) _
      exact kt
    obtain ⟨T4, h4, k4, X4, e4, E4, A4, st4⟩ := newP X2 hx hZ (hw _ (List.mem_of_getElem? (i := 8) rfl)) e2 (g := (mkF m 25 #[.val (.int (Int32.ofNat 1)), .val (.int c0), .val (.int c1), .val (.int c2)] [(.int (1 : Int32)), (.ref a2), (.ref a2)])) rfl (hb hby dT_25) rfl (by decide) (cap := 1) (by decide) (by decide) (by decide) (by decide)
    obtain ⟨a4, g4⟩ : ∃ z, z = h2.size := ⟨_, rfl⟩
    rw [← g4] at A4 st4
    have E24 : Ext h0 h4 := own_ext_trans E2 E4
    have gx : n0 ≤ a2 := by rw [g2]; exact Z0
    have gb : h0.size ≤ a4 := by rw [g4]; exact E2.1
    have nab : a2 ≠ a4 := Nat.ne_of_lt (by rw [g4]; exact A2.lt)
    have V4 : Arv Z h4 a4 k4 .char (1 : Int32) [] (.int (0 : Int32)) := Arv.new A4 (by decide)
    have sg5 : ∀ target, Steps p.tables e below (T4.setTop (mkF m 30 #[.val (.int (Int32.ofNat 1)), .val (.int c0), .val (.int c1), .val (.int c2)] [(.int c0), (.int (0 : Int32)), (.ref a4), (.ref a4), (.ref a2), (.ref a2)])) target → Steps p.tables e below (T4.setTop (mkF m 27 #[.val (.int (Int32.ofNat 1)), .val (.int c0), .val (.int c1), .val (.int c2)] [(.ref a4), (.ref a2), (.ref a2)])) target := by
      intro target kt
      show Steps p.tables e below (T4.setTop (mkF m 27 #[.val (.int (Int32.ofNat 1)), .val (.int c0), .val (.int c1), .val (.int c2)] [(.ref a4), (.ref a2), (.ref a2)])) _
      refine XS.dup X4.here hx rfl (hb hby dT_27) rfl rfl ?_
      show Steps p.tables e below (T4.setTop (mkF m 28 #[.val (.int (Int32.ofNat 1)), .val (.int c0), .val (.int c1), .val (.int c2)] [(.ref a4), (.ref a4), (.ref a2), (.ref a2)])) _
      refine XS.iconst X4.here hx rfl (hb hby dT_28) ?_
      show Steps p.tables e below (T4.setTop (mkF m 29 #[.val (.int (Int32.ofNat 1)), .val (.int c0), .val (.int c1), .val (.int c2)] [(.int (0 : Int32)), (.ref a4), (.ref a4), (.ref a2), (.ref a2)])) _
      refine XS.iloadN X4.here hx rfl (hb hby dT_29) rfl ?_
      show Steps p.tables e below (T4.setTop (mkF m 30 #[.val (.int (Int32.ofNat 1)), .val (.int c0), .val (.int c1), .val (.int c2)] [(.int c0), (.int (0 : Int32)), (.ref a4), (.ref a4), (.ref a2), (.ref a2)])) _
      exact kt
    have P6 := V4.pad (pad_rep [] (.int (0 : Int32)) 1)
    obtain ⟨c6, B6, q6, S6, M6, H6, U6⟩ := P6
    obtain ⟨T6, h6, X6, e6, W6, st6⟩ := stC X4 hx hZ e4 B6 (j := (0 : Int32)) (inb_of S6 ⟨by decide, by decide⟩) (g := (mkF m 30 #[.val (.int (Int32.ofNat 1)), .val (.int c0), .val (.int c1), .val (.int c2)] [(.int c0), (.int (0 : Int32)), (.ref a4), (.ref a4), (.ref a2), (.ref a2)])) rfl rfl (hb hby dT_30)
    rw [own_nar l0] at W6
    have V6 : Arv Z h6 a4 k4 .char (1 : Int32) [(.int c0)] (.int (0 : Int32)) := Arv.set B6 q6 S6 M6 H6 U6 (own_fc l0) W6 0 rfl (Nat.le_of_ble_eq_true rfl)
    have N6 := Fr.snoc X6 (Fr.nil n0) (Nat.le_trans Z0 gb)
    have En : Ext h0 h6 := (own_ext_wr E24 W6 gb)
    have Fv : Fld Z h6 a2 "java/lang/String" "value" "[B" .null := ((D2 (Or.inr (hw _ (List.mem_of_getElem? (i := 34) rfl))) (ty := (.array .byte)) (by decide)).ext E4).other W6 (Or.inl nab)
    have Fc : Fld Z h6 a2 "java/lang/String" "coder" "B" (.int (0 : Int32)) := ((D2 (Or.inr (hw _ (List.mem_of_getElem? (i := 32) rfl))) (ty := .byte) (by decide)).ext E4).other W6 (Or.inl nab)
    have Ex : Exa Z h6 a2 "java/lang/String" := ((A2.ext E4).wr W6)
    have hp : own_lat [c0] := by
      intro c hc
      simp only [List.mem_cons, List.not_mem_nil, or_false] at hc
      rcases hc with rfl
      · exact l0
    obtain ⟨_, _, ⟨T9, L9, k9, n9⟩, -, X9, ⟨Lc9, hQ9, l9, y9, z9⟩, st9⟩ := X6.specialBack hx (y := (⟨"java/lang/String", "<init>", "([C)V"⟩ : MethodName)) rfl hown (mvT hZ (hw _ (List.mem_of_getElem? (i := 9) rfl))) (mvT hZ (hw _ (List.mem_of_getElem? (i := 10) rfl))) (mvT hZ (hw _ (List.mem_of_getElem? (i := 11) rfl))) (by decide) (StrChars.Road.backV (W := 1) hZ hws (kI := 4) (hw _ (List.mem_of_getElem? (i := 6) rfl)) (cs := ([c0] : List Int32)) (bs := ([c0] : List Int32).map (fun c => c.toInt8.toInt32)) (n := 1) gx (Nat.le_trans Z0 En.1) Ex Fv Fc V6 (O.ext En) hG rfl rfl (by decide) (by decide) hp rfl (by decide) (by decide)) (g := (mkF m 31 #[.val (.int (Int32.ofNat 1)), .val (.int c0), .val (.int c1), .val (.int c2)] [(.ref a4), (.ref a2), (.ref a2)])) rfl (by rw [hml]; rfl) (Steps.refl _) (a := a2) (argsL := [(.ref a4)]) (rest := [(.ref a2)]) (lenOf pdE1 rfl) rfl (by show 2 * 0 + _ ≤ _; exact Nat.le_of_eq rfl) (hb hby dT_31) (fun _ _ => ⟨rfl, e6, Nat.le_of_ble_eq_true rfl, Nat.le_of_ble_eq_true rfl⟩)
    dsimp only [Pt.U, Pt.locs, Pt.cells, Pt.slots] at X9 l9 y9 z9 st9 hQ9
    subst l9 y9 z9
    obtain ⟨rfl, N9, K9, g9a, g9c, t9, kb9, u9, v9, w9, g9v, g9b⟩ := hQ9
    have E9 : Ext h0 T9.heap := own_ext_keep En K9 (allS (by rw [g2]; exact Nat.le_refl _) all0)
    have X9 : Stand p l e ({ frames := 4, cells := 4, slots := 10, locals := 66 } : Room) (s.setVm s.vm) m #[(.int (Int32.ofNat 1)), (.int c0), (.int c1), (.int c2)] below meth c T9 _ _ _ := X9
    obtain ⟨fs, hr, hrun, hended, hW⟩ := X9.leaveW (n := s.heap.size) ((State.WarmedH.refl s).since _) (by rw [hh]; exact E9.1) (v := some (.ref a2)) (fun h => by rw [Bd.returns] at h; cases h)
    have RR : CHr Z EL s.vm h0 T9.vm T9.heap := (CHr.ext E9 H0).trans (CHv.at X9 hZ hEL (H0.ext E9))
    refine ⟨_, _, castTop (efT m (Int32.ofNat 1) c0 c1 c2) ?_, hrun, hended, _, _, rfl, ⟨a2, rfl, Fr.app (N6) N9, E9, by rw [g2]; exact Nat.le_refl _, ⟨g9a, g9c, t9, kb9, g9v, g9b⟩⟩, ?_, own_w hW (by decide) (by decide)⟩
    · show Steps p.tables e below (s₁.setTop (mkF m 0 #[.val (.int (Int32.ofNat 1)), .val (.int c0), .val (.int c1), .val (.int c2)] [])) _
      refine sg1 _ ?_
      show Steps p.tables e below (s₁.setTop (mkF m 20 #[.val (.int (Int32.ofNat 1)), .val (.int c0), .val (.int c1), .val (.int c2)] [])) _
      refine st2 _ ?_
      show Steps p.tables e below (T2.setTop (mkF m 23 #[.val (.int (Int32.ofNat 1)), .val (.int c0), .val (.int c1), .val (.int c2)] [(.ref a2)])) _
      refine sg3 _ ?_
      show Steps p.tables e below (T2.setTop (mkF m 25 #[.val (.int (Int32.ofNat 1)), .val (.int c0), .val (.int c1), .val (.int c2)] [(.int (1 : Int32)), (.ref a2), (.ref a2)])) _
      refine st4 _ ?_
      show Steps p.tables e below (T4.setTop (mkF m 27 #[.val (.int (Int32.ofNat 1)), .val (.int c0), .val (.int c1), .val (.int c2)] [(.ref a4), (.ref a2), (.ref a2)])) _
      refine sg5 _ ?_
      show Steps p.tables e below (T4.setTop (mkF m 30 #[.val (.int (Int32.ofNat 1)), .val (.int c0), .val (.int c1), .val (.int c2)] [(.int c0), (.int (0 : Int32)), (.ref a4), (.ref a4), (.ref a2), (.ref a2)])) _
      refine st6 _ ?_
      show Steps p.tables e below (T6.setTop (mkF m 31 #[.val (.int (Int32.ofNat 1)), .val (.int c0), .val (.int c1), .val (.int c2)] [(.ref a4), (.ref a2), (.ref a2)])) _
      refine st9.trans ?_
      show Steps p.tables e below (T9.setTop (mkF m 34 #[.val (.int (Int32.ofNat 1)), .val (.int c0), .val (.int c1), .val (.int c2)] [(.ref a2)])) _
      exact retOut X9 hx (t := .object "java/lang/String") Bd.returns rfl (Or.inr (Or.inr (Or.inr (Or.inr ⟨rfl, rfl, rfl⟩)))) (hb hby dT_34) hr
    · show CHr Z EL s.vm s.heap T9.vm T9.heap
      rw [hh]; exact RR
  · have X0 : Stand p l e ({ frames := 4, cells := 4, slots := 10, locals := 66 } : Room) s m #[(.int (Int32.ofNat 2)), (.int c0), (.int c1), (.int c2)] below meth c s₁ [] 0 0 := Stand.of_body Bd
    have sg1 : ∀ target, Steps p.tables e below (s₁.setTop (mkF m 40 #[.val (.int (Int32.ofNat 2)), .val (.int c0), .val (.int c1), .val (.int c2)] [])) target → Steps p.tables e below (s₁.setTop (mkF m 0 #[.val (.int (Int32.ofNat 2)), .val (.int c0), .val (.int c1), .val (.int c2)] [])) target := by
      intro target kt
      show Steps p.tables e below (s₁.setTop (mkF m 0 #[.val (.int (Int32.ofNat 2)), .val (.int c0), .val (.int c1), .val (.int c2)] [])) _
      refine XS.iloadN X0.here hx rfl (hb hby dT_0) rfl ?_
      show Steps p.tables e below (s₁.setTop (mkF m 1 #[.val (.int (Int32.ofNat 2)), .val (.int c0), .val (.int c1), .val (.int c2)] [(.int (Int32.ofNat 2))])) _
      refine XS.ifYes X0.here hx rfl (pc0 := 1) (pc' := 15) rfl (hb hby dT_1) rfl (by decide) (by decide) (by decide) ?_
      show Steps p.tables e below (s₁.setTop (mkF m 15 #[.val (.int (Int32.ofNat 2)), .val (.int c0), .val (.int c1), .val (.int c2)] [])) _
      refine XS.iloadN X0.here hx rfl (hb hby dT_15) rfl ?_
      show Steps p.tables e below (s₁.setTop (mkF m 16 #[.val (.int (Int32.ofNat 2)), .val (.int c0), .val (.int c1), .val (.int c2)] [(.int (Int32.ofNat 2))])) _
      refine XS.iconst X0.here hx rfl (hb hby dT_16) ?_
      show Steps p.tables e below (s₁.setTop (mkF m 17 #[.val (.int (Int32.ofNat 2)), .val (.int c0), .val (.int c1), .val (.int c2)] [(.int (1 : Int32)), (.int (Int32.ofNat 2))])) _
      refine XS.icmpYes X0.here hx rfl (pc0 := 17) (pc' := 35) rfl (hb hby dT_17) rfl (by decide) (by decide) (by decide) ?_
      show Steps p.tables e below (s₁.setTop (mkF m 35 #[.val (.int (Int32.ofNat 2)), .val (.int c0), .val (.int c1), .val (.int c2)] [])) _
      refine XS.iloadN X0.here hx rfl (hb hby dT_35) rfl ?_
      show Steps p.tables e below (s₁.setTop (mkF m 36 #[.val (.int (Int32.ofNat 2)), .val (.int c0), .val (.int c1), .val (.int c2)] [(.int (Int32.ofNat 2))])) _
      refine XS.iconst X0.here hx rfl (hb hby dT_36) ?_
      show Steps p.tables e below (s₁.setTop (mkF m 37 #[.val (.int (Int32.ofNat 2)), .val (.int c0), .val (.int c1), .val (.int c2)] [(.int (2 : Int32)), (.int (Int32.ofNat 2))])) _
      refine XS.icmpNo X0.here hx rfl (hb hby dT_37) rfl (by decide) ?_
      show Steps p.tables e below (s₁.setTop (mkF m 40 #[.val (.int (Int32.ofNat 2)), .val (.int c0), .val (.int c1), .val (.int c2)] [])) _
      exact kt
    obtain ⟨T2, h2, X2, e2, E2, A2, D2, -, st2⟩ := newO X0 hx hZ hown (hw _ (List.mem_of_getElem? (i := 5) rfl)) (hw _ (List.mem_of_getElem? (i := 6) rfl)) (hw _ (List.mem_of_getElem? (i := 7) rfl)) e0 (g := (mkF m 40 #[.val (.int (Int32.ofNat 2)), .val (.int c0), .val (.int c1), .val (.int c2)] [])) rfl (hb hby dT_40) (by decide) (by decide)
    obtain ⟨a2, g2⟩ : ∃ z, z = h0.size := ⟨_, rfl⟩
    rw [← g2] at A2 D2 st2
    have sg3 : ∀ target, Steps p.tables e below (T2.setTop (mkF m 45 #[.val (.int (Int32.ofNat 2)), .val (.int c0), .val (.int c1), .val (.int c2)] [(.int (2 : Int32)), (.ref a2), (.ref a2)])) target → Steps p.tables e below (T2.setTop (mkF m 43 #[.val (.int (Int32.ofNat 2)), .val (.int c0), .val (.int c1), .val (.int c2)] [(.ref a2)])) target := by
      intro target kt
      show Steps p.tables e below (T2.setTop (mkF m 43 #[.val (.int (Int32.ofNat 2)), .val (.int c0), .val (.int c1), .val (.int c2)] [(.ref a2)])) _
      refine XS.dup X2.here hx rfl (hb hby dT_43) rfl rfl ?_
      show Steps p.tables e below (T2.setTop (mkF m 44 #[.val (.int (Int32.ofNat 2)), .val (.int c0), .val (.int c1), .val (.int c2)] [(.ref a2), (.ref a2)])) _
      refine XS.iconst X2.here hx rfl (hb hby dT_44) ?_
      show Steps p.tables e below (T2.setTop (mkF m 45 #[.val (.int (Int32.ofNat 2)), .val (.int c0), .val (.int c1), .val (.int c2)] [(.int (2 : Int32)), (.ref a2), (.ref a2)])) _
      exact kt
    obtain ⟨T4, h4, k4, X4, e4, E4, A4, st4⟩ := newP X2 hx hZ (hw _ (List.mem_of_getElem? (i := 8) rfl)) e2 (g := (mkF m 45 #[.val (.int (Int32.ofNat 2)), .val (.int c0), .val (.int c1), .val (.int c2)] [(.int (2 : Int32)), (.ref a2), (.ref a2)])) rfl (hb hby dT_45) rfl (by decide) (cap := 2) (by decide) (by decide) (by decide) (by decide)
    obtain ⟨a4, g4⟩ : ∃ z, z = h2.size := ⟨_, rfl⟩
    rw [← g4] at A4 st4
    have E24 : Ext h0 h4 := own_ext_trans E2 E4
    have gx : n0 ≤ a2 := by rw [g2]; exact Z0
    have gb : h0.size ≤ a4 := by rw [g4]; exact E2.1
    have nab : a2 ≠ a4 := Nat.ne_of_lt (by rw [g4]; exact A2.lt)
    have V4 : Arv Z h4 a4 k4 .char (2 : Int32) [] (.int (0 : Int32)) := Arv.new A4 (by decide)
    have sg5 : ∀ target, Steps p.tables e below (T4.setTop (mkF m 50 #[.val (.int (Int32.ofNat 2)), .val (.int c0), .val (.int c1), .val (.int c2)] [(.int c0), (.int (0 : Int32)), (.ref a4), (.ref a4), (.ref a2), (.ref a2)])) target → Steps p.tables e below (T4.setTop (mkF m 47 #[.val (.int (Int32.ofNat 2)), .val (.int c0), .val (.int c1), .val (.int c2)] [(.ref a4), (.ref a2), (.ref a2)])) target := by
      intro target kt
      show Steps p.tables e below (T4.setTop (mkF m 47 #[.val (.int (Int32.ofNat 2)), .val (.int c0), .val (.int c1), .val (.int c2)] [(.ref a4), (.ref a2), (.ref a2)])) _
      refine XS.dup X4.here hx rfl (hb hby dT_47) rfl rfl ?_
      show Steps p.tables e below (T4.setTop (mkF m 48 #[.val (.int (Int32.ofNat 2)), .val (.int c0), .val (.int c1), .val (.int c2)] [(.ref a4), (.ref a4), (.ref a2), (.ref a2)])) _
      refine XS.iconst X4.here hx rfl (hb hby dT_48) ?_
      show Steps p.tables e below (T4.setTop (mkF m 49 #[.val (.int (Int32.ofNat 2)), .val (.int c0), .val (.int c1), .val (.int c2)] [(.int (0 : Int32)), (.ref a4), (.ref a4), (.ref a2), (.ref a2)])) _
      refine XS.iloadN X4.here hx rfl (hb hby dT_49) rfl ?_
      show Steps p.tables e below (T4.setTop (mkF m 50 #[.val (.int (Int32.ofNat 2)), .val (.int c0), .val (.int c1), .val (.int c2)] [(.int c0), (.int (0 : Int32)), (.ref a4), (.ref a4), (.ref a2), (.ref a2)])) _
      exact kt
    have P6 := V4.pad (pad_rep [] (.int (0 : Int32)) 1)
    obtain ⟨c6, B6, q6, S6, M6, H6, U6⟩ := P6
    obtain ⟨T6, h6, X6, e6, W6, st6⟩ := stC X4 hx hZ e4 B6 (j := (0 : Int32)) (inb_of S6 ⟨by decide, by decide⟩) (g := (mkF m 50 #[.val (.int (Int32.ofNat 2)), .val (.int c0), .val (.int c1), .val (.int c2)] [(.int c0), (.int (0 : Int32)), (.ref a4), (.ref a4), (.ref a2), (.ref a2)])) rfl rfl (hb hby dT_50)
    rw [own_nar l0] at W6
    have V6 : Arv Z h6 a4 k4 .char (2 : Int32) [(.int c0)] (.int (0 : Int32)) := Arv.set B6 q6 S6 M6 H6 U6 (own_fc l0) W6 0 rfl (Nat.le_of_ble_eq_true rfl)
    have N6 := Fr.snoc X6 (Fr.nil n0) (Nat.le_trans Z0 gb)
    have sg7 : ∀ target, Steps p.tables e below (T6.setTop (mkF m 54 #[.val (.int (Int32.ofNat 2)), .val (.int c0), .val (.int c1), .val (.int c2)] [(.int c1), (.int (1 : Int32)), (.ref a4), (.ref a4), (.ref a2), (.ref a2)])) target → Steps p.tables e below (T6.setTop (mkF m 51 #[.val (.int (Int32.ofNat 2)), .val (.int c0), .val (.int c1), .val (.int c2)] [(.ref a4), (.ref a2), (.ref a2)])) target := by
      intro target kt
      show Steps p.tables e below (T6.setTop (mkF m 51 #[.val (.int (Int32.ofNat 2)), .val (.int c0), .val (.int c1), .val (.int c2)] [(.ref a4), (.ref a2), (.ref a2)])) _
      refine XS.dup X6.here hx rfl (hb hby dT_51) rfl rfl ?_
      show Steps p.tables e below (T6.setTop (mkF m 52 #[.val (.int (Int32.ofNat 2)), .val (.int c0), .val (.int c1), .val (.int c2)] [(.ref a4), (.ref a4), (.ref a2), (.ref a2)])) _
      refine XS.iconst X6.here hx rfl (hb hby dT_52) ?_
      show Steps p.tables e below (T6.setTop (mkF m 53 #[.val (.int (Int32.ofNat 2)), .val (.int c0), .val (.int c1), .val (.int c2)] [(.int (1 : Int32)), (.ref a4), (.ref a4), (.ref a2), (.ref a2)])) _
      refine XS.iloadN X6.here hx rfl (hb hby dT_53) rfl ?_
      show Steps p.tables e below (T6.setTop (mkF m 54 #[.val (.int (Int32.ofNat 2)), .val (.int c0), .val (.int c1), .val (.int c2)] [(.int c1), (.int (1 : Int32)), (.ref a4), (.ref a4), (.ref a2), (.ref a2)])) _
      exact kt
    have P8 := V6.pad (pad_rep [(.int c0)] (.int (0 : Int32)) 1)
    obtain ⟨c8, B8, q8, S8, M8, H8, U8⟩ := P8
    obtain ⟨T8, h8, X8, e8, W8, st8⟩ := stC X6 hx hZ e6 B8 (j := (1 : Int32)) (inb_of S8 ⟨by decide, by decide⟩) (g := (mkF m 54 #[.val (.int (Int32.ofNat 2)), .val (.int c0), .val (.int c1), .val (.int c2)] [(.int c1), (.int (1 : Int32)), (.ref a4), (.ref a4), (.ref a2), (.ref a2)])) rfl rfl (hb hby dT_54)
    rw [own_nar l1] at W8
    have V8 : Arv Z h8 a4 k4 .char (2 : Int32) [(.int c0), (.int c1)] (.int (0 : Int32)) := Arv.set B8 q8 S8 M8 H8 U8 (own_fc l1) W8 1 rfl (Nat.le_of_ble_eq_true rfl)
    have N8 := Fr.snoc X8 (N6) (Nat.le_trans Z0 gb)
    have En : Ext h0 h8 := (own_ext_wr (own_ext_wr E24 W6 gb) W8 gb)
    have Fv : Fld Z h8 a2 "java/lang/String" "value" "[B" .null := (((D2 (Or.inr (hw _ (List.mem_of_getElem? (i := 34) rfl))) (ty := (.array .byte)) (by decide)).ext E4).other W6 (Or.inl nab)).other W8 (Or.inl nab)
    have Fc : Fld Z h8 a2 "java/lang/String" "coder" "B" (.int (0 : Int32)) := (((D2 (Or.inr (hw _ (List.mem_of_getElem? (i := 32) rfl))) (ty := .byte) (by decide)).ext E4).other W6 (Or.inl nab)).other W8 (Or.inl nab)
    have Ex : Exa Z h8 a2 "java/lang/String" := (((A2.ext E4).wr W6).wr W8)
    have hp : own_lat [c0, c1] := by
      intro c hc
      simp only [List.mem_cons, List.not_mem_nil, or_false] at hc
      rcases hc with rfl | rfl
      · exact l0
      · exact l1
    obtain ⟨_, _, ⟨T9, L9, k9, n9⟩, -, X9, ⟨Lc9, hQ9, l9, y9, z9⟩, st9⟩ := X8.specialBack hx (y := (⟨"java/lang/String", "<init>", "([C)V"⟩ : MethodName)) rfl hown (mvT hZ (hw _ (List.mem_of_getElem? (i := 9) rfl))) (mvT hZ (hw _ (List.mem_of_getElem? (i := 10) rfl))) (mvT hZ (hw _ (List.mem_of_getElem? (i := 11) rfl))) (by decide) (StrChars.Road.backV (W := 1) hZ hws (kI := 4) (hw _ (List.mem_of_getElem? (i := 6) rfl)) (cs := ([c0, c1] : List Int32)) (bs := ([c0, c1] : List Int32).map (fun c => c.toInt8.toInt32)) (n := 2) gx (Nat.le_trans Z0 En.1) Ex Fv Fc V8 (O.ext En) hG rfl rfl (by decide) (by decide) hp rfl (by decide) (by decide)) (g := (mkF m 55 #[.val (.int (Int32.ofNat 2)), .val (.int c0), .val (.int c1), .val (.int c2)] [(.ref a4), (.ref a2), (.ref a2)])) rfl (by rw [hml]; rfl) (Steps.refl _) (a := a2) (argsL := [(.ref a4)]) (rest := [(.ref a2)]) (lenOf pdE1 rfl) rfl (by show 2 * 0 + _ ≤ _; exact Nat.le_of_eq rfl) (hb hby dT_55) (fun _ _ => ⟨rfl, e8, Nat.le_of_ble_eq_true rfl, Nat.le_of_ble_eq_true rfl⟩)
    dsimp only [Pt.U, Pt.locs, Pt.cells, Pt.slots] at X9 l9 y9 z9 st9 hQ9
    subst l9 y9 z9
    obtain ⟨rfl, N9, K9, g9a, g9c, t9, kb9, u9, v9, w9, g9v, g9b⟩ := hQ9
    have E9 : Ext h0 T9.heap := own_ext_keep En K9 (allS (by rw [g2]; exact Nat.le_refl _) all0)
    have X9 : Stand p l e ({ frames := 4, cells := 4, slots := 10, locals := 66 } : Room) (s.setVm s.vm) m #[(.int (Int32.ofNat 2)), (.int c0), (.int c1), (.int c2)] below meth c T9 _ _ _ := X9
    obtain ⟨fs, hr, hrun, hended, hW⟩ := X9.leaveW (n := s.heap.size) ((State.WarmedH.refl s).since _) (by rw [hh]; exact E9.1) (v := some (.ref a2)) (fun h => by rw [Bd.returns] at h; cases h)
    have RR : CHr Z EL s.vm h0 T9.vm T9.heap := (CHr.ext E9 H0).trans (CHv.at X9 hZ hEL (H0.ext E9))
    refine ⟨_, _, castTop (efT m (Int32.ofNat 2) c0 c1 c2) ?_, hrun, hended, _, _, rfl, ⟨a2, rfl, Fr.app (N8) N9, E9, by rw [g2]; exact Nat.le_refl _, ⟨g9a, g9c, t9, kb9, g9v, g9b⟩⟩, ?_, own_w hW (by decide) (by decide)⟩
    · show Steps p.tables e below (s₁.setTop (mkF m 0 #[.val (.int (Int32.ofNat 2)), .val (.int c0), .val (.int c1), .val (.int c2)] [])) _
      refine sg1 _ ?_
      show Steps p.tables e below (s₁.setTop (mkF m 40 #[.val (.int (Int32.ofNat 2)), .val (.int c0), .val (.int c1), .val (.int c2)] [])) _
      refine st2 _ ?_
      show Steps p.tables e below (T2.setTop (mkF m 43 #[.val (.int (Int32.ofNat 2)), .val (.int c0), .val (.int c1), .val (.int c2)] [(.ref a2)])) _
      refine sg3 _ ?_
      show Steps p.tables e below (T2.setTop (mkF m 45 #[.val (.int (Int32.ofNat 2)), .val (.int c0), .val (.int c1), .val (.int c2)] [(.int (2 : Int32)), (.ref a2), (.ref a2)])) _
      refine st4 _ ?_
      show Steps p.tables e below (T4.setTop (mkF m 47 #[.val (.int (Int32.ofNat 2)), .val (.int c0), .val (.int c1), .val (.int c2)] [(.ref a4), (.ref a2), (.ref a2)])) _
      refine sg5 _ ?_
      show Steps p.tables e below (T4.setTop (mkF m 50 #[.val (.int (Int32.ofNat 2)), .val (.int c0), .val (.int c1), .val (.int c2)] [(.int c0), (.int (0 : Int32)), (.ref a4), (.ref a4), (.ref a2), (.ref a2)])) _
      refine st6 _ ?_
      show Steps p.tables e below (T6.setTop (mkF m 51 #[.val (.int (Int32.ofNat 2)), .val (.int c0), .val (.int c1), .val (.int c2)] [(.ref a4), (.ref a2), (.ref a2)])) _
      refine sg7 _ ?_
      show Steps p.tables e below (T6.setTop (mkF m 54 #[.val (.int (Int32.ofNat 2)), .val (.int c0), .val (.int c1), .val (.int c2)] [(.int c1), (.int (1 : Int32)), (.ref a4), (.ref a4), (.ref a2), (.ref a2)])) _
      refine st8 _ ?_
      show Steps p.tables e below (T8.setTop (mkF m 55 #[.val (.int (Int32.ofNat 2)), .val (.int c0), .val (.int c1), .val (.int c2)] [(.ref a4), (.ref a2), (.ref a2)])) _
      refine st9.trans ?_
      show Steps p.tables e below (T9.setTop (mkF m 58 #[.val (.int (Int32.ofNat 2)), .val (.int c0), .val (.int c1), .val (.int c2)] [(.ref a2)])) _
      exact retOut X9 hx (t := .object "java/lang/String") Bd.returns rfl (Or.inr (Or.inr (Or.inr (Or.inr ⟨rfl, rfl, rfl⟩)))) (hb hby dT_58) hr
    · show CHr Z EL s.vm s.heap T9.vm T9.heap
      rw [hh]; exact RR
  · have X0 : Stand p l e ({ frames := 4, cells := 4, slots := 10, locals := 66 } : Room) s m #[(.int (Int32.ofNat 3)), (.int c0), (.int c1), (.int c2)] below meth c s₁ [] 0 0 := Stand.of_body Bd
    have sg1 : ∀ target, Steps p.tables e below (s₁.setTop (mkF m 59 #[.val (.int (Int32.ofNat 3)), .val (.int c0), .val (.int c1), .val (.int c2)] [])) target → Steps p.tables e below (s₁.setTop (mkF m 0 #[.val (.int (Int32.ofNat 3)), .val (.int c0), .val (.int c1), .val (.int c2)] [])) target := by
      intro target kt
      show Steps p.tables e below (s₁.setTop (mkF m 0 #[.val (.int (Int32.ofNat 3)), .val (.int c0), .val (.int c1), .val (.int c2)] [])) _
      refine XS.iloadN X0.here hx rfl (hb hby dT_0) rfl ?_
      show Steps p.tables e below (s₁.setTop (mkF m 1 #[.val (.int (Int32.ofNat 3)), .val (.int c0), .val (.int c1), .val (.int c2)] [(.int (Int32.ofNat 3))])) _
      refine XS.ifYes X0.here hx rfl (pc0 := 1) (pc' := 15) rfl (hb hby dT_1) rfl (by decide) (by decide) (by decide) ?_
      show Steps p.tables e below (s₁.setTop (mkF m 15 #[.val (.int (Int32.ofNat 3)), .val (.int c0), .val (.int c1), .val (.int c2)] [])) _
      refine XS.iloadN X0.here hx rfl (hb hby dT_15) rfl ?_
      show Steps p.tables e below (s₁.setTop (mkF m 16 #[.val (.int (Int32.ofNat 3)), .val (.int c0), .val (.int c1), .val (.int c2)] [(.int (Int32.ofNat 3))])) _
      refine XS.iconst X0.here hx rfl (hb hby dT_16) ?_
      show Steps p.tables e below (s₁.setTop (mkF m 17 #[.val (.int (Int32.ofNat 3)), .val (.int c0), .val (.int c1), .val (.int c2)] [(.int (1 : Int32)), (.int (Int32.ofNat 3))])) _
      refine XS.icmpYes X0.here hx rfl (pc0 := 17) (pc' := 35) rfl (hb hby dT_17) rfl (by decide) (by decide) (by decide) ?_
      show Steps p.tables e below (s₁.setTop (mkF m 35 #[.val (.int (Int32.ofNat 3)), .val (.int c0), .val (.int c1), .val (.int c2)] [])) _
      refine XS.iloadN X0.here hx rfl (hb hby dT_35) rfl ?_
      show Steps p.tables e below (s₁.setTop (mkF m 36 #[.val (.int (Int32.ofNat 3)), .val (.int c0), .val (.int c1), .val (.int c2)] [(.int (Int32.ofNat 3))])) _
      refine XS.iconst X0.here hx rfl (hb hby dT_36) ?_
      show Steps p.tables e below (s₁.setTop (mkF m 37 #[.val (.int (Int32.ofNat 3)), .val (.int c0), .val (.int c1), .val (.int c2)] [(.int (2 : Int32)), (.int (Int32.ofNat 3))])) _
      refine XS.icmpYes X0.here hx rfl (pc0 := 37) (pc' := 59) rfl (hb hby dT_37) rfl (by decide) (by decide) (by decide) ?_
      show Steps p.tables e below (s₁.setTop (mkF m 59 #[.val (.int (Int32.ofNat 3)), .val (.int c0), .val (.int c1), .val (.int c2)] [])) _
      exact kt
    obtain ⟨T2, h2, X2, e2, E2, A2, D2, -, st2⟩ := newO X0 hx hZ hown (hw _ (List.mem_of_getElem? (i := 5) rfl)) (hw _ (List.mem_of_getElem? (i := 6) rfl)) (hw _ (List.mem_of_getElem? (i := 7) rfl)) e0 (g := (mkF m 59 #[.val (.int (Int32.ofNat 3)), .val (.int c0), .val (.int c1), .val (.int c2)] [])) rfl (hb hby dT_59) (by decide) (by decide)
    obtain ⟨a2, g2⟩ : ∃ z, z = h0.size := ⟨_, rfl⟩
    rw [← g2] at A2 D2 st2
    have sg3 : ∀ target, Steps p.tables e below (T2.setTop (mkF m 64 #[.val (.int (Int32.ofNat 3)), .val (.int c0), .val (.int c1), .val (.int c2)] [(.int (3 : Int32)), (.ref a2), (.ref a2)])) target → Steps p.tables e below (T2.setTop (mkF m 62 #[.val (.int (Int32.ofNat 3)), .val (.int c0), .val (.int c1), .val (.int c2)] [(.ref a2)])) target := by
      intro target kt
      show Steps p.tables e below (T2.setTop (mkF m 62 #[.val (.int (Int32.ofNat 3)), .val (.int c0), .val (.int c1), .val (.int c2)] [(.ref a2)])) _
      refine XS.dup X2.here hx rfl (hb hby dT_62) rfl rfl ?_
      show Steps p.tables e below (T2.setTop (mkF m 63 #[.val (.int (Int32.ofNat 3)), .val (.int c0), .val (.int c1), .val (.int c2)] [(.ref a2), (.ref a2)])) _
      refine XS.iconst X2.here hx rfl (hb hby dT_63) ?_
      show Steps p.tables e below (T2.setTop (mkF m 64 #[.val (.int (Int32.ofNat 3)), .val (.int c0), .val (.int c1), .val (.int c2)] [(.int (3 : Int32)), (.ref a2), (.ref a2)])) _
      exact kt
    obtain ⟨T4, h4, k4, X4, e4, E4, A4, st4⟩ := newP X2 hx hZ (hw _ (List.mem_of_getElem? (i := 8) rfl)) e2 (g := (mkF m 64 #[.val (.int (Int32.ofNat 3)), .val (.int c0), .val (.int c1), .val (.int c2)] [(.int (3 : Int32)), (.ref a2), (.ref a2)])) rfl (hb hby dT_64) rfl (by decide) (cap := 3) (by decide) (by decide) (by decide) (by decide)
    obtain ⟨a4, g4⟩ : ∃ z, z = h2.size := ⟨_, rfl⟩
    rw [← g4] at A4 st4
    have E24 : Ext h0 h4 := own_ext_trans E2 E4
    have gx : n0 ≤ a2 := by rw [g2]; exact Z0
    have gb : h0.size ≤ a4 := by rw [g4]; exact E2.1
    have nab : a2 ≠ a4 := Nat.ne_of_lt (by rw [g4]; exact A2.lt)
    have V4 : Arv Z h4 a4 k4 .char (3 : Int32) [] (.int (0 : Int32)) := Arv.new A4 (by decide)
    have sg5 : ∀ target, Steps p.tables e below (T4.setTop (mkF m 69 #[.val (.int (Int32.ofNat 3)), .val (.int c0), .val (.int c1), .val (.int c2)] [(.int c0), (.int (0 : Int32)), (.ref a4), (.ref a4), (.ref a2), (.ref a2)])) target → Steps p.tables e below (T4.setTop (mkF m 66 #[.val (.int (Int32.ofNat 3)), .val (.int c0), .val (.int c1), .val (.int c2)] [(.ref a4), (.ref a2), (.ref a2)])) target := by
      intro target kt
      show Steps p.tables e below (T4.setTop (mkF m 66 #[.val (.int (Int32.ofNat 3)), .val (.int c0), .val (.int c1), .val (.int c2)] [(.ref a4), (.ref a2), (.ref a2)])) _
      refine XS.dup X4.here hx rfl (hb hby dT_66) rfl rfl ?_
      show Steps p.tables e below (T4.setTop (mkF m 67 #[.val (.int (Int32.ofNat 3)), .val (.int c0), .val (.int c1), .val (.int c2)] [(.ref a4), (.ref a4), (.ref a2), (.ref a2)])) _
      refine XS.iconst X4.here hx rfl (hb hby dT_67) ?_
      show Steps p.tables e below (T4.setTop (mkF m 68 #[.val (.int (Int32.ofNat 3)), .val (.int c0), .val (.int c1), .val (.int c2)] [(.int (0 : Int32)), (.ref a4), (.ref a4), (.ref a2), (.ref a2)])) _
      refine XS.iloadN X4.here hx rfl (hb hby dT_68) rfl ?_
      show Steps p.tables e below (T4.setTop (mkF m 69 #[.val (.int (Int32.ofNat 3)), .val (.int c0), .val (.int c1), .val (.int c2)] [(.int c0), (.int (0 : Int32)), (.ref a4), (.ref a4), (.ref a2), (.ref a2)])) _
      exact kt
    have P6 := V4.pad (pad_rep [] (.int (0 : Int32)) 1)
    obtain ⟨c6, B6, q6, S6, M6, H6, U6⟩ := P6
    obtain ⟨T6, h6, X6, e6, W6, st6⟩ := stC X4 hx hZ e4 B6 (j := (0 : Int32)) (inb_of S6 ⟨by decide, by decide⟩) (g := (mkF m 69 #[.val (.int (Int32.ofNat 3)), .val (.int c0), .val (.int c1), .val (.int c2)] [(.int c0), (.int (0 : Int32)), (.ref a4), (.ref a4), (.ref a2), (.ref a2)])) rfl rfl (hb hby dT_69)
    rw [own_nar l0] at W6
    have V6 : Arv Z h6 a4 k4 .char (3 : Int32) [(.int c0)] (.int (0 : Int32)) := Arv.set B6 q6 S6 M6 H6 U6 (own_fc l0) W6 0 rfl (Nat.le_of_ble_eq_true rfl)
    have N6 := Fr.snoc X6 (Fr.nil n0) (Nat.le_trans Z0 gb)
    have sg7 : ∀ target, Steps p.tables e below (T6.setTop (mkF m 73 #[.val (.int (Int32.ofNat 3)), .val (.int c0), .val (.int c1), .val (.int c2)] [(.int c1), (.int (1 : Int32)), (.ref a4), (.ref a4), (.ref a2), (.ref a2)])) target → Steps p.tables e below (T6.setTop (mkF m 70 #[.val (.int (Int32.ofNat 3)), .val (.int c0), .val (.int c1), .val (.int c2)] [(.ref a4), (.ref a2), (.ref a2)])) target := by
      intro target kt
      show Steps p.tables e below (T6.setTop (mkF m 70 #[.val (.int (Int32.ofNat 3)), .val (.int c0), .val (.int c1), .val (.int c2)] [(.ref a4), (.ref a2), (.ref a2)])) _
      refine XS.dup X6.here hx rfl (hb hby dT_70) rfl rfl ?_
      show Steps p.tables e below (T6.setTop (mkF m 71 #[.val (.int (Int32.ofNat 3)), .val (.int c0), .val (.int c1), .val (.int c2)] [(.ref a4), (.ref a4), (.ref a2), (.ref a2)])) _
      refine XS.iconst X6.here hx rfl (hb hby dT_71) ?_
      show Steps p.tables e below (T6.setTop (mkF m 72 #[.val (.int (Int32.ofNat 3)), .val (.int c0), .val (.int c1), .val (.int c2)] [(.int (1 : Int32)), (.ref a4), (.ref a4), (.ref a2), (.ref a2)])) _
      refine XS.iloadN X6.here hx rfl (hb hby dT_72) rfl ?_
      show Steps p.tables e below (T6.setTop (mkF m 73 #[.val (.int (Int32.ofNat 3)), .val (.int c0), .val (.int c1), .val (.int c2)] [(.int c1), (.int (1 : Int32)), (.ref a4), (.ref a4), (.ref a2), (.ref a2)])) _
      exact kt
    have P8 := V6.pad (pad_rep [(.int c0)] (.int (0 : Int32)) 1)
    obtain ⟨c8, B8, q8, S8, M8, H8, U8⟩ := P8
    obtain ⟨T8, h8, X8, e8, W8, st8⟩ := stC X6 hx hZ e6 B8 (j := (1 : Int32)) (inb_of S8 ⟨by decide, by decide⟩) (g := (mkF m 73 #[.val (.int (Int32.ofNat 3)), .val (.int c0), .val (.int c1), .val (.int c2)] [(.int c1), (.int (1 : Int32)), (.ref a4), (.ref a4), (.ref a2), (.ref a2)])) rfl rfl (hb hby dT_73)
    rw [own_nar l1] at W8
    have V8 : Arv Z h8 a4 k4 .char (3 : Int32) [(.int c0), (.int c1)] (.int (0 : Int32)) := Arv.set B8 q8 S8 M8 H8 U8 (own_fc l1) W8 1 rfl (Nat.le_of_ble_eq_true rfl)
    have N8 := Fr.snoc X8 (N6) (Nat.le_trans Z0 gb)
    have sg9 : ∀ target, Steps p.tables e below (T8.setTop (mkF m 77 #[.val (.int (Int32.ofNat 3)), .val (.int c0), .val (.int c1), .val (.int c2)] [(.int c2), (.int (2 : Int32)), (.ref a4), (.ref a4), (.ref a2), (.ref a2)])) target → Steps p.tables e below (T8.setTop (mkF m 74 #[.val (.int (Int32.ofNat 3)), .val (.int c0), .val (.int c1), .val (.int c2)] [(.ref a4), (.ref a2), (.ref a2)])) target := by
      intro target kt
      show Steps p.tables e below (T8.setTop (mkF m 74 #[.val (.int (Int32.ofNat 3)), .val (.int c0), .val (.int c1), .val (.int c2)] [(.ref a4), (.ref a2), (.ref a2)])) _
      refine XS.dup X8.here hx rfl (hb hby dT_74) rfl rfl ?_
      show Steps p.tables e below (T8.setTop (mkF m 75 #[.val (.int (Int32.ofNat 3)), .val (.int c0), .val (.int c1), .val (.int c2)] [(.ref a4), (.ref a4), (.ref a2), (.ref a2)])) _
      refine XS.iconst X8.here hx rfl (hb hby dT_75) ?_
      show Steps p.tables e below (T8.setTop (mkF m 76 #[.val (.int (Int32.ofNat 3)), .val (.int c0), .val (.int c1), .val (.int c2)] [(.int (2 : Int32)), (.ref a4), (.ref a4), (.ref a2), (.ref a2)])) _
      refine XS.iloadN X8.here hx rfl (hb hby dT_76) rfl ?_
      show Steps p.tables e below (T8.setTop (mkF m 77 #[.val (.int (Int32.ofNat 3)), .val (.int c0), .val (.int c1), .val (.int c2)] [(.int c2), (.int (2 : Int32)), (.ref a4), (.ref a4), (.ref a2), (.ref a2)])) _
      exact kt
    have P10 := V8.pad (pad_rep [(.int c0), (.int c1)] (.int (0 : Int32)) 1)
    obtain ⟨c10, B10, q10, S10, M10, H10, U10⟩ := P10
    obtain ⟨T10, h10, X10, e10, W10, st10⟩ := stC X8 hx hZ e8 B10 (j := (2 : Int32)) (inb_of S10 ⟨by decide, by decide⟩) (g := (mkF m 77 #[.val (.int (Int32.ofNat 3)), .val (.int c0), .val (.int c1), .val (.int c2)] [(.int c2), (.int (2 : Int32)), (.ref a4), (.ref a4), (.ref a2), (.ref a2)])) rfl rfl (hb hby dT_77)
    rw [own_nar l2] at W10
    have V10 : Arv Z h10 a4 k4 .char (3 : Int32) [(.int c0), (.int c1), (.int c2)] (.int (0 : Int32)) := Arv.set B10 q10 S10 M10 H10 U10 (own_fc l2) W10 2 rfl (Nat.le_of_ble_eq_true rfl)
    have N10 := Fr.snoc X10 (N8) (Nat.le_trans Z0 gb)
    have En : Ext h0 h10 := (own_ext_wr (own_ext_wr (own_ext_wr E24 W6 gb) W8 gb) W10 gb)
    have Fv : Fld Z h10 a2 "java/lang/String" "value" "[B" .null := ((((D2 (Or.inr (hw _ (List.mem_of_getElem? (i := 34) rfl))) (ty := (.array .byte)) (by decide)).ext E4).other W6 (Or.inl nab)).other W8 (Or.inl nab)).other W10 (Or.inl nab)
    have Fc : Fld Z h10 a2 "java/lang/String" "coder" "B" (.int (0 : Int32)) := ((((D2 (Or.inr (hw _ (List.mem_of_getElem? (i := 32) rfl))) (ty := .byte) (by decide)).ext E4).other W6 (Or.inl nab)).other W8 (Or.inl nab)).other W10 (Or.inl nab)
    have Ex : Exa Z h10 a2 "java/lang/String" := ((((A2.ext E4).wr W6).wr W8).wr W10)
    have hp : own_lat [c0, c1, c2] := by
      intro c hc
      simp only [List.mem_cons, List.not_mem_nil, or_false] at hc
      rcases hc with rfl | rfl | rfl
      · exact l0
      · exact l1
      · exact l2
    obtain ⟨_, _, ⟨T9, L9, k9, n9⟩, -, X9, ⟨Lc9, hQ9, l9, y9, z9⟩, st9⟩ := X10.specialBack hx (y := (⟨"java/lang/String", "<init>", "([C)V"⟩ : MethodName)) rfl hown (mvT hZ (hw _ (List.mem_of_getElem? (i := 9) rfl))) (mvT hZ (hw _ (List.mem_of_getElem? (i := 10) rfl))) (mvT hZ (hw _ (List.mem_of_getElem? (i := 11) rfl))) (by decide) (StrChars.Road.backV (W := 1) hZ hws (kI := 4) (hw _ (List.mem_of_getElem? (i := 6) rfl)) (cs := ([c0, c1, c2] : List Int32)) (bs := ([c0, c1, c2] : List Int32).map (fun c => c.toInt8.toInt32)) (n := 3) gx (Nat.le_trans Z0 En.1) Ex Fv Fc V10 (O.ext En) hG rfl rfl (by decide) (by decide) hp rfl (by decide) (by decide)) (g := (mkF m 78 #[.val (.int (Int32.ofNat 3)), .val (.int c0), .val (.int c1), .val (.int c2)] [(.ref a4), (.ref a2), (.ref a2)])) rfl (by rw [hml]; rfl) (Steps.refl _) (a := a2) (argsL := [(.ref a4)]) (rest := [(.ref a2)]) (lenOf pdE1 rfl) rfl (by show 2 * 0 + _ ≤ _; exact Nat.le_of_eq rfl) (hb hby dT_78) (fun _ _ => ⟨rfl, e10, Nat.le_of_ble_eq_true rfl, Nat.le_of_ble_eq_true rfl⟩)
    dsimp only [Pt.U, Pt.locs, Pt.cells, Pt.slots] at X9 l9 y9 z9 st9 hQ9
    subst l9 y9 z9
    obtain ⟨rfl, N9, K9, g9a, g9c, t9, kb9, u9, v9, w9, g9v, g9b⟩ := hQ9
    have E9 : Ext h0 T9.heap := own_ext_keep En K9 (allS (by rw [g2]; exact Nat.le_refl _) all0)
    have X9 : Stand p l e ({ frames := 4, cells := 4, slots := 10, locals := 66 } : Room) (s.setVm s.vm) m #[(.int (Int32.ofNat 3)), (.int c0), (.int c1), (.int c2)] below meth c T9 _ _ _ := X9
    obtain ⟨fs, hr, hrun, hended, hW⟩ := X9.leaveW (n := s.heap.size) ((State.WarmedH.refl s).since _) (by rw [hh]; exact E9.1) (v := some (.ref a2)) (fun h => by rw [Bd.returns] at h; cases h)
    have RR : CHr Z EL s.vm h0 T9.vm T9.heap := (CHr.ext E9 H0).trans (CHv.at X9 hZ hEL (H0.ext E9))
    refine ⟨_, _, castTop (efT m (Int32.ofNat 3) c0 c1 c2) ?_, hrun, hended, _, _, rfl, ⟨a2, rfl, Fr.app (N10) N9, E9, by rw [g2]; exact Nat.le_refl _, ⟨g9a, g9c, t9, kb9, g9v, g9b⟩⟩, ?_, own_w hW (by decide) (by decide)⟩
    · show Steps p.tables e below (s₁.setTop (mkF m 0 #[.val (.int (Int32.ofNat 3)), .val (.int c0), .val (.int c1), .val (.int c2)] [])) _
      refine sg1 _ ?_
      show Steps p.tables e below (s₁.setTop (mkF m 59 #[.val (.int (Int32.ofNat 3)), .val (.int c0), .val (.int c1), .val (.int c2)] [])) _
      refine st2 _ ?_
      show Steps p.tables e below (T2.setTop (mkF m 62 #[.val (.int (Int32.ofNat 3)), .val (.int c0), .val (.int c1), .val (.int c2)] [(.ref a2)])) _
      refine sg3 _ ?_
      show Steps p.tables e below (T2.setTop (mkF m 64 #[.val (.int (Int32.ofNat 3)), .val (.int c0), .val (.int c1), .val (.int c2)] [(.int (3 : Int32)), (.ref a2), (.ref a2)])) _
      refine st4 _ ?_
      show Steps p.tables e below (T4.setTop (mkF m 66 #[.val (.int (Int32.ofNat 3)), .val (.int c0), .val (.int c1), .val (.int c2)] [(.ref a4), (.ref a2), (.ref a2)])) _
      refine sg5 _ ?_
      show Steps p.tables e below (T4.setTop (mkF m 69 #[.val (.int (Int32.ofNat 3)), .val (.int c0), .val (.int c1), .val (.int c2)] [(.int c0), (.int (0 : Int32)), (.ref a4), (.ref a4), (.ref a2), (.ref a2)])) _
      refine st6 _ ?_
      show Steps p.tables e below (T6.setTop (mkF m 70 #[.val (.int (Int32.ofNat 3)), .val (.int c0), .val (.int c1), .val (.int c2)] [(.ref a4), (.ref a2), (.ref a2)])) _
      refine sg7 _ ?_
      show Steps p.tables e below (T6.setTop (mkF m 73 #[.val (.int (Int32.ofNat 3)), .val (.int c0), .val (.int c1), .val (.int c2)] [(.int c1), (.int (1 : Int32)), (.ref a4), (.ref a4), (.ref a2), (.ref a2)])) _
      refine st8 _ ?_
      show Steps p.tables e below (T8.setTop (mkF m 74 #[.val (.int (Int32.ofNat 3)), .val (.int c0), .val (.int c1), .val (.int c2)] [(.ref a4), (.ref a2), (.ref a2)])) _
      refine sg9 _ ?_
      show Steps p.tables e below (T8.setTop (mkF m 77 #[.val (.int (Int32.ofNat 3)), .val (.int c0), .val (.int c1), .val (.int c2)] [(.int c2), (.int (2 : Int32)), (.ref a4), (.ref a4), (.ref a2), (.ref a2)])) _
      refine st10 _ ?_
      show Steps p.tables e below (T10.setTop (mkF m 78 #[.val (.int (Int32.ofNat 3)), .val (.int c0), .val (.int c1), .val (.int c2)] [(.ref a4), (.ref a2), (.ref a2)])) _
      refine st9.trans ?_
      show Steps p.tables e below (T9.setTop (mkF m 81 #[.val (.int (Int32.ofNat 3)), .val (.int c0), .val (.int c1), .val (.int c2)] [(.ref a2)])) _
      exact retOut X9 hx (t := .object "java/lang/String") Bd.returns rfl (Or.inr (Or.inr (Or.inr (Or.inr ⟨rfl, rfl, rfl⟩)))) (hb hby dT_81) hr
    · show CHr Z EL s.vm s.heap T9.vm T9.heap
      rw [hh]; exact RR
theorem dS_0 : decode method_4_code 0 = .ok (.iload_n 0, 1) := by decide +kernel
theorem dS_1 : decode method_4_code 1 = .ok (.iload 4, 2) := by decide +kernel
theorem dS_3 : decode method_4_code 3 = .ok (.if_icmp .eq 5, 3) := by decide +kernel
theorem dS_6 : decode method_4_code 6 = .ok (.iconst 0, 1) := by decide +kernel
theorem dS_7 : decode method_4_code 7 = .ok (.ireturn, 1) := by decide +kernel
theorem dS_8 : decode method_4_code 8 = .ok (.iload_n 0, 1) := by decide +kernel
theorem dS_9 : decode method_4_code 9 = .ok (.iconst 1, 1) := by decide +kernel
theorem dS_10 : decode method_4_code 10 = .ok (.if_icmp .lt 11, 3) := by decide +kernel
theorem dS_13 : decode method_4_code 13 = .ok (.iload_n 1, 1) := by decide +kernel
theorem dS_14 : decode method_4_code 14 = .ok (.iload 5, 2) := by decide +kernel
theorem dS_16 : decode method_4_code 16 = .ok (.if_icmp .eq 5, 3) := by decide +kernel
theorem dS_19 : decode method_4_code 19 = .ok (.iconst 0, 1) := by decide +kernel
theorem dS_20 : decode method_4_code 20 = .ok (.ireturn, 1) := by decide +kernel
theorem dS_21 : decode method_4_code 21 = .ok (.iload_n 0, 1) := by decide +kernel
theorem dS_22 : decode method_4_code 22 = .ok (.iconst 2, 1) := by decide +kernel
theorem dS_23 : decode method_4_code 23 = .ok (.if_icmp .lt 11, 3) := by decide +kernel
theorem dS_26 : decode method_4_code 26 = .ok (.iload_n 2, 1) := by decide +kernel
theorem dS_27 : decode method_4_code 27 = .ok (.iload 6, 2) := by decide +kernel
theorem dS_29 : decode method_4_code 29 = .ok (.if_icmp .eq 5, 3) := by decide +kernel
theorem dS_32 : decode method_4_code 32 = .ok (.iconst 0, 1) := by decide +kernel
theorem dS_33 : decode method_4_code 33 = .ok (.ireturn, 1) := by decide +kernel
theorem dS_34 : decode method_4_code 34 = .ok (.iload_n 0, 1) := by decide +kernel
theorem dS_35 : decode method_4_code 35 = .ok (.iconst 3, 1) := by decide +kernel
theorem dS_36 : decode method_4_code 36 = .ok (.if_icmp .lt 11, 3) := by decide +kernel
theorem dS_39 : decode method_4_code 39 = .ok (.iload_n 3, 1) := by decide +kernel
theorem dS_40 : decode method_4_code 40 = .ok (.iload 7, 2) := by decide +kernel
theorem dS_42 : decode method_4_code 42 = .ok (.if_icmp .eq 5, 3) := by decide +kernel
theorem dS_45 : decode method_4_code 45 = .ok (.iconst 0, 1) := by decide +kernel
theorem dS_46 : decode method_4_code 46 = .ok (.ireturn, 1) := by decide +kernel
theorem dS_47 : decode method_4_code 47 = .ok (.iconst 1, 1) := by decide +kernel
theorem dS_48 : decode method_4_code 48 = .ok (.ireturn, 1) := by decide +kernel
theorem efS (m : MethodId) (x0 : Int32) (x1 : Int32) (x2 : Int32) (x3 : Int32) (x4 : Int32) (x5 : Int32) (x6 : Int32) (x7 : Int32) : entryFrame m #[(.int x0), (.int x1), (.int x2), (.int x3), (.int x4), (.int x5), (.int x6), (.int x7)] 8 = mkF m 0 #[.val (.int x0), .val (.int x1), .val (.int x2), .val (.int x3), .val (.int x4), .val (.int x5), .val (.int x6), .val (.int x7)] [] := by first | (simp [entryFrame, mkF, argsToLocals, Value.category, maxLocals]; done) | rfl
theorem pdS : parseMethodDescriptor "(ICCCICCC)Z" = some ⟨[.int, .char, .char, .char, .int, .char, .char, .char], some .boolean⟩ := by decide +kernel
def own_eq (xs ys : List Int32) : Int32 := if xs = ys then 1 else 0
theorem own_eq_t {xs ys : List Int32} (h : xs = ys) : own_eq xs ys = 1 := if_pos h
theorem own_eq_f {xs ys : List Int32} (h : ¬ xs = ys) : own_eq xs ys = 0 := if_neg h
theorem own_eq_c (xs ys : List Int32) : own_eq xs ys = own_eq ys xs := by
  by_cases h : xs = ys
  · rw [own_eq_t h, own_eq_t h.symm]
  · rw [own_eq_f h, own_eq_f (fun q => h q.symm)]
theorem own_of {n m : Nat} (hn : n ≤ 3) (hm : m ≤ 3) (h : ¬ n = m) : ¬ Int32.ofNat n = Int32.ofNat m := fun q => h (by
  have e := congrArg Int32.toInt q
  rw [Int32.toInt_ofNat_of_lt (by omega), Int32.toInt_ofNat_of_lt (by omega)] at e
  omega)
theorem own_tk (a b c : Int32) {n : Nat} (hn : n ≤ 3) : ([a, b, c].take n).length = n := by simp; omega
def own_QS (n0 : Nat) (r : Int32) (h0 : Heap) (v : Option Value) (h : Heap) (L : List Loc) : Prop := v = some (.int r) ∧ Fr n0 L ∧ h = h0
set_option maxRecDepth 65536 in
set_option maxHeartbeats 40000000 in
theorem rmS (l : Launch) (Z : State) (n k : Nat) (hn : n ≤ 3) (hk : k ≤ 3) (a0 a1 a2 b0 b1 b2 : Int32) (h0 : Heap) (n0 : Nat) :
    MetFree l (⟨"com/example/bare_migrate/baremigrate/ScriptEqualsPinLaw", "same", "(ICCCICCC)Z"⟩ : MethodName) (head1 [Jvm.Cond.code (⟨"com/example/bare_migrate/baremigrate/ScriptEqualsPinLaw", "same", "(ICCCICCC)Z"⟩ : MethodName) method_4_code 8 (some .boolean)] ({ frames := 0, cells := 0, slots := 0, locals := 0 } : Room)) (fun a U => a = #[(.int (Int32.ofNat n)), (.int a0), (.int a1), (.int a2), (.int (Int32.ofNat k)), (.int b0), (.int b1), (.int b2)] ∧ Z.Warmed39 U.vm ∧ U.heap = h0) (fun _ _ _ _ _ => True) (fun _ U o U' => ∃ v L, o = .returned v ∧ own_QS n0 (own_eq ([a0, a1, a2].take n) ([b0, b1, b2].take k)) h0 v U'.heap L ∧ FrameEnd U o U' L ({ frames := 0, cells := 0, slots := 0, locals := 0 } : Room).cells ({ frames := 0, cells := 0, slots := 0, locals := 0 } : Room).slots) := by
  refine MetFree.of_bodySF (plainFor_of_name pn_L) hisR ?_
  intro p e s m args below meth c s₁ Bd hml0 hP hK
  obtain ⟨rfl, hZ, hh⟩ := hP
  have hx := Bd.exec
  have hby := Bd.bytes
  have X0 : Stand p l e ({ frames := 0, cells := 0, slots := 0, locals := 0 } : Room) s m #[(.int (Int32.ofNat n)), (.int a0), (.int a1), (.int a2), (.int (Int32.ofNat k)), (.int b0), (.int b1), (.int b2)] below meth c s₁ [] 0 0 := Stand.of_body Bd
  have e0 : s₁.heap = h0 := by rw [← hh, Bd.state]; rfl
  have key : ∃ (r : Int32) (pc : Nat), r = own_eq ([a0, a1, a2].take n) ([b0, b1, b2].take k) ∧ nar .boolean r = r ∧ decode c.code pc = .ok (.ireturn, 1) ∧ ∀ target, Steps p.tables e below (s₁.setTop (mkF m pc #[.val (.int (Int32.ofNat n)), .val (.int a0), .val (.int a1), .val (.int a2), .val (.int (Int32.ofNat k)), .val (.int b0), .val (.int b1), .val (.int b2)] [.int r])) target → Steps p.tables e below (s₁.setTop (mkF m 0 #[.val (.int (Int32.ofNat n)), .val (.int a0), .val (.int a1), .val (.int a2), .val (.int (Int32.ofNat k)), .val (.int b0), .val (.int b1), .val (.int b2)] [])) target := by
    by_cases hnk : n = k
    · subst hnk
      obtain rfl | rfl | rfl | rfl : n = 0 ∨ n = 1 ∨ n = 2 ∨ n = 3 := by omega
      · refine ⟨(1 : Int32), 48, (own_eq_t (by simp)).symm, by decide, hb hby dS_48, fun target kt => ?_⟩
        show Steps p.tables e below (s₁.setTop (mkF m 0 #[.val (.int (Int32.ofNat 0)), .val (.int a0), .val (.int a1), .val (.int a2), .val (.int (Int32.ofNat 0)), .val (.int b0), .val (.int b1), .val (.int b2)] [])) _
        refine XS.iloadN X0.here hx rfl (hb hby dS_0) rfl ?_
        show Steps p.tables e below (s₁.setTop (mkF m 1 #[.val (.int (Int32.ofNat 0)), .val (.int a0), .val (.int a1), .val (.int a2), .val (.int (Int32.ofNat 0)), .val (.int b0), .val (.int b1), .val (.int b2)] [(.int (Int32.ofNat 0))])) _
        refine XS.iload X0.here hx rfl (hb hby dS_1) rfl ?_
        show Steps p.tables e below (s₁.setTop (mkF m 3 #[.val (.int (Int32.ofNat 0)), .val (.int a0), .val (.int a1), .val (.int a2), .val (.int (Int32.ofNat 0)), .val (.int b0), .val (.int b1), .val (.int b2)] [(.int (Int32.ofNat 0)), (.int (Int32.ofNat 0))])) _
        refine XS.icmpYes X0.here hx rfl (pc0 := 3) (pc' := 8) rfl (hb hby dS_3) rfl (by decide) (by decide) (by decide) ?_
        show Steps p.tables e below (s₁.setTop (mkF m 8 #[.val (.int (Int32.ofNat 0)), .val (.int a0), .val (.int a1), .val (.int a2), .val (.int (Int32.ofNat 0)), .val (.int b0), .val (.int b1), .val (.int b2)] [])) _
        refine XS.iloadN X0.here hx rfl (hb hby dS_8) rfl ?_
        show Steps p.tables e below (s₁.setTop (mkF m 9 #[.val (.int (Int32.ofNat 0)), .val (.int a0), .val (.int a1), .val (.int a2), .val (.int (Int32.ofNat 0)), .val (.int b0), .val (.int b1), .val (.int b2)] [(.int (Int32.ofNat 0))])) _
        refine XS.iconst X0.here hx rfl (hb hby dS_9) ?_
        show Steps p.tables e below (s₁.setTop (mkF m 10 #[.val (.int (Int32.ofNat 0)), .val (.int a0), .val (.int a1), .val (.int a2), .val (.int (Int32.ofNat 0)), .val (.int b0), .val (.int b1), .val (.int b2)] [(.int (1 : Int32)), (.int (Int32.ofNat 0))])) _
        refine XS.icmpYes X0.here hx rfl (pc0 := 10) (pc' := 21) rfl (hb hby dS_10) rfl (by decide) (by decide) (by decide) ?_
        show Steps p.tables e below (s₁.setTop (mkF m 21 #[.val (.int (Int32.ofNat 0)), .val (.int a0), .val (.int a1), .val (.int a2), .val (.int (Int32.ofNat 0)), .val (.int b0), .val (.int b1), .val (.int b2)] [])) _
        refine XS.iloadN X0.here hx rfl (hb hby dS_21) rfl ?_
        show Steps p.tables e below (s₁.setTop (mkF m 22 #[.val (.int (Int32.ofNat 0)), .val (.int a0), .val (.int a1), .val (.int a2), .val (.int (Int32.ofNat 0)), .val (.int b0), .val (.int b1), .val (.int b2)] [(.int (Int32.ofNat 0))])) _
        refine XS.iconst X0.here hx rfl (hb hby dS_22) ?_
        show Steps p.tables e below (s₁.setTop (mkF m 23 #[.val (.int (Int32.ofNat 0)), .val (.int a0), .val (.int a1), .val (.int a2), .val (.int (Int32.ofNat 0)), .val (.int b0), .val (.int b1), .val (.int b2)] [(.int (2 : Int32)), (.int (Int32.ofNat 0))])) _
        refine XS.icmpYes X0.here hx rfl (pc0 := 23) (pc' := 34) rfl (hb hby dS_23) rfl (by decide) (by decide) (by decide) ?_
        show Steps p.tables e below (s₁.setTop (mkF m 34 #[.val (.int (Int32.ofNat 0)), .val (.int a0), .val (.int a1), .val (.int a2), .val (.int (Int32.ofNat 0)), .val (.int b0), .val (.int b1), .val (.int b2)] [])) _
        refine XS.iloadN X0.here hx rfl (hb hby dS_34) rfl ?_
        show Steps p.tables e below (s₁.setTop (mkF m 35 #[.val (.int (Int32.ofNat 0)), .val (.int a0), .val (.int a1), .val (.int a2), .val (.int (Int32.ofNat 0)), .val (.int b0), .val (.int b1), .val (.int b2)] [(.int (Int32.ofNat 0))])) _
        refine XS.iconst X0.here hx rfl (hb hby dS_35) ?_
        show Steps p.tables e below (s₁.setTop (mkF m 36 #[.val (.int (Int32.ofNat 0)), .val (.int a0), .val (.int a1), .val (.int a2), .val (.int (Int32.ofNat 0)), .val (.int b0), .val (.int b1), .val (.int b2)] [(.int (3 : Int32)), (.int (Int32.ofNat 0))])) _
        refine XS.icmpYes X0.here hx rfl (pc0 := 36) (pc' := 47) rfl (hb hby dS_36) rfl (by decide) (by decide) (by decide) ?_
        show Steps p.tables e below (s₁.setTop (mkF m 47 #[.val (.int (Int32.ofNat 0)), .val (.int a0), .val (.int a1), .val (.int a2), .val (.int (Int32.ofNat 0)), .val (.int b0), .val (.int b1), .val (.int b2)] [])) _
        refine XS.iconst X0.here hx rfl (hb hby dS_47) ?_
        exact kt
      · by_cases q0 : a0 = b0
        rotate_left
        · refine ⟨(0 : Int32), 20, (own_eq_f (by simp; intros; first | assumption | contradiction)).symm, by decide, hb hby dS_20, fun target kt => ?_⟩
          show Steps p.tables e below (s₁.setTop (mkF m 0 #[.val (.int (Int32.ofNat 1)), .val (.int a0), .val (.int a1), .val (.int a2), .val (.int (Int32.ofNat 1)), .val (.int b0), .val (.int b1), .val (.int b2)] [])) _
          refine XS.iloadN X0.here hx rfl (hb hby dS_0) rfl ?_
          show Steps p.tables e below (s₁.setTop (mkF m 1 #[.val (.int (Int32.ofNat 1)), .val (.int a0), .val (.int a1), .val (.int a2), .val (.int (Int32.ofNat 1)), .val (.int b0), .val (.int b1), .val (.int b2)] [(.int (Int32.ofNat 1))])) _
          refine XS.iload X0.here hx rfl (hb hby dS_1) rfl ?_
          show Steps p.tables e below (s₁.setTop (mkF m 3 #[.val (.int (Int32.ofNat 1)), .val (.int a0), .val (.int a1), .val (.int a2), .val (.int (Int32.ofNat 1)), .val (.int b0), .val (.int b1), .val (.int b2)] [(.int (Int32.ofNat 1)), (.int (Int32.ofNat 1))])) _
          refine XS.icmpYes X0.here hx rfl (pc0 := 3) (pc' := 8) rfl (hb hby dS_3) rfl (by decide) (by decide) (by decide) ?_
          show Steps p.tables e below (s₁.setTop (mkF m 8 #[.val (.int (Int32.ofNat 1)), .val (.int a0), .val (.int a1), .val (.int a2), .val (.int (Int32.ofNat 1)), .val (.int b0), .val (.int b1), .val (.int b2)] [])) _
          refine XS.iloadN X0.here hx rfl (hb hby dS_8) rfl ?_
          show Steps p.tables e below (s₁.setTop (mkF m 9 #[.val (.int (Int32.ofNat 1)), .val (.int a0), .val (.int a1), .val (.int a2), .val (.int (Int32.ofNat 1)), .val (.int b0), .val (.int b1), .val (.int b2)] [(.int (Int32.ofNat 1))])) _
          refine XS.iconst X0.here hx rfl (hb hby dS_9) ?_
          show Steps p.tables e below (s₁.setTop (mkF m 10 #[.val (.int (Int32.ofNat 1)), .val (.int a0), .val (.int a1), .val (.int a2), .val (.int (Int32.ofNat 1)), .val (.int b0), .val (.int b1), .val (.int b2)] [(.int (1 : Int32)), (.int (Int32.ofNat 1))])) _
          refine XS.icmpNo X0.here hx rfl (hb hby dS_10) rfl (by decide) ?_
          show Steps p.tables e below (s₁.setTop (mkF m 13 #[.val (.int (Int32.ofNat 1)), .val (.int a0), .val (.int a1), .val (.int a2), .val (.int (Int32.ofNat 1)), .val (.int b0), .val (.int b1), .val (.int b2)] [])) _
          refine XS.iloadN X0.here hx rfl (hb hby dS_13) rfl ?_
          show Steps p.tables e below (s₁.setTop (mkF m 14 #[.val (.int (Int32.ofNat 1)), .val (.int a0), .val (.int a1), .val (.int a2), .val (.int (Int32.ofNat 1)), .val (.int b0), .val (.int b1), .val (.int b2)] [(.int a0)])) _
          refine XS.iload X0.here hx rfl (hb hby dS_14) rfl ?_
          show Steps p.tables e below (s₁.setTop (mkF m 16 #[.val (.int (Int32.ofNat 1)), .val (.int a0), .val (.int a1), .val (.int a2), .val (.int (Int32.ofNat 1)), .val (.int b0), .val (.int b1), .val (.int b2)] [(.int b0), (.int a0)])) _
          refine XS.icmpNo X0.here hx rfl (hb hby dS_16) rfl (feq q0).1 ?_
          show Steps p.tables e below (s₁.setTop (mkF m 19 #[.val (.int (Int32.ofNat 1)), .val (.int a0), .val (.int a1), .val (.int a2), .val (.int (Int32.ofNat 1)), .val (.int b0), .val (.int b1), .val (.int b2)] [])) _
          refine XS.iconst X0.here hx rfl (hb hby dS_19) ?_
          exact kt
        refine ⟨(1 : Int32), 48, (own_eq_t (by simp [q0])).symm, by decide, hb hby dS_48, fun target kt => ?_⟩
        show Steps p.tables e below (s₁.setTop (mkF m 0 #[.val (.int (Int32.ofNat 1)), .val (.int a0), .val (.int a1), .val (.int a2), .val (.int (Int32.ofNat 1)), .val (.int b0), .val (.int b1), .val (.int b2)] [])) _
        refine XS.iloadN X0.here hx rfl (hb hby dS_0) rfl ?_
        show Steps p.tables e below (s₁.setTop (mkF m 1 #[.val (.int (Int32.ofNat 1)), .val (.int a0), .val (.int a1), .val (.int a2), .val (.int (Int32.ofNat 1)), .val (.int b0), .val (.int b1), .val (.int b2)] [(.int (Int32.ofNat 1))])) _
        refine XS.iload X0.here hx rfl (hb hby dS_1) rfl ?_
        show Steps p.tables e below (s₁.setTop (mkF m 3 #[.val (.int (Int32.ofNat 1)), .val (.int a0), .val (.int a1), .val (.int a2), .val (.int (Int32.ofNat 1)), .val (.int b0), .val (.int b1), .val (.int b2)] [(.int (Int32.ofNat 1)), (.int (Int32.ofNat 1))])) _
        refine XS.icmpYes X0.here hx rfl (pc0 := 3) (pc' := 8) rfl (hb hby dS_3) rfl (by decide) (by decide) (by decide) ?_
        show Steps p.tables e below (s₁.setTop (mkF m 8 #[.val (.int (Int32.ofNat 1)), .val (.int a0), .val (.int a1), .val (.int a2), .val (.int (Int32.ofNat 1)), .val (.int b0), .val (.int b1), .val (.int b2)] [])) _
        refine XS.iloadN X0.here hx rfl (hb hby dS_8) rfl ?_
        show Steps p.tables e below (s₁.setTop (mkF m 9 #[.val (.int (Int32.ofNat 1)), .val (.int a0), .val (.int a1), .val (.int a2), .val (.int (Int32.ofNat 1)), .val (.int b0), .val (.int b1), .val (.int b2)] [(.int (Int32.ofNat 1))])) _
        refine XS.iconst X0.here hx rfl (hb hby dS_9) ?_
        show Steps p.tables e below (s₁.setTop (mkF m 10 #[.val (.int (Int32.ofNat 1)), .val (.int a0), .val (.int a1), .val (.int a2), .val (.int (Int32.ofNat 1)), .val (.int b0), .val (.int b1), .val (.int b2)] [(.int (1 : Int32)), (.int (Int32.ofNat 1))])) _
        refine XS.icmpNo X0.here hx rfl (hb hby dS_10) rfl (by decide) ?_
        show Steps p.tables e below (s₁.setTop (mkF m 13 #[.val (.int (Int32.ofNat 1)), .val (.int a0), .val (.int a1), .val (.int a2), .val (.int (Int32.ofNat 1)), .val (.int b0), .val (.int b1), .val (.int b2)] [])) _
        refine XS.iloadN X0.here hx rfl (hb hby dS_13) rfl ?_
        show Steps p.tables e below (s₁.setTop (mkF m 14 #[.val (.int (Int32.ofNat 1)), .val (.int a0), .val (.int a1), .val (.int a2), .val (.int (Int32.ofNat 1)), .val (.int b0), .val (.int b1), .val (.int b2)] [(.int a0)])) _
        refine XS.iload X0.here hx rfl (hb hby dS_14) rfl ?_
        show Steps p.tables e below (s₁.setTop (mkF m 16 #[.val (.int (Int32.ofNat 1)), .val (.int a0), .val (.int a1), .val (.int a2), .val (.int (Int32.ofNat 1)), .val (.int b0), .val (.int b1), .val (.int b2)] [(.int b0), (.int a0)])) _
        refine XS.icmpYes X0.here hx rfl (pc0 := 16) (pc' := 21) rfl (hb hby dS_16) rfl (teq q0).1 (by decide) (by decide) ?_
        show Steps p.tables e below (s₁.setTop (mkF m 21 #[.val (.int (Int32.ofNat 1)), .val (.int a0), .val (.int a1), .val (.int a2), .val (.int (Int32.ofNat 1)), .val (.int b0), .val (.int b1), .val (.int b2)] [])) _
        refine XS.iloadN X0.here hx rfl (hb hby dS_21) rfl ?_
        show Steps p.tables e below (s₁.setTop (mkF m 22 #[.val (.int (Int32.ofNat 1)), .val (.int a0), .val (.int a1), .val (.int a2), .val (.int (Int32.ofNat 1)), .val (.int b0), .val (.int b1), .val (.int b2)] [(.int (Int32.ofNat 1))])) _
        refine XS.iconst X0.here hx rfl (hb hby dS_22) ?_
        show Steps p.tables e below (s₁.setTop (mkF m 23 #[.val (.int (Int32.ofNat 1)), .val (.int a0), .val (.int a1), .val (.int a2), .val (.int (Int32.ofNat 1)), .val (.int b0), .val (.int b1), .val (.int b2)] [(.int (2 : Int32)), (.int (Int32.ofNat 1))])) _
        refine XS.icmpYes X0.here hx rfl (pc0 := 23) (pc' := 34) rfl (hb hby dS_23) rfl (by decide) (by decide) (by decide) ?_
        show Steps p.tables e below (s₁.setTop (mkF m 34 #[.val (.int (Int32.ofNat 1)), .val (.int a0), .val (.int a1), .val (.int a2), .val (.int (Int32.ofNat 1)), .val (.int b0), .val (.int b1), .val (.int b2)] [])) _
        refine XS.iloadN X0.here hx rfl (hb hby dS_34) rfl ?_
        show Steps p.tables e below (s₁.setTop (mkF m 35 #[.val (.int (Int32.ofNat 1)), .val (.int a0), .val (.int a1), .val (.int a2), .val (.int (Int32.ofNat 1)), .val (.int b0), .val (.int b1), .val (.int b2)] [(.int (Int32.ofNat 1))])) _
        refine XS.iconst X0.here hx rfl (hb hby dS_35) ?_
        show Steps p.tables e below (s₁.setTop (mkF m 36 #[.val (.int (Int32.ofNat 1)), .val (.int a0), .val (.int a1), .val (.int a2), .val (.int (Int32.ofNat 1)), .val (.int b0), .val (.int b1), .val (.int b2)] [(.int (3 : Int32)), (.int (Int32.ofNat 1))])) _
        refine XS.icmpYes X0.here hx rfl (pc0 := 36) (pc' := 47) rfl (hb hby dS_36) rfl (by decide) (by decide) (by decide) ?_
        show Steps p.tables e below (s₁.setTop (mkF m 47 #[.val (.int (Int32.ofNat 1)), .val (.int a0), .val (.int a1), .val (.int a2), .val (.int (Int32.ofNat 1)), .val (.int b0), .val (.int b1), .val (.int b2)] [])) _
        refine XS.iconst X0.here hx rfl (hb hby dS_47) ?_
        exact kt
      · by_cases q0 : a0 = b0
        rotate_left
        · refine ⟨(0 : Int32), 20, (own_eq_f (by simp; intros; first | assumption | contradiction)).symm, by decide, hb hby dS_20, fun target kt => ?_⟩
          show Steps p.tables e below (s₁.setTop (mkF m 0 #[.val (.int (Int32.ofNat 2)), .val (.int a0), .val (.int a1), .val (.int a2), .val (.int (Int32.ofNat 2)), .val (.int b0), .val (.int b1), .val (.int b2)] [])) _
          refine XS.iloadN X0.here hx rfl (hb hby dS_0) rfl ?_
          show Steps p.tables e below (s₁.setTop (mkF m 1 #[.val (.int (Int32.ofNat 2)), .val (.int a0), .val (.int a1), .val (.int a2), .val (.int (Int32.ofNat 2)), .val (.int b0), .val (.int b1), .val (.int b2)] [(.int (Int32.ofNat 2))])) _
          refine XS.iload X0.here hx rfl (hb hby dS_1) rfl ?_
          show Steps p.tables e below (s₁.setTop (mkF m 3 #[.val (.int (Int32.ofNat 2)), .val (.int a0), .val (.int a1), .val (.int a2), .val (.int (Int32.ofNat 2)), .val (.int b0), .val (.int b1), .val (.int b2)] [(.int (Int32.ofNat 2)), (.int (Int32.ofNat 2))])) _
          refine XS.icmpYes X0.here hx rfl (pc0 := 3) (pc' := 8) rfl (hb hby dS_3) rfl (by decide) (by decide) (by decide) ?_
          show Steps p.tables e below (s₁.setTop (mkF m 8 #[.val (.int (Int32.ofNat 2)), .val (.int a0), .val (.int a1), .val (.int a2), .val (.int (Int32.ofNat 2)), .val (.int b0), .val (.int b1), .val (.int b2)] [])) _
          refine XS.iloadN X0.here hx rfl (hb hby dS_8) rfl ?_
          show Steps p.tables e below (s₁.setTop (mkF m 9 #[.val (.int (Int32.ofNat 2)), .val (.int a0), .val (.int a1), .val (.int a2), .val (.int (Int32.ofNat 2)), .val (.int b0), .val (.int b1), .val (.int b2)] [(.int (Int32.ofNat 2))])) _
          refine XS.iconst X0.here hx rfl (hb hby dS_9) ?_
          show Steps p.tables e below (s₁.setTop (mkF m 10 #[.val (.int (Int32.ofNat 2)), .val (.int a0), .val (.int a1), .val (.int a2), .val (.int (Int32.ofNat 2)), .val (.int b0), .val (.int b1), .val (.int b2)] [(.int (1 : Int32)), (.int (Int32.ofNat 2))])) _
          refine XS.icmpNo X0.here hx rfl (hb hby dS_10) rfl (by decide) ?_
          show Steps p.tables e below (s₁.setTop (mkF m 13 #[.val (.int (Int32.ofNat 2)), .val (.int a0), .val (.int a1), .val (.int a2), .val (.int (Int32.ofNat 2)), .val (.int b0), .val (.int b1), .val (.int b2)] [])) _
          refine XS.iloadN X0.here hx rfl (hb hby dS_13) rfl ?_
          show Steps p.tables e below (s₁.setTop (mkF m 14 #[.val (.int (Int32.ofNat 2)), .val (.int a0), .val (.int a1), .val (.int a2), .val (.int (Int32.ofNat 2)), .val (.int b0), .val (.int b1), .val (.int b2)] [(.int a0)])) _
          refine XS.iload X0.here hx rfl (hb hby dS_14) rfl ?_
          show Steps p.tables e below (s₁.setTop (mkF m 16 #[.val (.int (Int32.ofNat 2)), .val (.int a0), .val (.int a1), .val (.int a2), .val (.int (Int32.ofNat 2)), .val (.int b0), .val (.int b1), .val (.int b2)] [(.int b0), (.int a0)])) _
          refine XS.icmpNo X0.here hx rfl (hb hby dS_16) rfl (feq q0).1 ?_
          show Steps p.tables e below (s₁.setTop (mkF m 19 #[.val (.int (Int32.ofNat 2)), .val (.int a0), .val (.int a1), .val (.int a2), .val (.int (Int32.ofNat 2)), .val (.int b0), .val (.int b1), .val (.int b2)] [])) _
          refine XS.iconst X0.here hx rfl (hb hby dS_19) ?_
          exact kt
        by_cases q1 : a1 = b1
        rotate_left
        · refine ⟨(0 : Int32), 33, (own_eq_f (by simp; intros; first | assumption | contradiction)).symm, by decide, hb hby dS_33, fun target kt => ?_⟩
          show Steps p.tables e below (s₁.setTop (mkF m 0 #[.val (.int (Int32.ofNat 2)), .val (.int a0), .val (.int a1), .val (.int a2), .val (.int (Int32.ofNat 2)), .val (.int b0), .val (.int b1), .val (.int b2)] [])) _
          refine XS.iloadN X0.here hx rfl (hb hby dS_0) rfl ?_
          show Steps p.tables e below (s₁.setTop (mkF m 1 #[.val (.int (Int32.ofNat 2)), .val (.int a0), .val (.int a1), .val (.int a2), .val (.int (Int32.ofNat 2)), .val (.int b0), .val (.int b1), .val (.int b2)] [(.int (Int32.ofNat 2))])) _
          refine XS.iload X0.here hx rfl (hb hby dS_1) rfl ?_
          show Steps p.tables e below (s₁.setTop (mkF m 3 #[.val (.int (Int32.ofNat 2)), .val (.int a0), .val (.int a1), .val (.int a2), .val (.int (Int32.ofNat 2)), .val (.int b0), .val (.int b1), .val (.int b2)] [(.int (Int32.ofNat 2)), (.int (Int32.ofNat 2))])) _
          refine XS.icmpYes X0.here hx rfl (pc0 := 3) (pc' := 8) rfl (hb hby dS_3) rfl (by decide) (by decide) (by decide) ?_
          show Steps p.tables e below (s₁.setTop (mkF m 8 #[.val (.int (Int32.ofNat 2)), .val (.int a0), .val (.int a1), .val (.int a2), .val (.int (Int32.ofNat 2)), .val (.int b0), .val (.int b1), .val (.int b2)] [])) _
          refine XS.iloadN X0.here hx rfl (hb hby dS_8) rfl ?_
          show Steps p.tables e below (s₁.setTop (mkF m 9 #[.val (.int (Int32.ofNat 2)), .val (.int a0), .val (.int a1), .val (.int a2), .val (.int (Int32.ofNat 2)), .val (.int b0), .val (.int b1), .val (.int b2)] [(.int (Int32.ofNat 2))])) _
          refine XS.iconst X0.here hx rfl (hb hby dS_9) ?_
          show Steps p.tables e below (s₁.setTop (mkF m 10 #[.val (.int (Int32.ofNat 2)), .val (.int a0), .val (.int a1), .val (.int a2), .val (.int (Int32.ofNat 2)), .val (.int b0), .val (.int b1), .val (.int b2)] [(.int (1 : Int32)), (.int (Int32.ofNat 2))])) _
          refine XS.icmpNo X0.here hx rfl (hb hby dS_10) rfl (by decide) ?_
          show Steps p.tables e below (s₁.setTop (mkF m 13 #[.val (.int (Int32.ofNat 2)), .val (.int a0), .val (.int a1), .val (.int a2), .val (.int (Int32.ofNat 2)), .val (.int b0), .val (.int b1), .val (.int b2)] [])) _
          refine XS.iloadN X0.here hx rfl (hb hby dS_13) rfl ?_
          show Steps p.tables e below (s₁.setTop (mkF m 14 #[.val (.int (Int32.ofNat 2)), .val (.int a0), .val (.int a1), .val (.int a2), .val (.int (Int32.ofNat 2)), .val (.int b0), .val (.int b1), .val (.int b2)] [(.int a0)])) _
          refine XS.iload X0.here hx rfl (hb hby dS_14) rfl ?_
          show Steps p.tables e below (s₁.setTop (mkF m 16 #[.val (.int (Int32.ofNat 2)), .val (.int a0), .val (.int a1), .val (.int a2), .val (.int (Int32.ofNat 2)), .val (.int b0), .val (.int b1), .val (.int b2)] [(.int b0), (.int a0)])) _
          refine XS.icmpYes X0.here hx rfl (pc0 := 16) (pc' := 21) rfl (hb hby dS_16) rfl (teq q0).1 (by decide) (by decide) ?_
          show Steps p.tables e below (s₁.setTop (mkF m 21 #[.val (.int (Int32.ofNat 2)), .val (.int a0), .val (.int a1), .val (.int a2), .val (.int (Int32.ofNat 2)), .val (.int b0), .val (.int b1), .val (.int b2)] [])) _
          refine XS.iloadN X0.here hx rfl (hb hby dS_21) rfl ?_
          show Steps p.tables e below (s₁.setTop (mkF m 22 #[.val (.int (Int32.ofNat 2)), .val (.int a0), .val (.int a1), .val (.int a2), .val (.int (Int32.ofNat 2)), .val (.int b0), .val (.int b1), .val (.int b2)] [(.int (Int32.ofNat 2))])) _
          refine XS.iconst X0.here hx rfl (hb hby dS_22) ?_
          show Steps p.tables e below (s₁.setTop (mkF m 23 #[.val (.int (Int32.ofNat 2)), .val (.int a0), .val (.int a1), .val (.int a2), .val (.int (Int32.ofNat 2)), .val (.int b0), .val (.int b1), .val (.int b2)] [(.int (2 : Int32)), (.int (Int32.ofNat 2))])) _
          refine XS.icmpNo X0.here hx rfl (hb hby dS_23) rfl (by decide) ?_
          show Steps p.tables e below (s₁.setTop (mkF m 26 #[.val (.int (Int32.ofNat 2)), .val (.int a0), .val (.int a1), .val (.int a2), .val (.int (Int32.ofNat 2)), .val (.int b0), .val (.int b1), .val (.int b2)] [])) _
          refine XS.iloadN X0.here hx rfl (hb hby dS_26) rfl ?_
          show Steps p.tables e below (s₁.setTop (mkF m 27 #[.val (.int (Int32.ofNat 2)), .val (.int a0), .val (.int a1), .val (.int a2), .val (.int (Int32.ofNat 2)), .val (.int b0), .val (.int b1), .val (.int b2)] [(.int a1)])) _
          refine XS.iload X0.here hx rfl (hb hby dS_27) rfl ?_
          show Steps p.tables e below (s₁.setTop (mkF m 29 #[.val (.int (Int32.ofNat 2)), .val (.int a0), .val (.int a1), .val (.int a2), .val (.int (Int32.ofNat 2)), .val (.int b0), .val (.int b1), .val (.int b2)] [(.int b1), (.int a1)])) _
          refine XS.icmpNo X0.here hx rfl (hb hby dS_29) rfl (feq q1).1 ?_
          show Steps p.tables e below (s₁.setTop (mkF m 32 #[.val (.int (Int32.ofNat 2)), .val (.int a0), .val (.int a1), .val (.int a2), .val (.int (Int32.ofNat 2)), .val (.int b0), .val (.int b1), .val (.int b2)] [])) _
          refine XS.iconst X0.here hx rfl (hb hby dS_32) ?_
          exact kt
        refine ⟨(1 : Int32), 48, (own_eq_t (by simp [q0, q1])).symm, by decide, hb hby dS_48, fun target kt => ?_⟩
        show Steps p.tables e below (s₁.setTop (mkF m 0 #[.val (.int (Int32.ofNat 2)), .val (.int a0), .val (.int a1), .val (.int a2), .val (.int (Int32.ofNat 2)), .val (.int b0), .val (.int b1), .val (.int b2)] [])) _
        refine XS.iloadN X0.here hx rfl (hb hby dS_0) rfl ?_
        show Steps p.tables e below (s₁.setTop (mkF m 1 #[.val (.int (Int32.ofNat 2)), .val (.int a0), .val (.int a1), .val (.int a2), .val (.int (Int32.ofNat 2)), .val (.int b0), .val (.int b1), .val (.int b2)] [(.int (Int32.ofNat 2))])) _
        refine XS.iload X0.here hx rfl (hb hby dS_1) rfl ?_
        show Steps p.tables e below (s₁.setTop (mkF m 3 #[.val (.int (Int32.ofNat 2)), .val (.int a0), .val (.int a1), .val (.int a2), .val (.int (Int32.ofNat 2)), .val (.int b0), .val (.int b1), .val (.int b2)] [(.int (Int32.ofNat 2)), (.int (Int32.ofNat 2))])) _
        refine XS.icmpYes X0.here hx rfl (pc0 := 3) (pc' := 8) rfl (hb hby dS_3) rfl (by decide) (by decide) (by decide) ?_
        show Steps p.tables e below (s₁.setTop (mkF m 8 #[.val (.int (Int32.ofNat 2)), .val (.int a0), .val (.int a1), .val (.int a2), .val (.int (Int32.ofNat 2)), .val (.int b0), .val (.int b1), .val (.int b2)] [])) _
        refine XS.iloadN X0.here hx rfl (hb hby dS_8) rfl ?_
        show Steps p.tables e below (s₁.setTop (mkF m 9 #[.val (.int (Int32.ofNat 2)), .val (.int a0), .val (.int a1), .val (.int a2), .val (.int (Int32.ofNat 2)), .val (.int b0), .val (.int b1), .val (.int b2)] [(.int (Int32.ofNat 2))])) _
        refine XS.iconst X0.here hx rfl (hb hby dS_9) ?_
        show Steps p.tables e below (s₁.setTop (mkF m 10 #[.val (.int (Int32.ofNat 2)), .val (.int a0), .val (.int a1), .val (.int a2), .val (.int (Int32.ofNat 2)), .val (.int b0), .val (.int b1), .val (.int b2)] [(.int (1 : Int32)), (.int (Int32.ofNat 2))])) _
        refine XS.icmpNo X0.here hx rfl (hb hby dS_10) rfl (by decide) ?_
        show Steps p.tables e below (s₁.setTop (mkF m 13 #[.val (.int (Int32.ofNat 2)), .val (.int a0), .val (.int a1), .val (.int a2), .val (.int (Int32.ofNat 2)), .val (.int b0), .val (.int b1), .val (.int b2)] [])) _
        refine XS.iloadN X0.here hx rfl (hb hby dS_13) rfl ?_
        show Steps p.tables e below (s₁.setTop (mkF m 14 #[.val (.int (Int32.ofNat 2)), .val (.int a0), .val (.int a1), .val (.int a2), .val (.int (Int32.ofNat 2)), .val (.int b0), .val (.int b1), .val (.int b2)] [(.int a0)])) _
        refine XS.iload X0.here hx rfl (hb hby dS_14) rfl ?_
        show Steps p.tables e below (s₁.setTop (mkF m 16 #[.val (.int (Int32.ofNat 2)), .val (.int a0), .val (.int a1), .val (.int a2), .val (.int (Int32.ofNat 2)), .val (.int b0), .val (.int b1), .val (.int b2)] [(.int b0), (.int a0)])) _
        refine XS.icmpYes X0.here hx rfl (pc0 := 16) (pc' := 21) rfl (hb hby dS_16) rfl (teq q0).1 (by decide) (by decide) ?_
        show Steps p.tables e below (s₁.setTop (mkF m 21 #[.val (.int (Int32.ofNat 2)), .val (.int a0), .val (.int a1), .val (.int a2), .val (.int (Int32.ofNat 2)), .val (.int b0), .val (.int b1), .val (.int b2)] [])) _
        refine XS.iloadN X0.here hx rfl (hb hby dS_21) rfl ?_
        show Steps p.tables e below (s₁.setTop (mkF m 22 #[.val (.int (Int32.ofNat 2)), .val (.int a0), .val (.int a1), .val (.int a2), .val (.int (Int32.ofNat 2)), .val (.int b0), .val (.int b1), .val (.int b2)] [(.int (Int32.ofNat 2))])) _
        refine XS.iconst X0.here hx rfl (hb hby dS_22) ?_
        show Steps p.tables e below (s₁.setTop (mkF m 23 #[.val (.int (Int32.ofNat 2)), .val (.int a0), .val (.int a1), .val (.int a2), .val (.int (Int32.ofNat 2)), .val (.int b0), .val (.int b1), .val (.int b2)] [(.int (2 : Int32)), (.int (Int32.ofNat 2))])) _
        refine XS.icmpNo X0.here hx rfl (hb hby dS_23) rfl (by decide) ?_
        show Steps p.tables e below (s₁.setTop (mkF m 26 #[.val (.int (Int32.ofNat 2)), .val (.int a0), .val (.int a1), .val (.int a2), .val (.int (Int32.ofNat 2)), .val (.int b0), .val (.int b1), .val (.int b2)] [])) _
        refine XS.iloadN X0.here hx rfl (hb hby dS_26) rfl ?_
        show Steps p.tables e below (s₁.setTop (mkF m 27 #[.val (.int (Int32.ofNat 2)), .val (.int a0), .val (.int a1), .val (.int a2), .val (.int (Int32.ofNat 2)), .val (.int b0), .val (.int b1), .val (.int b2)] [(.int a1)])) _
        refine XS.iload X0.here hx rfl (hb hby dS_27) rfl ?_
        show Steps p.tables e below (s₁.setTop (mkF m 29 #[.val (.int (Int32.ofNat 2)), .val (.int a0), .val (.int a1), .val (.int a2), .val (.int (Int32.ofNat 2)), .val (.int b0), .val (.int b1), .val (.int b2)] [(.int b1), (.int a1)])) _
        refine XS.icmpYes X0.here hx rfl (pc0 := 29) (pc' := 34) rfl (hb hby dS_29) rfl (teq q1).1 (by decide) (by decide) ?_
        show Steps p.tables e below (s₁.setTop (mkF m 34 #[.val (.int (Int32.ofNat 2)), .val (.int a0), .val (.int a1), .val (.int a2), .val (.int (Int32.ofNat 2)), .val (.int b0), .val (.int b1), .val (.int b2)] [])) _
        refine XS.iloadN X0.here hx rfl (hb hby dS_34) rfl ?_
        show Steps p.tables e below (s₁.setTop (mkF m 35 #[.val (.int (Int32.ofNat 2)), .val (.int a0), .val (.int a1), .val (.int a2), .val (.int (Int32.ofNat 2)), .val (.int b0), .val (.int b1), .val (.int b2)] [(.int (Int32.ofNat 2))])) _
        refine XS.iconst X0.here hx rfl (hb hby dS_35) ?_
        show Steps p.tables e below (s₁.setTop (mkF m 36 #[.val (.int (Int32.ofNat 2)), .val (.int a0), .val (.int a1), .val (.int a2), .val (.int (Int32.ofNat 2)), .val (.int b0), .val (.int b1), .val (.int b2)] [(.int (3 : Int32)), (.int (Int32.ofNat 2))])) _
        refine XS.icmpYes X0.here hx rfl (pc0 := 36) (pc' := 47) rfl (hb hby dS_36) rfl (by decide) (by decide) (by decide) ?_
        show Steps p.tables e below (s₁.setTop (mkF m 47 #[.val (.int (Int32.ofNat 2)), .val (.int a0), .val (.int a1), .val (.int a2), .val (.int (Int32.ofNat 2)), .val (.int b0), .val (.int b1), .val (.int b2)] [])) _
        refine XS.iconst X0.here hx rfl (hb hby dS_47) ?_
        exact kt
      · by_cases q0 : a0 = b0
        rotate_left
        · refine ⟨(0 : Int32), 20, (own_eq_f (by simp; intros; first | assumption | contradiction)).symm, by decide, hb hby dS_20, fun target kt => ?_⟩
          show Steps p.tables e below (s₁.setTop (mkF m 0 #[.val (.int (Int32.ofNat 3)), .val (.int a0), .val (.int a1), .val (.int a2), .val (.int (Int32.ofNat 3)), .val (.int b0), .val (.int b1), .val (.int b2)] [])) _
          refine XS.iloadN X0.here hx rfl (hb hby dS_0) rfl ?_
          show Steps p.tables e below (s₁.setTop (mkF m 1 #[.val (.int (Int32.ofNat 3)), .val (.int a0), .val (.int a1), .val (.int a2), .val (.int (Int32.ofNat 3)), .val (.int b0), .val (.int b1), .val (.int b2)] [(.int (Int32.ofNat 3))])) _
          refine XS.iload X0.here hx rfl (hb hby dS_1) rfl ?_
          show Steps p.tables e below (s₁.setTop (mkF m 3 #[.val (.int (Int32.ofNat 3)), .val (.int a0), .val (.int a1), .val (.int a2), .val (.int (Int32.ofNat 3)), .val (.int b0), .val (.int b1), .val (.int b2)] [(.int (Int32.ofNat 3)), (.int (Int32.ofNat 3))])) _
          refine XS.icmpYes X0.here hx rfl (pc0 := 3) (pc' := 8) rfl (hb hby dS_3) rfl (by decide) (by decide) (by decide) ?_
          show Steps p.tables e below (s₁.setTop (mkF m 8 #[.val (.int (Int32.ofNat 3)), .val (.int a0), .val (.int a1), .val (.int a2), .val (.int (Int32.ofNat 3)), .val (.int b0), .val (.int b1), .val (.int b2)] [])) _
          refine XS.iloadN X0.here hx rfl (hb hby dS_8) rfl ?_
          show Steps p.tables e below (s₁.setTop (mkF m 9 #[.val (.int (Int32.ofNat 3)), .val (.int a0), .val (.int a1), .val (.int a2), .val (.int (Int32.ofNat 3)), .val (.int b0), .val (.int b1), .val (.int b2)] [(.int (Int32.ofNat 3))])) _
          refine XS.iconst X0.here hx rfl (hb hby dS_9) ?_
          show Steps p.tables e below (s₁.setTop (mkF m 10 #[.val (.int (Int32.ofNat 3)), .val (.int a0), .val (.int a1), .val (.int a2), .val (.int (Int32.ofNat 3)), .val (.int b0), .val (.int b1), .val (.int b2)] [(.int (1 : Int32)), (.int (Int32.ofNat 3))])) _
          refine XS.icmpNo X0.here hx rfl (hb hby dS_10) rfl (by decide) ?_
          show Steps p.tables e below (s₁.setTop (mkF m 13 #[.val (.int (Int32.ofNat 3)), .val (.int a0), .val (.int a1), .val (.int a2), .val (.int (Int32.ofNat 3)), .val (.int b0), .val (.int b1), .val (.int b2)] [])) _
          refine XS.iloadN X0.here hx rfl (hb hby dS_13) rfl ?_
          show Steps p.tables e below (s₁.setTop (mkF m 14 #[.val (.int (Int32.ofNat 3)), .val (.int a0), .val (.int a1), .val (.int a2), .val (.int (Int32.ofNat 3)), .val (.int b0), .val (.int b1), .val (.int b2)] [(.int a0)])) _
          refine XS.iload X0.here hx rfl (hb hby dS_14) rfl ?_
          show Steps p.tables e below (s₁.setTop (mkF m 16 #[.val (.int (Int32.ofNat 3)), .val (.int a0), .val (.int a1), .val (.int a2), .val (.int (Int32.ofNat 3)), .val (.int b0), .val (.int b1), .val (.int b2)] [(.int b0), (.int a0)])) _
          refine XS.icmpNo X0.here hx rfl (hb hby dS_16) rfl (feq q0).1 ?_
          show Steps p.tables e below (s₁.setTop (mkF m 19 #[.val (.int (Int32.ofNat 3)), .val (.int a0), .val (.int a1), .val (.int a2), .val (.int (Int32.ofNat 3)), .val (.int b0), .val (.int b1), .val (.int b2)] [])) _
          refine XS.iconst X0.here hx rfl (hb hby dS_19) ?_
          exact kt
        by_cases q1 : a1 = b1
        rotate_left
        · refine ⟨(0 : Int32), 33, (own_eq_f (by simp; intros; first | assumption | contradiction)).symm, by decide, hb hby dS_33, fun target kt => ?_⟩
          show Steps p.tables e below (s₁.setTop (mkF m 0 #[.val (.int (Int32.ofNat 3)), .val (.int a0), .val (.int a1), .val (.int a2), .val (.int (Int32.ofNat 3)), .val (.int b0), .val (.int b1), .val (.int b2)] [])) _
          refine XS.iloadN X0.here hx rfl (hb hby dS_0) rfl ?_
          show Steps p.tables e below (s₁.setTop (mkF m 1 #[.val (.int (Int32.ofNat 3)), .val (.int a0), .val (.int a1), .val (.int a2), .val (.int (Int32.ofNat 3)), .val (.int b0), .val (.int b1), .val (.int b2)] [(.int (Int32.ofNat 3))])) _
          refine XS.iload X0.here hx rfl (hb hby dS_1) rfl ?_
          show Steps p.tables e below (s₁.setTop (mkF m 3 #[.val (.int (Int32.ofNat 3)), .val (.int a0), .val (.int a1), .val (.int a2), .val (.int (Int32.ofNat 3)), .val (.int b0), .val (.int b1), .val (.int b2)] [(.int (Int32.ofNat 3)), (.int (Int32.ofNat 3))])) _
          refine XS.icmpYes X0.here hx rfl (pc0 := 3) (pc' := 8) rfl (hb hby dS_3) rfl (by decide) (by decide) (by decide) ?_
          show Steps p.tables e below (s₁.setTop (mkF m 8 #[.val (.int (Int32.ofNat 3)), .val (.int a0), .val (.int a1), .val (.int a2), .val (.int (Int32.ofNat 3)), .val (.int b0), .val (.int b1), .val (.int b2)] [])) _
          refine XS.iloadN X0.here hx rfl (hb hby dS_8) rfl ?_
          show Steps p.tables e below (s₁.setTop (mkF m 9 #[.val (.int (Int32.ofNat 3)), .val (.int a0), .val (.int a1), .val (.int a2), .val (.int (Int32.ofNat 3)), .val (.int b0), .val (.int b1), .val (.int b2)] [(.int (Int32.ofNat 3))])) _
          refine XS.iconst X0.here hx rfl (hb hby dS_9) ?_
          show Steps p.tables e below (s₁.setTop (mkF m 10 #[.val (.int (Int32.ofNat 3)), .val (.int a0), .val (.int a1), .val (.int a2), .val (.int (Int32.ofNat 3)), .val (.int b0), .val (.int b1), .val (.int b2)] [(.int (1 : Int32)), (.int (Int32.ofNat 3))])) _
          refine XS.icmpNo X0.here hx rfl (hb hby dS_10) rfl (by decide) ?_
          show Steps p.tables e below (s₁.setTop (mkF m 13 #[.val (.int (Int32.ofNat 3)), .val (.int a0), .val (.int a1), .val (.int a2), .val (.int (Int32.ofNat 3)), .val (.int b0), .val (.int b1), .val (.int b2)] [])) _
          refine XS.iloadN X0.here hx rfl (hb hby dS_13) rfl ?_
          show Steps p.tables e below (s₁.setTop (mkF m 14 #[.val (.int (Int32.ofNat 3)), .val (.int a0), .val (.int a1), .val (.int a2), .val (.int (Int32.ofNat 3)), .val (.int b0), .val (.int b1), .val (.int b2)] [(.int a0)])) _
          refine XS.iload X0.here hx rfl (hb hby dS_14) rfl ?_
          show Steps p.tables e below (s₁.setTop (mkF m 16 #[.val (.int (Int32.ofNat 3)), .val (.int a0), .val (.int a1), .val (.int a2), .val (.int (Int32.ofNat 3)), .val (.int b0), .val (.int b1), .val (.int b2)] [(.int b0), (.int a0)])) _
          refine XS.icmpYes X0.here hx rfl (pc0 := 16) (pc' := 21) rfl (hb hby dS_16) rfl (teq q0).1 (by decide) (by decide) ?_
          show Steps p.tables e below (s₁.setTop (mkF m 21 #[.val (.int (Int32.ofNat 3)), .val (.int a0), .val (.int a1), .val (.int a2), .val (.int (Int32.ofNat 3)), .val (.int b0), .val (.int b1), .val (.int b2)] [])) _
          refine XS.iloadN X0.here hx rfl (hb hby dS_21) rfl ?_
          show Steps p.tables e below (s₁.setTop (mkF m 22 #[.val (.int (Int32.ofNat 3)), .val (.int a0), .val (.int a1), .val (.int a2), .val (.int (Int32.ofNat 3)), .val (.int b0), .val (.int b1), .val (.int b2)] [(.int (Int32.ofNat 3))])) _
          refine XS.iconst X0.here hx rfl (hb hby dS_22) ?_
          show Steps p.tables e below (s₁.setTop (mkF m 23 #[.val (.int (Int32.ofNat 3)), .val (.int a0), .val (.int a1), .val (.int a2), .val (.int (Int32.ofNat 3)), .val (.int b0), .val (.int b1), .val (.int b2)] [(.int (2 : Int32)), (.int (Int32.ofNat 3))])) _
          refine XS.icmpNo X0.here hx rfl (hb hby dS_23) rfl (by decide) ?_
          show Steps p.tables e below (s₁.setTop (mkF m 26 #[.val (.int (Int32.ofNat 3)), .val (.int a0), .val (.int a1), .val (.int a2), .val (.int (Int32.ofNat 3)), .val (.int b0), .val (.int b1), .val (.int b2)] [])) _
          refine XS.iloadN X0.here hx rfl (hb hby dS_26) rfl ?_
          show Steps p.tables e below (s₁.setTop (mkF m 27 #[.val (.int (Int32.ofNat 3)), .val (.int a0), .val (.int a1), .val (.int a2), .val (.int (Int32.ofNat 3)), .val (.int b0), .val (.int b1), .val (.int b2)] [(.int a1)])) _
          refine XS.iload X0.here hx rfl (hb hby dS_27) rfl ?_
          show Steps p.tables e below (s₁.setTop (mkF m 29 #[.val (.int (Int32.ofNat 3)), .val (.int a0), .val (.int a1), .val (.int a2), .val (.int (Int32.ofNat 3)), .val (.int b0), .val (.int b1), .val (.int b2)] [(.int b1), (.int a1)])) _
          refine XS.icmpNo X0.here hx rfl (hb hby dS_29) rfl (feq q1).1 ?_
          show Steps p.tables e below (s₁.setTop (mkF m 32 #[.val (.int (Int32.ofNat 3)), .val (.int a0), .val (.int a1), .val (.int a2), .val (.int (Int32.ofNat 3)), .val (.int b0), .val (.int b1), .val (.int b2)] [])) _
          refine XS.iconst X0.here hx rfl (hb hby dS_32) ?_
          exact kt
        by_cases q2 : a2 = b2
        rotate_left
        · refine ⟨(0 : Int32), 46, (own_eq_f (by simp; intros; first | assumption | contradiction)).symm, by decide, hb hby dS_46, fun target kt => ?_⟩
          show Steps p.tables e below (s₁.setTop (mkF m 0 #[.val (.int (Int32.ofNat 3)), .val (.int a0), .val (.int a1), .val (.int a2), .val (.int (Int32.ofNat 3)), .val (.int b0), .val (.int b1), .val (.int b2)] [])) _
          refine XS.iloadN X0.here hx rfl (hb hby dS_0) rfl ?_
          show Steps p.tables e below (s₁.setTop (mkF m 1 #[.val (.int (Int32.ofNat 3)), .val (.int a0), .val (.int a1), .val (.int a2), .val (.int (Int32.ofNat 3)), .val (.int b0), .val (.int b1), .val (.int b2)] [(.int (Int32.ofNat 3))])) _
          refine XS.iload X0.here hx rfl (hb hby dS_1) rfl ?_
          show Steps p.tables e below (s₁.setTop (mkF m 3 #[.val (.int (Int32.ofNat 3)), .val (.int a0), .val (.int a1), .val (.int a2), .val (.int (Int32.ofNat 3)), .val (.int b0), .val (.int b1), .val (.int b2)] [(.int (Int32.ofNat 3)), (.int (Int32.ofNat 3))])) _
          refine XS.icmpYes X0.here hx rfl (pc0 := 3) (pc' := 8) rfl (hb hby dS_3) rfl (by decide) (by decide) (by decide) ?_
          show Steps p.tables e below (s₁.setTop (mkF m 8 #[.val (.int (Int32.ofNat 3)), .val (.int a0), .val (.int a1), .val (.int a2), .val (.int (Int32.ofNat 3)), .val (.int b0), .val (.int b1), .val (.int b2)] [])) _
          refine XS.iloadN X0.here hx rfl (hb hby dS_8) rfl ?_
          show Steps p.tables e below (s₁.setTop (mkF m 9 #[.val (.int (Int32.ofNat 3)), .val (.int a0), .val (.int a1), .val (.int a2), .val (.int (Int32.ofNat 3)), .val (.int b0), .val (.int b1), .val (.int b2)] [(.int (Int32.ofNat 3))])) _
          refine XS.iconst X0.here hx rfl (hb hby dS_9) ?_
          show Steps p.tables e below (s₁.setTop (mkF m 10 #[.val (.int (Int32.ofNat 3)), .val (.int a0), .val (.int a1), .val (.int a2), .val (.int (Int32.ofNat 3)), .val (.int b0), .val (.int b1), .val (.int b2)] [(.int (1 : Int32)), (.int (Int32.ofNat 3))])) _
          refine XS.icmpNo X0.here hx rfl (hb hby dS_10) rfl (by decide) ?_
          show Steps p.tables e below (s₁.setTop (mkF m 13 #[.val (.int (Int32.ofNat 3)), .val (.int a0), .val (.int a1), .val (.int a2), .val (.int (Int32.ofNat 3)), .val (.int b0), .val (.int b1), .val (.int b2)] [])) _
          refine XS.iloadN X0.here hx rfl (hb hby dS_13) rfl ?_
          show Steps p.tables e below (s₁.setTop (mkF m 14 #[.val (.int (Int32.ofNat 3)), .val (.int a0), .val (.int a1), .val (.int a2), .val (.int (Int32.ofNat 3)), .val (.int b0), .val (.int b1), .val (.int b2)] [(.int a0)])) _
          refine XS.iload X0.here hx rfl (hb hby dS_14) rfl ?_
          show Steps p.tables e below (s₁.setTop (mkF m 16 #[.val (.int (Int32.ofNat 3)), .val (.int a0), .val (.int a1), .val (.int a2), .val (.int (Int32.ofNat 3)), .val (.int b0), .val (.int b1), .val (.int b2)] [(.int b0), (.int a0)])) _
          refine XS.icmpYes X0.here hx rfl (pc0 := 16) (pc' := 21) rfl (hb hby dS_16) rfl (teq q0).1 (by decide) (by decide) ?_
          show Steps p.tables e below (s₁.setTop (mkF m 21 #[.val (.int (Int32.ofNat 3)), .val (.int a0), .val (.int a1), .val (.int a2), .val (.int (Int32.ofNat 3)), .val (.int b0), .val (.int b1), .val (.int b2)] [])) _
          refine XS.iloadN X0.here hx rfl (hb hby dS_21) rfl ?_
          show Steps p.tables e below (s₁.setTop (mkF m 22 #[.val (.int (Int32.ofNat 3)), .val (.int a0), .val (.int a1), .val (.int a2), .val (.int (Int32.ofNat 3)), .val (.int b0), .val (.int b1), .val (.int b2)] [(.int (Int32.ofNat 3))])) _
          refine XS.iconst X0.here hx rfl (hb hby dS_22) ?_
          show Steps p.tables e below (s₁.setTop (mkF m 23 #[.val (.int (Int32.ofNat 3)), .val (.int a0), .val (.int a1), .val (.int a2), .val (.int (Int32.ofNat 3)), .val (.int b0), .val (.int b1), .val (.int b2)] [(.int (2 : Int32)), (.int (Int32.ofNat 3))])) _
          refine XS.icmpNo X0.here hx rfl (hb hby dS_23) rfl (by decide) ?_
          show Steps p.tables e below (s₁.setTop (mkF m 26 #[.val (.int (Int32.ofNat 3)), .val (.int a0), .val (.int a1), .val (.int a2), .val (.int (Int32.ofNat 3)), .val (.int b0), .val (.int b1), .val (.int b2)] [])) _
          refine XS.iloadN X0.here hx rfl (hb hby dS_26) rfl ?_
          show Steps p.tables e below (s₁.setTop (mkF m 27 #[.val (.int (Int32.ofNat 3)), .val (.int a0), .val (.int a1), .val (.int a2), .val (.int (Int32.ofNat 3)), .val (.int b0), .val (.int b1), .val (.int b2)] [(.int a1)])) _
          refine XS.iload X0.here hx rfl (hb hby dS_27) rfl ?_
          show Steps p.tables e below (s₁.setTop (mkF m 29 #[.val (.int (Int32.ofNat 3)), .val (.int a0), .val (.int a1), .val (.int a2), .val (.int (Int32.ofNat 3)), .val (.int b0), .val (.int b1), .val (.int b2)] [(.int b1), (.int a1)])) _
          refine XS.icmpYes X0.here hx rfl (pc0 := 29) (pc' := 34) rfl (hb hby dS_29) rfl (teq q1).1 (by decide) (by decide) ?_
          show Steps p.tables e below (s₁.setTop (mkF m 34 #[.val (.int (Int32.ofNat 3)), .val (.int a0), .val (.int a1), .val (.int a2), .val (.int (Int32.ofNat 3)), .val (.int b0), .val (.int b1), .val (.int b2)] [])) _
          refine XS.iloadN X0.here hx rfl (hb hby dS_34) rfl ?_
          show Steps p.tables e below (s₁.setTop (mkF m 35 #[.val (.int (Int32.ofNat 3)), .val (.int a0), .val (.int a1), .val (.int a2), .val (.int (Int32.ofNat 3)), .val (.int b0), .val (.int b1), .val (.int b2)] [(.int (Int32.ofNat 3))])) _
          refine XS.iconst X0.here hx rfl (hb hby dS_35) ?_
          show Steps p.tables e below (s₁.setTop (mkF m 36 #[.val (.int (Int32.ofNat 3)), .val (.int a0), .val (.int a1), .val (.int a2), .val (.int (Int32.ofNat 3)), .val (.int b0), .val (.int b1), .val (.int b2)] [(.int (3 : Int32)), (.int (Int32.ofNat 3))])) _
          refine XS.icmpNo X0.here hx rfl (hb hby dS_36) rfl (by decide) ?_
          show Steps p.tables e below (s₁.setTop (mkF m 39 #[.val (.int (Int32.ofNat 3)), .val (.int a0), .val (.int a1), .val (.int a2), .val (.int (Int32.ofNat 3)), .val (.int b0), .val (.int b1), .val (.int b2)] [])) _
          refine XS.iloadN X0.here hx rfl (hb hby dS_39) rfl ?_
          show Steps p.tables e below (s₁.setTop (mkF m 40 #[.val (.int (Int32.ofNat 3)), .val (.int a0), .val (.int a1), .val (.int a2), .val (.int (Int32.ofNat 3)), .val (.int b0), .val (.int b1), .val (.int b2)] [(.int a2)])) _
          refine XS.iload X0.here hx rfl (hb hby dS_40) rfl ?_
          show Steps p.tables e below (s₁.setTop (mkF m 42 #[.val (.int (Int32.ofNat 3)), .val (.int a0), .val (.int a1), .val (.int a2), .val (.int (Int32.ofNat 3)), .val (.int b0), .val (.int b1), .val (.int b2)] [(.int b2), (.int a2)])) _
          refine XS.icmpNo X0.here hx rfl (hb hby dS_42) rfl (feq q2).1 ?_
          show Steps p.tables e below (s₁.setTop (mkF m 45 #[.val (.int (Int32.ofNat 3)), .val (.int a0), .val (.int a1), .val (.int a2), .val (.int (Int32.ofNat 3)), .val (.int b0), .val (.int b1), .val (.int b2)] [])) _
          refine XS.iconst X0.here hx rfl (hb hby dS_45) ?_
          exact kt
        refine ⟨(1 : Int32), 48, (own_eq_t (by simp [q0, q1, q2])).symm, by decide, hb hby dS_48, fun target kt => ?_⟩
        show Steps p.tables e below (s₁.setTop (mkF m 0 #[.val (.int (Int32.ofNat 3)), .val (.int a0), .val (.int a1), .val (.int a2), .val (.int (Int32.ofNat 3)), .val (.int b0), .val (.int b1), .val (.int b2)] [])) _
        refine XS.iloadN X0.here hx rfl (hb hby dS_0) rfl ?_
        show Steps p.tables e below (s₁.setTop (mkF m 1 #[.val (.int (Int32.ofNat 3)), .val (.int a0), .val (.int a1), .val (.int a2), .val (.int (Int32.ofNat 3)), .val (.int b0), .val (.int b1), .val (.int b2)] [(.int (Int32.ofNat 3))])) _
        refine XS.iload X0.here hx rfl (hb hby dS_1) rfl ?_
        show Steps p.tables e below (s₁.setTop (mkF m 3 #[.val (.int (Int32.ofNat 3)), .val (.int a0), .val (.int a1), .val (.int a2), .val (.int (Int32.ofNat 3)), .val (.int b0), .val (.int b1), .val (.int b2)] [(.int (Int32.ofNat 3)), (.int (Int32.ofNat 3))])) _
        refine XS.icmpYes X0.here hx rfl (pc0 := 3) (pc' := 8) rfl (hb hby dS_3) rfl (by decide) (by decide) (by decide) ?_
        show Steps p.tables e below (s₁.setTop (mkF m 8 #[.val (.int (Int32.ofNat 3)), .val (.int a0), .val (.int a1), .val (.int a2), .val (.int (Int32.ofNat 3)), .val (.int b0), .val (.int b1), .val (.int b2)] [])) _
        refine XS.iloadN X0.here hx rfl (hb hby dS_8) rfl ?_
        show Steps p.tables e below (s₁.setTop (mkF m 9 #[.val (.int (Int32.ofNat 3)), .val (.int a0), .val (.int a1), .val (.int a2), .val (.int (Int32.ofNat 3)), .val (.int b0), .val (.int b1), .val (.int b2)] [(.int (Int32.ofNat 3))])) _
        refine XS.iconst X0.here hx rfl (hb hby dS_9) ?_
        show Steps p.tables e below (s₁.setTop (mkF m 10 #[.val (.int (Int32.ofNat 3)), .val (.int a0), .val (.int a1), .val (.int a2), .val (.int (Int32.ofNat 3)), .val (.int b0), .val (.int b1), .val (.int b2)] [(.int (1 : Int32)), (.int (Int32.ofNat 3))])) _
        refine XS.icmpNo X0.here hx rfl (hb hby dS_10) rfl (by decide) ?_
        show Steps p.tables e below (s₁.setTop (mkF m 13 #[.val (.int (Int32.ofNat 3)), .val (.int a0), .val (.int a1), .val (.int a2), .val (.int (Int32.ofNat 3)), .val (.int b0), .val (.int b1), .val (.int b2)] [])) _
        refine XS.iloadN X0.here hx rfl (hb hby dS_13) rfl ?_
        show Steps p.tables e below (s₁.setTop (mkF m 14 #[.val (.int (Int32.ofNat 3)), .val (.int a0), .val (.int a1), .val (.int a2), .val (.int (Int32.ofNat 3)), .val (.int b0), .val (.int b1), .val (.int b2)] [(.int a0)])) _
        refine XS.iload X0.here hx rfl (hb hby dS_14) rfl ?_
        show Steps p.tables e below (s₁.setTop (mkF m 16 #[.val (.int (Int32.ofNat 3)), .val (.int a0), .val (.int a1), .val (.int a2), .val (.int (Int32.ofNat 3)), .val (.int b0), .val (.int b1), .val (.int b2)] [(.int b0), (.int a0)])) _
        refine XS.icmpYes X0.here hx rfl (pc0 := 16) (pc' := 21) rfl (hb hby dS_16) rfl (teq q0).1 (by decide) (by decide) ?_
        show Steps p.tables e below (s₁.setTop (mkF m 21 #[.val (.int (Int32.ofNat 3)), .val (.int a0), .val (.int a1), .val (.int a2), .val (.int (Int32.ofNat 3)), .val (.int b0), .val (.int b1), .val (.int b2)] [])) _
        refine XS.iloadN X0.here hx rfl (hb hby dS_21) rfl ?_
        show Steps p.tables e below (s₁.setTop (mkF m 22 #[.val (.int (Int32.ofNat 3)), .val (.int a0), .val (.int a1), .val (.int a2), .val (.int (Int32.ofNat 3)), .val (.int b0), .val (.int b1), .val (.int b2)] [(.int (Int32.ofNat 3))])) _
        refine XS.iconst X0.here hx rfl (hb hby dS_22) ?_
        show Steps p.tables e below (s₁.setTop (mkF m 23 #[.val (.int (Int32.ofNat 3)), .val (.int a0), .val (.int a1), .val (.int a2), .val (.int (Int32.ofNat 3)), .val (.int b0), .val (.int b1), .val (.int b2)] [(.int (2 : Int32)), (.int (Int32.ofNat 3))])) _
        refine XS.icmpNo X0.here hx rfl (hb hby dS_23) rfl (by decide) ?_
        show Steps p.tables e below (s₁.setTop (mkF m 26 #[.val (.int (Int32.ofNat 3)), .val (.int a0), .val (.int a1), .val (.int a2), .val (.int (Int32.ofNat 3)), .val (.int b0), .val (.int b1), .val (.int b2)] [])) _
        refine XS.iloadN X0.here hx rfl (hb hby dS_26) rfl ?_
        show Steps p.tables e below (s₁.setTop (mkF m 27 #[.val (.int (Int32.ofNat 3)), .val (.int a0), .val (.int a1), .val (.int a2), .val (.int (Int32.ofNat 3)), .val (.int b0), .val (.int b1), .val (.int b2)] [(.int a1)])) _
        refine XS.iload X0.here hx rfl (hb hby dS_27) rfl ?_
        show Steps p.tables e below (s₁.setTop (mkF m 29 #[.val (.int (Int32.ofNat 3)), .val (.int a0), .val (.int a1), .val (.int a2), .val (.int (Int32.ofNat 3)), .val (.int b0), .val (.int b1), .val (.int b2)] [(.int b1), (.int a1)])) _
        refine XS.icmpYes X0.here hx rfl (pc0 := 29) (pc' := 34) rfl (hb hby dS_29) rfl (teq q1).1 (by decide) (by decide) ?_
        show Steps p.tables e below (s₁.setTop (mkF m 34 #[.val (.int (Int32.ofNat 3)), .val (.int a0), .val (.int a1), .val (.int a2), .val (.int (Int32.ofNat 3)), .val (.int b0), .val (.int b1), .val (.int b2)] [])) _
        refine XS.iloadN X0.here hx rfl (hb hby dS_34) rfl ?_
        show Steps p.tables e below (s₁.setTop (mkF m 35 #[.val (.int (Int32.ofNat 3)), .val (.int a0), .val (.int a1), .val (.int a2), .val (.int (Int32.ofNat 3)), .val (.int b0), .val (.int b1), .val (.int b2)] [(.int (Int32.ofNat 3))])) _
        refine XS.iconst X0.here hx rfl (hb hby dS_35) ?_
        show Steps p.tables e below (s₁.setTop (mkF m 36 #[.val (.int (Int32.ofNat 3)), .val (.int a0), .val (.int a1), .val (.int a2), .val (.int (Int32.ofNat 3)), .val (.int b0), .val (.int b1), .val (.int b2)] [(.int (3 : Int32)), (.int (Int32.ofNat 3))])) _
        refine XS.icmpNo X0.here hx rfl (hb hby dS_36) rfl (by decide) ?_
        show Steps p.tables e below (s₁.setTop (mkF m 39 #[.val (.int (Int32.ofNat 3)), .val (.int a0), .val (.int a1), .val (.int a2), .val (.int (Int32.ofNat 3)), .val (.int b0), .val (.int b1), .val (.int b2)] [])) _
        refine XS.iloadN X0.here hx rfl (hb hby dS_39) rfl ?_
        show Steps p.tables e below (s₁.setTop (mkF m 40 #[.val (.int (Int32.ofNat 3)), .val (.int a0), .val (.int a1), .val (.int a2), .val (.int (Int32.ofNat 3)), .val (.int b0), .val (.int b1), .val (.int b2)] [(.int a2)])) _
        refine XS.iload X0.here hx rfl (hb hby dS_40) rfl ?_
        show Steps p.tables e below (s₁.setTop (mkF m 42 #[.val (.int (Int32.ofNat 3)), .val (.int a0), .val (.int a1), .val (.int a2), .val (.int (Int32.ofNat 3)), .val (.int b0), .val (.int b1), .val (.int b2)] [(.int b2), (.int a2)])) _
        refine XS.icmpYes X0.here hx rfl (pc0 := 42) (pc' := 47) rfl (hb hby dS_42) rfl (teq q2).1 (by decide) (by decide) ?_
        show Steps p.tables e below (s₁.setTop (mkF m 47 #[.val (.int (Int32.ofNat 3)), .val (.int a0), .val (.int a1), .val (.int a2), .val (.int (Int32.ofNat 3)), .val (.int b0), .val (.int b1), .val (.int b2)] [])) _
        refine XS.iconst X0.here hx rfl (hb hby dS_47) ?_
        exact kt
    · refine ⟨(0 : Int32), 7, (own_eq_f (fun q => hnk (by have q := congrArg List.length q; rwa [own_tk a0 a1 a2 hn, own_tk b0 b1 b2 hk] at q))).symm, by decide, hb hby dS_7, fun target kt => ?_⟩
      show Steps p.tables e below (s₁.setTop (mkF m 0 #[.val (.int (Int32.ofNat n)), .val (.int a0), .val (.int a1), .val (.int a2), .val (.int (Int32.ofNat k)), .val (.int b0), .val (.int b1), .val (.int b2)] [])) _
      refine XS.iloadN X0.here hx rfl (hb hby dS_0) rfl ?_
      show Steps p.tables e below (s₁.setTop (mkF m 1 #[.val (.int (Int32.ofNat n)), .val (.int a0), .val (.int a1), .val (.int a2), .val (.int (Int32.ofNat k)), .val (.int b0), .val (.int b1), .val (.int b2)] [(.int (Int32.ofNat n))])) _
      refine XS.iload X0.here hx rfl (hb hby dS_1) rfl ?_
      show Steps p.tables e below (s₁.setTop (mkF m 3 #[.val (.int (Int32.ofNat n)), .val (.int a0), .val (.int a1), .val (.int a2), .val (.int (Int32.ofNat k)), .val (.int b0), .val (.int b1), .val (.int b2)] [(.int (Int32.ofNat k)), (.int (Int32.ofNat n))])) _
      refine XS.icmpNo X0.here hx rfl (hb hby dS_3) rfl (feq (own_of hn hk hnk)).1 ?_
      show Steps p.tables e below (s₁.setTop (mkF m 6 #[.val (.int (Int32.ofNat n)), .val (.int a0), .val (.int a1), .val (.int a2), .val (.int (Int32.ofNat k)), .val (.int b0), .val (.int b1), .val (.int b2)] [])) _
      refine XS.iconst X0.here hx rfl (hb hby dS_6) ?_
      exact kt
  obtain ⟨r, pc, rfl, hrn, hd, st⟩ := key
  obtain ⟨fs, hr, hrun, hended, hW, hsame⟩ := X0.leave (v := some (.int (own_eq ([a0, a1, a2].take n) ([b0, b1, b2].take k)))) (fun h => by rw [Bd.returns] at h; cases h)
  refine ⟨_, _, castTop (efS m (Int32.ofNat n) a0 a1 a2 (Int32.ofNat k) b0 b1 b2) (st _ ?_), hrun, hended, _, _, rfl, ⟨rfl, Fr.nil n0, e0⟩, ⟨_, rfl⟩, hW, hsame.mono (by decide) (by decide)⟩
  exact retN X0 hx (t := .boolean) Bd.returns (by simp) hd (by rw [hrn]; exact hr)
theorem dI_0 : decode prog_47_method_1_code 0 = .ok (.aload_n 0, 1) := by decide +kernel
theorem dI_1 : decode prog_47_method_1_code 1 = .ok (.invokespecial 3, 3) := by decide +kernel
theorem dI_4 : decode prog_47_method_1_code 4 = .ok (.aload_n 0, 1) := by decide +kernel
theorem dI_5 : decode prog_47_method_1_code 5 = .ok (.aload_n 1, 1) := by decide +kernel
theorem dI_6 : decode prog_47_method_1_code 6 = .ok (.putfield 9, 3) := by decide +kernel
theorem dI_9 : decode prog_47_method_1_code 9 = .ok (.return_, 1) := by decide +kernel
theorem pn_C : plainName "com/example/bare_migrate/baremigrate/Migration$Script" = true := by first | (simp [plainName, overriddenIn]; done) | decide +kernel
theorem efI (m : MethodId) (x0 : Addr) (x1 : Addr) : entryFrame m #[(.ref x0), (.ref x1)] 2 = mkF m 0 #[.val (.ref x0), .val (.ref x1)] [] := by first | (simp [entryFrame, mkF, argsToLocals, Value.category, maxLocals]; done) | rfl
theorem pdI : parseMethodDescriptor "(Ljava/lang/String;)V" = some ⟨[(.object "java/lang/String")], none⟩ := by decide +kernel
def own_QI (Z : State) (a t : Addr) (h0 : Heap) (n0 : Nat) (v : Option Value) (h : Heap) (L : List Loc) : Prop := v = none ∧ Fr n0 L ∧ Keep h0 h [a] ∧ Exa Z h a "com/example/bare_migrate/baremigrate/Migration$Script" ∧ Fld Z h a "com/example/bare_migrate/baremigrate/Migration$Script" "text" "Ljava/lang/String;" (.ref t)
set_option maxRecDepth 65536 in
set_option maxHeartbeats 40000000 in
theorem rmI (l : Launch) (Z : State) (a0 : Array Value) (hw : ∀ d ∈ tables_1, d.before a0 Z = true) (a t : Addr) (h0 : Heap) (n0 : Nat) (ge : n0 ≤ a) (Ea : Exa Z h0 a "com/example/bare_migrate/baremigrate/Migration$Script") (Ft : Fld Z h0 a "com/example/bare_migrate/baremigrate/Migration$Script" "text" "Ljava/lang/String;" .null) :
    MetFree l (⟨"com/example/bare_migrate/baremigrate/Migration$Script", "<init>", "(Ljava/lang/String;)V"⟩ : MethodName) (head1 [Jvm.Cond.code (⟨"com/example/bare_migrate/baremigrate/Migration$Script", "<init>", "(Ljava/lang/String;)V"⟩ : MethodName) prog_47_method_1_code 2 none] ({ frames := 1, cells := 0, slots := 0, locals := 12 } : Room)) (fun q U => q = #[(.ref a), (.ref t)] ∧ Z.Warmed39 U.vm ∧ U.heap = h0) (fun _ _ _ _ _ => True) (fun _ U o U' => ∃ v L, o = .returned v ∧ own_QI Z a t h0 n0 v U'.heap L ∧ FrameEnd U o U' L ({ frames := 1, cells := 0, slots := 0, locals := 12 } : Room).cells ({ frames := 1, cells := 0, slots := 0, locals := 12 } : Room).slots) := by
  refine MetFree.of_bodySF (plainFor_of_name pn_C) hisR ?_
  intro p e s m args below meth c s₁ Bd hml0 hP hK
  obtain ⟨rfl, hZ, hh⟩ := hP
  have hx := Bd.exec
  have hby := Bd.bytes
  have hml : c.maxLocals = 2 := hml0
  have hown : s.vm.findClass "com/example/bare_migrate/baremigrate/Migration$Script" = some m.cls := findClass_of_methodNamed Bd.named
  have hnm := (name_of_methodNamed Bd.named Bd.method).1
  have X0 : Stand p l e ({ frames := 1, cells := 0, slots := 0, locals := 12 } : Room) s m #[(.ref a), (.ref t)] below meth c s₁ [] 0 0 := Stand.of_body Bd
  have e0 : s₁.heap = h0 := by rw [← hh, Bd.state]; rfl
  have sg1 : ∀ target, Steps p.tables e below (s₁.setTop (mkF m 1 #[.val (.ref a), .val (.ref t)] [(.ref a)])) target → Steps p.tables e below (s₁.setTop (mkF m 0 #[.val (.ref a), .val (.ref t)] [])) target := by
    intro target kt
    show Steps p.tables e below (s₁.setTop (mkF m 0 #[.val (.ref a), .val (.ref t)] [])) _
    refine XS.aloadN X0.here hx rfl (hb hby dI_0) rfl rfl ?_
    show Steps p.tables e below (s₁.setTop (mkF m 1 #[.val (.ref a), .val (.ref t)] [(.ref a)])) _
    exact kt
  obtain ⟨T1, X1, e1, st1⟩ := initO X0 hx hZ hown (hw _ (List.mem_of_getElem? (i := 41) rfl)) (hw _ (List.mem_of_getElem? (i := 17) rfl)) (hw _ (List.mem_of_getElem? (i := 18) rfl)) e0 (g := (mkF m 1 #[.val (.ref a), .val (.ref t)] [(.ref a)])) rfl (by rw [hml]; rfl) rfl (hb hby dI_1) (by decide) (W := 0) (by show 2 * 0 + _ ≤ _; exact Nat.le_of_eq rfl) (by decide)
  have sg2 : ∀ target, Steps p.tables e below (T1.setTop (mkF m 6 #[.val (.ref a), .val (.ref t)] [(.ref t), (.ref a)])) target → Steps p.tables e below (T1.setTop (mkF m 4 #[.val (.ref a), .val (.ref t)] [])) target := by
    intro target kt
    show Steps p.tables e below (T1.setTop (mkF m 4 #[.val (.ref a), .val (.ref t)] [])) _
    refine XS.aloadN X1.here hx rfl (hb hby dI_4) rfl rfl ?_
    show Steps p.tables e below (T1.setTop (mkF m 5 #[.val (.ref a), .val (.ref t)] [(.ref a)])) _
    refine XS.aloadN X1.here hx rfl (hb hby dI_5) rfl rfl ?_
    show Steps p.tables e below (T1.setTop (mkF m 6 #[.val (.ref a), .val (.ref t)] [(.ref t), (.ref a)])) _
    exact kt
  obtain ⟨T3, h3, X3, e3, W3, st3⟩ := putF X1 hx hZ hown (host := "") (Or.inl (hw _ (List.mem_of_getElem? (i := 42) rfl))) Via.refl e1 Ft Ea (Or.inr ⟨(hw _ (List.mem_of_getElem? (i := 43) rfl)), rfl, hnm⟩) (hw _ (List.mem_of_getElem? (i := 36) rfl)) (ty := (.object "java/lang/String")) (by decide) rfl rfl (g := (mkF m 6 #[.val (.ref a), .val (.ref t)] [(.ref t), (.ref a)])) rfl rfl (hb hby dI_6)
  obtain ⟨fs, hr, hrun, hended, hW, hsame⟩ := X3.leave (v := none) (fun _ => rfl)
  refine ⟨_, _, castTop (efI m a t) ?_, hrun, hended, _, _, rfl, ?_, ⟨_, rfl⟩, hW, hsame.mono (by decide) (by decide)⟩
  · show Steps p.tables e below (s₁.setTop (mkF m 0 #[.val (.ref a), .val (.ref t)] [])) _
    refine sg1 _ ?_
    show Steps p.tables e below (s₁.setTop (mkF m 1 #[.val (.ref a), .val (.ref t)] [(.ref a)])) _
    refine st1 _ ?_
    show Steps p.tables e below (T1.setTop (mkF m 4 #[.val (.ref a), .val (.ref t)] [])) _
    refine sg2 _ ?_
    show Steps p.tables e below (T1.setTop (mkF m 6 #[.val (.ref a), .val (.ref t)] [(.ref t), (.ref a)])) _
    refine st3 _ ?_
    show Steps p.tables e below (T3.setTop (mkF m 9 #[.val (.ref a), .val (.ref t)] [])) _
    exact X3.returnOut hx Bd.returns (hb hby dI_9) hr
  · show own_QI Z a t h0 n0 _ T3.heap _
    rw [e3]
    exact ⟨rfl, Fr.snoc X3 (Fr.nil n0) ge, (Keep.refl _ _).wr W3 (Or.inl (List.mem_cons_self ..)), Ea.wr W3, Fld.same W3 Ft⟩
theorem dQ_0 : decode prog_47_method_6_code 0 = .ok (.aload_n 1, 1) := by decide +kernel
theorem dQ_1 : decode prog_47_method_6_code 1 = .ok (.instanceof 10, 3) := by decide +kernel
theorem dQ_4 : decode prog_47_method_6_code 4 = .ok (.ifCond .eq 26, 3) := by decide +kernel
theorem dQ_7 : decode prog_47_method_6_code 7 = .ok (.aload_n 1, 1) := by decide +kernel
theorem dQ_8 : decode prog_47_method_6_code 8 = .ok (.checkcast 10, 3) := by decide +kernel
theorem dQ_11 : decode prog_47_method_6_code 11 = .ok (.astore_n 2, 1) := by decide +kernel
theorem dQ_12 : decode prog_47_method_6_code 12 = .ok (.aload_n 0, 1) := by decide +kernel
theorem dQ_13 : decode prog_47_method_6_code 13 = .ok (.getfield 9, 3) := by decide +kernel
theorem dQ_16 : decode prog_47_method_6_code 16 = .ok (.aload_n 2, 1) := by decide +kernel
theorem dQ_17 : decode prog_47_method_6_code 17 = .ok (.getfield 9, 3) := by decide +kernel
theorem dQ_20 : decode prog_47_method_6_code 20 = .ok (.invokevirtual 102, 3) := by decide +kernel
theorem dQ_23 : decode prog_47_method_6_code 23 = .ok (.ifCond .eq 7, 3) := by decide +kernel
theorem dQ_26 : decode prog_47_method_6_code 26 = .ok (.iconst 1, 1) := by decide +kernel
theorem dQ_27 : decode prog_47_method_6_code 27 = .ok (.goto 4, 3) := by decide +kernel
theorem dQ_30 : decode prog_47_method_6_code 30 = .ok (.iconst 0, 1) := by decide +kernel
theorem dQ_31 : decode prog_47_method_6_code 31 = .ok (.ireturn, 1) := by decide +kernel
theorem efQ (m : MethodId) (x0 : Addr) (x1 : Addr) : entryFrame m #[(.ref x0), (.ref x1)] 3 = mkF m 0 #[.val (.ref x0), .val (.ref x1), .unset] [] := by first | (simp [entryFrame, mkF, argsToLocals, Value.category, maxLocals]; done) | rfl
theorem efQn (m : MethodId) (x0 : Addr) : entryFrame m #[(.ref x0), .null] 3 = mkF m 0 #[.val (.ref x0), .val .null, .unset] [] := by first | (simp [entryFrame, mkF, argsToLocals, Value.category]; done) | rfl
theorem pdQ : parseMethodDescriptor "(Ljava/lang/Object;)Z" = some ⟨[(.object "java/lang/Object")], some .boolean⟩ := by decide +kernel
set_option maxRecDepth 65536 in
set_option maxHeartbeats 40000000 in
theorem rmQn (l : Launch) (Z : State) (a0 : Array Value) (hw : ∀ d ∈ tables_1, d.before a0 Z = true) (a : Addr) (h0 : Heap) (n0 : Nat)  :
    MetFree l (⟨"com/example/bare_migrate/baremigrate/Migration$Script", "equals", "(Ljava/lang/Object;)Z"⟩ : MethodName) (head1 [Jvm.Cond.code (⟨"com/example/bare_migrate/baremigrate/Migration$Script", "equals", "(Ljava/lang/Object;)Z"⟩ : MethodName) prog_47_method_6_code 3 (some .boolean)] ({ frames := 3, cells := 0, slots := 0, locals := 60 } : Room)) (fun q U => q = #[(.ref a), .null] ∧ Z.Warmed39 U.vm ∧ U.heap = h0) (fun _ _ _ _ _ => True) (fun _ U o U' => ∃ v L, o = .returned v ∧ own_QS n0 (0 : Int32) h0 v U'.heap L ∧ FrameEnd U o U' L ({ frames := 3, cells := 0, slots := 0, locals := 60 } : Room).cells ({ frames := 3, cells := 0, slots := 0, locals := 60 } : Room).slots) := by
  refine MetFree.of_bodySF (plainFor_of_name pn_C) hisR ?_
  intro p e s m args below meth c s₁ Bd hml0 hP hK
  obtain ⟨rfl, hZ, hh⟩ := hP
  have hx := Bd.exec
  have hby := Bd.bytes
  have hml : c.maxLocals = 3 := hml0
  have hown : s.vm.findClass "com/example/bare_migrate/baremigrate/Migration$Script" = some m.cls := findClass_of_methodNamed Bd.named
  have X0 : Stand p l e ({ frames := 3, cells := 0, slots := 0, locals := 60 } : Room) s m #[(.ref a), .null] below meth c s₁ [] 0 0 := Stand.of_body Bd
  have e0 : s₁.heap = h0 := by rw [← hh, Bd.state]; rfl
  have sg1 : ∀ target, Steps p.tables e below (s₁.setTop (mkF m 1 #[.val (.ref a), .val .null, .unset] [.null])) target → Steps p.tables e below (s₁.setTop (mkF m 0 #[.val (.ref a), .val .null, .unset] [])) target := by
    intro target kt
    show Steps p.tables e below (s₁.setTop (mkF m 0 #[.val (.ref a), .val .null, .unset] [])) _
    refine XS.aloadN X0.here hx rfl (hb hby dQ_0) rfl rfl ?_
    show Steps p.tables e below (s₁.setTop (mkF m 1 #[.val (.ref a), .val .null, .unset] [.null])) _
    exact kt
  have st1 := X0.instanceofNull hx (g := (mkF m 1 #[.val (.ref a), .val .null, .unset] [.null])) rfl rfl (hb hby dQ_1)
  have sg2 : ∀ target, Steps p.tables e below (s₁.setTop (mkF m 31 #[.val (.ref a), .val .null, .unset] [(.int (0 : Int32))])) target → Steps p.tables e below (s₁.setTop (mkF m 4 #[.val (.ref a), .val .null, .unset] [(.int (0 : Int32))])) target := by
    intro target kt
    show Steps p.tables e below (s₁.setTop (mkF m 4 #[.val (.ref a), .val .null, .unset] [(.int (0 : Int32))])) _
    refine XS.ifYes X0.here hx rfl (pc0 := 4) (pc' := 30) rfl (hb hby dQ_4) rfl (by decide) (by decide) (by decide) ?_
    show Steps p.tables e below (s₁.setTop (mkF m 30 #[.val (.ref a), .val .null, .unset] [])) _
    refine XS.iconst X0.here hx rfl (hb hby dQ_30) ?_
    show Steps p.tables e below (s₁.setTop (mkF m 31 #[.val (.ref a), .val .null, .unset] [(.int (0 : Int32))])) _
    exact kt
  obtain ⟨fs, hr, hrun, hended, hW, hsame⟩ := X0.leave (v := some (.int (0 : Int32))) (fun h => by rw [Bd.returns] at h; cases h)
  refine ⟨_, _, castTop (efQn m a) ?_, hrun, hended, _, _, rfl, ⟨rfl, Fr.nil n0, e0⟩, ⟨_, rfl⟩, hW, hsame.mono (by decide) (by decide)⟩
  show Steps p.tables e below (s₁.setTop (mkF m 0 #[.val (.ref a), .val .null, .unset] [])) _
  refine sg1 _ ?_
  show Steps p.tables e below (s₁.setTop (mkF m 1 #[.val (.ref a), .val .null, .unset] [.null])) _
  refine st1 _ ?_
  show Steps p.tables e below (s₁.setTop (mkF m 4 #[.val (.ref a), .val .null, .unset] [(.int (0 : Int32))])) _
  refine sg2 _ ?_
  show Steps p.tables e below (s₁.setTop (mkF m 31 #[.val (.ref a), .val .null, .unset] [(.int (0 : Int32))])) _
  exact retN X0 hx (t := .boolean) Bd.returns (by simp) (hb hby dQ_31) hr
theorem own_noScript {Z : State} {a0 : Array Value} (hw : ∀ d ∈ tables_1, d.before a0 Z = true) : ∃ c t, Z.vm.findClass "java/lang/String" = some c ∧ Z.vm.findClass "com/example/bare_migrate/baremigrate/Migration$Script" = some t ∧ Z.vm.assignable c t = false := by
  have w := (hw _ (List.mem_of_getElem? (i := 67) rfl))
  have wo := (hw _ (List.mem_of_getElem? (i := 68) rfl))
  have wk := (hw _ (List.mem_of_getElem? (i := 36) rfl))
  obtain ⟨c0, k0, i1, i2, i3, -, -⟩ := Cond.noSuperclass_spec wo
  obtain ⟨t, kt, g1, g2, g3, g4, g5, g6⟩ := Cond.instantiable_spec wk
  have n0 : NS Z "java/lang/Object" "com/example/bare_migrate/baremigrate/Migration$Script" := ⟨c0, t, i1, g1, fun fuel => by
    have ne := ids_ne i1 g1 (by decide)
    cases fuel with
    | zero => rfl
    | succ f => simp [Vm.isSubclassAux, ne, i2, i3]⟩
  obtain ⟨c, t', h0, g0, n3⟩ := NS.step w n0 (by decide)
  cases g0.symm.trans g1
  obtain ⟨p, k, kp, h1, h2, h3, h4, h5, -, h7⟩ := Cond.superclass_spec h0 w
  have ne := ids_ne h0 g0 (by decide)
  refine ⟨c, t, h0, g0, ?_⟩
  show Z.vm.assignableAux (255 + 1) c t = false
  have gi := (Bool.or_eq_false_iff.mp g4).1
  simp [Vm.assignableAux, ne, h2, g2, h5, g3, gi, Vm.isSubclass, n3]
set_option maxRecDepth 65536 in
set_option maxHeartbeats 40000000 in
theorem rmQs (l : Launch) (Z : State) (a0 : Array Value) (hw : ∀ d ∈ tables_1, d.before a0 Z = true) (a : Addr) (h0 : Heap) (n0 : Nat) (t : Addr) (Et : Exa Z h0 t "java/lang/String") :
    MetFree l (⟨"com/example/bare_migrate/baremigrate/Migration$Script", "equals", "(Ljava/lang/Object;)Z"⟩ : MethodName) (head1 [Jvm.Cond.code (⟨"com/example/bare_migrate/baremigrate/Migration$Script", "equals", "(Ljava/lang/Object;)Z"⟩ : MethodName) prog_47_method_6_code 3 (some .boolean)] ({ frames := 3, cells := 0, slots := 0, locals := 60 } : Room)) (fun q U => q = #[(.ref a), (.ref t)] ∧ Z.Warmed39 U.vm ∧ U.heap = h0) (fun _ _ _ _ _ => True) (fun _ U o U' => ∃ v L, o = .returned v ∧ own_QS n0 (0 : Int32) h0 v U'.heap L ∧ FrameEnd U o U' L ({ frames := 3, cells := 0, slots := 0, locals := 60 } : Room).cells ({ frames := 3, cells := 0, slots := 0, locals := 60 } : Room).slots) := by
  refine MetFree.of_bodySF (plainFor_of_name pn_C) hisR ?_
  intro p e s m args below meth c s₁ Bd hml0 hP hK
  obtain ⟨rfl, hZ, hh⟩ := hP
  have hx := Bd.exec
  have hby := Bd.bytes
  have hml : c.maxLocals = 3 := hml0
  have hown : s.vm.findClass "com/example/bare_migrate/baremigrate/Migration$Script" = some m.cls := findClass_of_methodNamed Bd.named
  have X0 : Stand p l e ({ frames := 3, cells := 0, slots := 0, locals := 60 } : Room) s m #[(.ref a), (.ref t)] below meth c s₁ [] 0 0 := Stand.of_body Bd
  have e0 : s₁.heap = h0 := by rw [← hh, Bd.state]; rfl
  have sg1 : ∀ target, Steps p.tables e below (s₁.setTop (mkF m 1 #[.val (.ref a), .val (.ref t), .unset] [(.ref t)])) target → Steps p.tables e below (s₁.setTop (mkF m 0 #[.val (.ref a), .val (.ref t), .unset] [])) target := by
    intro target kt
    show Steps p.tables e below (s₁.setTop (mkF m 0 #[.val (.ref a), .val (.ref t), .unset] [])) _
    refine XS.aloadN X0.here hx rfl (hb hby dQ_0) rfl rfl ?_
    show Steps p.tables e below (s₁.setTop (mkF m 1 #[.val (.ref a), .val (.ref t), .unset] [(.ref t)])) _
    exact kt
  obtain ⟨T1, X1, e1, st1⟩ := instNo X0 hx hZ hown (hw _ (List.mem_of_getElem? (i := 52) rfl)) e0 Et (own_noScript hw) (g := (mkF m 1 #[.val (.ref a), .val (.ref t), .unset] [(.ref t)])) rfl rfl (hb hby dQ_1)
  have sg2 : ∀ target, Steps p.tables e below (T1.setTop (mkF m 31 #[.val (.ref a), .val (.ref t), .unset] [(.int (0 : Int32))])) target → Steps p.tables e below (T1.setTop (mkF m 4 #[.val (.ref a), .val (.ref t), .unset] [(.int (0 : Int32))])) target := by
    intro target kt
    show Steps p.tables e below (T1.setTop (mkF m 4 #[.val (.ref a), .val (.ref t), .unset] [(.int (0 : Int32))])) _
    refine XS.ifYes X1.here hx rfl (pc0 := 4) (pc' := 30) rfl (hb hby dQ_4) rfl (by decide) (by decide) (by decide) ?_
    show Steps p.tables e below (T1.setTop (mkF m 30 #[.val (.ref a), .val (.ref t), .unset] [])) _
    refine XS.iconst X1.here hx rfl (hb hby dQ_30) ?_
    show Steps p.tables e below (T1.setTop (mkF m 31 #[.val (.ref a), .val (.ref t), .unset] [(.int (0 : Int32))])) _
    exact kt
  obtain ⟨fs, hr, hrun, hended, hW, hsame⟩ := X1.leave (v := some (.int (0 : Int32))) (fun h => by rw [Bd.returns] at h; cases h)
  refine ⟨_, _, castTop (efQ m a t) ?_, hrun, hended, _, _, rfl, ⟨rfl, Fr.nil n0, e1⟩, ⟨_, rfl⟩, hW, hsame.mono (by decide) (by decide)⟩
  show Steps p.tables e below (s₁.setTop (mkF m 0 #[.val (.ref a), .val (.ref t), .unset] [])) _
  refine sg1 _ ?_
  show Steps p.tables e below (s₁.setTop (mkF m 1 #[.val (.ref a), .val (.ref t), .unset] [(.ref t)])) _
  refine st1 _ ?_
  show Steps p.tables e below (T1.setTop (mkF m 4 #[.val (.ref a), .val (.ref t), .unset] [(.int (0 : Int32))])) _
  refine sg2 _ ?_
  show Steps p.tables e below (T1.setTop (mkF m 31 #[.val (.ref a), .val (.ref t), .unset] [(.int (0 : Int32))])) _
  exact retN X1 hx (t := .boolean) Bd.returns (by simp) (hb hby dQ_31) hr
set_option maxRecDepth 65536 in
set_option maxHeartbeats 40000000 in
theorem rmQ (l : Launch) (Z : State) (a0 : Array Value) (hw : ∀ d ∈ tables_1, d.before a0 Z = true) (a : Addr) (h0 : Heap) (n0 : Nat) (b x y : Addr) (cs ds : List Int32) (lx : own_lat cs) (ly : own_lat ds) (hx4 : cs.length ≤ 4000) (hy4 : ds.length ≤ 4000) (G : Int32) (O : Sta Z h0 "java/lang/String" "COMPACT_STRINGS" "Z" (.int G)) (hG : ¬ G = 0) (Ea : Exa Z h0 a "com/example/bare_migrate/baremigrate/Migration$Script") (Fa : Fld Z h0 a "com/example/bare_migrate/baremigrate/Migration$Script" "text" "Ljava/lang/String;" (.ref x)) (Eb : Exa Z h0 b "com/example/bare_migrate/baremigrate/Migration$Script") (Fb : Fld Z h0 b "com/example/bare_migrate/baremigrate/Migration$Script" "text" "Ljava/lang/String;" (.ref y)) (Sx : own_Str Z h0 x cs) (Sy : own_Str Z h0 y ds) :
    MetFree l (⟨"com/example/bare_migrate/baremigrate/Migration$Script", "equals", "(Ljava/lang/Object;)Z"⟩ : MethodName) (head1 [Jvm.Cond.code (⟨"com/example/bare_migrate/baremigrate/Migration$Script", "equals", "(Ljava/lang/Object;)Z"⟩ : MethodName) prog_47_method_6_code 3 (some .boolean)] ({ frames := 3, cells := 0, slots := 0, locals := 60 } : Room)) (fun q U => q = #[(.ref a), (.ref b)] ∧ Z.Warmed39 U.vm ∧ U.heap = h0) (fun _ _ _ _ _ => True) (fun _ U o U' => ∃ v L, o = .returned v ∧ own_QS n0 (own_eq cs ds) h0 v U'.heap L ∧ FrameEnd U o U' L ({ frames := 3, cells := 0, slots := 0, locals := 60 } : Room).cells ({ frames := 3, cells := 0, slots := 0, locals := 60 } : Room).slots) := by
  refine MetFree.of_bodySF (plainFor_of_name pn_C) hisR ?_
  intro p e s m args below meth c s₁ Bd hml0 hP hK
  obtain ⟨rfl, hZ, hh⟩ := hP
  have hx := Bd.exec
  have hby := Bd.bytes
  have hml : c.maxLocals = 3 := hml0
  have hown : s.vm.findClass "com/example/bare_migrate/baremigrate/Migration$Script" = some m.cls := findClass_of_methodNamed Bd.named
  have X0 : Stand p l e ({ frames := 3, cells := 0, slots := 0, locals := 60 } : Room) s m #[(.ref a), (.ref b)] below meth c s₁ [] 0 0 := Stand.of_body Bd
  have e0 : s₁.heap = h0 := by rw [← hh, Bd.state]; rfl
  have sg1 : ∀ target, Steps p.tables e below (s₁.setTop (mkF m 1 #[.val (.ref a), .val (.ref b), .unset] [(.ref b)])) target → Steps p.tables e below (s₁.setTop (mkF m 0 #[.val (.ref a), .val (.ref b), .unset] [])) target := by
    intro target kt
    show Steps p.tables e below (s₁.setTop (mkF m 0 #[.val (.ref a), .val (.ref b), .unset] [])) _
    refine XS.aloadN X0.here hx rfl (hb hby dQ_0) rfl rfl ?_
    show Steps p.tables e below (s₁.setTop (mkF m 1 #[.val (.ref a), .val (.ref b), .unset] [(.ref b)])) _
    exact kt
  obtain ⟨T1, X1, e1, st1⟩ := instY X0 hx hZ hown (hw _ (List.mem_of_getElem? (i := 52) rfl)) e0 (Ins.self Eb) (g := (mkF m 1 #[.val (.ref a), .val (.ref b), .unset] [(.ref b)])) rfl rfl (hb hby dQ_1)
  have sg2 : ∀ target, Steps p.tables e below (T1.setTop (mkF m 8 #[.val (.ref a), .val (.ref b), .unset] [(.ref b)])) target → Steps p.tables e below (T1.setTop (mkF m 4 #[.val (.ref a), .val (.ref b), .unset] [(.int (1 : Int32))])) target := by
    intro target kt
    show Steps p.tables e below (T1.setTop (mkF m 4 #[.val (.ref a), .val (.ref b), .unset] [(.int (1 : Int32))])) _
    refine XS.ifNo X1.here hx rfl (hb hby dQ_4) rfl (by decide) ?_
    show Steps p.tables e below (T1.setTop (mkF m 7 #[.val (.ref a), .val (.ref b), .unset] [])) _
    refine XS.aloadN X1.here hx rfl (hb hby dQ_7) rfl rfl ?_
    show Steps p.tables e below (T1.setTop (mkF m 8 #[.val (.ref a), .val (.ref b), .unset] [(.ref b)])) _
    exact kt
  obtain ⟨T2, X2, e2, st2⟩ := castY X1 hx hZ hown (hw _ (List.mem_of_getElem? (i := 52) rfl)) e1 (Ins.self Eb) (g := (mkF m 8 #[.val (.ref a), .val (.ref b), .unset] [(.ref b)])) rfl rfl (hb hby dQ_8)
  have sg3 : ∀ target, Steps p.tables e below (T2.setTop (mkF m 13 #[.val (.ref a), .val (.ref b), .val (.ref b)] [(.ref a)])) target → Steps p.tables e below (T2.setTop (mkF m 11 #[.val (.ref a), .val (.ref b), .unset] [(.ref b)])) target := by
    intro target kt
    show Steps p.tables e below (T2.setTop (mkF m 11 #[.val (.ref a), .val (.ref b), .unset] [(.ref b)])) _
    refine XS.astoreN X2.here hx rfl (hb hby dQ_11) rfl rfl (l' := #[.val (.ref a), .val (.ref b), .val (.ref b)]) rfl ?_
    show Steps p.tables e below (T2.setTop (mkF m 12 #[.val (.ref a), .val (.ref b), .val (.ref b)] [])) _
    refine XS.aloadN X2.here hx rfl (hb hby dQ_12) rfl rfl ?_
    show Steps p.tables e below (T2.setTop (mkF m 13 #[.val (.ref a), .val (.ref b), .val (.ref b)] [(.ref a)])) _
    exact kt
  obtain ⟨T4, X4, e4, st4⟩ := getF X2 hx hZ hown (host := "") (Or.inl (hw _ (List.mem_of_getElem? (i := 42) rfl))) Via.refl e2 Fa (g := (mkF m 13 #[.val (.ref a), .val (.ref b), .val (.ref b)] [(.ref a)])) rfl rfl (hb hby dQ_13)
  have sg5 : ∀ target, Steps p.tables e below (T4.setTop (mkF m 17 #[.val (.ref a), .val (.ref b), .val (.ref b)] [(.ref b), (.ref x)])) target → Steps p.tables e below (T4.setTop (mkF m 16 #[.val (.ref a), .val (.ref b), .val (.ref b)] [(.ref x)])) target := by
    intro target kt
    show Steps p.tables e below (T4.setTop (mkF m 16 #[.val (.ref a), .val (.ref b), .val (.ref b)] [(.ref x)])) _
    refine XS.aloadN X4.here hx rfl (hb hby dQ_16) rfl rfl ?_
    show Steps p.tables e below (T4.setTop (mkF m 17 #[.val (.ref a), .val (.ref b), .val (.ref b)] [(.ref b), (.ref x)])) _
    exact kt
  obtain ⟨T6, X6, e6, st6⟩ := getF X4 hx hZ hown (host := "") (Or.inl (hw _ (List.mem_of_getElem? (i := 42) rfl))) Via.refl e4 Fb (g := (mkF m 17 #[.val (.ref a), .val (.ref b), .val (.ref b)] [(.ref b), (.ref x)])) rfl rfl (hb hby dQ_17)
  obtain ⟨Ex, Cx, tx, kx, Vx, Kx⟩ := Sx
  obtain ⟨Ey, Cy, ty, ky, Vy, Ky⟩ := Sy
  have heq : ∀ d ∈ StrChars.Road.wordsEq, d.before a0 Z = true := fun d hd => hw d (own_heq d hd)
  obtain ⟨cq, kq, qa, qb, qc⟩ := isOf hZ e6 Ex
  obtain ⟨_, _, ⟨T9, L9, k9, n9⟩, -, X9, ⟨Lc9, hQ9, l9, y9, z9⟩, st9⟩ := X6.virtualBack hx (y := (⟨"java/lang/String", "equals", "(Ljava/lang/Object;)Z"⟩ : MethodName)) (z := (⟨"java/lang/String", "equals", "(Ljava/lang/Object;)Z"⟩ : MethodName)) hown (mvT hZ (hw _ (List.mem_of_getElem? (i := 54) rfl))) (mvT hZ (hw _ (List.mem_of_getElem? (i := 55) rfl))) (notFace_of_selects (args := #[]) (mvT hZ (hw _ (List.mem_of_getElem? (i := 57) rfl)))) (mvT hZ (hw _ (List.mem_of_getElem? (i := 57) rfl))) (mvT hZ (hw _ (List.mem_of_getElem? (i := 56) rfl))) (by decide) (StrChars.Road.eqW (W := 0) hZ heq (kI := 4) (hw _ (List.mem_of_getElem? (i := 6) rfl)) Ex Vx Cx Kx (own_cod lx) (own_up lx) hx4 Ey Vy Cy Ky (own_cod ly) (own_up ly) hy4 O hG (by decide) (by decide)) qa qc (g := (mkF m 20 #[.val (.ref a), .val (.ref b), .val (.ref b)] [(.ref y), (.ref x)])) rfl (by rw [hml]; rfl) (Steps.refl _) (argsL := [(.ref y)]) (rest := []) (lenOf pdQ rfl) rfl (by show 2 * 0 + _ ≤ _; exact Nat.le_of_eq rfl) (hb hby dQ_20) (fun _ _ => ⟨rfl, e6, Nat.le_of_ble_eq_true rfl, Nat.le_of_ble_eq_true rfl⟩)
  dsimp only [Pt.U, Pt.locs, Pt.cells, Pt.slots] at X9 l9 y9 z9 st9 hQ9
  subst l9 y9 z9
  obtain ⟨hv9, rfl, e9⟩ := hQ9
  rcases hv9 with ⟨rfl, hcd⟩ | ⟨rfl, hcd⟩
  · rw [own_eq_t hcd]
    have sg7 : ∀ target, Steps p.tables e below (T9.setTop (mkF m 31 #[.val (.ref a), .val (.ref b), .val (.ref b)] [(.int (1 : Int32))])) target → Steps p.tables e below (T9.setTop (mkF m 23 #[.val (.ref a), .val (.ref b), .val (.ref b)] [(.int (1 : Int32))])) target := by
      intro target kt
      show Steps p.tables e below (T9.setTop (mkF m 23 #[.val (.ref a), .val (.ref b), .val (.ref b)] [(.int (1 : Int32))])) _
      refine XS.ifNo X9.here hx rfl (hb hby dQ_23) rfl (by decide) ?_
      show Steps p.tables e below (T9.setTop (mkF m 26 #[.val (.ref a), .val (.ref b), .val (.ref b)] [])) _
      refine XS.iconst X9.here hx rfl (hb hby dQ_26) ?_
      show Steps p.tables e below (T9.setTop (mkF m 27 #[.val (.ref a), .val (.ref b), .val (.ref b)] [(.int (1 : Int32))])) _
      refine XS.goto X9.here hx rfl (pc0 := 27) (pc' := 31) rfl (hb hby dQ_27) (by decide) (by decide) ?_
      show Steps p.tables e below (T9.setTop (mkF m 31 #[.val (.ref a), .val (.ref b), .val (.ref b)] [(.int (1 : Int32))])) _
      exact kt
    obtain ⟨fs, hr, hrun, hended, hW, hsame⟩ := X9.leave (v := some (.int (1 : Int32))) (fun h => by rw [Bd.returns] at h; cases h)
    refine ⟨_, _, castTop (efQ m a b) ?_, hrun, hended, _, _, rfl, ⟨rfl, Fr.nil n0, e9⟩, ⟨_, rfl⟩, hW, hsame.mono (by decide) (by decide)⟩
    show Steps p.tables e below (s₁.setTop (mkF m 0 #[.val (.ref a), .val (.ref b), .unset] [])) _
    refine sg1 _ ?_
    show Steps p.tables e below (s₁.setTop (mkF m 1 #[.val (.ref a), .val (.ref b), .unset] [(.ref b)])) _
    refine st1 _ ?_
    show Steps p.tables e below (T1.setTop (mkF m 4 #[.val (.ref a), .val (.ref b), .unset] [(.int (1 : Int32))])) _
    refine sg2 _ ?_
    show Steps p.tables e below (T1.setTop (mkF m 8 #[.val (.ref a), .val (.ref b), .unset] [(.ref b)])) _
    refine st2 _ ?_
    show Steps p.tables e below (T2.setTop (mkF m 11 #[.val (.ref a), .val (.ref b), .unset] [(.ref b)])) _
    refine sg3 _ ?_
    show Steps p.tables e below (T2.setTop (mkF m 13 #[.val (.ref a), .val (.ref b), .val (.ref b)] [(.ref a)])) _
    refine st4 _ ?_
    show Steps p.tables e below (T4.setTop (mkF m 16 #[.val (.ref a), .val (.ref b), .val (.ref b)] [(.ref x)])) _
    refine sg5 _ ?_
    show Steps p.tables e below (T4.setTop (mkF m 17 #[.val (.ref a), .val (.ref b), .val (.ref b)] [(.ref b), (.ref x)])) _
    refine st6 _ ?_
    show Steps p.tables e below (T6.setTop (mkF m 20 #[.val (.ref a), .val (.ref b), .val (.ref b)] [(.ref y), (.ref x)])) _
    refine st9.trans ?_
    show Steps p.tables e below (T9.setTop (mkF m 23 #[.val (.ref a), .val (.ref b), .val (.ref b)] [(.int (1 : Int32))])) _
    refine sg7 _ ?_
    show Steps p.tables e below (T9.setTop (mkF m 31 #[.val (.ref a), .val (.ref b), .val (.ref b)] [(.int (1 : Int32))])) _
    exact retN X9 hx (t := .boolean) Bd.returns (by simp) (hb hby dQ_31) hr
  · rw [own_eq_f hcd]
    have sg7 : ∀ target, Steps p.tables e below (T9.setTop (mkF m 31 #[.val (.ref a), .val (.ref b), .val (.ref b)] [(.int (0 : Int32))])) target → Steps p.tables e below (T9.setTop (mkF m 23 #[.val (.ref a), .val (.ref b), .val (.ref b)] [(.int (0 : Int32))])) target := by
      intro target kt
      show Steps p.tables e below (T9.setTop (mkF m 23 #[.val (.ref a), .val (.ref b), .val (.ref b)] [(.int (0 : Int32))])) _
      refine XS.ifYes X9.here hx rfl (pc0 := 23) (pc' := 30) rfl (hb hby dQ_23) rfl (by decide) (by decide) (by decide) ?_
      show Steps p.tables e below (T9.setTop (mkF m 30 #[.val (.ref a), .val (.ref b), .val (.ref b)] [])) _
      refine XS.iconst X9.here hx rfl (hb hby dQ_30) ?_
      show Steps p.tables e below (T9.setTop (mkF m 31 #[.val (.ref a), .val (.ref b), .val (.ref b)] [(.int (0 : Int32))])) _
      exact kt
    obtain ⟨fs, hr, hrun, hended, hW, hsame⟩ := X9.leave (v := some (.int (0 : Int32))) (fun h => by rw [Bd.returns] at h; cases h)
    refine ⟨_, _, castTop (efQ m a b) ?_, hrun, hended, _, _, rfl, ⟨rfl, Fr.nil n0, e9⟩, ⟨_, rfl⟩, hW, hsame.mono (by decide) (by decide)⟩
    show Steps p.tables e below (s₁.setTop (mkF m 0 #[.val (.ref a), .val (.ref b), .unset] [])) _
    refine sg1 _ ?_
    show Steps p.tables e below (s₁.setTop (mkF m 1 #[.val (.ref a), .val (.ref b), .unset] [(.ref b)])) _
    refine st1 _ ?_
    show Steps p.tables e below (T1.setTop (mkF m 4 #[.val (.ref a), .val (.ref b), .unset] [(.int (1 : Int32))])) _
    refine sg2 _ ?_
    show Steps p.tables e below (T1.setTop (mkF m 8 #[.val (.ref a), .val (.ref b), .unset] [(.ref b)])) _
    refine st2 _ ?_
    show Steps p.tables e below (T2.setTop (mkF m 11 #[.val (.ref a), .val (.ref b), .unset] [(.ref b)])) _
    refine sg3 _ ?_
    show Steps p.tables e below (T2.setTop (mkF m 13 #[.val (.ref a), .val (.ref b), .val (.ref b)] [(.ref a)])) _
    refine st4 _ ?_
    show Steps p.tables e below (T4.setTop (mkF m 16 #[.val (.ref a), .val (.ref b), .val (.ref b)] [(.ref x)])) _
    refine sg5 _ ?_
    show Steps p.tables e below (T4.setTop (mkF m 17 #[.val (.ref a), .val (.ref b), .val (.ref b)] [(.ref b), (.ref x)])) _
    refine st6 _ ?_
    show Steps p.tables e below (T6.setTop (mkF m 20 #[.val (.ref a), .val (.ref b), .val (.ref b)] [(.ref y), (.ref x)])) _
    refine st9.trans ?_
    show Steps p.tables e below (T9.setTop (mkF m 23 #[.val (.ref a), .val (.ref b), .val (.ref b)] [(.int (0 : Int32))])) _
    refine sg7 _ ?_
    show Steps p.tables e below (T9.setTop (mkF m 31 #[.val (.ref a), .val (.ref b), .val (.ref b)] [(.int (0 : Int32))])) _
    exact retN X9 hx (t := .boolean) Bd.returns (by simp) (hb hby dQ_31) hr
theorem own_mod4 (x : Int32) : ∃ n : Nat, n ≤ 3 ∧ (x &&& (2147483647 : Int32)) % (4 : Int32) = Int32.ofNat n := by
  have h0 := c_and x 2147483647 (by decide)
  have h := (c_irem (x &&& (2147483647 : Int32)) 4 4 rfl).1 h0.1
  refine ⟨((x &&& (2147483647 : Int32)) % (4 : Int32)).toInt.toNat, by omega, ?_⟩
  rw [← Int32.toInt_inj, Int32.toInt_ofNat_of_lt (by omega)]
  omega
theorem own_l3 {a b c : Int32} (ha : ¬ a < 0 ∧ ¬ (255 : Int32) < a) (hb : ¬ b < 0 ∧ ¬ (255 : Int32) < b) (hc : ¬ c < 0 ∧ ¬ (255 : Int32) < c) : own_lat [a, b, c] := by
  intro d hd
  simp only [List.mem_cons, List.not_mem_nil, or_false] at hd
  rcases hd with rfl | rfl | rfl <;> assumption
theorem own_take {xs : List Int32} (h : own_lat xs) (n : Nat) : own_lat (xs.take n) := fun c hc => h c (List.mem_of_mem_take hc)
set_option maxRecDepth 65536 in
set_option maxHeartbeats 40000000 in
theorem own_pre {p : Program} {l : Launch} {e : Env} {s : State} {m : MethodId} {args : Array Value} {below : List Frame} {meth : Method} {c : Code} {R : Room} {T0 : State} {L : List Loc} {cells slots : Nat} {Z : State} {a0 : Array Value} (p1 p2 p3 p4 : Int32)
    (X0 : Stand p l e R s m args below meth c T0 L cells slots) (hx : p.tables.exec = Jvm.exec) (hZ : Z.Warmed39 s.vm) (hw : ∀ d ∈ tables_1, d.before a0 Z = true) (hby : c.code = code) (hown : s.vm.findClass "com/example/bare_migrate/baremigrate/ScriptEqualsPinLaw" = some m.cls) :
    ∃ (cc : Int32) (n k : Nat) (a0 a1 a2 b0 b1 b2 : Int32), n ≤ 3 ∧ k ≤ 3 ∧ own_lat [a0, a1, a2] ∧ own_lat [b0, b1, b2] ∧
      ∀ target, Steps p.tables e below (T0.setTop (mkF m 153 #[.val (.int p1), .val (.int p2), .val (.int p3), .val (.int p4), .val (.int cc), .val (.int (Int32.ofNat n)), .val (.int (Int32.ofNat k)), .val (.int a0), .val (.int a1), .val (.int a2), .val (.int b0), .val (.int b1), .val (.int b2), .unset, .unset, .unset, .unset, .unset, .unset, .unset, .unset, .unset] [])) target → Steps p.tables e below (T0.setTop (mkF m 0 #[.val (.int p1), .val (.int p2), .val (.int p3), .val (.int p4), .unset, .unset, .unset, .unset, .unset, .unset, .unset, .unset, .unset, .unset, .unset, .unset, .unset, .unset, .unset, .unset, .unset, .unset] [])) target := by
  obtain ⟨n, hn, en⟩ := own_mod4 p3
  obtain ⟨k, hk, ek⟩ := own_mod4 ((p3.toUInt32 >>> ((8 : Int32) &&& 31).toUInt32).toInt32)
  have hA := own_l3 (own_ch8 p1) (own_ch8 ((p1.toUInt32 >>> ((8 : Int32) &&& 31).toUInt32).toInt32)) (own_ch8 ((p1.toUInt32 >>> ((16 : Int32) &&& 31).toUInt32).toInt32))
  by_cases hc : (p4 &&& (1 : Int32)) = 0
  · refine ⟨(0 : Int32), n, k, (((p1 &&& (255 : Int32))).toUInt32.toUInt16.toUInt32.toInt32), ((((((p1).toUInt32 >>> ((8 : Int32) &&& 31).toUInt32).toInt32) &&& (255 : Int32))).toUInt32.toUInt16.toUInt32.toInt32), ((((((p1).toUInt32 >>> ((16 : Int32) &&& 31).toUInt32).toInt32) &&& (255 : Int32))).toUInt32.toUInt16.toUInt32.toInt32), (((p2 &&& (255 : Int32))).toUInt32.toUInt16.toUInt32.toInt32), ((((((p2).toUInt32 >>> ((8 : Int32) &&& 31).toUInt32).toInt32) &&& (255 : Int32))).toUInt32.toUInt16.toUInt32.toInt32), ((((((p2).toUInt32 >>> ((16 : Int32) &&& 31).toUInt32).toInt32) &&& (255 : Int32))).toUInt32.toUInt16.toUInt32.toInt32), hn, hk, hA, own_l3 (own_ch8 p2) (own_ch8 ((p2.toUInt32 >>> ((8 : Int32) &&& 31).toUInt32).toInt32)) (own_ch8 ((p2.toUInt32 >>> ((16 : Int32) &&& 31).toUInt32).toInt32)), fun target kt => ?_⟩
    show Steps p.tables e below (T0.setTop (mkF m 0 #[.val (.int p1), .val (.int p2), .val (.int p3), .val (.int p4), .unset, .unset, .unset, .unset, .unset, .unset, .unset, .unset, .unset, .unset, .unset, .unset, .unset, .unset, .unset, .unset, .unset, .unset] [])) _
    refine XS.iloadN X0.here hx rfl (hb hby at_0) rfl ?_
    show Steps p.tables e below (T0.setTop (mkF m 1 #[.val (.int p1), .val (.int p2), .val (.int p3), .val (.int p4), .unset, .unset, .unset, .unset, .unset, .unset, .unset, .unset, .unset, .unset, .unset, .unset, .unset, .unset, .unset, .unset, .unset, .unset] [(.int p4)])) _
    refine XS.iconst X0.here hx rfl (hb hby at_1) ?_
    show Steps p.tables e below (T0.setTop (mkF m 2 #[.val (.int p1), .val (.int p2), .val (.int p3), .val (.int p4), .unset, .unset, .unset, .unset, .unset, .unset, .unset, .unset, .unset, .unset, .unset, .unset, .unset, .unset, .unset, .unset, .unset, .unset] [(.int (1 : Int32)), (.int p4)])) _
    refine XS.iand X0.here hx rfl (hb hby at_2) rfl ?_
    show Steps p.tables e below (T0.setTop (mkF m 3 #[.val (.int p1), .val (.int p2), .val (.int p3), .val (.int p4), .unset, .unset, .unset, .unset, .unset, .unset, .unset, .unset, .unset, .unset, .unset, .unset, .unset, .unset, .unset, .unset, .unset, .unset] [(.int (p4 &&& (1 : Int32)))])) _
    refine XS.ifYes X0.here hx rfl (pc0 := 3) (pc' := 10) rfl (hb hby at_3) rfl (by rw [if0]; exact (teq hc).1) (by decide) (by decide) ?_
    show Steps p.tables e below (T0.setTop (mkF m 10 #[.val (.int p1), .val (.int p2), .val (.int p3), .val (.int p4), .unset, .unset, .unset, .unset, .unset, .unset, .unset, .unset, .unset, .unset, .unset, .unset, .unset, .unset, .unset, .unset, .unset, .unset] [])) _
    refine XS.iconst X0.here hx rfl (hb hby at_10) ?_
    show Steps p.tables e below (T0.setTop (mkF m 11 #[.val (.int p1), .val (.int p2), .val (.int p3), .val (.int p4), .unset, .unset, .unset, .unset, .unset, .unset, .unset, .unset, .unset, .unset, .unset, .unset, .unset, .unset, .unset, .unset, .unset, .unset] [(.int (0 : Int32))])) _
    refine XS.istore X0.here hx rfl (hb hby at_11) rfl (l' := #[.val (.int p1), .val (.int p2), .val (.int p3), .val (.int p4), .val (.int (0 : Int32)), .unset, .unset, .unset, .unset, .unset, .unset, .unset, .unset, .unset, .unset, .unset, .unset, .unset, .unset, .unset, .unset, .unset]) rfl ?_
    show Steps p.tables e below (T0.setTop (mkF m 13 #[.val (.int p1), .val (.int p2), .val (.int p3), .val (.int p4), .val (.int (0 : Int32)), .unset, .unset, .unset, .unset, .unset, .unset, .unset, .unset, .unset, .unset, .unset, .unset, .unset, .unset, .unset, .unset, .unset] [])) _
    refine XS.iloadN X0.here hx rfl (hb hby at_13) rfl ?_
    show Steps p.tables e below (T0.setTop (mkF m 14 #[.val (.int p1), .val (.int p2), .val (.int p3), .val (.int p4), .val (.int (0 : Int32)), .unset, .unset, .unset, .unset, .unset, .unset, .unset, .unset, .unset, .unset, .unset, .unset, .unset, .unset, .unset, .unset, .unset] [(.int p3)])) _
    refine X0.ldcInt hx hown (mvT hZ (hw _ (List.mem_of_getElem? (i := 0) rfl))) (g := (mkF m 14 #[.val (.int p1), .val (.int p2), .val (.int p3), .val (.int p4), .val (.int (0 : Int32)), .unset, .unset, .unset, .unset, .unset, .unset, .unset, .unset, .unset, .unset, .unset, .unset, .unset, .unset, .unset, .unset, .unset] [(.int p3)])) rfl (hb hby at_14) _ ?_
    show Steps p.tables e below (T0.setTop (mkF m 16 #[.val (.int p1), .val (.int p2), .val (.int p3), .val (.int p4), .val (.int (0 : Int32)), .unset, .unset, .unset, .unset, .unset, .unset, .unset, .unset, .unset, .unset, .unset, .unset, .unset, .unset, .unset, .unset, .unset] [(.int (2147483647 : Int32)), (.int p3)])) _
    refine XS.iand X0.here hx rfl (hb hby at_16) rfl ?_
    show Steps p.tables e below (T0.setTop (mkF m 17 #[.val (.int p1), .val (.int p2), .val (.int p3), .val (.int p4), .val (.int (0 : Int32)), .unset, .unset, .unset, .unset, .unset, .unset, .unset, .unset, .unset, .unset, .unset, .unset, .unset, .unset, .unset, .unset, .unset] [(.int (p3 &&& (2147483647 : Int32)))])) _
    refine XS.iconst X0.here hx rfl (hb hby at_17) ?_
    show Steps p.tables e below (T0.setTop (mkF m 18 #[.val (.int p1), .val (.int p2), .val (.int p3), .val (.int p4), .val (.int (0 : Int32)), .unset, .unset, .unset, .unset, .unset, .unset, .unset, .unset, .unset, .unset, .unset, .unset, .unset, .unset, .unset, .unset, .unset] [(.int (4 : Int32)), (.int (p3 &&& (2147483647 : Int32)))])) _
    refine iremM X0 hx rfl (hb hby at_18) rfl (by decide) ?_
    show Steps p.tables e below (T0.setTop (mkF m 19 #[.val (.int p1), .val (.int p2), .val (.int p3), .val (.int p4), .val (.int (0 : Int32)), .unset, .unset, .unset, .unset, .unset, .unset, .unset, .unset, .unset, .unset, .unset, .unset, .unset, .unset, .unset, .unset, .unset] [(.int ((p3 &&& (2147483647 : Int32)) % (4 : Int32)))])) _
    refine XS.istore X0.here hx rfl (hb hby at_19) rfl (l' := #[.val (.int p1), .val (.int p2), .val (.int p3), .val (.int p4), .val (.int (0 : Int32)), .val (.int ((p3 &&& (2147483647 : Int32)) % (4 : Int32))), .unset, .unset, .unset, .unset, .unset, .unset, .unset, .unset, .unset, .unset, .unset, .unset, .unset, .unset, .unset, .unset]) rfl ?_
    show Steps p.tables e below (T0.setTop (mkF m 21 #[.val (.int p1), .val (.int p2), .val (.int p3), .val (.int p4), .val (.int (0 : Int32)), .val (.int ((p3 &&& (2147483647 : Int32)) % (4 : Int32))), .unset, .unset, .unset, .unset, .unset, .unset, .unset, .unset, .unset, .unset, .unset, .unset, .unset, .unset, .unset, .unset] [])) _
    refine XS.iload X0.here hx rfl (hb hby at_21) rfl ?_
    show Steps p.tables e below (T0.setTop (mkF m 23 #[.val (.int p1), .val (.int p2), .val (.int p3), .val (.int p4), .val (.int (0 : Int32)), .val (.int ((p3 &&& (2147483647 : Int32)) % (4 : Int32))), .unset, .unset, .unset, .unset, .unset, .unset, .unset, .unset, .unset, .unset, .unset, .unset, .unset, .unset, .unset, .unset] [(.int (0 : Int32))])) _
    refine XS.ifYes X0.here hx rfl (pc0 := 23) (pc' := 31) rfl (hb hby at_23) rfl (by decide) (by decide) (by decide) ?_
    show Steps p.tables e below (T0.setTop (mkF m 31 #[.val (.int p1), .val (.int p2), .val (.int p3), .val (.int p4), .val (.int (0 : Int32)), .val (.int ((p3 &&& (2147483647 : Int32)) % (4 : Int32))), .unset, .unset, .unset, .unset, .unset, .unset, .unset, .unset, .unset, .unset, .unset, .unset, .unset, .unset, .unset, .unset] [])) _
    refine XS.iloadN X0.here hx rfl (hb hby at_31) rfl ?_
    show Steps p.tables e below (T0.setTop (mkF m 32 #[.val (.int p1), .val (.int p2), .val (.int p3), .val (.int p4), .val (.int (0 : Int32)), .val (.int ((p3 &&& (2147483647 : Int32)) % (4 : Int32))), .unset, .unset, .unset, .unset, .unset, .unset, .unset, .unset, .unset, .unset, .unset, .unset, .unset, .unset, .unset, .unset] [(.int p3)])) _
    refine XS.bipush X0.here hx rfl (hb hby at_32) ?_
    show Steps p.tables e below (T0.setTop (mkF m 34 #[.val (.int p1), .val (.int p2), .val (.int p3), .val (.int p4), .val (.int (0 : Int32)), .val (.int ((p3 &&& (2147483647 : Int32)) % (4 : Int32))), .unset, .unset, .unset, .unset, .unset, .unset, .unset, .unset, .unset, .unset, .unset, .unset, .unset, .unset, .unset, .unset] [(.int (8 : Int32)), (.int p3)])) _
    refine XS.iushr X0.here hx rfl (hb hby at_34) rfl ?_
    show Steps p.tables e below (T0.setTop (mkF m 35 #[.val (.int p1), .val (.int p2), .val (.int p3), .val (.int p4), .val (.int (0 : Int32)), .val (.int ((p3 &&& (2147483647 : Int32)) % (4 : Int32))), .unset, .unset, .unset, .unset, .unset, .unset, .unset, .unset, .unset, .unset, .unset, .unset, .unset, .unset, .unset, .unset] [(.int (((p3).toUInt32 >>> ((8 : Int32) &&& 31).toUInt32).toInt32))])) _
    refine X0.ldcInt hx hown (mvT hZ (hw _ (List.mem_of_getElem? (i := 0) rfl))) (g := (mkF m 35 #[.val (.int p1), .val (.int p2), .val (.int p3), .val (.int p4), .val (.int (0 : Int32)), .val (.int ((p3 &&& (2147483647 : Int32)) % (4 : Int32))), .unset, .unset, .unset, .unset, .unset, .unset, .unset, .unset, .unset, .unset, .unset, .unset, .unset, .unset, .unset, .unset] [(.int (((p3).toUInt32 >>> ((8 : Int32) &&& 31).toUInt32).toInt32))])) rfl (hb hby at_35) _ ?_
    show Steps p.tables e below (T0.setTop (mkF m 37 #[.val (.int p1), .val (.int p2), .val (.int p3), .val (.int p4), .val (.int (0 : Int32)), .val (.int ((p3 &&& (2147483647 : Int32)) % (4 : Int32))), .unset, .unset, .unset, .unset, .unset, .unset, .unset, .unset, .unset, .unset, .unset, .unset, .unset, .unset, .unset, .unset] [(.int (2147483647 : Int32)), (.int (((p3).toUInt32 >>> ((8 : Int32) &&& 31).toUInt32).toInt32))])) _
    refine XS.iand X0.here hx rfl (hb hby at_37) rfl ?_
    show Steps p.tables e below (T0.setTop (mkF m 38 #[.val (.int p1), .val (.int p2), .val (.int p3), .val (.int p4), .val (.int (0 : Int32)), .val (.int ((p3 &&& (2147483647 : Int32)) % (4 : Int32))), .unset, .unset, .unset, .unset, .unset, .unset, .unset, .unset, .unset, .unset, .unset, .unset, .unset, .unset, .unset, .unset] [(.int ((((p3).toUInt32 >>> ((8 : Int32) &&& 31).toUInt32).toInt32) &&& (2147483647 : Int32)))])) _
    refine XS.iconst X0.here hx rfl (hb hby at_38) ?_
    show Steps p.tables e below (T0.setTop (mkF m 39 #[.val (.int p1), .val (.int p2), .val (.int p3), .val (.int p4), .val (.int (0 : Int32)), .val (.int ((p3 &&& (2147483647 : Int32)) % (4 : Int32))), .unset, .unset, .unset, .unset, .unset, .unset, .unset, .unset, .unset, .unset, .unset, .unset, .unset, .unset, .unset, .unset] [(.int (4 : Int32)), (.int ((((p3).toUInt32 >>> ((8 : Int32) &&& 31).toUInt32).toInt32) &&& (2147483647 : Int32)))])) _
    refine iremM X0 hx rfl (hb hby at_39) rfl (by decide) ?_
    show Steps p.tables e below (T0.setTop (mkF m 40 #[.val (.int p1), .val (.int p2), .val (.int p3), .val (.int p4), .val (.int (0 : Int32)), .val (.int ((p3 &&& (2147483647 : Int32)) % (4 : Int32))), .unset, .unset, .unset, .unset, .unset, .unset, .unset, .unset, .unset, .unset, .unset, .unset, .unset, .unset, .unset, .unset] [(.int (((((p3).toUInt32 >>> ((8 : Int32) &&& 31).toUInt32).toInt32) &&& (2147483647 : Int32)) % (4 : Int32)))])) _
    refine XS.istore X0.here hx rfl (hb hby at_40) rfl (l' := #[.val (.int p1), .val (.int p2), .val (.int p3), .val (.int p4), .val (.int (0 : Int32)), .val (.int ((p3 &&& (2147483647 : Int32)) % (4 : Int32))), .val (.int (((((p3).toUInt32 >>> ((8 : Int32) &&& 31).toUInt32).toInt32) &&& (2147483647 : Int32)) % (4 : Int32))), .unset, .unset, .unset, .unset, .unset, .unset, .unset, .unset, .unset, .unset, .unset, .unset, .unset, .unset, .unset]) rfl ?_
    show Steps p.tables e below (T0.setTop (mkF m 42 #[.val (.int p1), .val (.int p2), .val (.int p3), .val (.int p4), .val (.int (0 : Int32)), .val (.int ((p3 &&& (2147483647 : Int32)) % (4 : Int32))), .val (.int (((((p3).toUInt32 >>> ((8 : Int32) &&& 31).toUInt32).toInt32) &&& (2147483647 : Int32)) % (4 : Int32))), .unset, .unset, .unset, .unset, .unset, .unset, .unset, .unset, .unset, .unset, .unset, .unset, .unset, .unset, .unset] [])) _
    refine XS.iloadN X0.here hx rfl (hb hby at_42) rfl ?_
    show Steps p.tables e below (T0.setTop (mkF m 43 #[.val (.int p1), .val (.int p2), .val (.int p3), .val (.int p4), .val (.int (0 : Int32)), .val (.int ((p3 &&& (2147483647 : Int32)) % (4 : Int32))), .val (.int (((((p3).toUInt32 >>> ((8 : Int32) &&& 31).toUInt32).toInt32) &&& (2147483647 : Int32)) % (4 : Int32))), .unset, .unset, .unset, .unset, .unset, .unset, .unset, .unset, .unset, .unset, .unset, .unset, .unset, .unset, .unset] [(.int p1)])) _
    refine XS.sipush X0.here hx rfl (hb hby at_43) ?_
    show Steps p.tables e below (T0.setTop (mkF m 46 #[.val (.int p1), .val (.int p2), .val (.int p3), .val (.int p4), .val (.int (0 : Int32)), .val (.int ((p3 &&& (2147483647 : Int32)) % (4 : Int32))), .val (.int (((((p3).toUInt32 >>> ((8 : Int32) &&& 31).toUInt32).toInt32) &&& (2147483647 : Int32)) % (4 : Int32))), .unset, .unset, .unset, .unset, .unset, .unset, .unset, .unset, .unset, .unset, .unset, .unset, .unset, .unset, .unset] [(.int (255 : Int32)), (.int p1)])) _
    refine XS.iand X0.here hx rfl (hb hby at_46) rfl ?_
    show Steps p.tables e below (T0.setTop (mkF m 47 #[.val (.int p1), .val (.int p2), .val (.int p3), .val (.int p4), .val (.int (0 : Int32)), .val (.int ((p3 &&& (2147483647 : Int32)) % (4 : Int32))), .val (.int (((((p3).toUInt32 >>> ((8 : Int32) &&& 31).toUInt32).toInt32) &&& (2147483647 : Int32)) % (4 : Int32))), .unset, .unset, .unset, .unset, .unset, .unset, .unset, .unset, .unset, .unset, .unset, .unset, .unset, .unset, .unset] [(.int (p1 &&& (255 : Int32)))])) _
    refine XS.i2c X0.here hx rfl (hb hby at_47) rfl ?_
    show Steps p.tables e below (T0.setTop (mkF m 48 #[.val (.int p1), .val (.int p2), .val (.int p3), .val (.int p4), .val (.int (0 : Int32)), .val (.int ((p3 &&& (2147483647 : Int32)) % (4 : Int32))), .val (.int (((((p3).toUInt32 >>> ((8 : Int32) &&& 31).toUInt32).toInt32) &&& (2147483647 : Int32)) % (4 : Int32))), .unset, .unset, .unset, .unset, .unset, .unset, .unset, .unset, .unset, .unset, .unset, .unset, .unset, .unset, .unset] [(.int (((p1 &&& (255 : Int32))).toUInt32.toUInt16.toUInt32.toInt32))])) _
    refine XS.istore X0.here hx rfl (hb hby at_48) rfl (l' := #[.val (.int p1), .val (.int p2), .val (.int p3), .val (.int p4), .val (.int (0 : Int32)), .val (.int ((p3 &&& (2147483647 : Int32)) % (4 : Int32))), .val (.int (((((p3).toUInt32 >>> ((8 : Int32) &&& 31).toUInt32).toInt32) &&& (2147483647 : Int32)) % (4 : Int32))), .val (.int (((p1 &&& (255 : Int32))).toUInt32.toUInt16.toUInt32.toInt32)), .unset, .unset, .unset, .unset, .unset, .unset, .unset, .unset, .unset, .unset, .unset, .unset, .unset, .unset]) rfl ?_
    show Steps p.tables e below (T0.setTop (mkF m 50 #[.val (.int p1), .val (.int p2), .val (.int p3), .val (.int p4), .val (.int (0 : Int32)), .val (.int ((p3 &&& (2147483647 : Int32)) % (4 : Int32))), .val (.int (((((p3).toUInt32 >>> ((8 : Int32) &&& 31).toUInt32).toInt32) &&& (2147483647 : Int32)) % (4 : Int32))), .val (.int (((p1 &&& (255 : Int32))).toUInt32.toUInt16.toUInt32.toInt32)), .unset, .unset, .unset, .unset, .unset, .unset, .unset, .unset, .unset, .unset, .unset, .unset, .unset, .unset] [])) _
    refine XS.iloadN X0.here hx rfl (hb hby at_50) rfl ?_
    show Steps p.tables e below (T0.setTop (mkF m 51 #[.val (.int p1), .val (.int p2), .val (.int p3), .val (.int p4), .val (.int (0 : Int32)), .val (.int ((p3 &&& (2147483647 : Int32)) % (4 : Int32))), .val (.int (((((p3).toUInt32 >>> ((8 : Int32) &&& 31).toUInt32).toInt32) &&& (2147483647 : Int32)) % (4 : Int32))), .val (.int (((p1 &&& (255 : Int32))).toUInt32.toUInt16.toUInt32.toInt32)), .unset, .unset, .unset, .unset, .unset, .unset, .unset, .unset, .unset, .unset, .unset, .unset, .unset, .unset] [(.int p1)])) _
    refine XS.bipush X0.here hx rfl (hb hby at_51) ?_
    show Steps p.tables e below (T0.setTop (mkF m 53 #[.val (.int p1), .val (.int p2), .val (.int p3), .val (.int p4), .val (.int (0 : Int32)), .val (.int ((p3 &&& (2147483647 : Int32)) % (4 : Int32))), .val (.int (((((p3).toUInt32 >>> ((8 : Int32) &&& 31).toUInt32).toInt32) &&& (2147483647 : Int32)) % (4 : Int32))), .val (.int (((p1 &&& (255 : Int32))).toUInt32.toUInt16.toUInt32.toInt32)), .unset, .unset, .unset, .unset, .unset, .unset, .unset, .unset, .unset, .unset, .unset, .unset, .unset, .unset] [(.int (8 : Int32)), (.int p1)])) _
    refine XS.iushr X0.here hx rfl (hb hby at_53) rfl ?_
    show Steps p.tables e below (T0.setTop (mkF m 54 #[.val (.int p1), .val (.int p2), .val (.int p3), .val (.int p4), .val (.int (0 : Int32)), .val (.int ((p3 &&& (2147483647 : Int32)) % (4 : Int32))), .val (.int (((((p3).toUInt32 >>> ((8 : Int32) &&& 31).toUInt32).toInt32) &&& (2147483647 : Int32)) % (4 : Int32))), .val (.int (((p1 &&& (255 : Int32))).toUInt32.toUInt16.toUInt32.toInt32)), .unset, .unset, .unset, .unset, .unset, .unset, .unset, .unset, .unset, .unset, .unset, .unset, .unset, .unset] [(.int (((p1).toUInt32 >>> ((8 : Int32) &&& 31).toUInt32).toInt32))])) _
    refine XS.sipush X0.here hx rfl (hb hby at_54) ?_
    show Steps p.tables e below (T0.setTop (mkF m 57 #[.val (.int p1), .val (.int p2), .val (.int p3), .val (.int p4), .val (.int (0 : Int32)), .val (.int ((p3 &&& (2147483647 : Int32)) % (4 : Int32))), .val (.int (((((p3).toUInt32 >>> ((8 : Int32) &&& 31).toUInt32).toInt32) &&& (2147483647 : Int32)) % (4 : Int32))), .val (.int (((p1 &&& (255 : Int32))).toUInt32.toUInt16.toUInt32.toInt32)), .unset, .unset, .unset, .unset, .unset, .unset, .unset, .unset, .unset, .unset, .unset, .unset, .unset, .unset] [(.int (255 : Int32)), (.int (((p1).toUInt32 >>> ((8 : Int32) &&& 31).toUInt32).toInt32))])) _
    refine XS.iand X0.here hx rfl (hb hby at_57) rfl ?_
    show Steps p.tables e below (T0.setTop (mkF m 58 #[.val (.int p1), .val (.int p2), .val (.int p3), .val (.int p4), .val (.int (0 : Int32)), .val (.int ((p3 &&& (2147483647 : Int32)) % (4 : Int32))), .val (.int (((((p3).toUInt32 >>> ((8 : Int32) &&& 31).toUInt32).toInt32) &&& (2147483647 : Int32)) % (4 : Int32))), .val (.int (((p1 &&& (255 : Int32))).toUInt32.toUInt16.toUInt32.toInt32)), .unset, .unset, .unset, .unset, .unset, .unset, .unset, .unset, .unset, .unset, .unset, .unset, .unset, .unset] [(.int ((((p1).toUInt32 >>> ((8 : Int32) &&& 31).toUInt32).toInt32) &&& (255 : Int32)))])) _
    refine XS.i2c X0.here hx rfl (hb hby at_58) rfl ?_
    show Steps p.tables e below (T0.setTop (mkF m 59 #[.val (.int p1), .val (.int p2), .val (.int p3), .val (.int p4), .val (.int (0 : Int32)), .val (.int ((p3 &&& (2147483647 : Int32)) % (4 : Int32))), .val (.int (((((p3).toUInt32 >>> ((8 : Int32) &&& 31).toUInt32).toInt32) &&& (2147483647 : Int32)) % (4 : Int32))), .val (.int (((p1 &&& (255 : Int32))).toUInt32.toUInt16.toUInt32.toInt32)), .unset, .unset, .unset, .unset, .unset, .unset, .unset, .unset, .unset, .unset, .unset, .unset, .unset, .unset] [(.int ((((((p1).toUInt32 >>> ((8 : Int32) &&& 31).toUInt32).toInt32) &&& (255 : Int32))).toUInt32.toUInt16.toUInt32.toInt32))])) _
    refine XS.istore X0.here hx rfl (hb hby at_59) rfl (l' := #[.val (.int p1), .val (.int p2), .val (.int p3), .val (.int p4), .val (.int (0 : Int32)), .val (.int ((p3 &&& (2147483647 : Int32)) % (4 : Int32))), .val (.int (((((p3).toUInt32 >>> ((8 : Int32) &&& 31).toUInt32).toInt32) &&& (2147483647 : Int32)) % (4 : Int32))), .val (.int (((p1 &&& (255 : Int32))).toUInt32.toUInt16.toUInt32.toInt32)), .val (.int ((((((p1).toUInt32 >>> ((8 : Int32) &&& 31).toUInt32).toInt32) &&& (255 : Int32))).toUInt32.toUInt16.toUInt32.toInt32)), .unset, .unset, .unset, .unset, .unset, .unset, .unset, .unset, .unset, .unset, .unset, .unset, .unset]) rfl ?_
    show Steps p.tables e below (T0.setTop (mkF m 61 #[.val (.int p1), .val (.int p2), .val (.int p3), .val (.int p4), .val (.int (0 : Int32)), .val (.int ((p3 &&& (2147483647 : Int32)) % (4 : Int32))), .val (.int (((((p3).toUInt32 >>> ((8 : Int32) &&& 31).toUInt32).toInt32) &&& (2147483647 : Int32)) % (4 : Int32))), .val (.int (((p1 &&& (255 : Int32))).toUInt32.toUInt16.toUInt32.toInt32)), .val (.int ((((((p1).toUInt32 >>> ((8 : Int32) &&& 31).toUInt32).toInt32) &&& (255 : Int32))).toUInt32.toUInt16.toUInt32.toInt32)), .unset, .unset, .unset, .unset, .unset, .unset, .unset, .unset, .unset, .unset, .unset, .unset, .unset] [])) _
    refine XS.iloadN X0.here hx rfl (hb hby at_61) rfl ?_
    show Steps p.tables e below (T0.setTop (mkF m 62 #[.val (.int p1), .val (.int p2), .val (.int p3), .val (.int p4), .val (.int (0 : Int32)), .val (.int ((p3 &&& (2147483647 : Int32)) % (4 : Int32))), .val (.int (((((p3).toUInt32 >>> ((8 : Int32) &&& 31).toUInt32).toInt32) &&& (2147483647 : Int32)) % (4 : Int32))), .val (.int (((p1 &&& (255 : Int32))).toUInt32.toUInt16.toUInt32.toInt32)), .val (.int ((((((p1).toUInt32 >>> ((8 : Int32) &&& 31).toUInt32).toInt32) &&& (255 : Int32))).toUInt32.toUInt16.toUInt32.toInt32)), .unset, .unset, .unset, .unset, .unset, .unset, .unset, .unset, .unset, .unset, .unset, .unset, .unset] [(.int p1)])) _
    refine XS.bipush X0.here hx rfl (hb hby at_62) ?_
    show Steps p.tables e below (T0.setTop (mkF m 64 #[.val (.int p1), .val (.int p2), .val (.int p3), .val (.int p4), .val (.int (0 : Int32)), .val (.int ((p3 &&& (2147483647 : Int32)) % (4 : Int32))), .val (.int (((((p3).toUInt32 >>> ((8 : Int32) &&& 31).toUInt32).toInt32) &&& (2147483647 : Int32)) % (4 : Int32))), .val (.int (((p1 &&& (255 : Int32))).toUInt32.toUInt16.toUInt32.toInt32)), .val (.int ((((((p1).toUInt32 >>> ((8 : Int32) &&& 31).toUInt32).toInt32) &&& (255 : Int32))).toUInt32.toUInt16.toUInt32.toInt32)), .unset, .unset, .unset, .unset, .unset, .unset, .unset, .unset, .unset, .unset, .unset, .unset, .unset] [(.int (16 : Int32)), (.int p1)])) _
    refine XS.iushr X0.here hx rfl (hb hby at_64) rfl ?_
    show Steps p.tables e below (T0.setTop (mkF m 65 #[.val (.int p1), .val (.int p2), .val (.int p3), .val (.int p4), .val (.int (0 : Int32)), .val (.int ((p3 &&& (2147483647 : Int32)) % (4 : Int32))), .val (.int (((((p3).toUInt32 >>> ((8 : Int32) &&& 31).toUInt32).toInt32) &&& (2147483647 : Int32)) % (4 : Int32))), .val (.int (((p1 &&& (255 : Int32))).toUInt32.toUInt16.toUInt32.toInt32)), .val (.int ((((((p1).toUInt32 >>> ((8 : Int32) &&& 31).toUInt32).toInt32) &&& (255 : Int32))).toUInt32.toUInt16.toUInt32.toInt32)), .unset, .unset, .unset, .unset, .unset, .unset, .unset, .unset, .unset, .unset, .unset, .unset, .unset] [(.int (((p1).toUInt32 >>> ((16 : Int32) &&& 31).toUInt32).toInt32))])) _
    refine XS.sipush X0.here hx rfl (hb hby at_65) ?_
    show Steps p.tables e below (T0.setTop (mkF m 68 #[.val (.int p1), .val (.int p2), .val (.int p3), .val (.int p4), .val (.int (0 : Int32)), .val (.int ((p3 &&& (2147483647 : Int32)) % (4 : Int32))), .val (.int (((((p3).toUInt32 >>> ((8 : Int32) &&& 31).toUInt32).toInt32) &&& (2147483647 : Int32)) % (4 : Int32))), .val (.int (((p1 &&& (255 : Int32))).toUInt32.toUInt16.toUInt32.toInt32)), .val (.int ((((((p1).toUInt32 >>> ((8 : Int32) &&& 31).toUInt32).toInt32) &&& (255 : Int32))).toUInt32.toUInt16.toUInt32.toInt32)), .unset, .unset, .unset, .unset, .unset, .unset, .unset, .unset, .unset, .unset, .unset, .unset, .unset] [(.int (255 : Int32)), (.int (((p1).toUInt32 >>> ((16 : Int32) &&& 31).toUInt32).toInt32))])) _
    refine XS.iand X0.here hx rfl (hb hby at_68) rfl ?_
    show Steps p.tables e below (T0.setTop (mkF m 69 #[.val (.int p1), .val (.int p2), .val (.int p3), .val (.int p4), .val (.int (0 : Int32)), .val (.int ((p3 &&& (2147483647 : Int32)) % (4 : Int32))), .val (.int (((((p3).toUInt32 >>> ((8 : Int32) &&& 31).toUInt32).toInt32) &&& (2147483647 : Int32)) % (4 : Int32))), .val (.int (((p1 &&& (255 : Int32))).toUInt32.toUInt16.toUInt32.toInt32)), .val (.int ((((((p1).toUInt32 >>> ((8 : Int32) &&& 31).toUInt32).toInt32) &&& (255 : Int32))).toUInt32.toUInt16.toUInt32.toInt32)), .unset, .unset, .unset, .unset, .unset, .unset, .unset, .unset, .unset, .unset, .unset, .unset, .unset] [(.int ((((p1).toUInt32 >>> ((16 : Int32) &&& 31).toUInt32).toInt32) &&& (255 : Int32)))])) _
    refine XS.i2c X0.here hx rfl (hb hby at_69) rfl ?_
    show Steps p.tables e below (T0.setTop (mkF m 70 #[.val (.int p1), .val (.int p2), .val (.int p3), .val (.int p4), .val (.int (0 : Int32)), .val (.int ((p3 &&& (2147483647 : Int32)) % (4 : Int32))), .val (.int (((((p3).toUInt32 >>> ((8 : Int32) &&& 31).toUInt32).toInt32) &&& (2147483647 : Int32)) % (4 : Int32))), .val (.int (((p1 &&& (255 : Int32))).toUInt32.toUInt16.toUInt32.toInt32)), .val (.int ((((((p1).toUInt32 >>> ((8 : Int32) &&& 31).toUInt32).toInt32) &&& (255 : Int32))).toUInt32.toUInt16.toUInt32.toInt32)), .unset, .unset, .unset, .unset, .unset, .unset, .unset, .unset, .unset, .unset, .unset, .unset, .unset] [(.int ((((((p1).toUInt32 >>> ((16 : Int32) &&& 31).toUInt32).toInt32) &&& (255 : Int32))).toUInt32.toUInt16.toUInt32.toInt32))])) _
    refine XS.istore X0.here hx rfl (hb hby at_70) rfl (l' := #[.val (.int p1), .val (.int p2), .val (.int p3), .val (.int p4), .val (.int (0 : Int32)), .val (.int ((p3 &&& (2147483647 : Int32)) % (4 : Int32))), .val (.int (((((p3).toUInt32 >>> ((8 : Int32) &&& 31).toUInt32).toInt32) &&& (2147483647 : Int32)) % (4 : Int32))), .val (.int (((p1 &&& (255 : Int32))).toUInt32.toUInt16.toUInt32.toInt32)), .val (.int ((((((p1).toUInt32 >>> ((8 : Int32) &&& 31).toUInt32).toInt32) &&& (255 : Int32))).toUInt32.toUInt16.toUInt32.toInt32)), .val (.int ((((((p1).toUInt32 >>> ((16 : Int32) &&& 31).toUInt32).toInt32) &&& (255 : Int32))).toUInt32.toUInt16.toUInt32.toInt32)), .unset, .unset, .unset, .unset, .unset, .unset, .unset, .unset, .unset, .unset, .unset, .unset]) rfl ?_
    show Steps p.tables e below (T0.setTop (mkF m 72 #[.val (.int p1), .val (.int p2), .val (.int p3), .val (.int p4), .val (.int (0 : Int32)), .val (.int ((p3 &&& (2147483647 : Int32)) % (4 : Int32))), .val (.int (((((p3).toUInt32 >>> ((8 : Int32) &&& 31).toUInt32).toInt32) &&& (2147483647 : Int32)) % (4 : Int32))), .val (.int (((p1 &&& (255 : Int32))).toUInt32.toUInt16.toUInt32.toInt32)), .val (.int ((((((p1).toUInt32 >>> ((8 : Int32) &&& 31).toUInt32).toInt32) &&& (255 : Int32))).toUInt32.toUInt16.toUInt32.toInt32)), .val (.int ((((((p1).toUInt32 >>> ((16 : Int32) &&& 31).toUInt32).toInt32) &&& (255 : Int32))).toUInt32.toUInt16.toUInt32.toInt32)), .unset, .unset, .unset, .unset, .unset, .unset, .unset, .unset, .unset, .unset, .unset, .unset] [])) _
    refine XS.iload X0.here hx rfl (hb hby at_72) rfl ?_
    show Steps p.tables e below (T0.setTop (mkF m 74 #[.val (.int p1), .val (.int p2), .val (.int p3), .val (.int p4), .val (.int (0 : Int32)), .val (.int ((p3 &&& (2147483647 : Int32)) % (4 : Int32))), .val (.int (((((p3).toUInt32 >>> ((8 : Int32) &&& 31).toUInt32).toInt32) &&& (2147483647 : Int32)) % (4 : Int32))), .val (.int (((p1 &&& (255 : Int32))).toUInt32.toUInt16.toUInt32.toInt32)), .val (.int ((((((p1).toUInt32 >>> ((8 : Int32) &&& 31).toUInt32).toInt32) &&& (255 : Int32))).toUInt32.toUInt16.toUInt32.toInt32)), .val (.int ((((((p1).toUInt32 >>> ((16 : Int32) &&& 31).toUInt32).toInt32) &&& (255 : Int32))).toUInt32.toUInt16.toUInt32.toInt32)), .unset, .unset, .unset, .unset, .unset, .unset, .unset, .unset, .unset, .unset, .unset, .unset] [(.int (0 : Int32))])) _
    refine XS.ifYes X0.here hx rfl (pc0 := 74) (pc' := 82) rfl (hb hby at_74) rfl (by decide) (by decide) (by decide) ?_
    show Steps p.tables e below (T0.setTop (mkF m 82 #[.val (.int p1), .val (.int p2), .val (.int p3), .val (.int p4), .val (.int (0 : Int32)), .val (.int ((p3 &&& (2147483647 : Int32)) % (4 : Int32))), .val (.int (((((p3).toUInt32 >>> ((8 : Int32) &&& 31).toUInt32).toInt32) &&& (2147483647 : Int32)) % (4 : Int32))), .val (.int (((p1 &&& (255 : Int32))).toUInt32.toUInt16.toUInt32.toInt32)), .val (.int ((((((p1).toUInt32 >>> ((8 : Int32) &&& 31).toUInt32).toInt32) &&& (255 : Int32))).toUInt32.toUInt16.toUInt32.toInt32)), .val (.int ((((((p1).toUInt32 >>> ((16 : Int32) &&& 31).toUInt32).toInt32) &&& (255 : Int32))).toUInt32.toUInt16.toUInt32.toInt32)), .unset, .unset, .unset, .unset, .unset, .unset, .unset, .unset, .unset, .unset, .unset, .unset] [])) _
    refine XS.iloadN X0.here hx rfl (hb hby at_82) rfl ?_
    show Steps p.tables e below (T0.setTop (mkF m 83 #[.val (.int p1), .val (.int p2), .val (.int p3), .val (.int p4), .val (.int (0 : Int32)), .val (.int ((p3 &&& (2147483647 : Int32)) % (4 : Int32))), .val (.int (((((p3).toUInt32 >>> ((8 : Int32) &&& 31).toUInt32).toInt32) &&& (2147483647 : Int32)) % (4 : Int32))), .val (.int (((p1 &&& (255 : Int32))).toUInt32.toUInt16.toUInt32.toInt32)), .val (.int ((((((p1).toUInt32 >>> ((8 : Int32) &&& 31).toUInt32).toInt32) &&& (255 : Int32))).toUInt32.toUInt16.toUInt32.toInt32)), .val (.int ((((((p1).toUInt32 >>> ((16 : Int32) &&& 31).toUInt32).toInt32) &&& (255 : Int32))).toUInt32.toUInt16.toUInt32.toInt32)), .unset, .unset, .unset, .unset, .unset, .unset, .unset, .unset, .unset, .unset, .unset, .unset] [(.int p2)])) _
    refine XS.sipush X0.here hx rfl (hb hby at_83) ?_
    show Steps p.tables e below (T0.setTop (mkF m 86 #[.val (.int p1), .val (.int p2), .val (.int p3), .val (.int p4), .val (.int (0 : Int32)), .val (.int ((p3 &&& (2147483647 : Int32)) % (4 : Int32))), .val (.int (((((p3).toUInt32 >>> ((8 : Int32) &&& 31).toUInt32).toInt32) &&& (2147483647 : Int32)) % (4 : Int32))), .val (.int (((p1 &&& (255 : Int32))).toUInt32.toUInt16.toUInt32.toInt32)), .val (.int ((((((p1).toUInt32 >>> ((8 : Int32) &&& 31).toUInt32).toInt32) &&& (255 : Int32))).toUInt32.toUInt16.toUInt32.toInt32)), .val (.int ((((((p1).toUInt32 >>> ((16 : Int32) &&& 31).toUInt32).toInt32) &&& (255 : Int32))).toUInt32.toUInt16.toUInt32.toInt32)), .unset, .unset, .unset, .unset, .unset, .unset, .unset, .unset, .unset, .unset, .unset, .unset] [(.int (255 : Int32)), (.int p2)])) _
    refine XS.iand X0.here hx rfl (hb hby at_86) rfl ?_
    show Steps p.tables e below (T0.setTop (mkF m 87 #[.val (.int p1), .val (.int p2), .val (.int p3), .val (.int p4), .val (.int (0 : Int32)), .val (.int ((p3 &&& (2147483647 : Int32)) % (4 : Int32))), .val (.int (((((p3).toUInt32 >>> ((8 : Int32) &&& 31).toUInt32).toInt32) &&& (2147483647 : Int32)) % (4 : Int32))), .val (.int (((p1 &&& (255 : Int32))).toUInt32.toUInt16.toUInt32.toInt32)), .val (.int ((((((p1).toUInt32 >>> ((8 : Int32) &&& 31).toUInt32).toInt32) &&& (255 : Int32))).toUInt32.toUInt16.toUInt32.toInt32)), .val (.int ((((((p1).toUInt32 >>> ((16 : Int32) &&& 31).toUInt32).toInt32) &&& (255 : Int32))).toUInt32.toUInt16.toUInt32.toInt32)), .unset, .unset, .unset, .unset, .unset, .unset, .unset, .unset, .unset, .unset, .unset, .unset] [(.int (p2 &&& (255 : Int32)))])) _
    refine XS.i2c X0.here hx rfl (hb hby at_87) rfl ?_
    show Steps p.tables e below (T0.setTop (mkF m 88 #[.val (.int p1), .val (.int p2), .val (.int p3), .val (.int p4), .val (.int (0 : Int32)), .val (.int ((p3 &&& (2147483647 : Int32)) % (4 : Int32))), .val (.int (((((p3).toUInt32 >>> ((8 : Int32) &&& 31).toUInt32).toInt32) &&& (2147483647 : Int32)) % (4 : Int32))), .val (.int (((p1 &&& (255 : Int32))).toUInt32.toUInt16.toUInt32.toInt32)), .val (.int ((((((p1).toUInt32 >>> ((8 : Int32) &&& 31).toUInt32).toInt32) &&& (255 : Int32))).toUInt32.toUInt16.toUInt32.toInt32)), .val (.int ((((((p1).toUInt32 >>> ((16 : Int32) &&& 31).toUInt32).toInt32) &&& (255 : Int32))).toUInt32.toUInt16.toUInt32.toInt32)), .unset, .unset, .unset, .unset, .unset, .unset, .unset, .unset, .unset, .unset, .unset, .unset] [(.int (((p2 &&& (255 : Int32))).toUInt32.toUInt16.toUInt32.toInt32))])) _
    refine XS.istore X0.here hx rfl (hb hby at_88) rfl (l' := #[.val (.int p1), .val (.int p2), .val (.int p3), .val (.int p4), .val (.int (0 : Int32)), .val (.int ((p3 &&& (2147483647 : Int32)) % (4 : Int32))), .val (.int (((((p3).toUInt32 >>> ((8 : Int32) &&& 31).toUInt32).toInt32) &&& (2147483647 : Int32)) % (4 : Int32))), .val (.int (((p1 &&& (255 : Int32))).toUInt32.toUInt16.toUInt32.toInt32)), .val (.int ((((((p1).toUInt32 >>> ((8 : Int32) &&& 31).toUInt32).toInt32) &&& (255 : Int32))).toUInt32.toUInt16.toUInt32.toInt32)), .val (.int ((((((p1).toUInt32 >>> ((16 : Int32) &&& 31).toUInt32).toInt32) &&& (255 : Int32))).toUInt32.toUInt16.toUInt32.toInt32)), .val (.int (((p2 &&& (255 : Int32))).toUInt32.toUInt16.toUInt32.toInt32)), .unset, .unset, .unset, .unset, .unset, .unset, .unset, .unset, .unset, .unset, .unset]) rfl ?_
    show Steps p.tables e below (T0.setTop (mkF m 90 #[.val (.int p1), .val (.int p2), .val (.int p3), .val (.int p4), .val (.int (0 : Int32)), .val (.int ((p3 &&& (2147483647 : Int32)) % (4 : Int32))), .val (.int (((((p3).toUInt32 >>> ((8 : Int32) &&& 31).toUInt32).toInt32) &&& (2147483647 : Int32)) % (4 : Int32))), .val (.int (((p1 &&& (255 : Int32))).toUInt32.toUInt16.toUInt32.toInt32)), .val (.int ((((((p1).toUInt32 >>> ((8 : Int32) &&& 31).toUInt32).toInt32) &&& (255 : Int32))).toUInt32.toUInt16.toUInt32.toInt32)), .val (.int ((((((p1).toUInt32 >>> ((16 : Int32) &&& 31).toUInt32).toInt32) &&& (255 : Int32))).toUInt32.toUInt16.toUInt32.toInt32)), .val (.int (((p2 &&& (255 : Int32))).toUInt32.toUInt16.toUInt32.toInt32)), .unset, .unset, .unset, .unset, .unset, .unset, .unset, .unset, .unset, .unset, .unset] [])) _
    refine XS.iload X0.here hx rfl (hb hby at_90) rfl ?_
    show Steps p.tables e below (T0.setTop (mkF m 92 #[.val (.int p1), .val (.int p2), .val (.int p3), .val (.int p4), .val (.int (0 : Int32)), .val (.int ((p3 &&& (2147483647 : Int32)) % (4 : Int32))), .val (.int (((((p3).toUInt32 >>> ((8 : Int32) &&& 31).toUInt32).toInt32) &&& (2147483647 : Int32)) % (4 : Int32))), .val (.int (((p1 &&& (255 : Int32))).toUInt32.toUInt16.toUInt32.toInt32)), .val (.int ((((((p1).toUInt32 >>> ((8 : Int32) &&& 31).toUInt32).toInt32) &&& (255 : Int32))).toUInt32.toUInt16.toUInt32.toInt32)), .val (.int ((((((p1).toUInt32 >>> ((16 : Int32) &&& 31).toUInt32).toInt32) &&& (255 : Int32))).toUInt32.toUInt16.toUInt32.toInt32)), .val (.int (((p2 &&& (255 : Int32))).toUInt32.toUInt16.toUInt32.toInt32)), .unset, .unset, .unset, .unset, .unset, .unset, .unset, .unset, .unset, .unset, .unset] [(.int (0 : Int32))])) _
    refine XS.ifYes X0.here hx rfl (pc0 := 92) (pc' := 100) rfl (hb hby at_92) rfl (by decide) (by decide) (by decide) ?_
    show Steps p.tables e below (T0.setTop (mkF m 100 #[.val (.int p1), .val (.int p2), .val (.int p3), .val (.int p4), .val (.int (0 : Int32)), .val (.int ((p3 &&& (2147483647 : Int32)) % (4 : Int32))), .val (.int (((((p3).toUInt32 >>> ((8 : Int32) &&& 31).toUInt32).toInt32) &&& (2147483647 : Int32)) % (4 : Int32))), .val (.int (((p1 &&& (255 : Int32))).toUInt32.toUInt16.toUInt32.toInt32)), .val (.int ((((((p1).toUInt32 >>> ((8 : Int32) &&& 31).toUInt32).toInt32) &&& (255 : Int32))).toUInt32.toUInt16.toUInt32.toInt32)), .val (.int ((((((p1).toUInt32 >>> ((16 : Int32) &&& 31).toUInt32).toInt32) &&& (255 : Int32))).toUInt32.toUInt16.toUInt32.toInt32)), .val (.int (((p2 &&& (255 : Int32))).toUInt32.toUInt16.toUInt32.toInt32)), .unset, .unset, .unset, .unset, .unset, .unset, .unset, .unset, .unset, .unset, .unset] [])) _
    refine XS.iloadN X0.here hx rfl (hb hby at_100) rfl ?_
    show Steps p.tables e below (T0.setTop (mkF m 101 #[.val (.int p1), .val (.int p2), .val (.int p3), .val (.int p4), .val (.int (0 : Int32)), .val (.int ((p3 &&& (2147483647 : Int32)) % (4 : Int32))), .val (.int (((((p3).toUInt32 >>> ((8 : Int32) &&& 31).toUInt32).toInt32) &&& (2147483647 : Int32)) % (4 : Int32))), .val (.int (((p1 &&& (255 : Int32))).toUInt32.toUInt16.toUInt32.toInt32)), .val (.int ((((((p1).toUInt32 >>> ((8 : Int32) &&& 31).toUInt32).toInt32) &&& (255 : Int32))).toUInt32.toUInt16.toUInt32.toInt32)), .val (.int ((((((p1).toUInt32 >>> ((16 : Int32) &&& 31).toUInt32).toInt32) &&& (255 : Int32))).toUInt32.toUInt16.toUInt32.toInt32)), .val (.int (((p2 &&& (255 : Int32))).toUInt32.toUInt16.toUInt32.toInt32)), .unset, .unset, .unset, .unset, .unset, .unset, .unset, .unset, .unset, .unset, .unset] [(.int p2)])) _
    refine XS.bipush X0.here hx rfl (hb hby at_101) ?_
    show Steps p.tables e below (T0.setTop (mkF m 103 #[.val (.int p1), .val (.int p2), .val (.int p3), .val (.int p4), .val (.int (0 : Int32)), .val (.int ((p3 &&& (2147483647 : Int32)) % (4 : Int32))), .val (.int (((((p3).toUInt32 >>> ((8 : Int32) &&& 31).toUInt32).toInt32) &&& (2147483647 : Int32)) % (4 : Int32))), .val (.int (((p1 &&& (255 : Int32))).toUInt32.toUInt16.toUInt32.toInt32)), .val (.int ((((((p1).toUInt32 >>> ((8 : Int32) &&& 31).toUInt32).toInt32) &&& (255 : Int32))).toUInt32.toUInt16.toUInt32.toInt32)), .val (.int ((((((p1).toUInt32 >>> ((16 : Int32) &&& 31).toUInt32).toInt32) &&& (255 : Int32))).toUInt32.toUInt16.toUInt32.toInt32)), .val (.int (((p2 &&& (255 : Int32))).toUInt32.toUInt16.toUInt32.toInt32)), .unset, .unset, .unset, .unset, .unset, .unset, .unset, .unset, .unset, .unset, .unset] [(.int (8 : Int32)), (.int p2)])) _
    refine XS.iushr X0.here hx rfl (hb hby at_103) rfl ?_
    show Steps p.tables e below (T0.setTop (mkF m 104 #[.val (.int p1), .val (.int p2), .val (.int p3), .val (.int p4), .val (.int (0 : Int32)), .val (.int ((p3 &&& (2147483647 : Int32)) % (4 : Int32))), .val (.int (((((p3).toUInt32 >>> ((8 : Int32) &&& 31).toUInt32).toInt32) &&& (2147483647 : Int32)) % (4 : Int32))), .val (.int (((p1 &&& (255 : Int32))).toUInt32.toUInt16.toUInt32.toInt32)), .val (.int ((((((p1).toUInt32 >>> ((8 : Int32) &&& 31).toUInt32).toInt32) &&& (255 : Int32))).toUInt32.toUInt16.toUInt32.toInt32)), .val (.int ((((((p1).toUInt32 >>> ((16 : Int32) &&& 31).toUInt32).toInt32) &&& (255 : Int32))).toUInt32.toUInt16.toUInt32.toInt32)), .val (.int (((p2 &&& (255 : Int32))).toUInt32.toUInt16.toUInt32.toInt32)), .unset, .unset, .unset, .unset, .unset, .unset, .unset, .unset, .unset, .unset, .unset] [(.int (((p2).toUInt32 >>> ((8 : Int32) &&& 31).toUInt32).toInt32))])) _
    refine XS.sipush X0.here hx rfl (hb hby at_104) ?_
    show Steps p.tables e below (T0.setTop (mkF m 107 #[.val (.int p1), .val (.int p2), .val (.int p3), .val (.int p4), .val (.int (0 : Int32)), .val (.int ((p3 &&& (2147483647 : Int32)) % (4 : Int32))), .val (.int (((((p3).toUInt32 >>> ((8 : Int32) &&& 31).toUInt32).toInt32) &&& (2147483647 : Int32)) % (4 : Int32))), .val (.int (((p1 &&& (255 : Int32))).toUInt32.toUInt16.toUInt32.toInt32)), .val (.int ((((((p1).toUInt32 >>> ((8 : Int32) &&& 31).toUInt32).toInt32) &&& (255 : Int32))).toUInt32.toUInt16.toUInt32.toInt32)), .val (.int ((((((p1).toUInt32 >>> ((16 : Int32) &&& 31).toUInt32).toInt32) &&& (255 : Int32))).toUInt32.toUInt16.toUInt32.toInt32)), .val (.int (((p2 &&& (255 : Int32))).toUInt32.toUInt16.toUInt32.toInt32)), .unset, .unset, .unset, .unset, .unset, .unset, .unset, .unset, .unset, .unset, .unset] [(.int (255 : Int32)), (.int (((p2).toUInt32 >>> ((8 : Int32) &&& 31).toUInt32).toInt32))])) _
    refine XS.iand X0.here hx rfl (hb hby at_107) rfl ?_
    show Steps p.tables e below (T0.setTop (mkF m 108 #[.val (.int p1), .val (.int p2), .val (.int p3), .val (.int p4), .val (.int (0 : Int32)), .val (.int ((p3 &&& (2147483647 : Int32)) % (4 : Int32))), .val (.int (((((p3).toUInt32 >>> ((8 : Int32) &&& 31).toUInt32).toInt32) &&& (2147483647 : Int32)) % (4 : Int32))), .val (.int (((p1 &&& (255 : Int32))).toUInt32.toUInt16.toUInt32.toInt32)), .val (.int ((((((p1).toUInt32 >>> ((8 : Int32) &&& 31).toUInt32).toInt32) &&& (255 : Int32))).toUInt32.toUInt16.toUInt32.toInt32)), .val (.int ((((((p1).toUInt32 >>> ((16 : Int32) &&& 31).toUInt32).toInt32) &&& (255 : Int32))).toUInt32.toUInt16.toUInt32.toInt32)), .val (.int (((p2 &&& (255 : Int32))).toUInt32.toUInt16.toUInt32.toInt32)), .unset, .unset, .unset, .unset, .unset, .unset, .unset, .unset, .unset, .unset, .unset] [(.int ((((p2).toUInt32 >>> ((8 : Int32) &&& 31).toUInt32).toInt32) &&& (255 : Int32)))])) _
    refine XS.i2c X0.here hx rfl (hb hby at_108) rfl ?_
    show Steps p.tables e below (T0.setTop (mkF m 109 #[.val (.int p1), .val (.int p2), .val (.int p3), .val (.int p4), .val (.int (0 : Int32)), .val (.int ((p3 &&& (2147483647 : Int32)) % (4 : Int32))), .val (.int (((((p3).toUInt32 >>> ((8 : Int32) &&& 31).toUInt32).toInt32) &&& (2147483647 : Int32)) % (4 : Int32))), .val (.int (((p1 &&& (255 : Int32))).toUInt32.toUInt16.toUInt32.toInt32)), .val (.int ((((((p1).toUInt32 >>> ((8 : Int32) &&& 31).toUInt32).toInt32) &&& (255 : Int32))).toUInt32.toUInt16.toUInt32.toInt32)), .val (.int ((((((p1).toUInt32 >>> ((16 : Int32) &&& 31).toUInt32).toInt32) &&& (255 : Int32))).toUInt32.toUInt16.toUInt32.toInt32)), .val (.int (((p2 &&& (255 : Int32))).toUInt32.toUInt16.toUInt32.toInt32)), .unset, .unset, .unset, .unset, .unset, .unset, .unset, .unset, .unset, .unset, .unset] [(.int ((((((p2).toUInt32 >>> ((8 : Int32) &&& 31).toUInt32).toInt32) &&& (255 : Int32))).toUInt32.toUInt16.toUInt32.toInt32))])) _
    refine XS.istore X0.here hx rfl (hb hby at_109) rfl (l' := #[.val (.int p1), .val (.int p2), .val (.int p3), .val (.int p4), .val (.int (0 : Int32)), .val (.int ((p3 &&& (2147483647 : Int32)) % (4 : Int32))), .val (.int (((((p3).toUInt32 >>> ((8 : Int32) &&& 31).toUInt32).toInt32) &&& (2147483647 : Int32)) % (4 : Int32))), .val (.int (((p1 &&& (255 : Int32))).toUInt32.toUInt16.toUInt32.toInt32)), .val (.int ((((((p1).toUInt32 >>> ((8 : Int32) &&& 31).toUInt32).toInt32) &&& (255 : Int32))).toUInt32.toUInt16.toUInt32.toInt32)), .val (.int ((((((p1).toUInt32 >>> ((16 : Int32) &&& 31).toUInt32).toInt32) &&& (255 : Int32))).toUInt32.toUInt16.toUInt32.toInt32)), .val (.int (((p2 &&& (255 : Int32))).toUInt32.toUInt16.toUInt32.toInt32)), .val (.int ((((((p2).toUInt32 >>> ((8 : Int32) &&& 31).toUInt32).toInt32) &&& (255 : Int32))).toUInt32.toUInt16.toUInt32.toInt32)), .unset, .unset, .unset, .unset, .unset, .unset, .unset, .unset, .unset, .unset]) rfl ?_
    show Steps p.tables e below (T0.setTop (mkF m 111 #[.val (.int p1), .val (.int p2), .val (.int p3), .val (.int p4), .val (.int (0 : Int32)), .val (.int ((p3 &&& (2147483647 : Int32)) % (4 : Int32))), .val (.int (((((p3).toUInt32 >>> ((8 : Int32) &&& 31).toUInt32).toInt32) &&& (2147483647 : Int32)) % (4 : Int32))), .val (.int (((p1 &&& (255 : Int32))).toUInt32.toUInt16.toUInt32.toInt32)), .val (.int ((((((p1).toUInt32 >>> ((8 : Int32) &&& 31).toUInt32).toInt32) &&& (255 : Int32))).toUInt32.toUInt16.toUInt32.toInt32)), .val (.int ((((((p1).toUInt32 >>> ((16 : Int32) &&& 31).toUInt32).toInt32) &&& (255 : Int32))).toUInt32.toUInt16.toUInt32.toInt32)), .val (.int (((p2 &&& (255 : Int32))).toUInt32.toUInt16.toUInt32.toInt32)), .val (.int ((((((p2).toUInt32 >>> ((8 : Int32) &&& 31).toUInt32).toInt32) &&& (255 : Int32))).toUInt32.toUInt16.toUInt32.toInt32)), .unset, .unset, .unset, .unset, .unset, .unset, .unset, .unset, .unset, .unset] [])) _
    refine XS.iload X0.here hx rfl (hb hby at_111) rfl ?_
    show Steps p.tables e below (T0.setTop (mkF m 113 #[.val (.int p1), .val (.int p2), .val (.int p3), .val (.int p4), .val (.int (0 : Int32)), .val (.int ((p3 &&& (2147483647 : Int32)) % (4 : Int32))), .val (.int (((((p3).toUInt32 >>> ((8 : Int32) &&& 31).toUInt32).toInt32) &&& (2147483647 : Int32)) % (4 : Int32))), .val (.int (((p1 &&& (255 : Int32))).toUInt32.toUInt16.toUInt32.toInt32)), .val (.int ((((((p1).toUInt32 >>> ((8 : Int32) &&& 31).toUInt32).toInt32) &&& (255 : Int32))).toUInt32.toUInt16.toUInt32.toInt32)), .val (.int ((((((p1).toUInt32 >>> ((16 : Int32) &&& 31).toUInt32).toInt32) &&& (255 : Int32))).toUInt32.toUInt16.toUInt32.toInt32)), .val (.int (((p2 &&& (255 : Int32))).toUInt32.toUInt16.toUInt32.toInt32)), .val (.int ((((((p2).toUInt32 >>> ((8 : Int32) &&& 31).toUInt32).toInt32) &&& (255 : Int32))).toUInt32.toUInt16.toUInt32.toInt32)), .unset, .unset, .unset, .unset, .unset, .unset, .unset, .unset, .unset, .unset] [(.int (0 : Int32))])) _
    refine XS.ifYes X0.here hx rfl (pc0 := 113) (pc' := 121) rfl (hb hby at_113) rfl (by decide) (by decide) (by decide) ?_
    show Steps p.tables e below (T0.setTop (mkF m 121 #[.val (.int p1), .val (.int p2), .val (.int p3), .val (.int p4), .val (.int (0 : Int32)), .val (.int ((p3 &&& (2147483647 : Int32)) % (4 : Int32))), .val (.int (((((p3).toUInt32 >>> ((8 : Int32) &&& 31).toUInt32).toInt32) &&& (2147483647 : Int32)) % (4 : Int32))), .val (.int (((p1 &&& (255 : Int32))).toUInt32.toUInt16.toUInt32.toInt32)), .val (.int ((((((p1).toUInt32 >>> ((8 : Int32) &&& 31).toUInt32).toInt32) &&& (255 : Int32))).toUInt32.toUInt16.toUInt32.toInt32)), .val (.int ((((((p1).toUInt32 >>> ((16 : Int32) &&& 31).toUInt32).toInt32) &&& (255 : Int32))).toUInt32.toUInt16.toUInt32.toInt32)), .val (.int (((p2 &&& (255 : Int32))).toUInt32.toUInt16.toUInt32.toInt32)), .val (.int ((((((p2).toUInt32 >>> ((8 : Int32) &&& 31).toUInt32).toInt32) &&& (255 : Int32))).toUInt32.toUInt16.toUInt32.toInt32)), .unset, .unset, .unset, .unset, .unset, .unset, .unset, .unset, .unset, .unset] [])) _
    refine XS.iloadN X0.here hx rfl (hb hby at_121) rfl ?_
    show Steps p.tables e below (T0.setTop (mkF m 122 #[.val (.int p1), .val (.int p2), .val (.int p3), .val (.int p4), .val (.int (0 : Int32)), .val (.int ((p3 &&& (2147483647 : Int32)) % (4 : Int32))), .val (.int (((((p3).toUInt32 >>> ((8 : Int32) &&& 31).toUInt32).toInt32) &&& (2147483647 : Int32)) % (4 : Int32))), .val (.int (((p1 &&& (255 : Int32))).toUInt32.toUInt16.toUInt32.toInt32)), .val (.int ((((((p1).toUInt32 >>> ((8 : Int32) &&& 31).toUInt32).toInt32) &&& (255 : Int32))).toUInt32.toUInt16.toUInt32.toInt32)), .val (.int ((((((p1).toUInt32 >>> ((16 : Int32) &&& 31).toUInt32).toInt32) &&& (255 : Int32))).toUInt32.toUInt16.toUInt32.toInt32)), .val (.int (((p2 &&& (255 : Int32))).toUInt32.toUInt16.toUInt32.toInt32)), .val (.int ((((((p2).toUInt32 >>> ((8 : Int32) &&& 31).toUInt32).toInt32) &&& (255 : Int32))).toUInt32.toUInt16.toUInt32.toInt32)), .unset, .unset, .unset, .unset, .unset, .unset, .unset, .unset, .unset, .unset] [(.int p2)])) _
    refine XS.bipush X0.here hx rfl (hb hby at_122) ?_
    show Steps p.tables e below (T0.setTop (mkF m 124 #[.val (.int p1), .val (.int p2), .val (.int p3), .val (.int p4), .val (.int (0 : Int32)), .val (.int ((p3 &&& (2147483647 : Int32)) % (4 : Int32))), .val (.int (((((p3).toUInt32 >>> ((8 : Int32) &&& 31).toUInt32).toInt32) &&& (2147483647 : Int32)) % (4 : Int32))), .val (.int (((p1 &&& (255 : Int32))).toUInt32.toUInt16.toUInt32.toInt32)), .val (.int ((((((p1).toUInt32 >>> ((8 : Int32) &&& 31).toUInt32).toInt32) &&& (255 : Int32))).toUInt32.toUInt16.toUInt32.toInt32)), .val (.int ((((((p1).toUInt32 >>> ((16 : Int32) &&& 31).toUInt32).toInt32) &&& (255 : Int32))).toUInt32.toUInt16.toUInt32.toInt32)), .val (.int (((p2 &&& (255 : Int32))).toUInt32.toUInt16.toUInt32.toInt32)), .val (.int ((((((p2).toUInt32 >>> ((8 : Int32) &&& 31).toUInt32).toInt32) &&& (255 : Int32))).toUInt32.toUInt16.toUInt32.toInt32)), .unset, .unset, .unset, .unset, .unset, .unset, .unset, .unset, .unset, .unset] [(.int (16 : Int32)), (.int p2)])) _
    refine XS.iushr X0.here hx rfl (hb hby at_124) rfl ?_
    show Steps p.tables e below (T0.setTop (mkF m 125 #[.val (.int p1), .val (.int p2), .val (.int p3), .val (.int p4), .val (.int (0 : Int32)), .val (.int ((p3 &&& (2147483647 : Int32)) % (4 : Int32))), .val (.int (((((p3).toUInt32 >>> ((8 : Int32) &&& 31).toUInt32).toInt32) &&& (2147483647 : Int32)) % (4 : Int32))), .val (.int (((p1 &&& (255 : Int32))).toUInt32.toUInt16.toUInt32.toInt32)), .val (.int ((((((p1).toUInt32 >>> ((8 : Int32) &&& 31).toUInt32).toInt32) &&& (255 : Int32))).toUInt32.toUInt16.toUInt32.toInt32)), .val (.int ((((((p1).toUInt32 >>> ((16 : Int32) &&& 31).toUInt32).toInt32) &&& (255 : Int32))).toUInt32.toUInt16.toUInt32.toInt32)), .val (.int (((p2 &&& (255 : Int32))).toUInt32.toUInt16.toUInt32.toInt32)), .val (.int ((((((p2).toUInt32 >>> ((8 : Int32) &&& 31).toUInt32).toInt32) &&& (255 : Int32))).toUInt32.toUInt16.toUInt32.toInt32)), .unset, .unset, .unset, .unset, .unset, .unset, .unset, .unset, .unset, .unset] [(.int (((p2).toUInt32 >>> ((16 : Int32) &&& 31).toUInt32).toInt32))])) _
    refine XS.sipush X0.here hx rfl (hb hby at_125) ?_
    show Steps p.tables e below (T0.setTop (mkF m 128 #[.val (.int p1), .val (.int p2), .val (.int p3), .val (.int p4), .val (.int (0 : Int32)), .val (.int ((p3 &&& (2147483647 : Int32)) % (4 : Int32))), .val (.int (((((p3).toUInt32 >>> ((8 : Int32) &&& 31).toUInt32).toInt32) &&& (2147483647 : Int32)) % (4 : Int32))), .val (.int (((p1 &&& (255 : Int32))).toUInt32.toUInt16.toUInt32.toInt32)), .val (.int ((((((p1).toUInt32 >>> ((8 : Int32) &&& 31).toUInt32).toInt32) &&& (255 : Int32))).toUInt32.toUInt16.toUInt32.toInt32)), .val (.int ((((((p1).toUInt32 >>> ((16 : Int32) &&& 31).toUInt32).toInt32) &&& (255 : Int32))).toUInt32.toUInt16.toUInt32.toInt32)), .val (.int (((p2 &&& (255 : Int32))).toUInt32.toUInt16.toUInt32.toInt32)), .val (.int ((((((p2).toUInt32 >>> ((8 : Int32) &&& 31).toUInt32).toInt32) &&& (255 : Int32))).toUInt32.toUInt16.toUInt32.toInt32)), .unset, .unset, .unset, .unset, .unset, .unset, .unset, .unset, .unset, .unset] [(.int (255 : Int32)), (.int (((p2).toUInt32 >>> ((16 : Int32) &&& 31).toUInt32).toInt32))])) _
    refine XS.iand X0.here hx rfl (hb hby at_128) rfl ?_
    show Steps p.tables e below (T0.setTop (mkF m 129 #[.val (.int p1), .val (.int p2), .val (.int p3), .val (.int p4), .val (.int (0 : Int32)), .val (.int ((p3 &&& (2147483647 : Int32)) % (4 : Int32))), .val (.int (((((p3).toUInt32 >>> ((8 : Int32) &&& 31).toUInt32).toInt32) &&& (2147483647 : Int32)) % (4 : Int32))), .val (.int (((p1 &&& (255 : Int32))).toUInt32.toUInt16.toUInt32.toInt32)), .val (.int ((((((p1).toUInt32 >>> ((8 : Int32) &&& 31).toUInt32).toInt32) &&& (255 : Int32))).toUInt32.toUInt16.toUInt32.toInt32)), .val (.int ((((((p1).toUInt32 >>> ((16 : Int32) &&& 31).toUInt32).toInt32) &&& (255 : Int32))).toUInt32.toUInt16.toUInt32.toInt32)), .val (.int (((p2 &&& (255 : Int32))).toUInt32.toUInt16.toUInt32.toInt32)), .val (.int ((((((p2).toUInt32 >>> ((8 : Int32) &&& 31).toUInt32).toInt32) &&& (255 : Int32))).toUInt32.toUInt16.toUInt32.toInt32)), .unset, .unset, .unset, .unset, .unset, .unset, .unset, .unset, .unset, .unset] [(.int ((((p2).toUInt32 >>> ((16 : Int32) &&& 31).toUInt32).toInt32) &&& (255 : Int32)))])) _
    refine XS.i2c X0.here hx rfl (hb hby at_129) rfl ?_
    show Steps p.tables e below (T0.setTop (mkF m 130 #[.val (.int p1), .val (.int p2), .val (.int p3), .val (.int p4), .val (.int (0 : Int32)), .val (.int ((p3 &&& (2147483647 : Int32)) % (4 : Int32))), .val (.int (((((p3).toUInt32 >>> ((8 : Int32) &&& 31).toUInt32).toInt32) &&& (2147483647 : Int32)) % (4 : Int32))), .val (.int (((p1 &&& (255 : Int32))).toUInt32.toUInt16.toUInt32.toInt32)), .val (.int ((((((p1).toUInt32 >>> ((8 : Int32) &&& 31).toUInt32).toInt32) &&& (255 : Int32))).toUInt32.toUInt16.toUInt32.toInt32)), .val (.int ((((((p1).toUInt32 >>> ((16 : Int32) &&& 31).toUInt32).toInt32) &&& (255 : Int32))).toUInt32.toUInt16.toUInt32.toInt32)), .val (.int (((p2 &&& (255 : Int32))).toUInt32.toUInt16.toUInt32.toInt32)), .val (.int ((((((p2).toUInt32 >>> ((8 : Int32) &&& 31).toUInt32).toInt32) &&& (255 : Int32))).toUInt32.toUInt16.toUInt32.toInt32)), .unset, .unset, .unset, .unset, .unset, .unset, .unset, .unset, .unset, .unset] [(.int ((((((p2).toUInt32 >>> ((16 : Int32) &&& 31).toUInt32).toInt32) &&& (255 : Int32))).toUInt32.toUInt16.toUInt32.toInt32))])) _
    refine XS.istore X0.here hx rfl (hb hby at_130) rfl (l' := #[.val (.int p1), .val (.int p2), .val (.int p3), .val (.int p4), .val (.int (0 : Int32)), .val (.int ((p3 &&& (2147483647 : Int32)) % (4 : Int32))), .val (.int (((((p3).toUInt32 >>> ((8 : Int32) &&& 31).toUInt32).toInt32) &&& (2147483647 : Int32)) % (4 : Int32))), .val (.int (((p1 &&& (255 : Int32))).toUInt32.toUInt16.toUInt32.toInt32)), .val (.int ((((((p1).toUInt32 >>> ((8 : Int32) &&& 31).toUInt32).toInt32) &&& (255 : Int32))).toUInt32.toUInt16.toUInt32.toInt32)), .val (.int ((((((p1).toUInt32 >>> ((16 : Int32) &&& 31).toUInt32).toInt32) &&& (255 : Int32))).toUInt32.toUInt16.toUInt32.toInt32)), .val (.int (((p2 &&& (255 : Int32))).toUInt32.toUInt16.toUInt32.toInt32)), .val (.int ((((((p2).toUInt32 >>> ((8 : Int32) &&& 31).toUInt32).toInt32) &&& (255 : Int32))).toUInt32.toUInt16.toUInt32.toInt32)), .val (.int ((((((p2).toUInt32 >>> ((16 : Int32) &&& 31).toUInt32).toInt32) &&& (255 : Int32))).toUInt32.toUInt16.toUInt32.toInt32)), .unset, .unset, .unset, .unset, .unset, .unset, .unset, .unset, .unset]) rfl ?_
    show Steps p.tables e below (T0.setTop (mkF m 132 #[.val (.int p1), .val (.int p2), .val (.int p3), .val (.int p4), .val (.int (0 : Int32)), .val (.int ((p3 &&& (2147483647 : Int32)) % (4 : Int32))), .val (.int (((((p3).toUInt32 >>> ((8 : Int32) &&& 31).toUInt32).toInt32) &&& (2147483647 : Int32)) % (4 : Int32))), .val (.int (((p1 &&& (255 : Int32))).toUInt32.toUInt16.toUInt32.toInt32)), .val (.int ((((((p1).toUInt32 >>> ((8 : Int32) &&& 31).toUInt32).toInt32) &&& (255 : Int32))).toUInt32.toUInt16.toUInt32.toInt32)), .val (.int ((((((p1).toUInt32 >>> ((16 : Int32) &&& 31).toUInt32).toInt32) &&& (255 : Int32))).toUInt32.toUInt16.toUInt32.toInt32)), .val (.int (((p2 &&& (255 : Int32))).toUInt32.toUInt16.toUInt32.toInt32)), .val (.int ((((((p2).toUInt32 >>> ((8 : Int32) &&& 31).toUInt32).toInt32) &&& (255 : Int32))).toUInt32.toUInt16.toUInt32.toInt32)), .val (.int ((((((p2).toUInt32 >>> ((16 : Int32) &&& 31).toUInt32).toInt32) &&& (255 : Int32))).toUInt32.toUInt16.toUInt32.toInt32)), .unset, .unset, .unset, .unset, .unset, .unset, .unset, .unset, .unset] [])) _
    refine XS.iload X0.here hx rfl (hb hby at_132) rfl ?_
    show Steps p.tables e below (T0.setTop (mkF m 134 #[.val (.int p1), .val (.int p2), .val (.int p3), .val (.int p4), .val (.int (0 : Int32)), .val (.int ((p3 &&& (2147483647 : Int32)) % (4 : Int32))), .val (.int (((((p3).toUInt32 >>> ((8 : Int32) &&& 31).toUInt32).toInt32) &&& (2147483647 : Int32)) % (4 : Int32))), .val (.int (((p1 &&& (255 : Int32))).toUInt32.toUInt16.toUInt32.toInt32)), .val (.int ((((((p1).toUInt32 >>> ((8 : Int32) &&& 31).toUInt32).toInt32) &&& (255 : Int32))).toUInt32.toUInt16.toUInt32.toInt32)), .val (.int ((((((p1).toUInt32 >>> ((16 : Int32) &&& 31).toUInt32).toInt32) &&& (255 : Int32))).toUInt32.toUInt16.toUInt32.toInt32)), .val (.int (((p2 &&& (255 : Int32))).toUInt32.toUInt16.toUInt32.toInt32)), .val (.int ((((((p2).toUInt32 >>> ((8 : Int32) &&& 31).toUInt32).toInt32) &&& (255 : Int32))).toUInt32.toUInt16.toUInt32.toInt32)), .val (.int ((((((p2).toUInt32 >>> ((16 : Int32) &&& 31).toUInt32).toInt32) &&& (255 : Int32))).toUInt32.toUInt16.toUInt32.toInt32)), .unset, .unset, .unset, .unset, .unset, .unset, .unset, .unset, .unset] [(.int (0 : Int32))])) _
    refine XS.ifYes X0.here hx rfl (pc0 := 134) (pc' := 153) rfl (hb hby at_134) rfl (by decide) (by decide) (by decide) ?_
    rw [← en, ← ek] at kt
    exact kt
  · by_cases hd : (((p4).toUInt32 >>> ((3 : Int32) &&& 31).toUInt32).toInt32 &&& (1 : Int32)) = 0
    · refine ⟨(1 : Int32), n, n, (((p1 &&& (255 : Int32))).toUInt32.toUInt16.toUInt32.toInt32), ((((((p1).toUInt32 >>> ((8 : Int32) &&& 31).toUInt32).toInt32) &&& (255 : Int32))).toUInt32.toUInt16.toUInt32.toInt32), ((((((p1).toUInt32 >>> ((16 : Int32) &&& 31).toUInt32).toInt32) &&& (255 : Int32))).toUInt32.toUInt16.toUInt32.toInt32), (((p1 &&& (255 : Int32))).toUInt32.toUInt16.toUInt32.toInt32), ((((((p1).toUInt32 >>> ((8 : Int32) &&& 31).toUInt32).toInt32) &&& (255 : Int32))).toUInt32.toUInt16.toUInt32.toInt32), ((((((p1).toUInt32 >>> ((16 : Int32) &&& 31).toUInt32).toInt32) &&& (255 : Int32))).toUInt32.toUInt16.toUInt32.toInt32), hn, hn, hA, hA, fun target kt => ?_⟩
      show Steps p.tables e below (T0.setTop (mkF m 0 #[.val (.int p1), .val (.int p2), .val (.int p3), .val (.int p4), .unset, .unset, .unset, .unset, .unset, .unset, .unset, .unset, .unset, .unset, .unset, .unset, .unset, .unset, .unset, .unset, .unset, .unset] [])) _
      refine XS.iloadN X0.here hx rfl (hb hby at_0) rfl ?_
      show Steps p.tables e below (T0.setTop (mkF m 1 #[.val (.int p1), .val (.int p2), .val (.int p3), .val (.int p4), .unset, .unset, .unset, .unset, .unset, .unset, .unset, .unset, .unset, .unset, .unset, .unset, .unset, .unset, .unset, .unset, .unset, .unset] [(.int p4)])) _
      refine XS.iconst X0.here hx rfl (hb hby at_1) ?_
      show Steps p.tables e below (T0.setTop (mkF m 2 #[.val (.int p1), .val (.int p2), .val (.int p3), .val (.int p4), .unset, .unset, .unset, .unset, .unset, .unset, .unset, .unset, .unset, .unset, .unset, .unset, .unset, .unset, .unset, .unset, .unset, .unset] [(.int (1 : Int32)), (.int p4)])) _
      refine XS.iand X0.here hx rfl (hb hby at_2) rfl ?_
      show Steps p.tables e below (T0.setTop (mkF m 3 #[.val (.int p1), .val (.int p2), .val (.int p3), .val (.int p4), .unset, .unset, .unset, .unset, .unset, .unset, .unset, .unset, .unset, .unset, .unset, .unset, .unset, .unset, .unset, .unset, .unset, .unset] [(.int (p4 &&& (1 : Int32)))])) _
      refine XS.ifNo X0.here hx rfl (hb hby at_3) rfl (by rw [if0]; exact (feq hc).1) ?_
      show Steps p.tables e below (T0.setTop (mkF m 6 #[.val (.int p1), .val (.int p2), .val (.int p3), .val (.int p4), .unset, .unset, .unset, .unset, .unset, .unset, .unset, .unset, .unset, .unset, .unset, .unset, .unset, .unset, .unset, .unset, .unset, .unset] [])) _
      refine XS.iconst X0.here hx rfl (hb hby at_6) ?_
      show Steps p.tables e below (T0.setTop (mkF m 7 #[.val (.int p1), .val (.int p2), .val (.int p3), .val (.int p4), .unset, .unset, .unset, .unset, .unset, .unset, .unset, .unset, .unset, .unset, .unset, .unset, .unset, .unset, .unset, .unset, .unset, .unset] [(.int (1 : Int32))])) _
      refine XS.goto X0.here hx rfl (pc0 := 7) (pc' := 11) rfl (hb hby at_7) (by decide) (by decide) ?_
      show Steps p.tables e below (T0.setTop (mkF m 11 #[.val (.int p1), .val (.int p2), .val (.int p3), .val (.int p4), .unset, .unset, .unset, .unset, .unset, .unset, .unset, .unset, .unset, .unset, .unset, .unset, .unset, .unset, .unset, .unset, .unset, .unset] [(.int (1 : Int32))])) _
      refine XS.istore X0.here hx rfl (hb hby at_11) rfl (l' := #[.val (.int p1), .val (.int p2), .val (.int p3), .val (.int p4), .val (.int (1 : Int32)), .unset, .unset, .unset, .unset, .unset, .unset, .unset, .unset, .unset, .unset, .unset, .unset, .unset, .unset, .unset, .unset, .unset]) rfl ?_
      show Steps p.tables e below (T0.setTop (mkF m 13 #[.val (.int p1), .val (.int p2), .val (.int p3), .val (.int p4), .val (.int (1 : Int32)), .unset, .unset, .unset, .unset, .unset, .unset, .unset, .unset, .unset, .unset, .unset, .unset, .unset, .unset, .unset, .unset, .unset] [])) _
      refine XS.iloadN X0.here hx rfl (hb hby at_13) rfl ?_
      show Steps p.tables e below (T0.setTop (mkF m 14 #[.val (.int p1), .val (.int p2), .val (.int p3), .val (.int p4), .val (.int (1 : Int32)), .unset, .unset, .unset, .unset, .unset, .unset, .unset, .unset, .unset, .unset, .unset, .unset, .unset, .unset, .unset, .unset, .unset] [(.int p3)])) _
      refine X0.ldcInt hx hown (mvT hZ (hw _ (List.mem_of_getElem? (i := 0) rfl))) (g := (mkF m 14 #[.val (.int p1), .val (.int p2), .val (.int p3), .val (.int p4), .val (.int (1 : Int32)), .unset, .unset, .unset, .unset, .unset, .unset, .unset, .unset, .unset, .unset, .unset, .unset, .unset, .unset, .unset, .unset, .unset] [(.int p3)])) rfl (hb hby at_14) _ ?_
      show Steps p.tables e below (T0.setTop (mkF m 16 #[.val (.int p1), .val (.int p2), .val (.int p3), .val (.int p4), .val (.int (1 : Int32)), .unset, .unset, .unset, .unset, .unset, .unset, .unset, .unset, .unset, .unset, .unset, .unset, .unset, .unset, .unset, .unset, .unset] [(.int (2147483647 : Int32)), (.int p3)])) _
      refine XS.iand X0.here hx rfl (hb hby at_16) rfl ?_
      show Steps p.tables e below (T0.setTop (mkF m 17 #[.val (.int p1), .val (.int p2), .val (.int p3), .val (.int p4), .val (.int (1 : Int32)), .unset, .unset, .unset, .unset, .unset, .unset, .unset, .unset, .unset, .unset, .unset, .unset, .unset, .unset, .unset, .unset, .unset] [(.int (p3 &&& (2147483647 : Int32)))])) _
      refine XS.iconst X0.here hx rfl (hb hby at_17) ?_
      show Steps p.tables e below (T0.setTop (mkF m 18 #[.val (.int p1), .val (.int p2), .val (.int p3), .val (.int p4), .val (.int (1 : Int32)), .unset, .unset, .unset, .unset, .unset, .unset, .unset, .unset, .unset, .unset, .unset, .unset, .unset, .unset, .unset, .unset, .unset] [(.int (4 : Int32)), (.int (p3 &&& (2147483647 : Int32)))])) _
      refine iremM X0 hx rfl (hb hby at_18) rfl (by decide) ?_
      show Steps p.tables e below (T0.setTop (mkF m 19 #[.val (.int p1), .val (.int p2), .val (.int p3), .val (.int p4), .val (.int (1 : Int32)), .unset, .unset, .unset, .unset, .unset, .unset, .unset, .unset, .unset, .unset, .unset, .unset, .unset, .unset, .unset, .unset, .unset] [(.int ((p3 &&& (2147483647 : Int32)) % (4 : Int32)))])) _
      refine XS.istore X0.here hx rfl (hb hby at_19) rfl (l' := #[.val (.int p1), .val (.int p2), .val (.int p3), .val (.int p4), .val (.int (1 : Int32)), .val (.int ((p3 &&& (2147483647 : Int32)) % (4 : Int32))), .unset, .unset, .unset, .unset, .unset, .unset, .unset, .unset, .unset, .unset, .unset, .unset, .unset, .unset, .unset, .unset]) rfl ?_
      show Steps p.tables e below (T0.setTop (mkF m 21 #[.val (.int p1), .val (.int p2), .val (.int p3), .val (.int p4), .val (.int (1 : Int32)), .val (.int ((p3 &&& (2147483647 : Int32)) % (4 : Int32))), .unset, .unset, .unset, .unset, .unset, .unset, .unset, .unset, .unset, .unset, .unset, .unset, .unset, .unset, .unset, .unset] [])) _
      refine XS.iload X0.here hx rfl (hb hby at_21) rfl ?_
      show Steps p.tables e below (T0.setTop (mkF m 23 #[.val (.int p1), .val (.int p2), .val (.int p3), .val (.int p4), .val (.int (1 : Int32)), .val (.int ((p3 &&& (2147483647 : Int32)) % (4 : Int32))), .unset, .unset, .unset, .unset, .unset, .unset, .unset, .unset, .unset, .unset, .unset, .unset, .unset, .unset, .unset, .unset] [(.int (1 : Int32))])) _
      refine XS.ifNo X0.here hx rfl (hb hby at_23) rfl (by decide) ?_
      show Steps p.tables e below (T0.setTop (mkF m 26 #[.val (.int p1), .val (.int p2), .val (.int p3), .val (.int p4), .val (.int (1 : Int32)), .val (.int ((p3 &&& (2147483647 : Int32)) % (4 : Int32))), .unset, .unset, .unset, .unset, .unset, .unset, .unset, .unset, .unset, .unset, .unset, .unset, .unset, .unset, .unset, .unset] [])) _
      refine XS.iload X0.here hx rfl (hb hby at_26) rfl ?_
      show Steps p.tables e below (T0.setTop (mkF m 28 #[.val (.int p1), .val (.int p2), .val (.int p3), .val (.int p4), .val (.int (1 : Int32)), .val (.int ((p3 &&& (2147483647 : Int32)) % (4 : Int32))), .unset, .unset, .unset, .unset, .unset, .unset, .unset, .unset, .unset, .unset, .unset, .unset, .unset, .unset, .unset, .unset] [(.int ((p3 &&& (2147483647 : Int32)) % (4 : Int32)))])) _
      refine XS.goto X0.here hx rfl (pc0 := 28) (pc' := 40) rfl (hb hby at_28) (by decide) (by decide) ?_
      show Steps p.tables e below (T0.setTop (mkF m 40 #[.val (.int p1), .val (.int p2), .val (.int p3), .val (.int p4), .val (.int (1 : Int32)), .val (.int ((p3 &&& (2147483647 : Int32)) % (4 : Int32))), .unset, .unset, .unset, .unset, .unset, .unset, .unset, .unset, .unset, .unset, .unset, .unset, .unset, .unset, .unset, .unset] [(.int ((p3 &&& (2147483647 : Int32)) % (4 : Int32)))])) _
      refine XS.istore X0.here hx rfl (hb hby at_40) rfl (l' := #[.val (.int p1), .val (.int p2), .val (.int p3), .val (.int p4), .val (.int (1 : Int32)), .val (.int ((p3 &&& (2147483647 : Int32)) % (4 : Int32))), .val (.int ((p3 &&& (2147483647 : Int32)) % (4 : Int32))), .unset, .unset, .unset, .unset, .unset, .unset, .unset, .unset, .unset, .unset, .unset, .unset, .unset, .unset, .unset]) rfl ?_
      show Steps p.tables e below (T0.setTop (mkF m 42 #[.val (.int p1), .val (.int p2), .val (.int p3), .val (.int p4), .val (.int (1 : Int32)), .val (.int ((p3 &&& (2147483647 : Int32)) % (4 : Int32))), .val (.int ((p3 &&& (2147483647 : Int32)) % (4 : Int32))), .unset, .unset, .unset, .unset, .unset, .unset, .unset, .unset, .unset, .unset, .unset, .unset, .unset, .unset, .unset] [])) _
      refine XS.iloadN X0.here hx rfl (hb hby at_42) rfl ?_
      show Steps p.tables e below (T0.setTop (mkF m 43 #[.val (.int p1), .val (.int p2), .val (.int p3), .val (.int p4), .val (.int (1 : Int32)), .val (.int ((p3 &&& (2147483647 : Int32)) % (4 : Int32))), .val (.int ((p3 &&& (2147483647 : Int32)) % (4 : Int32))), .unset, .unset, .unset, .unset, .unset, .unset, .unset, .unset, .unset, .unset, .unset, .unset, .unset, .unset, .unset] [(.int p1)])) _
      refine XS.sipush X0.here hx rfl (hb hby at_43) ?_
      show Steps p.tables e below (T0.setTop (mkF m 46 #[.val (.int p1), .val (.int p2), .val (.int p3), .val (.int p4), .val (.int (1 : Int32)), .val (.int ((p3 &&& (2147483647 : Int32)) % (4 : Int32))), .val (.int ((p3 &&& (2147483647 : Int32)) % (4 : Int32))), .unset, .unset, .unset, .unset, .unset, .unset, .unset, .unset, .unset, .unset, .unset, .unset, .unset, .unset, .unset] [(.int (255 : Int32)), (.int p1)])) _
      refine XS.iand X0.here hx rfl (hb hby at_46) rfl ?_
      show Steps p.tables e below (T0.setTop (mkF m 47 #[.val (.int p1), .val (.int p2), .val (.int p3), .val (.int p4), .val (.int (1 : Int32)), .val (.int ((p3 &&& (2147483647 : Int32)) % (4 : Int32))), .val (.int ((p3 &&& (2147483647 : Int32)) % (4 : Int32))), .unset, .unset, .unset, .unset, .unset, .unset, .unset, .unset, .unset, .unset, .unset, .unset, .unset, .unset, .unset] [(.int (p1 &&& (255 : Int32)))])) _
      refine XS.i2c X0.here hx rfl (hb hby at_47) rfl ?_
      show Steps p.tables e below (T0.setTop (mkF m 48 #[.val (.int p1), .val (.int p2), .val (.int p3), .val (.int p4), .val (.int (1 : Int32)), .val (.int ((p3 &&& (2147483647 : Int32)) % (4 : Int32))), .val (.int ((p3 &&& (2147483647 : Int32)) % (4 : Int32))), .unset, .unset, .unset, .unset, .unset, .unset, .unset, .unset, .unset, .unset, .unset, .unset, .unset, .unset, .unset] [(.int (((p1 &&& (255 : Int32))).toUInt32.toUInt16.toUInt32.toInt32))])) _
      refine XS.istore X0.here hx rfl (hb hby at_48) rfl (l' := #[.val (.int p1), .val (.int p2), .val (.int p3), .val (.int p4), .val (.int (1 : Int32)), .val (.int ((p3 &&& (2147483647 : Int32)) % (4 : Int32))), .val (.int ((p3 &&& (2147483647 : Int32)) % (4 : Int32))), .val (.int (((p1 &&& (255 : Int32))).toUInt32.toUInt16.toUInt32.toInt32)), .unset, .unset, .unset, .unset, .unset, .unset, .unset, .unset, .unset, .unset, .unset, .unset, .unset, .unset]) rfl ?_
      show Steps p.tables e below (T0.setTop (mkF m 50 #[.val (.int p1), .val (.int p2), .val (.int p3), .val (.int p4), .val (.int (1 : Int32)), .val (.int ((p3 &&& (2147483647 : Int32)) % (4 : Int32))), .val (.int ((p3 &&& (2147483647 : Int32)) % (4 : Int32))), .val (.int (((p1 &&& (255 : Int32))).toUInt32.toUInt16.toUInt32.toInt32)), .unset, .unset, .unset, .unset, .unset, .unset, .unset, .unset, .unset, .unset, .unset, .unset, .unset, .unset] [])) _
      refine XS.iloadN X0.here hx rfl (hb hby at_50) rfl ?_
      show Steps p.tables e below (T0.setTop (mkF m 51 #[.val (.int p1), .val (.int p2), .val (.int p3), .val (.int p4), .val (.int (1 : Int32)), .val (.int ((p3 &&& (2147483647 : Int32)) % (4 : Int32))), .val (.int ((p3 &&& (2147483647 : Int32)) % (4 : Int32))), .val (.int (((p1 &&& (255 : Int32))).toUInt32.toUInt16.toUInt32.toInt32)), .unset, .unset, .unset, .unset, .unset, .unset, .unset, .unset, .unset, .unset, .unset, .unset, .unset, .unset] [(.int p1)])) _
      refine XS.bipush X0.here hx rfl (hb hby at_51) ?_
      show Steps p.tables e below (T0.setTop (mkF m 53 #[.val (.int p1), .val (.int p2), .val (.int p3), .val (.int p4), .val (.int (1 : Int32)), .val (.int ((p3 &&& (2147483647 : Int32)) % (4 : Int32))), .val (.int ((p3 &&& (2147483647 : Int32)) % (4 : Int32))), .val (.int (((p1 &&& (255 : Int32))).toUInt32.toUInt16.toUInt32.toInt32)), .unset, .unset, .unset, .unset, .unset, .unset, .unset, .unset, .unset, .unset, .unset, .unset, .unset, .unset] [(.int (8 : Int32)), (.int p1)])) _
      refine XS.iushr X0.here hx rfl (hb hby at_53) rfl ?_
      show Steps p.tables e below (T0.setTop (mkF m 54 #[.val (.int p1), .val (.int p2), .val (.int p3), .val (.int p4), .val (.int (1 : Int32)), .val (.int ((p3 &&& (2147483647 : Int32)) % (4 : Int32))), .val (.int ((p3 &&& (2147483647 : Int32)) % (4 : Int32))), .val (.int (((p1 &&& (255 : Int32))).toUInt32.toUInt16.toUInt32.toInt32)), .unset, .unset, .unset, .unset, .unset, .unset, .unset, .unset, .unset, .unset, .unset, .unset, .unset, .unset] [(.int (((p1).toUInt32 >>> ((8 : Int32) &&& 31).toUInt32).toInt32))])) _
      refine XS.sipush X0.here hx rfl (hb hby at_54) ?_
      show Steps p.tables e below (T0.setTop (mkF m 57 #[.val (.int p1), .val (.int p2), .val (.int p3), .val (.int p4), .val (.int (1 : Int32)), .val (.int ((p3 &&& (2147483647 : Int32)) % (4 : Int32))), .val (.int ((p3 &&& (2147483647 : Int32)) % (4 : Int32))), .val (.int (((p1 &&& (255 : Int32))).toUInt32.toUInt16.toUInt32.toInt32)), .unset, .unset, .unset, .unset, .unset, .unset, .unset, .unset, .unset, .unset, .unset, .unset, .unset, .unset] [(.int (255 : Int32)), (.int (((p1).toUInt32 >>> ((8 : Int32) &&& 31).toUInt32).toInt32))])) _
      refine XS.iand X0.here hx rfl (hb hby at_57) rfl ?_
      show Steps p.tables e below (T0.setTop (mkF m 58 #[.val (.int p1), .val (.int p2), .val (.int p3), .val (.int p4), .val (.int (1 : Int32)), .val (.int ((p3 &&& (2147483647 : Int32)) % (4 : Int32))), .val (.int ((p3 &&& (2147483647 : Int32)) % (4 : Int32))), .val (.int (((p1 &&& (255 : Int32))).toUInt32.toUInt16.toUInt32.toInt32)), .unset, .unset, .unset, .unset, .unset, .unset, .unset, .unset, .unset, .unset, .unset, .unset, .unset, .unset] [(.int ((((p1).toUInt32 >>> ((8 : Int32) &&& 31).toUInt32).toInt32) &&& (255 : Int32)))])) _
      refine XS.i2c X0.here hx rfl (hb hby at_58) rfl ?_
      show Steps p.tables e below (T0.setTop (mkF m 59 #[.val (.int p1), .val (.int p2), .val (.int p3), .val (.int p4), .val (.int (1 : Int32)), .val (.int ((p3 &&& (2147483647 : Int32)) % (4 : Int32))), .val (.int ((p3 &&& (2147483647 : Int32)) % (4 : Int32))), .val (.int (((p1 &&& (255 : Int32))).toUInt32.toUInt16.toUInt32.toInt32)), .unset, .unset, .unset, .unset, .unset, .unset, .unset, .unset, .unset, .unset, .unset, .unset, .unset, .unset] [(.int ((((((p1).toUInt32 >>> ((8 : Int32) &&& 31).toUInt32).toInt32) &&& (255 : Int32))).toUInt32.toUInt16.toUInt32.toInt32))])) _
      refine XS.istore X0.here hx rfl (hb hby at_59) rfl (l' := #[.val (.int p1), .val (.int p2), .val (.int p3), .val (.int p4), .val (.int (1 : Int32)), .val (.int ((p3 &&& (2147483647 : Int32)) % (4 : Int32))), .val (.int ((p3 &&& (2147483647 : Int32)) % (4 : Int32))), .val (.int (((p1 &&& (255 : Int32))).toUInt32.toUInt16.toUInt32.toInt32)), .val (.int ((((((p1).toUInt32 >>> ((8 : Int32) &&& 31).toUInt32).toInt32) &&& (255 : Int32))).toUInt32.toUInt16.toUInt32.toInt32)), .unset, .unset, .unset, .unset, .unset, .unset, .unset, .unset, .unset, .unset, .unset, .unset, .unset]) rfl ?_
      show Steps p.tables e below (T0.setTop (mkF m 61 #[.val (.int p1), .val (.int p2), .val (.int p3), .val (.int p4), .val (.int (1 : Int32)), .val (.int ((p3 &&& (2147483647 : Int32)) % (4 : Int32))), .val (.int ((p3 &&& (2147483647 : Int32)) % (4 : Int32))), .val (.int (((p1 &&& (255 : Int32))).toUInt32.toUInt16.toUInt32.toInt32)), .val (.int ((((((p1).toUInt32 >>> ((8 : Int32) &&& 31).toUInt32).toInt32) &&& (255 : Int32))).toUInt32.toUInt16.toUInt32.toInt32)), .unset, .unset, .unset, .unset, .unset, .unset, .unset, .unset, .unset, .unset, .unset, .unset, .unset] [])) _
      refine XS.iloadN X0.here hx rfl (hb hby at_61) rfl ?_
      show Steps p.tables e below (T0.setTop (mkF m 62 #[.val (.int p1), .val (.int p2), .val (.int p3), .val (.int p4), .val (.int (1 : Int32)), .val (.int ((p3 &&& (2147483647 : Int32)) % (4 : Int32))), .val (.int ((p3 &&& (2147483647 : Int32)) % (4 : Int32))), .val (.int (((p1 &&& (255 : Int32))).toUInt32.toUInt16.toUInt32.toInt32)), .val (.int ((((((p1).toUInt32 >>> ((8 : Int32) &&& 31).toUInt32).toInt32) &&& (255 : Int32))).toUInt32.toUInt16.toUInt32.toInt32)), .unset, .unset, .unset, .unset, .unset, .unset, .unset, .unset, .unset, .unset, .unset, .unset, .unset] [(.int p1)])) _
      refine XS.bipush X0.here hx rfl (hb hby at_62) ?_
      show Steps p.tables e below (T0.setTop (mkF m 64 #[.val (.int p1), .val (.int p2), .val (.int p3), .val (.int p4), .val (.int (1 : Int32)), .val (.int ((p3 &&& (2147483647 : Int32)) % (4 : Int32))), .val (.int ((p3 &&& (2147483647 : Int32)) % (4 : Int32))), .val (.int (((p1 &&& (255 : Int32))).toUInt32.toUInt16.toUInt32.toInt32)), .val (.int ((((((p1).toUInt32 >>> ((8 : Int32) &&& 31).toUInt32).toInt32) &&& (255 : Int32))).toUInt32.toUInt16.toUInt32.toInt32)), .unset, .unset, .unset, .unset, .unset, .unset, .unset, .unset, .unset, .unset, .unset, .unset, .unset] [(.int (16 : Int32)), (.int p1)])) _
      refine XS.iushr X0.here hx rfl (hb hby at_64) rfl ?_
      show Steps p.tables e below (T0.setTop (mkF m 65 #[.val (.int p1), .val (.int p2), .val (.int p3), .val (.int p4), .val (.int (1 : Int32)), .val (.int ((p3 &&& (2147483647 : Int32)) % (4 : Int32))), .val (.int ((p3 &&& (2147483647 : Int32)) % (4 : Int32))), .val (.int (((p1 &&& (255 : Int32))).toUInt32.toUInt16.toUInt32.toInt32)), .val (.int ((((((p1).toUInt32 >>> ((8 : Int32) &&& 31).toUInt32).toInt32) &&& (255 : Int32))).toUInt32.toUInt16.toUInt32.toInt32)), .unset, .unset, .unset, .unset, .unset, .unset, .unset, .unset, .unset, .unset, .unset, .unset, .unset] [(.int (((p1).toUInt32 >>> ((16 : Int32) &&& 31).toUInt32).toInt32))])) _
      refine XS.sipush X0.here hx rfl (hb hby at_65) ?_
      show Steps p.tables e below (T0.setTop (mkF m 68 #[.val (.int p1), .val (.int p2), .val (.int p3), .val (.int p4), .val (.int (1 : Int32)), .val (.int ((p3 &&& (2147483647 : Int32)) % (4 : Int32))), .val (.int ((p3 &&& (2147483647 : Int32)) % (4 : Int32))), .val (.int (((p1 &&& (255 : Int32))).toUInt32.toUInt16.toUInt32.toInt32)), .val (.int ((((((p1).toUInt32 >>> ((8 : Int32) &&& 31).toUInt32).toInt32) &&& (255 : Int32))).toUInt32.toUInt16.toUInt32.toInt32)), .unset, .unset, .unset, .unset, .unset, .unset, .unset, .unset, .unset, .unset, .unset, .unset, .unset] [(.int (255 : Int32)), (.int (((p1).toUInt32 >>> ((16 : Int32) &&& 31).toUInt32).toInt32))])) _
      refine XS.iand X0.here hx rfl (hb hby at_68) rfl ?_
      show Steps p.tables e below (T0.setTop (mkF m 69 #[.val (.int p1), .val (.int p2), .val (.int p3), .val (.int p4), .val (.int (1 : Int32)), .val (.int ((p3 &&& (2147483647 : Int32)) % (4 : Int32))), .val (.int ((p3 &&& (2147483647 : Int32)) % (4 : Int32))), .val (.int (((p1 &&& (255 : Int32))).toUInt32.toUInt16.toUInt32.toInt32)), .val (.int ((((((p1).toUInt32 >>> ((8 : Int32) &&& 31).toUInt32).toInt32) &&& (255 : Int32))).toUInt32.toUInt16.toUInt32.toInt32)), .unset, .unset, .unset, .unset, .unset, .unset, .unset, .unset, .unset, .unset, .unset, .unset, .unset] [(.int ((((p1).toUInt32 >>> ((16 : Int32) &&& 31).toUInt32).toInt32) &&& (255 : Int32)))])) _
      refine XS.i2c X0.here hx rfl (hb hby at_69) rfl ?_
      show Steps p.tables e below (T0.setTop (mkF m 70 #[.val (.int p1), .val (.int p2), .val (.int p3), .val (.int p4), .val (.int (1 : Int32)), .val (.int ((p3 &&& (2147483647 : Int32)) % (4 : Int32))), .val (.int ((p3 &&& (2147483647 : Int32)) % (4 : Int32))), .val (.int (((p1 &&& (255 : Int32))).toUInt32.toUInt16.toUInt32.toInt32)), .val (.int ((((((p1).toUInt32 >>> ((8 : Int32) &&& 31).toUInt32).toInt32) &&& (255 : Int32))).toUInt32.toUInt16.toUInt32.toInt32)), .unset, .unset, .unset, .unset, .unset, .unset, .unset, .unset, .unset, .unset, .unset, .unset, .unset] [(.int ((((((p1).toUInt32 >>> ((16 : Int32) &&& 31).toUInt32).toInt32) &&& (255 : Int32))).toUInt32.toUInt16.toUInt32.toInt32))])) _
      refine XS.istore X0.here hx rfl (hb hby at_70) rfl (l' := #[.val (.int p1), .val (.int p2), .val (.int p3), .val (.int p4), .val (.int (1 : Int32)), .val (.int ((p3 &&& (2147483647 : Int32)) % (4 : Int32))), .val (.int ((p3 &&& (2147483647 : Int32)) % (4 : Int32))), .val (.int (((p1 &&& (255 : Int32))).toUInt32.toUInt16.toUInt32.toInt32)), .val (.int ((((((p1).toUInt32 >>> ((8 : Int32) &&& 31).toUInt32).toInt32) &&& (255 : Int32))).toUInt32.toUInt16.toUInt32.toInt32)), .val (.int ((((((p1).toUInt32 >>> ((16 : Int32) &&& 31).toUInt32).toInt32) &&& (255 : Int32))).toUInt32.toUInt16.toUInt32.toInt32)), .unset, .unset, .unset, .unset, .unset, .unset, .unset, .unset, .unset, .unset, .unset, .unset]) rfl ?_
      show Steps p.tables e below (T0.setTop (mkF m 72 #[.val (.int p1), .val (.int p2), .val (.int p3), .val (.int p4), .val (.int (1 : Int32)), .val (.int ((p3 &&& (2147483647 : Int32)) % (4 : Int32))), .val (.int ((p3 &&& (2147483647 : Int32)) % (4 : Int32))), .val (.int (((p1 &&& (255 : Int32))).toUInt32.toUInt16.toUInt32.toInt32)), .val (.int ((((((p1).toUInt32 >>> ((8 : Int32) &&& 31).toUInt32).toInt32) &&& (255 : Int32))).toUInt32.toUInt16.toUInt32.toInt32)), .val (.int ((((((p1).toUInt32 >>> ((16 : Int32) &&& 31).toUInt32).toInt32) &&& (255 : Int32))).toUInt32.toUInt16.toUInt32.toInt32)), .unset, .unset, .unset, .unset, .unset, .unset, .unset, .unset, .unset, .unset, .unset, .unset] [])) _
      refine XS.iload X0.here hx rfl (hb hby at_72) rfl ?_
      show Steps p.tables e below (T0.setTop (mkF m 74 #[.val (.int p1), .val (.int p2), .val (.int p3), .val (.int p4), .val (.int (1 : Int32)), .val (.int ((p3 &&& (2147483647 : Int32)) % (4 : Int32))), .val (.int ((p3 &&& (2147483647 : Int32)) % (4 : Int32))), .val (.int (((p1 &&& (255 : Int32))).toUInt32.toUInt16.toUInt32.toInt32)), .val (.int ((((((p1).toUInt32 >>> ((8 : Int32) &&& 31).toUInt32).toInt32) &&& (255 : Int32))).toUInt32.toUInt16.toUInt32.toInt32)), .val (.int ((((((p1).toUInt32 >>> ((16 : Int32) &&& 31).toUInt32).toInt32) &&& (255 : Int32))).toUInt32.toUInt16.toUInt32.toInt32)), .unset, .unset, .unset, .unset, .unset, .unset, .unset, .unset, .unset, .unset, .unset, .unset] [(.int (1 : Int32))])) _
      refine XS.ifNo X0.here hx rfl (hb hby at_74) rfl (by decide) ?_
      show Steps p.tables e below (T0.setTop (mkF m 77 #[.val (.int p1), .val (.int p2), .val (.int p3), .val (.int p4), .val (.int (1 : Int32)), .val (.int ((p3 &&& (2147483647 : Int32)) % (4 : Int32))), .val (.int ((p3 &&& (2147483647 : Int32)) % (4 : Int32))), .val (.int (((p1 &&& (255 : Int32))).toUInt32.toUInt16.toUInt32.toInt32)), .val (.int ((((((p1).toUInt32 >>> ((8 : Int32) &&& 31).toUInt32).toInt32) &&& (255 : Int32))).toUInt32.toUInt16.toUInt32.toInt32)), .val (.int ((((((p1).toUInt32 >>> ((16 : Int32) &&& 31).toUInt32).toInt32) &&& (255 : Int32))).toUInt32.toUInt16.toUInt32.toInt32)), .unset, .unset, .unset, .unset, .unset, .unset, .unset, .unset, .unset, .unset, .unset, .unset] [])) _
      refine XS.iload X0.here hx rfl (hb hby at_77) rfl ?_
      show Steps p.tables e below (T0.setTop (mkF m 79 #[.val (.int p1), .val (.int p2), .val (.int p3), .val (.int p4), .val (.int (1 : Int32)), .val (.int ((p3 &&& (2147483647 : Int32)) % (4 : Int32))), .val (.int ((p3 &&& (2147483647 : Int32)) % (4 : Int32))), .val (.int (((p1 &&& (255 : Int32))).toUInt32.toUInt16.toUInt32.toInt32)), .val (.int ((((((p1).toUInt32 >>> ((8 : Int32) &&& 31).toUInt32).toInt32) &&& (255 : Int32))).toUInt32.toUInt16.toUInt32.toInt32)), .val (.int ((((((p1).toUInt32 >>> ((16 : Int32) &&& 31).toUInt32).toInt32) &&& (255 : Int32))).toUInt32.toUInt16.toUInt32.toInt32)), .unset, .unset, .unset, .unset, .unset, .unset, .unset, .unset, .unset, .unset, .unset, .unset] [(.int (((p1 &&& (255 : Int32))).toUInt32.toUInt16.toUInt32.toInt32))])) _
      refine XS.goto X0.here hx rfl (pc0 := 79) (pc' := 88) rfl (hb hby at_79) (by decide) (by decide) ?_
      show Steps p.tables e below (T0.setTop (mkF m 88 #[.val (.int p1), .val (.int p2), .val (.int p3), .val (.int p4), .val (.int (1 : Int32)), .val (.int ((p3 &&& (2147483647 : Int32)) % (4 : Int32))), .val (.int ((p3 &&& (2147483647 : Int32)) % (4 : Int32))), .val (.int (((p1 &&& (255 : Int32))).toUInt32.toUInt16.toUInt32.toInt32)), .val (.int ((((((p1).toUInt32 >>> ((8 : Int32) &&& 31).toUInt32).toInt32) &&& (255 : Int32))).toUInt32.toUInt16.toUInt32.toInt32)), .val (.int ((((((p1).toUInt32 >>> ((16 : Int32) &&& 31).toUInt32).toInt32) &&& (255 : Int32))).toUInt32.toUInt16.toUInt32.toInt32)), .unset, .unset, .unset, .unset, .unset, .unset, .unset, .unset, .unset, .unset, .unset, .unset] [(.int (((p1 &&& (255 : Int32))).toUInt32.toUInt16.toUInt32.toInt32))])) _
      refine XS.istore X0.here hx rfl (hb hby at_88) rfl (l' := #[.val (.int p1), .val (.int p2), .val (.int p3), .val (.int p4), .val (.int (1 : Int32)), .val (.int ((p3 &&& (2147483647 : Int32)) % (4 : Int32))), .val (.int ((p3 &&& (2147483647 : Int32)) % (4 : Int32))), .val (.int (((p1 &&& (255 : Int32))).toUInt32.toUInt16.toUInt32.toInt32)), .val (.int ((((((p1).toUInt32 >>> ((8 : Int32) &&& 31).toUInt32).toInt32) &&& (255 : Int32))).toUInt32.toUInt16.toUInt32.toInt32)), .val (.int ((((((p1).toUInt32 >>> ((16 : Int32) &&& 31).toUInt32).toInt32) &&& (255 : Int32))).toUInt32.toUInt16.toUInt32.toInt32)), .val (.int (((p1 &&& (255 : Int32))).toUInt32.toUInt16.toUInt32.toInt32)), .unset, .unset, .unset, .unset, .unset, .unset, .unset, .unset, .unset, .unset, .unset]) rfl ?_
      show Steps p.tables e below (T0.setTop (mkF m 90 #[.val (.int p1), .val (.int p2), .val (.int p3), .val (.int p4), .val (.int (1 : Int32)), .val (.int ((p3 &&& (2147483647 : Int32)) % (4 : Int32))), .val (.int ((p3 &&& (2147483647 : Int32)) % (4 : Int32))), .val (.int (((p1 &&& (255 : Int32))).toUInt32.toUInt16.toUInt32.toInt32)), .val (.int ((((((p1).toUInt32 >>> ((8 : Int32) &&& 31).toUInt32).toInt32) &&& (255 : Int32))).toUInt32.toUInt16.toUInt32.toInt32)), .val (.int ((((((p1).toUInt32 >>> ((16 : Int32) &&& 31).toUInt32).toInt32) &&& (255 : Int32))).toUInt32.toUInt16.toUInt32.toInt32)), .val (.int (((p1 &&& (255 : Int32))).toUInt32.toUInt16.toUInt32.toInt32)), .unset, .unset, .unset, .unset, .unset, .unset, .unset, .unset, .unset, .unset, .unset] [])) _
      refine XS.iload X0.here hx rfl (hb hby at_90) rfl ?_
      show Steps p.tables e below (T0.setTop (mkF m 92 #[.val (.int p1), .val (.int p2), .val (.int p3), .val (.int p4), .val (.int (1 : Int32)), .val (.int ((p3 &&& (2147483647 : Int32)) % (4 : Int32))), .val (.int ((p3 &&& (2147483647 : Int32)) % (4 : Int32))), .val (.int (((p1 &&& (255 : Int32))).toUInt32.toUInt16.toUInt32.toInt32)), .val (.int ((((((p1).toUInt32 >>> ((8 : Int32) &&& 31).toUInt32).toInt32) &&& (255 : Int32))).toUInt32.toUInt16.toUInt32.toInt32)), .val (.int ((((((p1).toUInt32 >>> ((16 : Int32) &&& 31).toUInt32).toInt32) &&& (255 : Int32))).toUInt32.toUInt16.toUInt32.toInt32)), .val (.int (((p1 &&& (255 : Int32))).toUInt32.toUInt16.toUInt32.toInt32)), .unset, .unset, .unset, .unset, .unset, .unset, .unset, .unset, .unset, .unset, .unset] [(.int (1 : Int32))])) _
      refine XS.ifNo X0.here hx rfl (hb hby at_92) rfl (by decide) ?_
      show Steps p.tables e below (T0.setTop (mkF m 95 #[.val (.int p1), .val (.int p2), .val (.int p3), .val (.int p4), .val (.int (1 : Int32)), .val (.int ((p3 &&& (2147483647 : Int32)) % (4 : Int32))), .val (.int ((p3 &&& (2147483647 : Int32)) % (4 : Int32))), .val (.int (((p1 &&& (255 : Int32))).toUInt32.toUInt16.toUInt32.toInt32)), .val (.int ((((((p1).toUInt32 >>> ((8 : Int32) &&& 31).toUInt32).toInt32) &&& (255 : Int32))).toUInt32.toUInt16.toUInt32.toInt32)), .val (.int ((((((p1).toUInt32 >>> ((16 : Int32) &&& 31).toUInt32).toInt32) &&& (255 : Int32))).toUInt32.toUInt16.toUInt32.toInt32)), .val (.int (((p1 &&& (255 : Int32))).toUInt32.toUInt16.toUInt32.toInt32)), .unset, .unset, .unset, .unset, .unset, .unset, .unset, .unset, .unset, .unset, .unset] [])) _
      refine XS.iload X0.here hx rfl (hb hby at_95) rfl ?_
      show Steps p.tables e below (T0.setTop (mkF m 97 #[.val (.int p1), .val (.int p2), .val (.int p3), .val (.int p4), .val (.int (1 : Int32)), .val (.int ((p3 &&& (2147483647 : Int32)) % (4 : Int32))), .val (.int ((p3 &&& (2147483647 : Int32)) % (4 : Int32))), .val (.int (((p1 &&& (255 : Int32))).toUInt32.toUInt16.toUInt32.toInt32)), .val (.int ((((((p1).toUInt32 >>> ((8 : Int32) &&& 31).toUInt32).toInt32) &&& (255 : Int32))).toUInt32.toUInt16.toUInt32.toInt32)), .val (.int ((((((p1).toUInt32 >>> ((16 : Int32) &&& 31).toUInt32).toInt32) &&& (255 : Int32))).toUInt32.toUInt16.toUInt32.toInt32)), .val (.int (((p1 &&& (255 : Int32))).toUInt32.toUInt16.toUInt32.toInt32)), .unset, .unset, .unset, .unset, .unset, .unset, .unset, .unset, .unset, .unset, .unset] [(.int ((((((p1).toUInt32 >>> ((8 : Int32) &&& 31).toUInt32).toInt32) &&& (255 : Int32))).toUInt32.toUInt16.toUInt32.toInt32))])) _
      refine XS.goto X0.here hx rfl (pc0 := 97) (pc' := 109) rfl (hb hby at_97) (by decide) (by decide) ?_
      show Steps p.tables e below (T0.setTop (mkF m 109 #[.val (.int p1), .val (.int p2), .val (.int p3), .val (.int p4), .val (.int (1 : Int32)), .val (.int ((p3 &&& (2147483647 : Int32)) % (4 : Int32))), .val (.int ((p3 &&& (2147483647 : Int32)) % (4 : Int32))), .val (.int (((p1 &&& (255 : Int32))).toUInt32.toUInt16.toUInt32.toInt32)), .val (.int ((((((p1).toUInt32 >>> ((8 : Int32) &&& 31).toUInt32).toInt32) &&& (255 : Int32))).toUInt32.toUInt16.toUInt32.toInt32)), .val (.int ((((((p1).toUInt32 >>> ((16 : Int32) &&& 31).toUInt32).toInt32) &&& (255 : Int32))).toUInt32.toUInt16.toUInt32.toInt32)), .val (.int (((p1 &&& (255 : Int32))).toUInt32.toUInt16.toUInt32.toInt32)), .unset, .unset, .unset, .unset, .unset, .unset, .unset, .unset, .unset, .unset, .unset] [(.int ((((((p1).toUInt32 >>> ((8 : Int32) &&& 31).toUInt32).toInt32) &&& (255 : Int32))).toUInt32.toUInt16.toUInt32.toInt32))])) _
      refine XS.istore X0.here hx rfl (hb hby at_109) rfl (l' := #[.val (.int p1), .val (.int p2), .val (.int p3), .val (.int p4), .val (.int (1 : Int32)), .val (.int ((p3 &&& (2147483647 : Int32)) % (4 : Int32))), .val (.int ((p3 &&& (2147483647 : Int32)) % (4 : Int32))), .val (.int (((p1 &&& (255 : Int32))).toUInt32.toUInt16.toUInt32.toInt32)), .val (.int ((((((p1).toUInt32 >>> ((8 : Int32) &&& 31).toUInt32).toInt32) &&& (255 : Int32))).toUInt32.toUInt16.toUInt32.toInt32)), .val (.int ((((((p1).toUInt32 >>> ((16 : Int32) &&& 31).toUInt32).toInt32) &&& (255 : Int32))).toUInt32.toUInt16.toUInt32.toInt32)), .val (.int (((p1 &&& (255 : Int32))).toUInt32.toUInt16.toUInt32.toInt32)), .val (.int ((((((p1).toUInt32 >>> ((8 : Int32) &&& 31).toUInt32).toInt32) &&& (255 : Int32))).toUInt32.toUInt16.toUInt32.toInt32)), .unset, .unset, .unset, .unset, .unset, .unset, .unset, .unset, .unset, .unset]) rfl ?_
      show Steps p.tables e below (T0.setTop (mkF m 111 #[.val (.int p1), .val (.int p2), .val (.int p3), .val (.int p4), .val (.int (1 : Int32)), .val (.int ((p3 &&& (2147483647 : Int32)) % (4 : Int32))), .val (.int ((p3 &&& (2147483647 : Int32)) % (4 : Int32))), .val (.int (((p1 &&& (255 : Int32))).toUInt32.toUInt16.toUInt32.toInt32)), .val (.int ((((((p1).toUInt32 >>> ((8 : Int32) &&& 31).toUInt32).toInt32) &&& (255 : Int32))).toUInt32.toUInt16.toUInt32.toInt32)), .val (.int ((((((p1).toUInt32 >>> ((16 : Int32) &&& 31).toUInt32).toInt32) &&& (255 : Int32))).toUInt32.toUInt16.toUInt32.toInt32)), .val (.int (((p1 &&& (255 : Int32))).toUInt32.toUInt16.toUInt32.toInt32)), .val (.int ((((((p1).toUInt32 >>> ((8 : Int32) &&& 31).toUInt32).toInt32) &&& (255 : Int32))).toUInt32.toUInt16.toUInt32.toInt32)), .unset, .unset, .unset, .unset, .unset, .unset, .unset, .unset, .unset, .unset] [])) _
      refine XS.iload X0.here hx rfl (hb hby at_111) rfl ?_
      show Steps p.tables e below (T0.setTop (mkF m 113 #[.val (.int p1), .val (.int p2), .val (.int p3), .val (.int p4), .val (.int (1 : Int32)), .val (.int ((p3 &&& (2147483647 : Int32)) % (4 : Int32))), .val (.int ((p3 &&& (2147483647 : Int32)) % (4 : Int32))), .val (.int (((p1 &&& (255 : Int32))).toUInt32.toUInt16.toUInt32.toInt32)), .val (.int ((((((p1).toUInt32 >>> ((8 : Int32) &&& 31).toUInt32).toInt32) &&& (255 : Int32))).toUInt32.toUInt16.toUInt32.toInt32)), .val (.int ((((((p1).toUInt32 >>> ((16 : Int32) &&& 31).toUInt32).toInt32) &&& (255 : Int32))).toUInt32.toUInt16.toUInt32.toInt32)), .val (.int (((p1 &&& (255 : Int32))).toUInt32.toUInt16.toUInt32.toInt32)), .val (.int ((((((p1).toUInt32 >>> ((8 : Int32) &&& 31).toUInt32).toInt32) &&& (255 : Int32))).toUInt32.toUInt16.toUInt32.toInt32)), .unset, .unset, .unset, .unset, .unset, .unset, .unset, .unset, .unset, .unset] [(.int (1 : Int32))])) _
      refine XS.ifNo X0.here hx rfl (hb hby at_113) rfl (by decide) ?_
      show Steps p.tables e below (T0.setTop (mkF m 116 #[.val (.int p1), .val (.int p2), .val (.int p3), .val (.int p4), .val (.int (1 : Int32)), .val (.int ((p3 &&& (2147483647 : Int32)) % (4 : Int32))), .val (.int ((p3 &&& (2147483647 : Int32)) % (4 : Int32))), .val (.int (((p1 &&& (255 : Int32))).toUInt32.toUInt16.toUInt32.toInt32)), .val (.int ((((((p1).toUInt32 >>> ((8 : Int32) &&& 31).toUInt32).toInt32) &&& (255 : Int32))).toUInt32.toUInt16.toUInt32.toInt32)), .val (.int ((((((p1).toUInt32 >>> ((16 : Int32) &&& 31).toUInt32).toInt32) &&& (255 : Int32))).toUInt32.toUInt16.toUInt32.toInt32)), .val (.int (((p1 &&& (255 : Int32))).toUInt32.toUInt16.toUInt32.toInt32)), .val (.int ((((((p1).toUInt32 >>> ((8 : Int32) &&& 31).toUInt32).toInt32) &&& (255 : Int32))).toUInt32.toUInt16.toUInt32.toInt32)), .unset, .unset, .unset, .unset, .unset, .unset, .unset, .unset, .unset, .unset] [])) _
      refine XS.iload X0.here hx rfl (hb hby at_116) rfl ?_
      show Steps p.tables e below (T0.setTop (mkF m 118 #[.val (.int p1), .val (.int p2), .val (.int p3), .val (.int p4), .val (.int (1 : Int32)), .val (.int ((p3 &&& (2147483647 : Int32)) % (4 : Int32))), .val (.int ((p3 &&& (2147483647 : Int32)) % (4 : Int32))), .val (.int (((p1 &&& (255 : Int32))).toUInt32.toUInt16.toUInt32.toInt32)), .val (.int ((((((p1).toUInt32 >>> ((8 : Int32) &&& 31).toUInt32).toInt32) &&& (255 : Int32))).toUInt32.toUInt16.toUInt32.toInt32)), .val (.int ((((((p1).toUInt32 >>> ((16 : Int32) &&& 31).toUInt32).toInt32) &&& (255 : Int32))).toUInt32.toUInt16.toUInt32.toInt32)), .val (.int (((p1 &&& (255 : Int32))).toUInt32.toUInt16.toUInt32.toInt32)), .val (.int ((((((p1).toUInt32 >>> ((8 : Int32) &&& 31).toUInt32).toInt32) &&& (255 : Int32))).toUInt32.toUInt16.toUInt32.toInt32)), .unset, .unset, .unset, .unset, .unset, .unset, .unset, .unset, .unset, .unset] [(.int ((((((p1).toUInt32 >>> ((16 : Int32) &&& 31).toUInt32).toInt32) &&& (255 : Int32))).toUInt32.toUInt16.toUInt32.toInt32))])) _
      refine XS.goto X0.here hx rfl (pc0 := 118) (pc' := 130) rfl (hb hby at_118) (by decide) (by decide) ?_
      show Steps p.tables e below (T0.setTop (mkF m 130 #[.val (.int p1), .val (.int p2), .val (.int p3), .val (.int p4), .val (.int (1 : Int32)), .val (.int ((p3 &&& (2147483647 : Int32)) % (4 : Int32))), .val (.int ((p3 &&& (2147483647 : Int32)) % (4 : Int32))), .val (.int (((p1 &&& (255 : Int32))).toUInt32.toUInt16.toUInt32.toInt32)), .val (.int ((((((p1).toUInt32 >>> ((8 : Int32) &&& 31).toUInt32).toInt32) &&& (255 : Int32))).toUInt32.toUInt16.toUInt32.toInt32)), .val (.int ((((((p1).toUInt32 >>> ((16 : Int32) &&& 31).toUInt32).toInt32) &&& (255 : Int32))).toUInt32.toUInt16.toUInt32.toInt32)), .val (.int (((p1 &&& (255 : Int32))).toUInt32.toUInt16.toUInt32.toInt32)), .val (.int ((((((p1).toUInt32 >>> ((8 : Int32) &&& 31).toUInt32).toInt32) &&& (255 : Int32))).toUInt32.toUInt16.toUInt32.toInt32)), .unset, .unset, .unset, .unset, .unset, .unset, .unset, .unset, .unset, .unset] [(.int ((((((p1).toUInt32 >>> ((16 : Int32) &&& 31).toUInt32).toInt32) &&& (255 : Int32))).toUInt32.toUInt16.toUInt32.toInt32))])) _
      refine XS.istore X0.here hx rfl (hb hby at_130) rfl (l' := #[.val (.int p1), .val (.int p2), .val (.int p3), .val (.int p4), .val (.int (1 : Int32)), .val (.int ((p3 &&& (2147483647 : Int32)) % (4 : Int32))), .val (.int ((p3 &&& (2147483647 : Int32)) % (4 : Int32))), .val (.int (((p1 &&& (255 : Int32))).toUInt32.toUInt16.toUInt32.toInt32)), .val (.int ((((((p1).toUInt32 >>> ((8 : Int32) &&& 31).toUInt32).toInt32) &&& (255 : Int32))).toUInt32.toUInt16.toUInt32.toInt32)), .val (.int ((((((p1).toUInt32 >>> ((16 : Int32) &&& 31).toUInt32).toInt32) &&& (255 : Int32))).toUInt32.toUInt16.toUInt32.toInt32)), .val (.int (((p1 &&& (255 : Int32))).toUInt32.toUInt16.toUInt32.toInt32)), .val (.int ((((((p1).toUInt32 >>> ((8 : Int32) &&& 31).toUInt32).toInt32) &&& (255 : Int32))).toUInt32.toUInt16.toUInt32.toInt32)), .val (.int ((((((p1).toUInt32 >>> ((16 : Int32) &&& 31).toUInt32).toInt32) &&& (255 : Int32))).toUInt32.toUInt16.toUInt32.toInt32)), .unset, .unset, .unset, .unset, .unset, .unset, .unset, .unset, .unset]) rfl ?_
      show Steps p.tables e below (T0.setTop (mkF m 132 #[.val (.int p1), .val (.int p2), .val (.int p3), .val (.int p4), .val (.int (1 : Int32)), .val (.int ((p3 &&& (2147483647 : Int32)) % (4 : Int32))), .val (.int ((p3 &&& (2147483647 : Int32)) % (4 : Int32))), .val (.int (((p1 &&& (255 : Int32))).toUInt32.toUInt16.toUInt32.toInt32)), .val (.int ((((((p1).toUInt32 >>> ((8 : Int32) &&& 31).toUInt32).toInt32) &&& (255 : Int32))).toUInt32.toUInt16.toUInt32.toInt32)), .val (.int ((((((p1).toUInt32 >>> ((16 : Int32) &&& 31).toUInt32).toInt32) &&& (255 : Int32))).toUInt32.toUInt16.toUInt32.toInt32)), .val (.int (((p1 &&& (255 : Int32))).toUInt32.toUInt16.toUInt32.toInt32)), .val (.int ((((((p1).toUInt32 >>> ((8 : Int32) &&& 31).toUInt32).toInt32) &&& (255 : Int32))).toUInt32.toUInt16.toUInt32.toInt32)), .val (.int ((((((p1).toUInt32 >>> ((16 : Int32) &&& 31).toUInt32).toInt32) &&& (255 : Int32))).toUInt32.toUInt16.toUInt32.toInt32)), .unset, .unset, .unset, .unset, .unset, .unset, .unset, .unset, .unset] [])) _
      refine XS.iload X0.here hx rfl (hb hby at_132) rfl ?_
      show Steps p.tables e below (T0.setTop (mkF m 134 #[.val (.int p1), .val (.int p2), .val (.int p3), .val (.int p4), .val (.int (1 : Int32)), .val (.int ((p3 &&& (2147483647 : Int32)) % (4 : Int32))), .val (.int ((p3 &&& (2147483647 : Int32)) % (4 : Int32))), .val (.int (((p1 &&& (255 : Int32))).toUInt32.toUInt16.toUInt32.toInt32)), .val (.int ((((((p1).toUInt32 >>> ((8 : Int32) &&& 31).toUInt32).toInt32) &&& (255 : Int32))).toUInt32.toUInt16.toUInt32.toInt32)), .val (.int ((((((p1).toUInt32 >>> ((16 : Int32) &&& 31).toUInt32).toInt32) &&& (255 : Int32))).toUInt32.toUInt16.toUInt32.toInt32)), .val (.int (((p1 &&& (255 : Int32))).toUInt32.toUInt16.toUInt32.toInt32)), .val (.int ((((((p1).toUInt32 >>> ((8 : Int32) &&& 31).toUInt32).toInt32) &&& (255 : Int32))).toUInt32.toUInt16.toUInt32.toInt32)), .val (.int ((((((p1).toUInt32 >>> ((16 : Int32) &&& 31).toUInt32).toInt32) &&& (255 : Int32))).toUInt32.toUInt16.toUInt32.toInt32)), .unset, .unset, .unset, .unset, .unset, .unset, .unset, .unset, .unset] [(.int (1 : Int32))])) _
      refine XS.ifNo X0.here hx rfl (hb hby at_134) rfl (by decide) ?_
      show Steps p.tables e below (T0.setTop (mkF m 137 #[.val (.int p1), .val (.int p2), .val (.int p3), .val (.int p4), .val (.int (1 : Int32)), .val (.int ((p3 &&& (2147483647 : Int32)) % (4 : Int32))), .val (.int ((p3 &&& (2147483647 : Int32)) % (4 : Int32))), .val (.int (((p1 &&& (255 : Int32))).toUInt32.toUInt16.toUInt32.toInt32)), .val (.int ((((((p1).toUInt32 >>> ((8 : Int32) &&& 31).toUInt32).toInt32) &&& (255 : Int32))).toUInt32.toUInt16.toUInt32.toInt32)), .val (.int ((((((p1).toUInt32 >>> ((16 : Int32) &&& 31).toUInt32).toInt32) &&& (255 : Int32))).toUInt32.toUInt16.toUInt32.toInt32)), .val (.int (((p1 &&& (255 : Int32))).toUInt32.toUInt16.toUInt32.toInt32)), .val (.int ((((((p1).toUInt32 >>> ((8 : Int32) &&& 31).toUInt32).toInt32) &&& (255 : Int32))).toUInt32.toUInt16.toUInt32.toInt32)), .val (.int ((((((p1).toUInt32 >>> ((16 : Int32) &&& 31).toUInt32).toInt32) &&& (255 : Int32))).toUInt32.toUInt16.toUInt32.toInt32)), .unset, .unset, .unset, .unset, .unset, .unset, .unset, .unset, .unset] [])) _
      refine XS.iloadN X0.here hx rfl (hb hby at_137) rfl ?_
      show Steps p.tables e below (T0.setTop (mkF m 138 #[.val (.int p1), .val (.int p2), .val (.int p3), .val (.int p4), .val (.int (1 : Int32)), .val (.int ((p3 &&& (2147483647 : Int32)) % (4 : Int32))), .val (.int ((p3 &&& (2147483647 : Int32)) % (4 : Int32))), .val (.int (((p1 &&& (255 : Int32))).toUInt32.toUInt16.toUInt32.toInt32)), .val (.int ((((((p1).toUInt32 >>> ((8 : Int32) &&& 31).toUInt32).toInt32) &&& (255 : Int32))).toUInt32.toUInt16.toUInt32.toInt32)), .val (.int ((((((p1).toUInt32 >>> ((16 : Int32) &&& 31).toUInt32).toInt32) &&& (255 : Int32))).toUInt32.toUInt16.toUInt32.toInt32)), .val (.int (((p1 &&& (255 : Int32))).toUInt32.toUInt16.toUInt32.toInt32)), .val (.int ((((((p1).toUInt32 >>> ((8 : Int32) &&& 31).toUInt32).toInt32) &&& (255 : Int32))).toUInt32.toUInt16.toUInt32.toInt32)), .val (.int ((((((p1).toUInt32 >>> ((16 : Int32) &&& 31).toUInt32).toInt32) &&& (255 : Int32))).toUInt32.toUInt16.toUInt32.toInt32)), .unset, .unset, .unset, .unset, .unset, .unset, .unset, .unset, .unset] [(.int p4)])) _
      refine XS.iconst X0.here hx rfl (hb hby at_138) ?_
      show Steps p.tables e below (T0.setTop (mkF m 139 #[.val (.int p1), .val (.int p2), .val (.int p3), .val (.int p4), .val (.int (1 : Int32)), .val (.int ((p3 &&& (2147483647 : Int32)) % (4 : Int32))), .val (.int ((p3 &&& (2147483647 : Int32)) % (4 : Int32))), .val (.int (((p1 &&& (255 : Int32))).toUInt32.toUInt16.toUInt32.toInt32)), .val (.int ((((((p1).toUInt32 >>> ((8 : Int32) &&& 31).toUInt32).toInt32) &&& (255 : Int32))).toUInt32.toUInt16.toUInt32.toInt32)), .val (.int ((((((p1).toUInt32 >>> ((16 : Int32) &&& 31).toUInt32).toInt32) &&& (255 : Int32))).toUInt32.toUInt16.toUInt32.toInt32)), .val (.int (((p1 &&& (255 : Int32))).toUInt32.toUInt16.toUInt32.toInt32)), .val (.int ((((((p1).toUInt32 >>> ((8 : Int32) &&& 31).toUInt32).toInt32) &&& (255 : Int32))).toUInt32.toUInt16.toUInt32.toInt32)), .val (.int ((((((p1).toUInt32 >>> ((16 : Int32) &&& 31).toUInt32).toInt32) &&& (255 : Int32))).toUInt32.toUInt16.toUInt32.toInt32)), .unset, .unset, .unset, .unset, .unset, .unset, .unset, .unset, .unset] [(.int (3 : Int32)), (.int p4)])) _
      refine XS.iushr X0.here hx rfl (hb hby at_139) rfl ?_
      show Steps p.tables e below (T0.setTop (mkF m 140 #[.val (.int p1), .val (.int p2), .val (.int p3), .val (.int p4), .val (.int (1 : Int32)), .val (.int ((p3 &&& (2147483647 : Int32)) % (4 : Int32))), .val (.int ((p3 &&& (2147483647 : Int32)) % (4 : Int32))), .val (.int (((p1 &&& (255 : Int32))).toUInt32.toUInt16.toUInt32.toInt32)), .val (.int ((((((p1).toUInt32 >>> ((8 : Int32) &&& 31).toUInt32).toInt32) &&& (255 : Int32))).toUInt32.toUInt16.toUInt32.toInt32)), .val (.int ((((((p1).toUInt32 >>> ((16 : Int32) &&& 31).toUInt32).toInt32) &&& (255 : Int32))).toUInt32.toUInt16.toUInt32.toInt32)), .val (.int (((p1 &&& (255 : Int32))).toUInt32.toUInt16.toUInt32.toInt32)), .val (.int ((((((p1).toUInt32 >>> ((8 : Int32) &&& 31).toUInt32).toInt32) &&& (255 : Int32))).toUInt32.toUInt16.toUInt32.toInt32)), .val (.int ((((((p1).toUInt32 >>> ((16 : Int32) &&& 31).toUInt32).toInt32) &&& (255 : Int32))).toUInt32.toUInt16.toUInt32.toInt32)), .unset, .unset, .unset, .unset, .unset, .unset, .unset, .unset, .unset] [(.int (((p4).toUInt32 >>> ((3 : Int32) &&& 31).toUInt32).toInt32))])) _
      refine XS.iconst X0.here hx rfl (hb hby at_140) ?_
      show Steps p.tables e below (T0.setTop (mkF m 141 #[.val (.int p1), .val (.int p2), .val (.int p3), .val (.int p4), .val (.int (1 : Int32)), .val (.int ((p3 &&& (2147483647 : Int32)) % (4 : Int32))), .val (.int ((p3 &&& (2147483647 : Int32)) % (4 : Int32))), .val (.int (((p1 &&& (255 : Int32))).toUInt32.toUInt16.toUInt32.toInt32)), .val (.int ((((((p1).toUInt32 >>> ((8 : Int32) &&& 31).toUInt32).toInt32) &&& (255 : Int32))).toUInt32.toUInt16.toUInt32.toInt32)), .val (.int ((((((p1).toUInt32 >>> ((16 : Int32) &&& 31).toUInt32).toInt32) &&& (255 : Int32))).toUInt32.toUInt16.toUInt32.toInt32)), .val (.int (((p1 &&& (255 : Int32))).toUInt32.toUInt16.toUInt32.toInt32)), .val (.int ((((((p1).toUInt32 >>> ((8 : Int32) &&& 31).toUInt32).toInt32) &&& (255 : Int32))).toUInt32.toUInt16.toUInt32.toInt32)), .val (.int ((((((p1).toUInt32 >>> ((16 : Int32) &&& 31).toUInt32).toInt32) &&& (255 : Int32))).toUInt32.toUInt16.toUInt32.toInt32)), .unset, .unset, .unset, .unset, .unset, .unset, .unset, .unset, .unset] [(.int (1 : Int32)), (.int (((p4).toUInt32 >>> ((3 : Int32) &&& 31).toUInt32).toInt32))])) _
      refine XS.iand X0.here hx rfl (hb hby at_141) rfl ?_
      show Steps p.tables e below (T0.setTop (mkF m 142 #[.val (.int p1), .val (.int p2), .val (.int p3), .val (.int p4), .val (.int (1 : Int32)), .val (.int ((p3 &&& (2147483647 : Int32)) % (4 : Int32))), .val (.int ((p3 &&& (2147483647 : Int32)) % (4 : Int32))), .val (.int (((p1 &&& (255 : Int32))).toUInt32.toUInt16.toUInt32.toInt32)), .val (.int ((((((p1).toUInt32 >>> ((8 : Int32) &&& 31).toUInt32).toInt32) &&& (255 : Int32))).toUInt32.toUInt16.toUInt32.toInt32)), .val (.int ((((((p1).toUInt32 >>> ((16 : Int32) &&& 31).toUInt32).toInt32) &&& (255 : Int32))).toUInt32.toUInt16.toUInt32.toInt32)), .val (.int (((p1 &&& (255 : Int32))).toUInt32.toUInt16.toUInt32.toInt32)), .val (.int ((((((p1).toUInt32 >>> ((8 : Int32) &&& 31).toUInt32).toInt32) &&& (255 : Int32))).toUInt32.toUInt16.toUInt32.toInt32)), .val (.int ((((((p1).toUInt32 >>> ((16 : Int32) &&& 31).toUInt32).toInt32) &&& (255 : Int32))).toUInt32.toUInt16.toUInt32.toInt32)), .unset, .unset, .unset, .unset, .unset, .unset, .unset, .unset, .unset] [(.int ((((p4).toUInt32 >>> ((3 : Int32) &&& 31).toUInt32).toInt32) &&& (1 : Int32)))])) _
      refine XS.ifYes X0.here hx rfl (pc0 := 142) (pc' := 153) rfl (hb hby at_142) rfl (by rw [if0]; exact (teq hd).1) (by decide) (by decide) ?_
      rw [← en] at kt
      exact kt
    · refine ⟨(1 : Int32), n, n, (((p1 &&& (255 : Int32))).toUInt32.toUInt16.toUInt32.toInt32), ((((((p1).toUInt32 >>> ((8 : Int32) &&& 31).toUInt32).toInt32) &&& (255 : Int32))).toUInt32.toUInt16.toUInt32.toInt32), ((((((p1).toUInt32 >>> ((16 : Int32) &&& 31).toUInt32).toInt32) &&& (255 : Int32))).toUInt32.toUInt16.toUInt32.toInt32), (((p1 &&& (255 : Int32))).toUInt32.toUInt16.toUInt32.toInt32), ((((((p1).toUInt32 >>> ((8 : Int32) &&& 31).toUInt32).toInt32) &&& (255 : Int32))).toUInt32.toUInt16.toUInt32.toInt32), (((p2 &&& (255 : Int32))).toUInt32.toUInt16.toUInt32.toInt32), hn, hn, hA, own_l3 (own_ch8 p1) (own_ch8 ((p1.toUInt32 >>> ((8 : Int32) &&& 31).toUInt32).toInt32)) (own_ch8 p2), fun target kt => ?_⟩
      show Steps p.tables e below (T0.setTop (mkF m 0 #[.val (.int p1), .val (.int p2), .val (.int p3), .val (.int p4), .unset, .unset, .unset, .unset, .unset, .unset, .unset, .unset, .unset, .unset, .unset, .unset, .unset, .unset, .unset, .unset, .unset, .unset] [])) _
      refine XS.iloadN X0.here hx rfl (hb hby at_0) rfl ?_
      show Steps p.tables e below (T0.setTop (mkF m 1 #[.val (.int p1), .val (.int p2), .val (.int p3), .val (.int p4), .unset, .unset, .unset, .unset, .unset, .unset, .unset, .unset, .unset, .unset, .unset, .unset, .unset, .unset, .unset, .unset, .unset, .unset] [(.int p4)])) _
      refine XS.iconst X0.here hx rfl (hb hby at_1) ?_
      show Steps p.tables e below (T0.setTop (mkF m 2 #[.val (.int p1), .val (.int p2), .val (.int p3), .val (.int p4), .unset, .unset, .unset, .unset, .unset, .unset, .unset, .unset, .unset, .unset, .unset, .unset, .unset, .unset, .unset, .unset, .unset, .unset] [(.int (1 : Int32)), (.int p4)])) _
      refine XS.iand X0.here hx rfl (hb hby at_2) rfl ?_
      show Steps p.tables e below (T0.setTop (mkF m 3 #[.val (.int p1), .val (.int p2), .val (.int p3), .val (.int p4), .unset, .unset, .unset, .unset, .unset, .unset, .unset, .unset, .unset, .unset, .unset, .unset, .unset, .unset, .unset, .unset, .unset, .unset] [(.int (p4 &&& (1 : Int32)))])) _
      refine XS.ifNo X0.here hx rfl (hb hby at_3) rfl (by rw [if0]; exact (feq hc).1) ?_
      show Steps p.tables e below (T0.setTop (mkF m 6 #[.val (.int p1), .val (.int p2), .val (.int p3), .val (.int p4), .unset, .unset, .unset, .unset, .unset, .unset, .unset, .unset, .unset, .unset, .unset, .unset, .unset, .unset, .unset, .unset, .unset, .unset] [])) _
      refine XS.iconst X0.here hx rfl (hb hby at_6) ?_
      show Steps p.tables e below (T0.setTop (mkF m 7 #[.val (.int p1), .val (.int p2), .val (.int p3), .val (.int p4), .unset, .unset, .unset, .unset, .unset, .unset, .unset, .unset, .unset, .unset, .unset, .unset, .unset, .unset, .unset, .unset, .unset, .unset] [(.int (1 : Int32))])) _
      refine XS.goto X0.here hx rfl (pc0 := 7) (pc' := 11) rfl (hb hby at_7) (by decide) (by decide) ?_
      show Steps p.tables e below (T0.setTop (mkF m 11 #[.val (.int p1), .val (.int p2), .val (.int p3), .val (.int p4), .unset, .unset, .unset, .unset, .unset, .unset, .unset, .unset, .unset, .unset, .unset, .unset, .unset, .unset, .unset, .unset, .unset, .unset] [(.int (1 : Int32))])) _
      refine XS.istore X0.here hx rfl (hb hby at_11) rfl (l' := #[.val (.int p1), .val (.int p2), .val (.int p3), .val (.int p4), .val (.int (1 : Int32)), .unset, .unset, .unset, .unset, .unset, .unset, .unset, .unset, .unset, .unset, .unset, .unset, .unset, .unset, .unset, .unset, .unset]) rfl ?_
      show Steps p.tables e below (T0.setTop (mkF m 13 #[.val (.int p1), .val (.int p2), .val (.int p3), .val (.int p4), .val (.int (1 : Int32)), .unset, .unset, .unset, .unset, .unset, .unset, .unset, .unset, .unset, .unset, .unset, .unset, .unset, .unset, .unset, .unset, .unset] [])) _
      refine XS.iloadN X0.here hx rfl (hb hby at_13) rfl ?_
      show Steps p.tables e below (T0.setTop (mkF m 14 #[.val (.int p1), .val (.int p2), .val (.int p3), .val (.int p4), .val (.int (1 : Int32)), .unset, .unset, .unset, .unset, .unset, .unset, .unset, .unset, .unset, .unset, .unset, .unset, .unset, .unset, .unset, .unset, .unset] [(.int p3)])) _
      refine X0.ldcInt hx hown (mvT hZ (hw _ (List.mem_of_getElem? (i := 0) rfl))) (g := (mkF m 14 #[.val (.int p1), .val (.int p2), .val (.int p3), .val (.int p4), .val (.int (1 : Int32)), .unset, .unset, .unset, .unset, .unset, .unset, .unset, .unset, .unset, .unset, .unset, .unset, .unset, .unset, .unset, .unset, .unset] [(.int p3)])) rfl (hb hby at_14) _ ?_
      show Steps p.tables e below (T0.setTop (mkF m 16 #[.val (.int p1), .val (.int p2), .val (.int p3), .val (.int p4), .val (.int (1 : Int32)), .unset, .unset, .unset, .unset, .unset, .unset, .unset, .unset, .unset, .unset, .unset, .unset, .unset, .unset, .unset, .unset, .unset] [(.int (2147483647 : Int32)), (.int p3)])) _
      refine XS.iand X0.here hx rfl (hb hby at_16) rfl ?_
      show Steps p.tables e below (T0.setTop (mkF m 17 #[.val (.int p1), .val (.int p2), .val (.int p3), .val (.int p4), .val (.int (1 : Int32)), .unset, .unset, .unset, .unset, .unset, .unset, .unset, .unset, .unset, .unset, .unset, .unset, .unset, .unset, .unset, .unset, .unset] [(.int (p3 &&& (2147483647 : Int32)))])) _
      refine XS.iconst X0.here hx rfl (hb hby at_17) ?_
      show Steps p.tables e below (T0.setTop (mkF m 18 #[.val (.int p1), .val (.int p2), .val (.int p3), .val (.int p4), .val (.int (1 : Int32)), .unset, .unset, .unset, .unset, .unset, .unset, .unset, .unset, .unset, .unset, .unset, .unset, .unset, .unset, .unset, .unset, .unset] [(.int (4 : Int32)), (.int (p3 &&& (2147483647 : Int32)))])) _
      refine iremM X0 hx rfl (hb hby at_18) rfl (by decide) ?_
      show Steps p.tables e below (T0.setTop (mkF m 19 #[.val (.int p1), .val (.int p2), .val (.int p3), .val (.int p4), .val (.int (1 : Int32)), .unset, .unset, .unset, .unset, .unset, .unset, .unset, .unset, .unset, .unset, .unset, .unset, .unset, .unset, .unset, .unset, .unset] [(.int ((p3 &&& (2147483647 : Int32)) % (4 : Int32)))])) _
      refine XS.istore X0.here hx rfl (hb hby at_19) rfl (l' := #[.val (.int p1), .val (.int p2), .val (.int p3), .val (.int p4), .val (.int (1 : Int32)), .val (.int ((p3 &&& (2147483647 : Int32)) % (4 : Int32))), .unset, .unset, .unset, .unset, .unset, .unset, .unset, .unset, .unset, .unset, .unset, .unset, .unset, .unset, .unset, .unset]) rfl ?_
      show Steps p.tables e below (T0.setTop (mkF m 21 #[.val (.int p1), .val (.int p2), .val (.int p3), .val (.int p4), .val (.int (1 : Int32)), .val (.int ((p3 &&& (2147483647 : Int32)) % (4 : Int32))), .unset, .unset, .unset, .unset, .unset, .unset, .unset, .unset, .unset, .unset, .unset, .unset, .unset, .unset, .unset, .unset] [])) _
      refine XS.iload X0.here hx rfl (hb hby at_21) rfl ?_
      show Steps p.tables e below (T0.setTop (mkF m 23 #[.val (.int p1), .val (.int p2), .val (.int p3), .val (.int p4), .val (.int (1 : Int32)), .val (.int ((p3 &&& (2147483647 : Int32)) % (4 : Int32))), .unset, .unset, .unset, .unset, .unset, .unset, .unset, .unset, .unset, .unset, .unset, .unset, .unset, .unset, .unset, .unset] [(.int (1 : Int32))])) _
      refine XS.ifNo X0.here hx rfl (hb hby at_23) rfl (by decide) ?_
      show Steps p.tables e below (T0.setTop (mkF m 26 #[.val (.int p1), .val (.int p2), .val (.int p3), .val (.int p4), .val (.int (1 : Int32)), .val (.int ((p3 &&& (2147483647 : Int32)) % (4 : Int32))), .unset, .unset, .unset, .unset, .unset, .unset, .unset, .unset, .unset, .unset, .unset, .unset, .unset, .unset, .unset, .unset] [])) _
      refine XS.iload X0.here hx rfl (hb hby at_26) rfl ?_
      show Steps p.tables e below (T0.setTop (mkF m 28 #[.val (.int p1), .val (.int p2), .val (.int p3), .val (.int p4), .val (.int (1 : Int32)), .val (.int ((p3 &&& (2147483647 : Int32)) % (4 : Int32))), .unset, .unset, .unset, .unset, .unset, .unset, .unset, .unset, .unset, .unset, .unset, .unset, .unset, .unset, .unset, .unset] [(.int ((p3 &&& (2147483647 : Int32)) % (4 : Int32)))])) _
      refine XS.goto X0.here hx rfl (pc0 := 28) (pc' := 40) rfl (hb hby at_28) (by decide) (by decide) ?_
      show Steps p.tables e below (T0.setTop (mkF m 40 #[.val (.int p1), .val (.int p2), .val (.int p3), .val (.int p4), .val (.int (1 : Int32)), .val (.int ((p3 &&& (2147483647 : Int32)) % (4 : Int32))), .unset, .unset, .unset, .unset, .unset, .unset, .unset, .unset, .unset, .unset, .unset, .unset, .unset, .unset, .unset, .unset] [(.int ((p3 &&& (2147483647 : Int32)) % (4 : Int32)))])) _
      refine XS.istore X0.here hx rfl (hb hby at_40) rfl (l' := #[.val (.int p1), .val (.int p2), .val (.int p3), .val (.int p4), .val (.int (1 : Int32)), .val (.int ((p3 &&& (2147483647 : Int32)) % (4 : Int32))), .val (.int ((p3 &&& (2147483647 : Int32)) % (4 : Int32))), .unset, .unset, .unset, .unset, .unset, .unset, .unset, .unset, .unset, .unset, .unset, .unset, .unset, .unset, .unset]) rfl ?_
      show Steps p.tables e below (T0.setTop (mkF m 42 #[.val (.int p1), .val (.int p2), .val (.int p3), .val (.int p4), .val (.int (1 : Int32)), .val (.int ((p3 &&& (2147483647 : Int32)) % (4 : Int32))), .val (.int ((p3 &&& (2147483647 : Int32)) % (4 : Int32))), .unset, .unset, .unset, .unset, .unset, .unset, .unset, .unset, .unset, .unset, .unset, .unset, .unset, .unset, .unset] [])) _
      refine XS.iloadN X0.here hx rfl (hb hby at_42) rfl ?_
      show Steps p.tables e below (T0.setTop (mkF m 43 #[.val (.int p1), .val (.int p2), .val (.int p3), .val (.int p4), .val (.int (1 : Int32)), .val (.int ((p3 &&& (2147483647 : Int32)) % (4 : Int32))), .val (.int ((p3 &&& (2147483647 : Int32)) % (4 : Int32))), .unset, .unset, .unset, .unset, .unset, .unset, .unset, .unset, .unset, .unset, .unset, .unset, .unset, .unset, .unset] [(.int p1)])) _
      refine XS.sipush X0.here hx rfl (hb hby at_43) ?_
      show Steps p.tables e below (T0.setTop (mkF m 46 #[.val (.int p1), .val (.int p2), .val (.int p3), .val (.int p4), .val (.int (1 : Int32)), .val (.int ((p3 &&& (2147483647 : Int32)) % (4 : Int32))), .val (.int ((p3 &&& (2147483647 : Int32)) % (4 : Int32))), .unset, .unset, .unset, .unset, .unset, .unset, .unset, .unset, .unset, .unset, .unset, .unset, .unset, .unset, .unset] [(.int (255 : Int32)), (.int p1)])) _
      refine XS.iand X0.here hx rfl (hb hby at_46) rfl ?_
      show Steps p.tables e below (T0.setTop (mkF m 47 #[.val (.int p1), .val (.int p2), .val (.int p3), .val (.int p4), .val (.int (1 : Int32)), .val (.int ((p3 &&& (2147483647 : Int32)) % (4 : Int32))), .val (.int ((p3 &&& (2147483647 : Int32)) % (4 : Int32))), .unset, .unset, .unset, .unset, .unset, .unset, .unset, .unset, .unset, .unset, .unset, .unset, .unset, .unset, .unset] [(.int (p1 &&& (255 : Int32)))])) _
      refine XS.i2c X0.here hx rfl (hb hby at_47) rfl ?_
      show Steps p.tables e below (T0.setTop (mkF m 48 #[.val (.int p1), .val (.int p2), .val (.int p3), .val (.int p4), .val (.int (1 : Int32)), .val (.int ((p3 &&& (2147483647 : Int32)) % (4 : Int32))), .val (.int ((p3 &&& (2147483647 : Int32)) % (4 : Int32))), .unset, .unset, .unset, .unset, .unset, .unset, .unset, .unset, .unset, .unset, .unset, .unset, .unset, .unset, .unset] [(.int (((p1 &&& (255 : Int32))).toUInt32.toUInt16.toUInt32.toInt32))])) _
      refine XS.istore X0.here hx rfl (hb hby at_48) rfl (l' := #[.val (.int p1), .val (.int p2), .val (.int p3), .val (.int p4), .val (.int (1 : Int32)), .val (.int ((p3 &&& (2147483647 : Int32)) % (4 : Int32))), .val (.int ((p3 &&& (2147483647 : Int32)) % (4 : Int32))), .val (.int (((p1 &&& (255 : Int32))).toUInt32.toUInt16.toUInt32.toInt32)), .unset, .unset, .unset, .unset, .unset, .unset, .unset, .unset, .unset, .unset, .unset, .unset, .unset, .unset]) rfl ?_
      show Steps p.tables e below (T0.setTop (mkF m 50 #[.val (.int p1), .val (.int p2), .val (.int p3), .val (.int p4), .val (.int (1 : Int32)), .val (.int ((p3 &&& (2147483647 : Int32)) % (4 : Int32))), .val (.int ((p3 &&& (2147483647 : Int32)) % (4 : Int32))), .val (.int (((p1 &&& (255 : Int32))).toUInt32.toUInt16.toUInt32.toInt32)), .unset, .unset, .unset, .unset, .unset, .unset, .unset, .unset, .unset, .unset, .unset, .unset, .unset, .unset] [])) _
      refine XS.iloadN X0.here hx rfl (hb hby at_50) rfl ?_
      show Steps p.tables e below (T0.setTop (mkF m 51 #[.val (.int p1), .val (.int p2), .val (.int p3), .val (.int p4), .val (.int (1 : Int32)), .val (.int ((p3 &&& (2147483647 : Int32)) % (4 : Int32))), .val (.int ((p3 &&& (2147483647 : Int32)) % (4 : Int32))), .val (.int (((p1 &&& (255 : Int32))).toUInt32.toUInt16.toUInt32.toInt32)), .unset, .unset, .unset, .unset, .unset, .unset, .unset, .unset, .unset, .unset, .unset, .unset, .unset, .unset] [(.int p1)])) _
      refine XS.bipush X0.here hx rfl (hb hby at_51) ?_
      show Steps p.tables e below (T0.setTop (mkF m 53 #[.val (.int p1), .val (.int p2), .val (.int p3), .val (.int p4), .val (.int (1 : Int32)), .val (.int ((p3 &&& (2147483647 : Int32)) % (4 : Int32))), .val (.int ((p3 &&& (2147483647 : Int32)) % (4 : Int32))), .val (.int (((p1 &&& (255 : Int32))).toUInt32.toUInt16.toUInt32.toInt32)), .unset, .unset, .unset, .unset, .unset, .unset, .unset, .unset, .unset, .unset, .unset, .unset, .unset, .unset] [(.int (8 : Int32)), (.int p1)])) _
      refine XS.iushr X0.here hx rfl (hb hby at_53) rfl ?_
      show Steps p.tables e below (T0.setTop (mkF m 54 #[.val (.int p1), .val (.int p2), .val (.int p3), .val (.int p4), .val (.int (1 : Int32)), .val (.int ((p3 &&& (2147483647 : Int32)) % (4 : Int32))), .val (.int ((p3 &&& (2147483647 : Int32)) % (4 : Int32))), .val (.int (((p1 &&& (255 : Int32))).toUInt32.toUInt16.toUInt32.toInt32)), .unset, .unset, .unset, .unset, .unset, .unset, .unset, .unset, .unset, .unset, .unset, .unset, .unset, .unset] [(.int (((p1).toUInt32 >>> ((8 : Int32) &&& 31).toUInt32).toInt32))])) _
      refine XS.sipush X0.here hx rfl (hb hby at_54) ?_
      show Steps p.tables e below (T0.setTop (mkF m 57 #[.val (.int p1), .val (.int p2), .val (.int p3), .val (.int p4), .val (.int (1 : Int32)), .val (.int ((p3 &&& (2147483647 : Int32)) % (4 : Int32))), .val (.int ((p3 &&& (2147483647 : Int32)) % (4 : Int32))), .val (.int (((p1 &&& (255 : Int32))).toUInt32.toUInt16.toUInt32.toInt32)), .unset, .unset, .unset, .unset, .unset, .unset, .unset, .unset, .unset, .unset, .unset, .unset, .unset, .unset] [(.int (255 : Int32)), (.int (((p1).toUInt32 >>> ((8 : Int32) &&& 31).toUInt32).toInt32))])) _
      refine XS.iand X0.here hx rfl (hb hby at_57) rfl ?_
      show Steps p.tables e below (T0.setTop (mkF m 58 #[.val (.int p1), .val (.int p2), .val (.int p3), .val (.int p4), .val (.int (1 : Int32)), .val (.int ((p3 &&& (2147483647 : Int32)) % (4 : Int32))), .val (.int ((p3 &&& (2147483647 : Int32)) % (4 : Int32))), .val (.int (((p1 &&& (255 : Int32))).toUInt32.toUInt16.toUInt32.toInt32)), .unset, .unset, .unset, .unset, .unset, .unset, .unset, .unset, .unset, .unset, .unset, .unset, .unset, .unset] [(.int ((((p1).toUInt32 >>> ((8 : Int32) &&& 31).toUInt32).toInt32) &&& (255 : Int32)))])) _
      refine XS.i2c X0.here hx rfl (hb hby at_58) rfl ?_
      show Steps p.tables e below (T0.setTop (mkF m 59 #[.val (.int p1), .val (.int p2), .val (.int p3), .val (.int p4), .val (.int (1 : Int32)), .val (.int ((p3 &&& (2147483647 : Int32)) % (4 : Int32))), .val (.int ((p3 &&& (2147483647 : Int32)) % (4 : Int32))), .val (.int (((p1 &&& (255 : Int32))).toUInt32.toUInt16.toUInt32.toInt32)), .unset, .unset, .unset, .unset, .unset, .unset, .unset, .unset, .unset, .unset, .unset, .unset, .unset, .unset] [(.int ((((((p1).toUInt32 >>> ((8 : Int32) &&& 31).toUInt32).toInt32) &&& (255 : Int32))).toUInt32.toUInt16.toUInt32.toInt32))])) _
      refine XS.istore X0.here hx rfl (hb hby at_59) rfl (l' := #[.val (.int p1), .val (.int p2), .val (.int p3), .val (.int p4), .val (.int (1 : Int32)), .val (.int ((p3 &&& (2147483647 : Int32)) % (4 : Int32))), .val (.int ((p3 &&& (2147483647 : Int32)) % (4 : Int32))), .val (.int (((p1 &&& (255 : Int32))).toUInt32.toUInt16.toUInt32.toInt32)), .val (.int ((((((p1).toUInt32 >>> ((8 : Int32) &&& 31).toUInt32).toInt32) &&& (255 : Int32))).toUInt32.toUInt16.toUInt32.toInt32)), .unset, .unset, .unset, .unset, .unset, .unset, .unset, .unset, .unset, .unset, .unset, .unset, .unset]) rfl ?_
      show Steps p.tables e below (T0.setTop (mkF m 61 #[.val (.int p1), .val (.int p2), .val (.int p3), .val (.int p4), .val (.int (1 : Int32)), .val (.int ((p3 &&& (2147483647 : Int32)) % (4 : Int32))), .val (.int ((p3 &&& (2147483647 : Int32)) % (4 : Int32))), .val (.int (((p1 &&& (255 : Int32))).toUInt32.toUInt16.toUInt32.toInt32)), .val (.int ((((((p1).toUInt32 >>> ((8 : Int32) &&& 31).toUInt32).toInt32) &&& (255 : Int32))).toUInt32.toUInt16.toUInt32.toInt32)), .unset, .unset, .unset, .unset, .unset, .unset, .unset, .unset, .unset, .unset, .unset, .unset, .unset] [])) _
      refine XS.iloadN X0.here hx rfl (hb hby at_61) rfl ?_
      show Steps p.tables e below (T0.setTop (mkF m 62 #[.val (.int p1), .val (.int p2), .val (.int p3), .val (.int p4), .val (.int (1 : Int32)), .val (.int ((p3 &&& (2147483647 : Int32)) % (4 : Int32))), .val (.int ((p3 &&& (2147483647 : Int32)) % (4 : Int32))), .val (.int (((p1 &&& (255 : Int32))).toUInt32.toUInt16.toUInt32.toInt32)), .val (.int ((((((p1).toUInt32 >>> ((8 : Int32) &&& 31).toUInt32).toInt32) &&& (255 : Int32))).toUInt32.toUInt16.toUInt32.toInt32)), .unset, .unset, .unset, .unset, .unset, .unset, .unset, .unset, .unset, .unset, .unset, .unset, .unset] [(.int p1)])) _
      refine XS.bipush X0.here hx rfl (hb hby at_62) ?_
      show Steps p.tables e below (T0.setTop (mkF m 64 #[.val (.int p1), .val (.int p2), .val (.int p3), .val (.int p4), .val (.int (1 : Int32)), .val (.int ((p3 &&& (2147483647 : Int32)) % (4 : Int32))), .val (.int ((p3 &&& (2147483647 : Int32)) % (4 : Int32))), .val (.int (((p1 &&& (255 : Int32))).toUInt32.toUInt16.toUInt32.toInt32)), .val (.int ((((((p1).toUInt32 >>> ((8 : Int32) &&& 31).toUInt32).toInt32) &&& (255 : Int32))).toUInt32.toUInt16.toUInt32.toInt32)), .unset, .unset, .unset, .unset, .unset, .unset, .unset, .unset, .unset, .unset, .unset, .unset, .unset] [(.int (16 : Int32)), (.int p1)])) _
      refine XS.iushr X0.here hx rfl (hb hby at_64) rfl ?_
      show Steps p.tables e below (T0.setTop (mkF m 65 #[.val (.int p1), .val (.int p2), .val (.int p3), .val (.int p4), .val (.int (1 : Int32)), .val (.int ((p3 &&& (2147483647 : Int32)) % (4 : Int32))), .val (.int ((p3 &&& (2147483647 : Int32)) % (4 : Int32))), .val (.int (((p1 &&& (255 : Int32))).toUInt32.toUInt16.toUInt32.toInt32)), .val (.int ((((((p1).toUInt32 >>> ((8 : Int32) &&& 31).toUInt32).toInt32) &&& (255 : Int32))).toUInt32.toUInt16.toUInt32.toInt32)), .unset, .unset, .unset, .unset, .unset, .unset, .unset, .unset, .unset, .unset, .unset, .unset, .unset] [(.int (((p1).toUInt32 >>> ((16 : Int32) &&& 31).toUInt32).toInt32))])) _
      refine XS.sipush X0.here hx rfl (hb hby at_65) ?_
      show Steps p.tables e below (T0.setTop (mkF m 68 #[.val (.int p1), .val (.int p2), .val (.int p3), .val (.int p4), .val (.int (1 : Int32)), .val (.int ((p3 &&& (2147483647 : Int32)) % (4 : Int32))), .val (.int ((p3 &&& (2147483647 : Int32)) % (4 : Int32))), .val (.int (((p1 &&& (255 : Int32))).toUInt32.toUInt16.toUInt32.toInt32)), .val (.int ((((((p1).toUInt32 >>> ((8 : Int32) &&& 31).toUInt32).toInt32) &&& (255 : Int32))).toUInt32.toUInt16.toUInt32.toInt32)), .unset, .unset, .unset, .unset, .unset, .unset, .unset, .unset, .unset, .unset, .unset, .unset, .unset] [(.int (255 : Int32)), (.int (((p1).toUInt32 >>> ((16 : Int32) &&& 31).toUInt32).toInt32))])) _
      refine XS.iand X0.here hx rfl (hb hby at_68) rfl ?_
      show Steps p.tables e below (T0.setTop (mkF m 69 #[.val (.int p1), .val (.int p2), .val (.int p3), .val (.int p4), .val (.int (1 : Int32)), .val (.int ((p3 &&& (2147483647 : Int32)) % (4 : Int32))), .val (.int ((p3 &&& (2147483647 : Int32)) % (4 : Int32))), .val (.int (((p1 &&& (255 : Int32))).toUInt32.toUInt16.toUInt32.toInt32)), .val (.int ((((((p1).toUInt32 >>> ((8 : Int32) &&& 31).toUInt32).toInt32) &&& (255 : Int32))).toUInt32.toUInt16.toUInt32.toInt32)), .unset, .unset, .unset, .unset, .unset, .unset, .unset, .unset, .unset, .unset, .unset, .unset, .unset] [(.int ((((p1).toUInt32 >>> ((16 : Int32) &&& 31).toUInt32).toInt32) &&& (255 : Int32)))])) _
      refine XS.i2c X0.here hx rfl (hb hby at_69) rfl ?_
      show Steps p.tables e below (T0.setTop (mkF m 70 #[.val (.int p1), .val (.int p2), .val (.int p3), .val (.int p4), .val (.int (1 : Int32)), .val (.int ((p3 &&& (2147483647 : Int32)) % (4 : Int32))), .val (.int ((p3 &&& (2147483647 : Int32)) % (4 : Int32))), .val (.int (((p1 &&& (255 : Int32))).toUInt32.toUInt16.toUInt32.toInt32)), .val (.int ((((((p1).toUInt32 >>> ((8 : Int32) &&& 31).toUInt32).toInt32) &&& (255 : Int32))).toUInt32.toUInt16.toUInt32.toInt32)), .unset, .unset, .unset, .unset, .unset, .unset, .unset, .unset, .unset, .unset, .unset, .unset, .unset] [(.int ((((((p1).toUInt32 >>> ((16 : Int32) &&& 31).toUInt32).toInt32) &&& (255 : Int32))).toUInt32.toUInt16.toUInt32.toInt32))])) _
      refine XS.istore X0.here hx rfl (hb hby at_70) rfl (l' := #[.val (.int p1), .val (.int p2), .val (.int p3), .val (.int p4), .val (.int (1 : Int32)), .val (.int ((p3 &&& (2147483647 : Int32)) % (4 : Int32))), .val (.int ((p3 &&& (2147483647 : Int32)) % (4 : Int32))), .val (.int (((p1 &&& (255 : Int32))).toUInt32.toUInt16.toUInt32.toInt32)), .val (.int ((((((p1).toUInt32 >>> ((8 : Int32) &&& 31).toUInt32).toInt32) &&& (255 : Int32))).toUInt32.toUInt16.toUInt32.toInt32)), .val (.int ((((((p1).toUInt32 >>> ((16 : Int32) &&& 31).toUInt32).toInt32) &&& (255 : Int32))).toUInt32.toUInt16.toUInt32.toInt32)), .unset, .unset, .unset, .unset, .unset, .unset, .unset, .unset, .unset, .unset, .unset, .unset]) rfl ?_
      show Steps p.tables e below (T0.setTop (mkF m 72 #[.val (.int p1), .val (.int p2), .val (.int p3), .val (.int p4), .val (.int (1 : Int32)), .val (.int ((p3 &&& (2147483647 : Int32)) % (4 : Int32))), .val (.int ((p3 &&& (2147483647 : Int32)) % (4 : Int32))), .val (.int (((p1 &&& (255 : Int32))).toUInt32.toUInt16.toUInt32.toInt32)), .val (.int ((((((p1).toUInt32 >>> ((8 : Int32) &&& 31).toUInt32).toInt32) &&& (255 : Int32))).toUInt32.toUInt16.toUInt32.toInt32)), .val (.int ((((((p1).toUInt32 >>> ((16 : Int32) &&& 31).toUInt32).toInt32) &&& (255 : Int32))).toUInt32.toUInt16.toUInt32.toInt32)), .unset, .unset, .unset, .unset, .unset, .unset, .unset, .unset, .unset, .unset, .unset, .unset] [])) _
      refine XS.iload X0.here hx rfl (hb hby at_72) rfl ?_
      show Steps p.tables e below (T0.setTop (mkF m 74 #[.val (.int p1), .val (.int p2), .val (.int p3), .val (.int p4), .val (.int (1 : Int32)), .val (.int ((p3 &&& (2147483647 : Int32)) % (4 : Int32))), .val (.int ((p3 &&& (2147483647 : Int32)) % (4 : Int32))), .val (.int (((p1 &&& (255 : Int32))).toUInt32.toUInt16.toUInt32.toInt32)), .val (.int ((((((p1).toUInt32 >>> ((8 : Int32) &&& 31).toUInt32).toInt32) &&& (255 : Int32))).toUInt32.toUInt16.toUInt32.toInt32)), .val (.int ((((((p1).toUInt32 >>> ((16 : Int32) &&& 31).toUInt32).toInt32) &&& (255 : Int32))).toUInt32.toUInt16.toUInt32.toInt32)), .unset, .unset, .unset, .unset, .unset, .unset, .unset, .unset, .unset, .unset, .unset, .unset] [(.int (1 : Int32))])) _
      refine XS.ifNo X0.here hx rfl (hb hby at_74) rfl (by decide) ?_
      show Steps p.tables e below (T0.setTop (mkF m 77 #[.val (.int p1), .val (.int p2), .val (.int p3), .val (.int p4), .val (.int (1 : Int32)), .val (.int ((p3 &&& (2147483647 : Int32)) % (4 : Int32))), .val (.int ((p3 &&& (2147483647 : Int32)) % (4 : Int32))), .val (.int (((p1 &&& (255 : Int32))).toUInt32.toUInt16.toUInt32.toInt32)), .val (.int ((((((p1).toUInt32 >>> ((8 : Int32) &&& 31).toUInt32).toInt32) &&& (255 : Int32))).toUInt32.toUInt16.toUInt32.toInt32)), .val (.int ((((((p1).toUInt32 >>> ((16 : Int32) &&& 31).toUInt32).toInt32) &&& (255 : Int32))).toUInt32.toUInt16.toUInt32.toInt32)), .unset, .unset, .unset, .unset, .unset, .unset, .unset, .unset, .unset, .unset, .unset, .unset] [])) _
      refine XS.iload X0.here hx rfl (hb hby at_77) rfl ?_
      show Steps p.tables e below (T0.setTop (mkF m 79 #[.val (.int p1), .val (.int p2), .val (.int p3), .val (.int p4), .val (.int (1 : Int32)), .val (.int ((p3 &&& (2147483647 : Int32)) % (4 : Int32))), .val (.int ((p3 &&& (2147483647 : Int32)) % (4 : Int32))), .val (.int (((p1 &&& (255 : Int32))).toUInt32.toUInt16.toUInt32.toInt32)), .val (.int ((((((p1).toUInt32 >>> ((8 : Int32) &&& 31).toUInt32).toInt32) &&& (255 : Int32))).toUInt32.toUInt16.toUInt32.toInt32)), .val (.int ((((((p1).toUInt32 >>> ((16 : Int32) &&& 31).toUInt32).toInt32) &&& (255 : Int32))).toUInt32.toUInt16.toUInt32.toInt32)), .unset, .unset, .unset, .unset, .unset, .unset, .unset, .unset, .unset, .unset, .unset, .unset] [(.int (((p1 &&& (255 : Int32))).toUInt32.toUInt16.toUInt32.toInt32))])) _
      refine XS.goto X0.here hx rfl (pc0 := 79) (pc' := 88) rfl (hb hby at_79) (by decide) (by decide) ?_
      show Steps p.tables e below (T0.setTop (mkF m 88 #[.val (.int p1), .val (.int p2), .val (.int p3), .val (.int p4), .val (.int (1 : Int32)), .val (.int ((p3 &&& (2147483647 : Int32)) % (4 : Int32))), .val (.int ((p3 &&& (2147483647 : Int32)) % (4 : Int32))), .val (.int (((p1 &&& (255 : Int32))).toUInt32.toUInt16.toUInt32.toInt32)), .val (.int ((((((p1).toUInt32 >>> ((8 : Int32) &&& 31).toUInt32).toInt32) &&& (255 : Int32))).toUInt32.toUInt16.toUInt32.toInt32)), .val (.int ((((((p1).toUInt32 >>> ((16 : Int32) &&& 31).toUInt32).toInt32) &&& (255 : Int32))).toUInt32.toUInt16.toUInt32.toInt32)), .unset, .unset, .unset, .unset, .unset, .unset, .unset, .unset, .unset, .unset, .unset, .unset] [(.int (((p1 &&& (255 : Int32))).toUInt32.toUInt16.toUInt32.toInt32))])) _
      refine XS.istore X0.here hx rfl (hb hby at_88) rfl (l' := #[.val (.int p1), .val (.int p2), .val (.int p3), .val (.int p4), .val (.int (1 : Int32)), .val (.int ((p3 &&& (2147483647 : Int32)) % (4 : Int32))), .val (.int ((p3 &&& (2147483647 : Int32)) % (4 : Int32))), .val (.int (((p1 &&& (255 : Int32))).toUInt32.toUInt16.toUInt32.toInt32)), .val (.int ((((((p1).toUInt32 >>> ((8 : Int32) &&& 31).toUInt32).toInt32) &&& (255 : Int32))).toUInt32.toUInt16.toUInt32.toInt32)), .val (.int ((((((p1).toUInt32 >>> ((16 : Int32) &&& 31).toUInt32).toInt32) &&& (255 : Int32))).toUInt32.toUInt16.toUInt32.toInt32)), .val (.int (((p1 &&& (255 : Int32))).toUInt32.toUInt16.toUInt32.toInt32)), .unset, .unset, .unset, .unset, .unset, .unset, .unset, .unset, .unset, .unset, .unset]) rfl ?_
      show Steps p.tables e below (T0.setTop (mkF m 90 #[.val (.int p1), .val (.int p2), .val (.int p3), .val (.int p4), .val (.int (1 : Int32)), .val (.int ((p3 &&& (2147483647 : Int32)) % (4 : Int32))), .val (.int ((p3 &&& (2147483647 : Int32)) % (4 : Int32))), .val (.int (((p1 &&& (255 : Int32))).toUInt32.toUInt16.toUInt32.toInt32)), .val (.int ((((((p1).toUInt32 >>> ((8 : Int32) &&& 31).toUInt32).toInt32) &&& (255 : Int32))).toUInt32.toUInt16.toUInt32.toInt32)), .val (.int ((((((p1).toUInt32 >>> ((16 : Int32) &&& 31).toUInt32).toInt32) &&& (255 : Int32))).toUInt32.toUInt16.toUInt32.toInt32)), .val (.int (((p1 &&& (255 : Int32))).toUInt32.toUInt16.toUInt32.toInt32)), .unset, .unset, .unset, .unset, .unset, .unset, .unset, .unset, .unset, .unset, .unset] [])) _
      refine XS.iload X0.here hx rfl (hb hby at_90) rfl ?_
      show Steps p.tables e below (T0.setTop (mkF m 92 #[.val (.int p1), .val (.int p2), .val (.int p3), .val (.int p4), .val (.int (1 : Int32)), .val (.int ((p3 &&& (2147483647 : Int32)) % (4 : Int32))), .val (.int ((p3 &&& (2147483647 : Int32)) % (4 : Int32))), .val (.int (((p1 &&& (255 : Int32))).toUInt32.toUInt16.toUInt32.toInt32)), .val (.int ((((((p1).toUInt32 >>> ((8 : Int32) &&& 31).toUInt32).toInt32) &&& (255 : Int32))).toUInt32.toUInt16.toUInt32.toInt32)), .val (.int ((((((p1).toUInt32 >>> ((16 : Int32) &&& 31).toUInt32).toInt32) &&& (255 : Int32))).toUInt32.toUInt16.toUInt32.toInt32)), .val (.int (((p1 &&& (255 : Int32))).toUInt32.toUInt16.toUInt32.toInt32)), .unset, .unset, .unset, .unset, .unset, .unset, .unset, .unset, .unset, .unset, .unset] [(.int (1 : Int32))])) _
      refine XS.ifNo X0.here hx rfl (hb hby at_92) rfl (by decide) ?_
      show Steps p.tables e below (T0.setTop (mkF m 95 #[.val (.int p1), .val (.int p2), .val (.int p3), .val (.int p4), .val (.int (1 : Int32)), .val (.int ((p3 &&& (2147483647 : Int32)) % (4 : Int32))), .val (.int ((p3 &&& (2147483647 : Int32)) % (4 : Int32))), .val (.int (((p1 &&& (255 : Int32))).toUInt32.toUInt16.toUInt32.toInt32)), .val (.int ((((((p1).toUInt32 >>> ((8 : Int32) &&& 31).toUInt32).toInt32) &&& (255 : Int32))).toUInt32.toUInt16.toUInt32.toInt32)), .val (.int ((((((p1).toUInt32 >>> ((16 : Int32) &&& 31).toUInt32).toInt32) &&& (255 : Int32))).toUInt32.toUInt16.toUInt32.toInt32)), .val (.int (((p1 &&& (255 : Int32))).toUInt32.toUInt16.toUInt32.toInt32)), .unset, .unset, .unset, .unset, .unset, .unset, .unset, .unset, .unset, .unset, .unset] [])) _
      refine XS.iload X0.here hx rfl (hb hby at_95) rfl ?_
      show Steps p.tables e below (T0.setTop (mkF m 97 #[.val (.int p1), .val (.int p2), .val (.int p3), .val (.int p4), .val (.int (1 : Int32)), .val (.int ((p3 &&& (2147483647 : Int32)) % (4 : Int32))), .val (.int ((p3 &&& (2147483647 : Int32)) % (4 : Int32))), .val (.int (((p1 &&& (255 : Int32))).toUInt32.toUInt16.toUInt32.toInt32)), .val (.int ((((((p1).toUInt32 >>> ((8 : Int32) &&& 31).toUInt32).toInt32) &&& (255 : Int32))).toUInt32.toUInt16.toUInt32.toInt32)), .val (.int ((((((p1).toUInt32 >>> ((16 : Int32) &&& 31).toUInt32).toInt32) &&& (255 : Int32))).toUInt32.toUInt16.toUInt32.toInt32)), .val (.int (((p1 &&& (255 : Int32))).toUInt32.toUInt16.toUInt32.toInt32)), .unset, .unset, .unset, .unset, .unset, .unset, .unset, .unset, .unset, .unset, .unset] [(.int ((((((p1).toUInt32 >>> ((8 : Int32) &&& 31).toUInt32).toInt32) &&& (255 : Int32))).toUInt32.toUInt16.toUInt32.toInt32))])) _
      refine XS.goto X0.here hx rfl (pc0 := 97) (pc' := 109) rfl (hb hby at_97) (by decide) (by decide) ?_
      show Steps p.tables e below (T0.setTop (mkF m 109 #[.val (.int p1), .val (.int p2), .val (.int p3), .val (.int p4), .val (.int (1 : Int32)), .val (.int ((p3 &&& (2147483647 : Int32)) % (4 : Int32))), .val (.int ((p3 &&& (2147483647 : Int32)) % (4 : Int32))), .val (.int (((p1 &&& (255 : Int32))).toUInt32.toUInt16.toUInt32.toInt32)), .val (.int ((((((p1).toUInt32 >>> ((8 : Int32) &&& 31).toUInt32).toInt32) &&& (255 : Int32))).toUInt32.toUInt16.toUInt32.toInt32)), .val (.int ((((((p1).toUInt32 >>> ((16 : Int32) &&& 31).toUInt32).toInt32) &&& (255 : Int32))).toUInt32.toUInt16.toUInt32.toInt32)), .val (.int (((p1 &&& (255 : Int32))).toUInt32.toUInt16.toUInt32.toInt32)), .unset, .unset, .unset, .unset, .unset, .unset, .unset, .unset, .unset, .unset, .unset] [(.int ((((((p1).toUInt32 >>> ((8 : Int32) &&& 31).toUInt32).toInt32) &&& (255 : Int32))).toUInt32.toUInt16.toUInt32.toInt32))])) _
      refine XS.istore X0.here hx rfl (hb hby at_109) rfl (l' := #[.val (.int p1), .val (.int p2), .val (.int p3), .val (.int p4), .val (.int (1 : Int32)), .val (.int ((p3 &&& (2147483647 : Int32)) % (4 : Int32))), .val (.int ((p3 &&& (2147483647 : Int32)) % (4 : Int32))), .val (.int (((p1 &&& (255 : Int32))).toUInt32.toUInt16.toUInt32.toInt32)), .val (.int ((((((p1).toUInt32 >>> ((8 : Int32) &&& 31).toUInt32).toInt32) &&& (255 : Int32))).toUInt32.toUInt16.toUInt32.toInt32)), .val (.int ((((((p1).toUInt32 >>> ((16 : Int32) &&& 31).toUInt32).toInt32) &&& (255 : Int32))).toUInt32.toUInt16.toUInt32.toInt32)), .val (.int (((p1 &&& (255 : Int32))).toUInt32.toUInt16.toUInt32.toInt32)), .val (.int ((((((p1).toUInt32 >>> ((8 : Int32) &&& 31).toUInt32).toInt32) &&& (255 : Int32))).toUInt32.toUInt16.toUInt32.toInt32)), .unset, .unset, .unset, .unset, .unset, .unset, .unset, .unset, .unset, .unset]) rfl ?_
      show Steps p.tables e below (T0.setTop (mkF m 111 #[.val (.int p1), .val (.int p2), .val (.int p3), .val (.int p4), .val (.int (1 : Int32)), .val (.int ((p3 &&& (2147483647 : Int32)) % (4 : Int32))), .val (.int ((p3 &&& (2147483647 : Int32)) % (4 : Int32))), .val (.int (((p1 &&& (255 : Int32))).toUInt32.toUInt16.toUInt32.toInt32)), .val (.int ((((((p1).toUInt32 >>> ((8 : Int32) &&& 31).toUInt32).toInt32) &&& (255 : Int32))).toUInt32.toUInt16.toUInt32.toInt32)), .val (.int ((((((p1).toUInt32 >>> ((16 : Int32) &&& 31).toUInt32).toInt32) &&& (255 : Int32))).toUInt32.toUInt16.toUInt32.toInt32)), .val (.int (((p1 &&& (255 : Int32))).toUInt32.toUInt16.toUInt32.toInt32)), .val (.int ((((((p1).toUInt32 >>> ((8 : Int32) &&& 31).toUInt32).toInt32) &&& (255 : Int32))).toUInt32.toUInt16.toUInt32.toInt32)), .unset, .unset, .unset, .unset, .unset, .unset, .unset, .unset, .unset, .unset] [])) _
      refine XS.iload X0.here hx rfl (hb hby at_111) rfl ?_
      show Steps p.tables e below (T0.setTop (mkF m 113 #[.val (.int p1), .val (.int p2), .val (.int p3), .val (.int p4), .val (.int (1 : Int32)), .val (.int ((p3 &&& (2147483647 : Int32)) % (4 : Int32))), .val (.int ((p3 &&& (2147483647 : Int32)) % (4 : Int32))), .val (.int (((p1 &&& (255 : Int32))).toUInt32.toUInt16.toUInt32.toInt32)), .val (.int ((((((p1).toUInt32 >>> ((8 : Int32) &&& 31).toUInt32).toInt32) &&& (255 : Int32))).toUInt32.toUInt16.toUInt32.toInt32)), .val (.int ((((((p1).toUInt32 >>> ((16 : Int32) &&& 31).toUInt32).toInt32) &&& (255 : Int32))).toUInt32.toUInt16.toUInt32.toInt32)), .val (.int (((p1 &&& (255 : Int32))).toUInt32.toUInt16.toUInt32.toInt32)), .val (.int ((((((p1).toUInt32 >>> ((8 : Int32) &&& 31).toUInt32).toInt32) &&& (255 : Int32))).toUInt32.toUInt16.toUInt32.toInt32)), .unset, .unset, .unset, .unset, .unset, .unset, .unset, .unset, .unset, .unset] [(.int (1 : Int32))])) _
      refine XS.ifNo X0.here hx rfl (hb hby at_113) rfl (by decide) ?_
      show Steps p.tables e below (T0.setTop (mkF m 116 #[.val (.int p1), .val (.int p2), .val (.int p3), .val (.int p4), .val (.int (1 : Int32)), .val (.int ((p3 &&& (2147483647 : Int32)) % (4 : Int32))), .val (.int ((p3 &&& (2147483647 : Int32)) % (4 : Int32))), .val (.int (((p1 &&& (255 : Int32))).toUInt32.toUInt16.toUInt32.toInt32)), .val (.int ((((((p1).toUInt32 >>> ((8 : Int32) &&& 31).toUInt32).toInt32) &&& (255 : Int32))).toUInt32.toUInt16.toUInt32.toInt32)), .val (.int ((((((p1).toUInt32 >>> ((16 : Int32) &&& 31).toUInt32).toInt32) &&& (255 : Int32))).toUInt32.toUInt16.toUInt32.toInt32)), .val (.int (((p1 &&& (255 : Int32))).toUInt32.toUInt16.toUInt32.toInt32)), .val (.int ((((((p1).toUInt32 >>> ((8 : Int32) &&& 31).toUInt32).toInt32) &&& (255 : Int32))).toUInt32.toUInt16.toUInt32.toInt32)), .unset, .unset, .unset, .unset, .unset, .unset, .unset, .unset, .unset, .unset] [])) _
      refine XS.iload X0.here hx rfl (hb hby at_116) rfl ?_
      show Steps p.tables e below (T0.setTop (mkF m 118 #[.val (.int p1), .val (.int p2), .val (.int p3), .val (.int p4), .val (.int (1 : Int32)), .val (.int ((p3 &&& (2147483647 : Int32)) % (4 : Int32))), .val (.int ((p3 &&& (2147483647 : Int32)) % (4 : Int32))), .val (.int (((p1 &&& (255 : Int32))).toUInt32.toUInt16.toUInt32.toInt32)), .val (.int ((((((p1).toUInt32 >>> ((8 : Int32) &&& 31).toUInt32).toInt32) &&& (255 : Int32))).toUInt32.toUInt16.toUInt32.toInt32)), .val (.int ((((((p1).toUInt32 >>> ((16 : Int32) &&& 31).toUInt32).toInt32) &&& (255 : Int32))).toUInt32.toUInt16.toUInt32.toInt32)), .val (.int (((p1 &&& (255 : Int32))).toUInt32.toUInt16.toUInt32.toInt32)), .val (.int ((((((p1).toUInt32 >>> ((8 : Int32) &&& 31).toUInt32).toInt32) &&& (255 : Int32))).toUInt32.toUInt16.toUInt32.toInt32)), .unset, .unset, .unset, .unset, .unset, .unset, .unset, .unset, .unset, .unset] [(.int ((((((p1).toUInt32 >>> ((16 : Int32) &&& 31).toUInt32).toInt32) &&& (255 : Int32))).toUInt32.toUInt16.toUInt32.toInt32))])) _
      refine XS.goto X0.here hx rfl (pc0 := 118) (pc' := 130) rfl (hb hby at_118) (by decide) (by decide) ?_
      show Steps p.tables e below (T0.setTop (mkF m 130 #[.val (.int p1), .val (.int p2), .val (.int p3), .val (.int p4), .val (.int (1 : Int32)), .val (.int ((p3 &&& (2147483647 : Int32)) % (4 : Int32))), .val (.int ((p3 &&& (2147483647 : Int32)) % (4 : Int32))), .val (.int (((p1 &&& (255 : Int32))).toUInt32.toUInt16.toUInt32.toInt32)), .val (.int ((((((p1).toUInt32 >>> ((8 : Int32) &&& 31).toUInt32).toInt32) &&& (255 : Int32))).toUInt32.toUInt16.toUInt32.toInt32)), .val (.int ((((((p1).toUInt32 >>> ((16 : Int32) &&& 31).toUInt32).toInt32) &&& (255 : Int32))).toUInt32.toUInt16.toUInt32.toInt32)), .val (.int (((p1 &&& (255 : Int32))).toUInt32.toUInt16.toUInt32.toInt32)), .val (.int ((((((p1).toUInt32 >>> ((8 : Int32) &&& 31).toUInt32).toInt32) &&& (255 : Int32))).toUInt32.toUInt16.toUInt32.toInt32)), .unset, .unset, .unset, .unset, .unset, .unset, .unset, .unset, .unset, .unset] [(.int ((((((p1).toUInt32 >>> ((16 : Int32) &&& 31).toUInt32).toInt32) &&& (255 : Int32))).toUInt32.toUInt16.toUInt32.toInt32))])) _
      refine XS.istore X0.here hx rfl (hb hby at_130) rfl (l' := #[.val (.int p1), .val (.int p2), .val (.int p3), .val (.int p4), .val (.int (1 : Int32)), .val (.int ((p3 &&& (2147483647 : Int32)) % (4 : Int32))), .val (.int ((p3 &&& (2147483647 : Int32)) % (4 : Int32))), .val (.int (((p1 &&& (255 : Int32))).toUInt32.toUInt16.toUInt32.toInt32)), .val (.int ((((((p1).toUInt32 >>> ((8 : Int32) &&& 31).toUInt32).toInt32) &&& (255 : Int32))).toUInt32.toUInt16.toUInt32.toInt32)), .val (.int ((((((p1).toUInt32 >>> ((16 : Int32) &&& 31).toUInt32).toInt32) &&& (255 : Int32))).toUInt32.toUInt16.toUInt32.toInt32)), .val (.int (((p1 &&& (255 : Int32))).toUInt32.toUInt16.toUInt32.toInt32)), .val (.int ((((((p1).toUInt32 >>> ((8 : Int32) &&& 31).toUInt32).toInt32) &&& (255 : Int32))).toUInt32.toUInt16.toUInt32.toInt32)), .val (.int ((((((p1).toUInt32 >>> ((16 : Int32) &&& 31).toUInt32).toInt32) &&& (255 : Int32))).toUInt32.toUInt16.toUInt32.toInt32)), .unset, .unset, .unset, .unset, .unset, .unset, .unset, .unset, .unset]) rfl ?_
      show Steps p.tables e below (T0.setTop (mkF m 132 #[.val (.int p1), .val (.int p2), .val (.int p3), .val (.int p4), .val (.int (1 : Int32)), .val (.int ((p3 &&& (2147483647 : Int32)) % (4 : Int32))), .val (.int ((p3 &&& (2147483647 : Int32)) % (4 : Int32))), .val (.int (((p1 &&& (255 : Int32))).toUInt32.toUInt16.toUInt32.toInt32)), .val (.int ((((((p1).toUInt32 >>> ((8 : Int32) &&& 31).toUInt32).toInt32) &&& (255 : Int32))).toUInt32.toUInt16.toUInt32.toInt32)), .val (.int ((((((p1).toUInt32 >>> ((16 : Int32) &&& 31).toUInt32).toInt32) &&& (255 : Int32))).toUInt32.toUInt16.toUInt32.toInt32)), .val (.int (((p1 &&& (255 : Int32))).toUInt32.toUInt16.toUInt32.toInt32)), .val (.int ((((((p1).toUInt32 >>> ((8 : Int32) &&& 31).toUInt32).toInt32) &&& (255 : Int32))).toUInt32.toUInt16.toUInt32.toInt32)), .val (.int ((((((p1).toUInt32 >>> ((16 : Int32) &&& 31).toUInt32).toInt32) &&& (255 : Int32))).toUInt32.toUInt16.toUInt32.toInt32)), .unset, .unset, .unset, .unset, .unset, .unset, .unset, .unset, .unset] [])) _
      refine XS.iload X0.here hx rfl (hb hby at_132) rfl ?_
      show Steps p.tables e below (T0.setTop (mkF m 134 #[.val (.int p1), .val (.int p2), .val (.int p3), .val (.int p4), .val (.int (1 : Int32)), .val (.int ((p3 &&& (2147483647 : Int32)) % (4 : Int32))), .val (.int ((p3 &&& (2147483647 : Int32)) % (4 : Int32))), .val (.int (((p1 &&& (255 : Int32))).toUInt32.toUInt16.toUInt32.toInt32)), .val (.int ((((((p1).toUInt32 >>> ((8 : Int32) &&& 31).toUInt32).toInt32) &&& (255 : Int32))).toUInt32.toUInt16.toUInt32.toInt32)), .val (.int ((((((p1).toUInt32 >>> ((16 : Int32) &&& 31).toUInt32).toInt32) &&& (255 : Int32))).toUInt32.toUInt16.toUInt32.toInt32)), .val (.int (((p1 &&& (255 : Int32))).toUInt32.toUInt16.toUInt32.toInt32)), .val (.int ((((((p1).toUInt32 >>> ((8 : Int32) &&& 31).toUInt32).toInt32) &&& (255 : Int32))).toUInt32.toUInt16.toUInt32.toInt32)), .val (.int ((((((p1).toUInt32 >>> ((16 : Int32) &&& 31).toUInt32).toInt32) &&& (255 : Int32))).toUInt32.toUInt16.toUInt32.toInt32)), .unset, .unset, .unset, .unset, .unset, .unset, .unset, .unset, .unset] [(.int (1 : Int32))])) _
      refine XS.ifNo X0.here hx rfl (hb hby at_134) rfl (by decide) ?_
      show Steps p.tables e below (T0.setTop (mkF m 137 #[.val (.int p1), .val (.int p2), .val (.int p3), .val (.int p4), .val (.int (1 : Int32)), .val (.int ((p3 &&& (2147483647 : Int32)) % (4 : Int32))), .val (.int ((p3 &&& (2147483647 : Int32)) % (4 : Int32))), .val (.int (((p1 &&& (255 : Int32))).toUInt32.toUInt16.toUInt32.toInt32)), .val (.int ((((((p1).toUInt32 >>> ((8 : Int32) &&& 31).toUInt32).toInt32) &&& (255 : Int32))).toUInt32.toUInt16.toUInt32.toInt32)), .val (.int ((((((p1).toUInt32 >>> ((16 : Int32) &&& 31).toUInt32).toInt32) &&& (255 : Int32))).toUInt32.toUInt16.toUInt32.toInt32)), .val (.int (((p1 &&& (255 : Int32))).toUInt32.toUInt16.toUInt32.toInt32)), .val (.int ((((((p1).toUInt32 >>> ((8 : Int32) &&& 31).toUInt32).toInt32) &&& (255 : Int32))).toUInt32.toUInt16.toUInt32.toInt32)), .val (.int ((((((p1).toUInt32 >>> ((16 : Int32) &&& 31).toUInt32).toInt32) &&& (255 : Int32))).toUInt32.toUInt16.toUInt32.toInt32)), .unset, .unset, .unset, .unset, .unset, .unset, .unset, .unset, .unset] [])) _
      refine XS.iloadN X0.here hx rfl (hb hby at_137) rfl ?_
      show Steps p.tables e below (T0.setTop (mkF m 138 #[.val (.int p1), .val (.int p2), .val (.int p3), .val (.int p4), .val (.int (1 : Int32)), .val (.int ((p3 &&& (2147483647 : Int32)) % (4 : Int32))), .val (.int ((p3 &&& (2147483647 : Int32)) % (4 : Int32))), .val (.int (((p1 &&& (255 : Int32))).toUInt32.toUInt16.toUInt32.toInt32)), .val (.int ((((((p1).toUInt32 >>> ((8 : Int32) &&& 31).toUInt32).toInt32) &&& (255 : Int32))).toUInt32.toUInt16.toUInt32.toInt32)), .val (.int ((((((p1).toUInt32 >>> ((16 : Int32) &&& 31).toUInt32).toInt32) &&& (255 : Int32))).toUInt32.toUInt16.toUInt32.toInt32)), .val (.int (((p1 &&& (255 : Int32))).toUInt32.toUInt16.toUInt32.toInt32)), .val (.int ((((((p1).toUInt32 >>> ((8 : Int32) &&& 31).toUInt32).toInt32) &&& (255 : Int32))).toUInt32.toUInt16.toUInt32.toInt32)), .val (.int ((((((p1).toUInt32 >>> ((16 : Int32) &&& 31).toUInt32).toInt32) &&& (255 : Int32))).toUInt32.toUInt16.toUInt32.toInt32)), .unset, .unset, .unset, .unset, .unset, .unset, .unset, .unset, .unset] [(.int p4)])) _
      refine XS.iconst X0.here hx rfl (hb hby at_138) ?_
      show Steps p.tables e below (T0.setTop (mkF m 139 #[.val (.int p1), .val (.int p2), .val (.int p3), .val (.int p4), .val (.int (1 : Int32)), .val (.int ((p3 &&& (2147483647 : Int32)) % (4 : Int32))), .val (.int ((p3 &&& (2147483647 : Int32)) % (4 : Int32))), .val (.int (((p1 &&& (255 : Int32))).toUInt32.toUInt16.toUInt32.toInt32)), .val (.int ((((((p1).toUInt32 >>> ((8 : Int32) &&& 31).toUInt32).toInt32) &&& (255 : Int32))).toUInt32.toUInt16.toUInt32.toInt32)), .val (.int ((((((p1).toUInt32 >>> ((16 : Int32) &&& 31).toUInt32).toInt32) &&& (255 : Int32))).toUInt32.toUInt16.toUInt32.toInt32)), .val (.int (((p1 &&& (255 : Int32))).toUInt32.toUInt16.toUInt32.toInt32)), .val (.int ((((((p1).toUInt32 >>> ((8 : Int32) &&& 31).toUInt32).toInt32) &&& (255 : Int32))).toUInt32.toUInt16.toUInt32.toInt32)), .val (.int ((((((p1).toUInt32 >>> ((16 : Int32) &&& 31).toUInt32).toInt32) &&& (255 : Int32))).toUInt32.toUInt16.toUInt32.toInt32)), .unset, .unset, .unset, .unset, .unset, .unset, .unset, .unset, .unset] [(.int (3 : Int32)), (.int p4)])) _
      refine XS.iushr X0.here hx rfl (hb hby at_139) rfl ?_
      show Steps p.tables e below (T0.setTop (mkF m 140 #[.val (.int p1), .val (.int p2), .val (.int p3), .val (.int p4), .val (.int (1 : Int32)), .val (.int ((p3 &&& (2147483647 : Int32)) % (4 : Int32))), .val (.int ((p3 &&& (2147483647 : Int32)) % (4 : Int32))), .val (.int (((p1 &&& (255 : Int32))).toUInt32.toUInt16.toUInt32.toInt32)), .val (.int ((((((p1).toUInt32 >>> ((8 : Int32) &&& 31).toUInt32).toInt32) &&& (255 : Int32))).toUInt32.toUInt16.toUInt32.toInt32)), .val (.int ((((((p1).toUInt32 >>> ((16 : Int32) &&& 31).toUInt32).toInt32) &&& (255 : Int32))).toUInt32.toUInt16.toUInt32.toInt32)), .val (.int (((p1 &&& (255 : Int32))).toUInt32.toUInt16.toUInt32.toInt32)), .val (.int ((((((p1).toUInt32 >>> ((8 : Int32) &&& 31).toUInt32).toInt32) &&& (255 : Int32))).toUInt32.toUInt16.toUInt32.toInt32)), .val (.int ((((((p1).toUInt32 >>> ((16 : Int32) &&& 31).toUInt32).toInt32) &&& (255 : Int32))).toUInt32.toUInt16.toUInt32.toInt32)), .unset, .unset, .unset, .unset, .unset, .unset, .unset, .unset, .unset] [(.int (((p4).toUInt32 >>> ((3 : Int32) &&& 31).toUInt32).toInt32))])) _
      refine XS.iconst X0.here hx rfl (hb hby at_140) ?_
      show Steps p.tables e below (T0.setTop (mkF m 141 #[.val (.int p1), .val (.int p2), .val (.int p3), .val (.int p4), .val (.int (1 : Int32)), .val (.int ((p3 &&& (2147483647 : Int32)) % (4 : Int32))), .val (.int ((p3 &&& (2147483647 : Int32)) % (4 : Int32))), .val (.int (((p1 &&& (255 : Int32))).toUInt32.toUInt16.toUInt32.toInt32)), .val (.int ((((((p1).toUInt32 >>> ((8 : Int32) &&& 31).toUInt32).toInt32) &&& (255 : Int32))).toUInt32.toUInt16.toUInt32.toInt32)), .val (.int ((((((p1).toUInt32 >>> ((16 : Int32) &&& 31).toUInt32).toInt32) &&& (255 : Int32))).toUInt32.toUInt16.toUInt32.toInt32)), .val (.int (((p1 &&& (255 : Int32))).toUInt32.toUInt16.toUInt32.toInt32)), .val (.int ((((((p1).toUInt32 >>> ((8 : Int32) &&& 31).toUInt32).toInt32) &&& (255 : Int32))).toUInt32.toUInt16.toUInt32.toInt32)), .val (.int ((((((p1).toUInt32 >>> ((16 : Int32) &&& 31).toUInt32).toInt32) &&& (255 : Int32))).toUInt32.toUInt16.toUInt32.toInt32)), .unset, .unset, .unset, .unset, .unset, .unset, .unset, .unset, .unset] [(.int (1 : Int32)), (.int (((p4).toUInt32 >>> ((3 : Int32) &&& 31).toUInt32).toInt32))])) _
      refine XS.iand X0.here hx rfl (hb hby at_141) rfl ?_
      show Steps p.tables e below (T0.setTop (mkF m 142 #[.val (.int p1), .val (.int p2), .val (.int p3), .val (.int p4), .val (.int (1 : Int32)), .val (.int ((p3 &&& (2147483647 : Int32)) % (4 : Int32))), .val (.int ((p3 &&& (2147483647 : Int32)) % (4 : Int32))), .val (.int (((p1 &&& (255 : Int32))).toUInt32.toUInt16.toUInt32.toInt32)), .val (.int ((((((p1).toUInt32 >>> ((8 : Int32) &&& 31).toUInt32).toInt32) &&& (255 : Int32))).toUInt32.toUInt16.toUInt32.toInt32)), .val (.int ((((((p1).toUInt32 >>> ((16 : Int32) &&& 31).toUInt32).toInt32) &&& (255 : Int32))).toUInt32.toUInt16.toUInt32.toInt32)), .val (.int (((p1 &&& (255 : Int32))).toUInt32.toUInt16.toUInt32.toInt32)), .val (.int ((((((p1).toUInt32 >>> ((8 : Int32) &&& 31).toUInt32).toInt32) &&& (255 : Int32))).toUInt32.toUInt16.toUInt32.toInt32)), .val (.int ((((((p1).toUInt32 >>> ((16 : Int32) &&& 31).toUInt32).toInt32) &&& (255 : Int32))).toUInt32.toUInt16.toUInt32.toInt32)), .unset, .unset, .unset, .unset, .unset, .unset, .unset, .unset, .unset] [(.int ((((p4).toUInt32 >>> ((3 : Int32) &&& 31).toUInt32).toInt32) &&& (1 : Int32)))])) _
      refine XS.ifNo X0.here hx rfl (hb hby at_142) rfl (by rw [if0]; exact (feq hd).1) ?_
      show Steps p.tables e below (T0.setTop (mkF m 145 #[.val (.int p1), .val (.int p2), .val (.int p3), .val (.int p4), .val (.int (1 : Int32)), .val (.int ((p3 &&& (2147483647 : Int32)) % (4 : Int32))), .val (.int ((p3 &&& (2147483647 : Int32)) % (4 : Int32))), .val (.int (((p1 &&& (255 : Int32))).toUInt32.toUInt16.toUInt32.toInt32)), .val (.int ((((((p1).toUInt32 >>> ((8 : Int32) &&& 31).toUInt32).toInt32) &&& (255 : Int32))).toUInt32.toUInt16.toUInt32.toInt32)), .val (.int ((((((p1).toUInt32 >>> ((16 : Int32) &&& 31).toUInt32).toInt32) &&& (255 : Int32))).toUInt32.toUInt16.toUInt32.toInt32)), .val (.int (((p1 &&& (255 : Int32))).toUInt32.toUInt16.toUInt32.toInt32)), .val (.int ((((((p1).toUInt32 >>> ((8 : Int32) &&& 31).toUInt32).toInt32) &&& (255 : Int32))).toUInt32.toUInt16.toUInt32.toInt32)), .val (.int ((((((p1).toUInt32 >>> ((16 : Int32) &&& 31).toUInt32).toInt32) &&& (255 : Int32))).toUInt32.toUInt16.toUInt32.toInt32)), .unset, .unset, .unset, .unset, .unset, .unset, .unset, .unset, .unset] [])) _
      refine XS.iloadN X0.here hx rfl (hb hby at_145) rfl ?_
      show Steps p.tables e below (T0.setTop (mkF m 146 #[.val (.int p1), .val (.int p2), .val (.int p3), .val (.int p4), .val (.int (1 : Int32)), .val (.int ((p3 &&& (2147483647 : Int32)) % (4 : Int32))), .val (.int ((p3 &&& (2147483647 : Int32)) % (4 : Int32))), .val (.int (((p1 &&& (255 : Int32))).toUInt32.toUInt16.toUInt32.toInt32)), .val (.int ((((((p1).toUInt32 >>> ((8 : Int32) &&& 31).toUInt32).toInt32) &&& (255 : Int32))).toUInt32.toUInt16.toUInt32.toInt32)), .val (.int ((((((p1).toUInt32 >>> ((16 : Int32) &&& 31).toUInt32).toInt32) &&& (255 : Int32))).toUInt32.toUInt16.toUInt32.toInt32)), .val (.int (((p1 &&& (255 : Int32))).toUInt32.toUInt16.toUInt32.toInt32)), .val (.int ((((((p1).toUInt32 >>> ((8 : Int32) &&& 31).toUInt32).toInt32) &&& (255 : Int32))).toUInt32.toUInt16.toUInt32.toInt32)), .val (.int ((((((p1).toUInt32 >>> ((16 : Int32) &&& 31).toUInt32).toInt32) &&& (255 : Int32))).toUInt32.toUInt16.toUInt32.toInt32)), .unset, .unset, .unset, .unset, .unset, .unset, .unset, .unset, .unset] [(.int p2)])) _
      refine XS.sipush X0.here hx rfl (hb hby at_146) ?_
      show Steps p.tables e below (T0.setTop (mkF m 149 #[.val (.int p1), .val (.int p2), .val (.int p3), .val (.int p4), .val (.int (1 : Int32)), .val (.int ((p3 &&& (2147483647 : Int32)) % (4 : Int32))), .val (.int ((p3 &&& (2147483647 : Int32)) % (4 : Int32))), .val (.int (((p1 &&& (255 : Int32))).toUInt32.toUInt16.toUInt32.toInt32)), .val (.int ((((((p1).toUInt32 >>> ((8 : Int32) &&& 31).toUInt32).toInt32) &&& (255 : Int32))).toUInt32.toUInt16.toUInt32.toInt32)), .val (.int ((((((p1).toUInt32 >>> ((16 : Int32) &&& 31).toUInt32).toInt32) &&& (255 : Int32))).toUInt32.toUInt16.toUInt32.toInt32)), .val (.int (((p1 &&& (255 : Int32))).toUInt32.toUInt16.toUInt32.toInt32)), .val (.int ((((((p1).toUInt32 >>> ((8 : Int32) &&& 31).toUInt32).toInt32) &&& (255 : Int32))).toUInt32.toUInt16.toUInt32.toInt32)), .val (.int ((((((p1).toUInt32 >>> ((16 : Int32) &&& 31).toUInt32).toInt32) &&& (255 : Int32))).toUInt32.toUInt16.toUInt32.toInt32)), .unset, .unset, .unset, .unset, .unset, .unset, .unset, .unset, .unset] [(.int (255 : Int32)), (.int p2)])) _
      refine XS.iand X0.here hx rfl (hb hby at_149) rfl ?_
      show Steps p.tables e below (T0.setTop (mkF m 150 #[.val (.int p1), .val (.int p2), .val (.int p3), .val (.int p4), .val (.int (1 : Int32)), .val (.int ((p3 &&& (2147483647 : Int32)) % (4 : Int32))), .val (.int ((p3 &&& (2147483647 : Int32)) % (4 : Int32))), .val (.int (((p1 &&& (255 : Int32))).toUInt32.toUInt16.toUInt32.toInt32)), .val (.int ((((((p1).toUInt32 >>> ((8 : Int32) &&& 31).toUInt32).toInt32) &&& (255 : Int32))).toUInt32.toUInt16.toUInt32.toInt32)), .val (.int ((((((p1).toUInt32 >>> ((16 : Int32) &&& 31).toUInt32).toInt32) &&& (255 : Int32))).toUInt32.toUInt16.toUInt32.toInt32)), .val (.int (((p1 &&& (255 : Int32))).toUInt32.toUInt16.toUInt32.toInt32)), .val (.int ((((((p1).toUInt32 >>> ((8 : Int32) &&& 31).toUInt32).toInt32) &&& (255 : Int32))).toUInt32.toUInt16.toUInt32.toInt32)), .val (.int ((((((p1).toUInt32 >>> ((16 : Int32) &&& 31).toUInt32).toInt32) &&& (255 : Int32))).toUInt32.toUInt16.toUInt32.toInt32)), .unset, .unset, .unset, .unset, .unset, .unset, .unset, .unset, .unset] [(.int (p2 &&& (255 : Int32)))])) _
      refine XS.i2c X0.here hx rfl (hb hby at_150) rfl ?_
      show Steps p.tables e below (T0.setTop (mkF m 151 #[.val (.int p1), .val (.int p2), .val (.int p3), .val (.int p4), .val (.int (1 : Int32)), .val (.int ((p3 &&& (2147483647 : Int32)) % (4 : Int32))), .val (.int ((p3 &&& (2147483647 : Int32)) % (4 : Int32))), .val (.int (((p1 &&& (255 : Int32))).toUInt32.toUInt16.toUInt32.toInt32)), .val (.int ((((((p1).toUInt32 >>> ((8 : Int32) &&& 31).toUInt32).toInt32) &&& (255 : Int32))).toUInt32.toUInt16.toUInt32.toInt32)), .val (.int ((((((p1).toUInt32 >>> ((16 : Int32) &&& 31).toUInt32).toInt32) &&& (255 : Int32))).toUInt32.toUInt16.toUInt32.toInt32)), .val (.int (((p1 &&& (255 : Int32))).toUInt32.toUInt16.toUInt32.toInt32)), .val (.int ((((((p1).toUInt32 >>> ((8 : Int32) &&& 31).toUInt32).toInt32) &&& (255 : Int32))).toUInt32.toUInt16.toUInt32.toInt32)), .val (.int ((((((p1).toUInt32 >>> ((16 : Int32) &&& 31).toUInt32).toInt32) &&& (255 : Int32))).toUInt32.toUInt16.toUInt32.toInt32)), .unset, .unset, .unset, .unset, .unset, .unset, .unset, .unset, .unset] [(.int (((p2 &&& (255 : Int32))).toUInt32.toUInt16.toUInt32.toInt32))])) _
      refine XS.istore X0.here hx rfl (hb hby at_151) rfl (l' := #[.val (.int p1), .val (.int p2), .val (.int p3), .val (.int p4), .val (.int (1 : Int32)), .val (.int ((p3 &&& (2147483647 : Int32)) % (4 : Int32))), .val (.int ((p3 &&& (2147483647 : Int32)) % (4 : Int32))), .val (.int (((p1 &&& (255 : Int32))).toUInt32.toUInt16.toUInt32.toInt32)), .val (.int ((((((p1).toUInt32 >>> ((8 : Int32) &&& 31).toUInt32).toInt32) &&& (255 : Int32))).toUInt32.toUInt16.toUInt32.toInt32)), .val (.int ((((((p1).toUInt32 >>> ((16 : Int32) &&& 31).toUInt32).toInt32) &&& (255 : Int32))).toUInt32.toUInt16.toUInt32.toInt32)), .val (.int (((p1 &&& (255 : Int32))).toUInt32.toUInt16.toUInt32.toInt32)), .val (.int ((((((p1).toUInt32 >>> ((8 : Int32) &&& 31).toUInt32).toInt32) &&& (255 : Int32))).toUInt32.toUInt16.toUInt32.toInt32)), .val (.int (((p2 &&& (255 : Int32))).toUInt32.toUInt16.toUInt32.toInt32)), .unset, .unset, .unset, .unset, .unset, .unset, .unset, .unset, .unset]) rfl ?_
      rw [← en] at kt
      exact kt
theorem ef_0 (m : MethodId) (x0 : Int32) (x1 : Int32) (x2 : Int32) (x3 : Int32) : entryFrame m #[(.int x0), (.int x1), (.int x2), (.int x3)] maxLocals = mkF m 0 #[.val (.int x0), .val (.int x1), .val (.int x2), .val (.int x3), .unset, .unset, .unset, .unset, .unset, .unset, .unset, .unset, .unset, .unset, .unset, .unset, .unset, .unset, .unset, .unset, .unset, .unset] [] := by first | (simp [entryFrame, mkF, argsToLocals, Value.category, maxLocals]; done) | rfl
def Q0 (n0 : Nat) (v : Option Value) (L : List Loc) : Prop := v = some (.int 1) ∧ Fr n0 L
set_option maxRecDepth 65536 in
set_option maxHeartbeats 40000000 in
theorem rm0 (l : Launch) (Z : State) (a0' : Array Value) (hw : ∀ d ∈ tables_1, d.before a0' Z = true) (ws : List Jvm.Cond) (EL : List (String × Nat)) (hEL : EW Z a0' EL) (hmem : ("java/lang/String", 7) ∈ EL) (p1 p2 p3 p4 : Int32) (G : Int32) (h0 : Heap) (n0 : Nat) (Z0 : n0 ≤ h0.size) (O : Sta Z h0 "java/lang/String" "COMPACT_STRINGS" "Z" (.int G)) (hG : ¬ G = 0) :
    MetFree l x (head1 (Jvm.Cond.code x code maxLocals ret :: ws) room_1) (fun a U => a = #[(.int p1), (.int p2), (.int p3), (.int p4)] ∧ Z.Warmed39 U.vm ∧ U.heap = h0 ∧ CHv Z EL U.vm h0) (fun _ _ _ _ _ => True) (fun _ U o U' => ∃ v L, o = .returned v ∧ Q0 n0 v L ∧ ReturnedEndW U o U' L 32 1152) := by
  refine MetFree.of_bodySF (plainFor_of_name pn_L) hisR ?_
  intro p e s m args below meth c s₁ Bd hml0 hP hK
  obtain ⟨rfl, hZ, hh, H0⟩ := hP
  have hx := Bd.exec
  have hby := Bd.bytes
  have hml : c.maxLocals = 22 := hml0
  have hown : s.vm.findClass "com/example/bare_migrate/baremigrate/ScriptEqualsPinLaw" = some m.cls := findClass_of_methodNamed Bd.named
  have X0 : Stand p l e room_1 (s.setVm s.vm) m #[(.int p1), (.int p2), (.int p3), (.int p4)] below meth c s₁ [] 0 0 := Stand.of_body Bd
  have e0 : s₁.heap = h0 := by rw [← hh, Bd.state]; rfl
  obtain ⟨cc, n, k, a0, a1, a2, b0, b1, b2, hn, hk, lA, lB, stp⟩ := own_pre p1 p2 p3 p4 X0 hx hZ hw hby hown
  have hS0 : s.Since s.vm s.heap.size := (State.WarmedH.refl s).since _
  have sg1 : ∀ target, Steps p.tables e below (s₁.setTop (mkF m 161 #[.val (.int p1), .val (.int p2), .val (.int p3), .val (.int p4), .val (.int cc), .val (.int (Int32.ofNat n)), .val (.int (Int32.ofNat k)), .val (.int a0), .val (.int a1), .val (.int a2), .val (.int b0), .val (.int b1), .val (.int b2), .unset, .unset, .unset, .unset, .unset, .unset, .unset, .unset, .unset] [(.int a2), (.int a1), (.int a0), (.int (Int32.ofNat n))])) target → Steps p.tables e below (s₁.setTop (mkF m 153 #[.val (.int p1), .val (.int p2), .val (.int p3), .val (.int p4), .val (.int cc), .val (.int (Int32.ofNat n)), .val (.int (Int32.ofNat k)), .val (.int a0), .val (.int a1), .val (.int a2), .val (.int b0), .val (.int b1), .val (.int b2), .unset, .unset, .unset, .unset, .unset, .unset, .unset, .unset, .unset] [])) target := by
    intro target kt
    show Steps p.tables e below (s₁.setTop (mkF m 153 #[.val (.int p1), .val (.int p2), .val (.int p3), .val (.int p4), .val (.int cc), .val (.int (Int32.ofNat n)), .val (.int (Int32.ofNat k)), .val (.int a0), .val (.int a1), .val (.int a2), .val (.int b0), .val (.int b1), .val (.int b2), .unset, .unset, .unset, .unset, .unset, .unset, .unset, .unset, .unset] [])) _
    refine XS.iload X0.here hx rfl (hb hby at_153) rfl ?_
    show Steps p.tables e below (s₁.setTop (mkF m 155 #[.val (.int p1), .val (.int p2), .val (.int p3), .val (.int p4), .val (.int cc), .val (.int (Int32.ofNat n)), .val (.int (Int32.ofNat k)), .val (.int a0), .val (.int a1), .val (.int a2), .val (.int b0), .val (.int b1), .val (.int b2), .unset, .unset, .unset, .unset, .unset, .unset, .unset, .unset, .unset] [(.int (Int32.ofNat n))])) _
    refine XS.iload X0.here hx rfl (hb hby at_155) rfl ?_
    show Steps p.tables e below (s₁.setTop (mkF m 157 #[.val (.int p1), .val (.int p2), .val (.int p3), .val (.int p4), .val (.int cc), .val (.int (Int32.ofNat n)), .val (.int (Int32.ofNat k)), .val (.int a0), .val (.int a1), .val (.int a2), .val (.int b0), .val (.int b1), .val (.int b2), .unset, .unset, .unset, .unset, .unset, .unset, .unset, .unset, .unset] [(.int a0), (.int (Int32.ofNat n))])) _
    refine XS.iload X0.here hx rfl (hb hby at_157) rfl ?_
    show Steps p.tables e below (s₁.setTop (mkF m 159 #[.val (.int p1), .val (.int p2), .val (.int p3), .val (.int p4), .val (.int cc), .val (.int (Int32.ofNat n)), .val (.int (Int32.ofNat k)), .val (.int a0), .val (.int a1), .val (.int a2), .val (.int b0), .val (.int b1), .val (.int b2), .unset, .unset, .unset, .unset, .unset, .unset, .unset, .unset, .unset] [(.int a1), (.int a0), (.int (Int32.ofNat n))])) _
    refine XS.iload X0.here hx rfl (hb hby at_159) rfl ?_
    show Steps p.tables e below (s₁.setTop (mkF m 161 #[.val (.int p1), .val (.int p2), .val (.int p3), .val (.int p4), .val (.int cc), .val (.int (Int32.ofNat n)), .val (.int (Int32.ofNat k)), .val (.int a0), .val (.int a1), .val (.int a2), .val (.int b0), .val (.int b1), .val (.int b2), .unset, .unset, .unset, .unset, .unset, .unset, .unset, .unset, .unset] [(.int a2), (.int a1), (.int a0), (.int (Int32.ofNat n))])) _
    exact kt
  obtain ⟨_, _, ⟨TA, LA, kA, nA⟩, -, YA, hsA, grA, ⟨LcA, hQA, lA, yA, zA, RA⟩, stA⟩ := callSS X0 hx (y := (⟨"com/example/bare_migrate/baremigrate/ScriptEqualsPinLaw", "text", "(ICCC)Ljava/lang/String;"⟩ : MethodName)) hown (mvT hZ (hw _ (List.mem_of_getElem? (i := 1) rfl))) (mvT hZ (hw _ (List.mem_of_getElem? (i := 2) rfl))) (mvT hZ (hw _ (List.mem_of_getElem? (i := 3) rfl))) (mvT hZ (hw _ (List.mem_of_getElem? (i := 4) rfl))) (by decide) (backOfSH (vm0 := s.vm) (W := 0) (rmT l Z a0' hw EL hEL hmem n hn a0 a1 a2 lA G h0 n0 Z0 O hG) hZ (hw _ (List.mem_of_getElem? (i := 4) rfl)) (hw _ (List.mem_of_getElem? (i := 3) rfl)) (by decide) (by decide) hEL H0) (g := (mkF m 161 #[.val (.int p1), .val (.int p2), .val (.int p3), .val (.int p4), .val (.int cc), .val (.int (Int32.ofNat n)), .val (.int (Int32.ofNat k)), .val (.int a0), .val (.int a1), .val (.int a2), .val (.int b0), .val (.int b1), .val (.int b2), .unset, .unset, .unset, .unset, .unset, .unset, .unset, .unset, .unset] [(.int a2), (.int a1), (.int a0), (.int (Int32.ofNat n))])) rfl (by rw [hml]; rfl) (argsL := [(.int (Int32.ofNat n)), (.int a0), (.int a1), (.int a2)]) (rest := []) (lenOf pdT rfl) rfl (by show 2 * 0 + _ ≤ _; exact Nat.le_of_eq rfl) (hb hby at_161) (fun _ _ => ⟨rfl, e0, Nat.le_of_ble_eq_true rfl, Nat.le_of_ble_eq_true rfl⟩)
  dsimp only [Pt.U, Pt.locs, Pt.cells, Pt.slots] at YA hsA grA lA yA zA RA stA hQA
  subst lA yA zA
  obtain ⟨tA, rfl, NA, EA, geA, SA⟩ := hQA
  obtain ⟨XA, hSA, hZA, hownA⟩ := rebS hS0 (Nat.le_of_eq (by rw [hh, ← e0])) YA hsA grA hZ hown
  have MA := Fr.app (Fr.nil n0) NA
  have sg2 : ∀ target, Steps p.tables e below (TA.setTop (mkF m 174 #[.val (.int p1), .val (.int p2), .val (.int p3), .val (.int p4), .val (.int cc), .val (.int (Int32.ofNat n)), .val (.int (Int32.ofNat k)), .val (.int a0), .val (.int a1), .val (.int a2), .val (.int b0), .val (.int b1), .val (.int b2), .val (.ref tA), .unset, .unset, .unset, .unset, .unset, .unset, .unset, .unset] [(.int b2), (.int b1), (.int b0), (.int (Int32.ofNat k))])) target → Steps p.tables e below (TA.setTop (mkF m 164 #[.val (.int p1), .val (.int p2), .val (.int p3), .val (.int p4), .val (.int cc), .val (.int (Int32.ofNat n)), .val (.int (Int32.ofNat k)), .val (.int a0), .val (.int a1), .val (.int a2), .val (.int b0), .val (.int b1), .val (.int b2), .unset, .unset, .unset, .unset, .unset, .unset, .unset, .unset, .unset] [(.ref tA)])) target := by
    intro target kt
    show Steps p.tables e below (TA.setTop (mkF m 164 #[.val (.int p1), .val (.int p2), .val (.int p3), .val (.int p4), .val (.int cc), .val (.int (Int32.ofNat n)), .val (.int (Int32.ofNat k)), .val (.int a0), .val (.int a1), .val (.int a2), .val (.int b0), .val (.int b1), .val (.int b2), .unset, .unset, .unset, .unset, .unset, .unset, .unset, .unset, .unset] [(.ref tA)])) _
    refine XS.astore XA.here hx rfl (hb hby at_164) rfl rfl (l' := #[.val (.int p1), .val (.int p2), .val (.int p3), .val (.int p4), .val (.int cc), .val (.int (Int32.ofNat n)), .val (.int (Int32.ofNat k)), .val (.int a0), .val (.int a1), .val (.int a2), .val (.int b0), .val (.int b1), .val (.int b2), .val (.ref tA), .unset, .unset, .unset, .unset, .unset, .unset, .unset, .unset]) rfl ?_
    show Steps p.tables e below (TA.setTop (mkF m 166 #[.val (.int p1), .val (.int p2), .val (.int p3), .val (.int p4), .val (.int cc), .val (.int (Int32.ofNat n)), .val (.int (Int32.ofNat k)), .val (.int a0), .val (.int a1), .val (.int a2), .val (.int b0), .val (.int b1), .val (.int b2), .val (.ref tA), .unset, .unset, .unset, .unset, .unset, .unset, .unset, .unset] [])) _
    refine XS.iload XA.here hx rfl (hb hby at_166) rfl ?_
    show Steps p.tables e below (TA.setTop (mkF m 168 #[.val (.int p1), .val (.int p2), .val (.int p3), .val (.int p4), .val (.int cc), .val (.int (Int32.ofNat n)), .val (.int (Int32.ofNat k)), .val (.int a0), .val (.int a1), .val (.int a2), .val (.int b0), .val (.int b1), .val (.int b2), .val (.ref tA), .unset, .unset, .unset, .unset, .unset, .unset, .unset, .unset] [(.int (Int32.ofNat k))])) _
    refine XS.iload XA.here hx rfl (hb hby at_168) rfl ?_
    show Steps p.tables e below (TA.setTop (mkF m 170 #[.val (.int p1), .val (.int p2), .val (.int p3), .val (.int p4), .val (.int cc), .val (.int (Int32.ofNat n)), .val (.int (Int32.ofNat k)), .val (.int a0), .val (.int a1), .val (.int a2), .val (.int b0), .val (.int b1), .val (.int b2), .val (.ref tA), .unset, .unset, .unset, .unset, .unset, .unset, .unset, .unset] [(.int b0), (.int (Int32.ofNat k))])) _
    refine XS.iload XA.here hx rfl (hb hby at_170) rfl ?_
    show Steps p.tables e below (TA.setTop (mkF m 172 #[.val (.int p1), .val (.int p2), .val (.int p3), .val (.int p4), .val (.int cc), .val (.int (Int32.ofNat n)), .val (.int (Int32.ofNat k)), .val (.int a0), .val (.int a1), .val (.int a2), .val (.int b0), .val (.int b1), .val (.int b2), .val (.ref tA), .unset, .unset, .unset, .unset, .unset, .unset, .unset, .unset] [(.int b1), (.int b0), (.int (Int32.ofNat k))])) _
    refine XS.iload XA.here hx rfl (hb hby at_172) rfl ?_
    show Steps p.tables e below (TA.setTop (mkF m 174 #[.val (.int p1), .val (.int p2), .val (.int p3), .val (.int p4), .val (.int cc), .val (.int (Int32.ofNat n)), .val (.int (Int32.ofNat k)), .val (.int a0), .val (.int a1), .val (.int a2), .val (.int b0), .val (.int b1), .val (.int b2), .val (.ref tA), .unset, .unset, .unset, .unset, .unset, .unset, .unset, .unset] [(.int b2), (.int b1), (.int b0), (.int (Int32.ofNat k))])) _
    exact kt
  obtain ⟨_, _, ⟨TB, LB, kB, nB⟩, -, YB, hsB, grB, ⟨LcB, hQB, lB, yB, zB, RB⟩, stB⟩ := callSS XA hx (y := (⟨"com/example/bare_migrate/baremigrate/ScriptEqualsPinLaw", "text", "(ICCC)Ljava/lang/String;"⟩ : MethodName)) hownA (mvT hZA (hw _ (List.mem_of_getElem? (i := 1) rfl))) (mvT hZA (hw _ (List.mem_of_getElem? (i := 2) rfl))) (mvT hZA (hw _ (List.mem_of_getElem? (i := 3) rfl))) (mvT hZA (hw _ (List.mem_of_getElem? (i := 4) rfl))) (by decide) (backOfSH (vm0 := TA.vm) (W := 0) (rmT l Z a0' hw EL hEL hmem k hk b0 b1 b2 lB G TA.heap n0 (Nat.le_trans Z0 EA.1) (O.ext EA) hG) hZA (hw _ (List.mem_of_getElem? (i := 4) rfl)) (hw _ (List.mem_of_getElem? (i := 3) rfl)) (by decide) (by decide) hEL RA.1) (g := (mkF m 174 #[.val (.int p1), .val (.int p2), .val (.int p3), .val (.int p4), .val (.int cc), .val (.int (Int32.ofNat n)), .val (.int (Int32.ofNat k)), .val (.int a0), .val (.int a1), .val (.int a2), .val (.int b0), .val (.int b1), .val (.int b2), .val (.ref tA), .unset, .unset, .unset, .unset, .unset, .unset, .unset, .unset] [(.int b2), (.int b1), (.int b0), (.int (Int32.ofNat k))])) rfl (by rw [hml]; rfl) (argsL := [(.int (Int32.ofNat k)), (.int b0), (.int b1), (.int b2)]) (rest := []) (lenOf pdT rfl) rfl (by show 2 * 0 + _ ≤ _; exact Nat.le_of_eq rfl) (hb hby at_174) (fun _ _ => ⟨rfl, rfl, Nat.le_of_ble_eq_true rfl, Nat.le_of_ble_eq_true rfl⟩)
  dsimp only [Pt.U, Pt.locs, Pt.cells, Pt.slots] at YB hsB grB lB yB zB RB stB hQB
  subst lB yB zB
  obtain ⟨tB, rfl, NB, EB, geB, SB⟩ := hQB
  obtain ⟨XB, hSB, hZB, hownB⟩ := rebS hSA (Nat.le_refl _) YB hsB grB hZA hownA
  have MB := Fr.app (MA) NB
  have eAB := own_ext_trans EA EB
  have sg3 : ∀ target, Steps p.tables e below (TB.setTop (mkF m 179 #[.val (.int p1), .val (.int p2), .val (.int p3), .val (.int p4), .val (.int cc), .val (.int (Int32.ofNat n)), .val (.int (Int32.ofNat k)), .val (.int a0), .val (.int a1), .val (.int a2), .val (.int b0), .val (.int b1), .val (.int b2), .val (.ref tA), .val (.ref tB), .unset, .unset, .unset, .unset, .unset, .unset, .unset] [])) target → Steps p.tables e below (TB.setTop (mkF m 177 #[.val (.int p1), .val (.int p2), .val (.int p3), .val (.int p4), .val (.int cc), .val (.int (Int32.ofNat n)), .val (.int (Int32.ofNat k)), .val (.int a0), .val (.int a1), .val (.int a2), .val (.int b0), .val (.int b1), .val (.int b2), .val (.ref tA), .unset, .unset, .unset, .unset, .unset, .unset, .unset, .unset] [(.ref tB)])) target := by
    intro target kt
    show Steps p.tables e below (TB.setTop (mkF m 177 #[.val (.int p1), .val (.int p2), .val (.int p3), .val (.int p4), .val (.int cc), .val (.int (Int32.ofNat n)), .val (.int (Int32.ofNat k)), .val (.int a0), .val (.int a1), .val (.int a2), .val (.int b0), .val (.int b1), .val (.int b2), .val (.ref tA), .unset, .unset, .unset, .unset, .unset, .unset, .unset, .unset] [(.ref tB)])) _
    refine XS.astore XB.here hx rfl (hb hby at_177) rfl rfl (l' := #[.val (.int p1), .val (.int p2), .val (.int p3), .val (.int p4), .val (.int cc), .val (.int (Int32.ofNat n)), .val (.int (Int32.ofNat k)), .val (.int a0), .val (.int a1), .val (.int a2), .val (.int b0), .val (.int b1), .val (.int b2), .val (.ref tA), .val (.ref tB), .unset, .unset, .unset, .unset, .unset, .unset, .unset]) rfl ?_
    show Steps p.tables e below (TB.setTop (mkF m 179 #[.val (.int p1), .val (.int p2), .val (.int p3), .val (.int p4), .val (.int cc), .val (.int (Int32.ofNat n)), .val (.int (Int32.ofNat k)), .val (.int a0), .val (.int a1), .val (.int a2), .val (.int b0), .val (.int b1), .val (.int b2), .val (.ref tA), .val (.ref tB), .unset, .unset, .unset, .unset, .unset, .unset, .unset] [])) _
    exact kt
  obtain ⟨T4, h4, X4, e4, E4, A4, D4, -, st4⟩ := newO XB hx hZB hownB (hw _ (List.mem_of_getElem? (i := 35) rfl)) (hw _ (List.mem_of_getElem? (i := 36) rfl)) (hw _ (List.mem_of_getElem? (i := 37) rfl)) rfl (g := (mkF m 179 #[.val (.int p1), .val (.int p2), .val (.int p3), .val (.int p4), .val (.int cc), .val (.int (Int32.ofNat n)), .val (.int (Int32.ofNat k)), .val (.int a0), .val (.int a1), .val (.int a2), .val (.int b0), .val (.int b1), .val (.int b2), .val (.ref tA), .val (.ref tB), .unset, .unset, .unset, .unset, .unset, .unset, .unset] [])) rfl (hb hby at_179) (by decide) (by decide)
  obtain ⟨a4, g4⟩ : ∃ z, z = TB.heap.size := ⟨_, rfl⟩
  rw [← g4] at A4 D4 st4
  have sg5 : ∀ target, Steps p.tables e below (T4.setTop (mkF m 185 #[.val (.int p1), .val (.int p2), .val (.int p3), .val (.int p4), .val (.int cc), .val (.int (Int32.ofNat n)), .val (.int (Int32.ofNat k)), .val (.int a0), .val (.int a1), .val (.int a2), .val (.int b0), .val (.int b1), .val (.int b2), .val (.ref tA), .val (.ref tB), .unset, .unset, .unset, .unset, .unset, .unset, .unset] [(.ref tA), (.ref a4), (.ref a4)])) target → Steps p.tables e below (T4.setTop (mkF m 182 #[.val (.int p1), .val (.int p2), .val (.int p3), .val (.int p4), .val (.int cc), .val (.int (Int32.ofNat n)), .val (.int (Int32.ofNat k)), .val (.int a0), .val (.int a1), .val (.int a2), .val (.int b0), .val (.int b1), .val (.int b2), .val (.ref tA), .val (.ref tB), .unset, .unset, .unset, .unset, .unset, .unset, .unset] [(.ref a4)])) target := by
    intro target kt
    show Steps p.tables e below (T4.setTop (mkF m 182 #[.val (.int p1), .val (.int p2), .val (.int p3), .val (.int p4), .val (.int cc), .val (.int (Int32.ofNat n)), .val (.int (Int32.ofNat k)), .val (.int a0), .val (.int a1), .val (.int a2), .val (.int b0), .val (.int b1), .val (.int b2), .val (.ref tA), .val (.ref tB), .unset, .unset, .unset, .unset, .unset, .unset, .unset] [(.ref a4)])) _
    refine XS.dup X4.here hx rfl (hb hby at_182) rfl rfl ?_
    show Steps p.tables e below (T4.setTop (mkF m 183 #[.val (.int p1), .val (.int p2), .val (.int p3), .val (.int p4), .val (.int cc), .val (.int (Int32.ofNat n)), .val (.int (Int32.ofNat k)), .val (.int a0), .val (.int a1), .val (.int a2), .val (.int b0), .val (.int b1), .val (.int b2), .val (.ref tA), .val (.ref tB), .unset, .unset, .unset, .unset, .unset, .unset, .unset] [(.ref a4), (.ref a4)])) _
    refine XS.aload X4.here hx rfl (hb hby at_183) rfl rfl ?_
    show Steps p.tables e below (T4.setTop (mkF m 185 #[.val (.int p1), .val (.int p2), .val (.int p3), .val (.int p4), .val (.int cc), .val (.int (Int32.ofNat n)), .val (.int (Int32.ofNat k)), .val (.int a0), .val (.int a1), .val (.int a2), .val (.int b0), .val (.int b1), .val (.int b2), .val (.ref tA), .val (.ref tB), .unset, .unset, .unset, .unset, .unset, .unset, .unset] [(.ref tA), (.ref a4), (.ref a4)])) _
    exact kt
  obtain ⟨_, _, ⟨TC, LC, kC, nC⟩, -, XC, ⟨LcC, hQC, lC, yC, zC⟩, stC⟩ := X4.specialBack hx (y := (⟨"com/example/bare_migrate/baremigrate/Migration$Script", "<init>", "(Ljava/lang/String;)V"⟩ : MethodName)) rfl hownB (mvT hZB (hw _ (List.mem_of_getElem? (i := 38) rfl))) (mvT hZB (hw _ (List.mem_of_getElem? (i := 39) rfl))) (mvT hZB (hw _ (List.mem_of_getElem? (i := 40) rfl))) (by decide) (backOf (W := 1) (rmI l Z a0' hw a4 tA h4 n0 (by rw [g4]; exact (Nat.le_trans Z0 eAB.1)) A4 (D4 (Or.inr (hw _ (List.mem_of_getElem? (i := 43) rfl))) (ty := .object "java/lang/String") (by decide))) hZB (hw _ (List.mem_of_getElem? (i := 40) rfl)) (hw _ (List.mem_of_getElem? (i := 37) rfl)) (by decide) (by decide)) (g := (mkF m 185 #[.val (.int p1), .val (.int p2), .val (.int p3), .val (.int p4), .val (.int cc), .val (.int (Int32.ofNat n)), .val (.int (Int32.ofNat k)), .val (.int a0), .val (.int a1), .val (.int a2), .val (.int b0), .val (.int b1), .val (.int b2), .val (.ref tA), .val (.ref tB), .unset, .unset, .unset, .unset, .unset, .unset, .unset] [(.ref tA), (.ref a4), (.ref a4)])) rfl (by rw [hml]; rfl) (Steps.refl _) (a := a4) (argsL := [(.ref tA)]) (rest := [(.ref a4)]) (lenOf pdI rfl) rfl (by show 2 * 0 + _ ≤ _; exact Nat.le_of_eq rfl) (hb hby at_185) (fun _ _ => ⟨rfl, e4, Nat.le_of_ble_eq_true rfl, Nat.le_of_ble_eq_true rfl⟩)
  dsimp only [Pt.U, Pt.locs, Pt.cells, Pt.slots] at XC lC yC zC stC hQC
  subst lC yC zC
  obtain ⟨rfl, NC, KC, EsC, FsC⟩ := hQC
  have EC := own_ext_keep E4 KC (allS (by rw [g4]; exact Nat.le_refl _) all0)
  have MC := Fr.app (MB) NC
  have eAC := own_ext_trans eAB EC
  have SA2 := SA.ext (own_ext_trans EB EC)
  have SB2 := SB.ext EC
  have OC := O.ext eAC
  have sg6 : ∀ target, Steps p.tables e below (TC.setTop (mkF m 197 #[.val (.int p1), .val (.int p2), .val (.int p3), .val (.int p4), .val (.int cc), .val (.int (Int32.ofNat n)), .val (.int (Int32.ofNat k)), .val (.int a0), .val (.int a1), .val (.int a2), .val (.int b0), .val (.int b1), .val (.int b2), .val (.ref tA), .val (.ref tB), .val (.ref a4), .val (.int ((((p4).toUInt32 >>> ((1 : Int32) &&& 31).toUInt32).toInt32) &&& (3 : Int32))), .unset, .unset, .unset, .unset, .unset] [])) target → Steps p.tables e below (TC.setTop (mkF m 188 #[.val (.int p1), .val (.int p2), .val (.int p3), .val (.int p4), .val (.int cc), .val (.int (Int32.ofNat n)), .val (.int (Int32.ofNat k)), .val (.int a0), .val (.int a1), .val (.int a2), .val (.int b0), .val (.int b1), .val (.int b2), .val (.ref tA), .val (.ref tB), .unset, .unset, .unset, .unset, .unset, .unset, .unset] [(.ref a4)])) target := by
    intro target kt
    show Steps p.tables e below (TC.setTop (mkF m 188 #[.val (.int p1), .val (.int p2), .val (.int p3), .val (.int p4), .val (.int cc), .val (.int (Int32.ofNat n)), .val (.int (Int32.ofNat k)), .val (.int a0), .val (.int a1), .val (.int a2), .val (.int b0), .val (.int b1), .val (.int b2), .val (.ref tA), .val (.ref tB), .unset, .unset, .unset, .unset, .unset, .unset, .unset] [(.ref a4)])) _
    refine XS.astore XC.here hx rfl (hb hby at_188) rfl rfl (l' := #[.val (.int p1), .val (.int p2), .val (.int p3), .val (.int p4), .val (.int cc), .val (.int (Int32.ofNat n)), .val (.int (Int32.ofNat k)), .val (.int a0), .val (.int a1), .val (.int a2), .val (.int b0), .val (.int b1), .val (.int b2), .val (.ref tA), .val (.ref tB), .val (.ref a4), .unset, .unset, .unset, .unset, .unset, .unset]) rfl ?_
    show Steps p.tables e below (TC.setTop (mkF m 190 #[.val (.int p1), .val (.int p2), .val (.int p3), .val (.int p4), .val (.int cc), .val (.int (Int32.ofNat n)), .val (.int (Int32.ofNat k)), .val (.int a0), .val (.int a1), .val (.int a2), .val (.int b0), .val (.int b1), .val (.int b2), .val (.ref tA), .val (.ref tB), .val (.ref a4), .unset, .unset, .unset, .unset, .unset, .unset] [])) _
    refine XS.iloadN XC.here hx rfl (hb hby at_190) rfl ?_
    show Steps p.tables e below (TC.setTop (mkF m 191 #[.val (.int p1), .val (.int p2), .val (.int p3), .val (.int p4), .val (.int cc), .val (.int (Int32.ofNat n)), .val (.int (Int32.ofNat k)), .val (.int a0), .val (.int a1), .val (.int a2), .val (.int b0), .val (.int b1), .val (.int b2), .val (.ref tA), .val (.ref tB), .val (.ref a4), .unset, .unset, .unset, .unset, .unset, .unset] [(.int p4)])) _
    refine XS.iconst XC.here hx rfl (hb hby at_191) ?_
    show Steps p.tables e below (TC.setTop (mkF m 192 #[.val (.int p1), .val (.int p2), .val (.int p3), .val (.int p4), .val (.int cc), .val (.int (Int32.ofNat n)), .val (.int (Int32.ofNat k)), .val (.int a0), .val (.int a1), .val (.int a2), .val (.int b0), .val (.int b1), .val (.int b2), .val (.ref tA), .val (.ref tB), .val (.ref a4), .unset, .unset, .unset, .unset, .unset, .unset] [(.int (1 : Int32)), (.int p4)])) _
    refine XS.iushr XC.here hx rfl (hb hby at_192) rfl ?_
    show Steps p.tables e below (TC.setTop (mkF m 193 #[.val (.int p1), .val (.int p2), .val (.int p3), .val (.int p4), .val (.int cc), .val (.int (Int32.ofNat n)), .val (.int (Int32.ofNat k)), .val (.int a0), .val (.int a1), .val (.int a2), .val (.int b0), .val (.int b1), .val (.int b2), .val (.ref tA), .val (.ref tB), .val (.ref a4), .unset, .unset, .unset, .unset, .unset, .unset] [(.int (((p4).toUInt32 >>> ((1 : Int32) &&& 31).toUInt32).toInt32))])) _
    refine XS.iconst XC.here hx rfl (hb hby at_193) ?_
    show Steps p.tables e below (TC.setTop (mkF m 194 #[.val (.int p1), .val (.int p2), .val (.int p3), .val (.int p4), .val (.int cc), .val (.int (Int32.ofNat n)), .val (.int (Int32.ofNat k)), .val (.int a0), .val (.int a1), .val (.int a2), .val (.int b0), .val (.int b1), .val (.int b2), .val (.ref tA), .val (.ref tB), .val (.ref a4), .unset, .unset, .unset, .unset, .unset, .unset] [(.int (3 : Int32)), (.int (((p4).toUInt32 >>> ((1 : Int32) &&& 31).toUInt32).toInt32))])) _
    refine XS.iand XC.here hx rfl (hb hby at_194) rfl ?_
    show Steps p.tables e below (TC.setTop (mkF m 195 #[.val (.int p1), .val (.int p2), .val (.int p3), .val (.int p4), .val (.int cc), .val (.int (Int32.ofNat n)), .val (.int (Int32.ofNat k)), .val (.int a0), .val (.int a1), .val (.int a2), .val (.int b0), .val (.int b1), .val (.int b2), .val (.ref tA), .val (.ref tB), .val (.ref a4), .unset, .unset, .unset, .unset, .unset, .unset] [(.int ((((p4).toUInt32 >>> ((1 : Int32) &&& 31).toUInt32).toInt32) &&& (3 : Int32)))])) _
    refine XS.istore XC.here hx rfl (hb hby at_195) rfl (l' := #[.val (.int p1), .val (.int p2), .val (.int p3), .val (.int p4), .val (.int cc), .val (.int (Int32.ofNat n)), .val (.int (Int32.ofNat k)), .val (.int a0), .val (.int a1), .val (.int a2), .val (.int b0), .val (.int b1), .val (.int b2), .val (.ref tA), .val (.ref tB), .val (.ref a4), .val (.int ((((p4).toUInt32 >>> ((1 : Int32) &&& 31).toUInt32).toInt32) &&& (3 : Int32))), .unset, .unset, .unset, .unset, .unset]) rfl ?_
    show Steps p.tables e below (TC.setTop (mkF m 197 #[.val (.int p1), .val (.int p2), .val (.int p3), .val (.int p4), .val (.int cc), .val (.int (Int32.ofNat n)), .val (.int (Int32.ofNat k)), .val (.int a0), .val (.int a1), .val (.int a2), .val (.int b0), .val (.int b1), .val (.int b2), .val (.ref tA), .val (.ref tB), .val (.ref a4), .val (.int ((((p4).toUInt32 >>> ((1 : Int32) &&& 31).toUInt32).toInt32) &&& (3 : Int32))), .unset, .unset, .unset, .unset, .unset] [])) _
    exact kt
  obtain ⟨kd, hkd⟩ : ∃ z, z = ((((p4).toUInt32 >>> ((1 : Int32) &&& 31).toUInt32).toInt32) &&& (3 : Int32)) := ⟨_, rfl⟩
  by_cases hk2 : kd = 2
  · rw [hk2] at hkd
    have sg7 : ∀ target, Steps p.tables e below (TC.setTop (mkF m 211 #[.val (.int p1), .val (.int p2), .val (.int p3), .val (.int p4), .val (.int cc), .val (.int (Int32.ofNat n)), .val (.int (Int32.ofNat k)), .val (.int a0), .val (.int a1), .val (.int a2), .val (.int b0), .val (.int b1), .val (.int b2), .val (.ref tA), .val (.ref tB), .val (.ref a4), .val (.int (2 : Int32)), .unset, .val (.ref tB), .unset, .unset, .unset] [(.ref tB), (.ref a4)])) target → Steps p.tables e below (TC.setTop (mkF m 197 #[.val (.int p1), .val (.int p2), .val (.int p3), .val (.int p4), .val (.int cc), .val (.int (Int32.ofNat n)), .val (.int (Int32.ofNat k)), .val (.int a0), .val (.int a1), .val (.int a2), .val (.int b0), .val (.int b1), .val (.int b2), .val (.ref tA), .val (.ref tB), .val (.ref a4), .val (.int ((((p4).toUInt32 >>> ((1 : Int32) &&& 31).toUInt32).toInt32) &&& (3 : Int32))), .unset, .unset, .unset, .unset, .unset] [])) target := by
      intro target kt
      show Steps p.tables e below (TC.setTop (mkF m 197 #[.val (.int p1), .val (.int p2), .val (.int p3), .val (.int p4), .val (.int cc), .val (.int (Int32.ofNat n)), .val (.int (Int32.ofNat k)), .val (.int a0), .val (.int a1), .val (.int a2), .val (.int b0), .val (.int b1), .val (.int b2), .val (.ref tA), .val (.ref tB), .val (.ref a4), .val (.int ((((p4).toUInt32 >>> ((1 : Int32) &&& 31).toUInt32).toInt32) &&& (3 : Int32))), .unset, .unset, .unset, .unset, .unset] [])) _
      rw [← hkd]
      show Steps p.tables e below (TC.setTop (mkF m 197 #[.val (.int p1), .val (.int p2), .val (.int p3), .val (.int p4), .val (.int cc), .val (.int (Int32.ofNat n)), .val (.int (Int32.ofNat k)), .val (.int a0), .val (.int a1), .val (.int a2), .val (.int b0), .val (.int b1), .val (.int b2), .val (.ref tA), .val (.ref tB), .val (.ref a4), .val (.int (2 : Int32)), .unset, .unset, .unset, .unset, .unset] [])) _
      refine XS.iload XC.here hx rfl (hb hby at_197) rfl ?_
      show Steps p.tables e below (TC.setTop (mkF m 199 #[.val (.int p1), .val (.int p2), .val (.int p3), .val (.int p4), .val (.int cc), .val (.int (Int32.ofNat n)), .val (.int (Int32.ofNat k)), .val (.int a0), .val (.int a1), .val (.int a2), .val (.int b0), .val (.int b1), .val (.int b2), .val (.ref tA), .val (.ref tB), .val (.ref a4), .val (.int (2 : Int32)), .unset, .unset, .unset, .unset, .unset] [(.int (2 : Int32))])) _
      refine XS.iconst XC.here hx rfl (hb hby at_199) ?_
      show Steps p.tables e below (TC.setTop (mkF m 200 #[.val (.int p1), .val (.int p2), .val (.int p3), .val (.int p4), .val (.int cc), .val (.int (Int32.ofNat n)), .val (.int (Int32.ofNat k)), .val (.int a0), .val (.int a1), .val (.int a2), .val (.int b0), .val (.int b1), .val (.int b2), .val (.ref tA), .val (.ref tB), .val (.ref a4), .val (.int (2 : Int32)), .unset, .unset, .unset, .unset, .unset] [(.int (2 : Int32)), (.int (2 : Int32))])) _
      refine XS.icmpNo XC.here hx rfl (hb hby at_200) rfl (by decide) ?_
      show Steps p.tables e below (TC.setTop (mkF m 203 #[.val (.int p1), .val (.int p2), .val (.int p3), .val (.int p4), .val (.int cc), .val (.int (Int32.ofNat n)), .val (.int (Int32.ofNat k)), .val (.int a0), .val (.int a1), .val (.int a2), .val (.int b0), .val (.int b1), .val (.int b2), .val (.ref tA), .val (.ref tB), .val (.ref a4), .val (.int (2 : Int32)), .unset, .unset, .unset, .unset, .unset] [])) _
      refine XS.aload XC.here hx rfl (hb hby at_203) rfl rfl ?_
      show Steps p.tables e below (TC.setTop (mkF m 205 #[.val (.int p1), .val (.int p2), .val (.int p3), .val (.int p4), .val (.int cc), .val (.int (Int32.ofNat n)), .val (.int (Int32.ofNat k)), .val (.int a0), .val (.int a1), .val (.int a2), .val (.int b0), .val (.int b1), .val (.int b2), .val (.ref tA), .val (.ref tB), .val (.ref a4), .val (.int (2 : Int32)), .unset, .unset, .unset, .unset, .unset] [(.ref tB)])) _
      refine XS.astore XC.here hx rfl (hb hby at_205) rfl rfl (l' := #[.val (.int p1), .val (.int p2), .val (.int p3), .val (.int p4), .val (.int cc), .val (.int (Int32.ofNat n)), .val (.int (Int32.ofNat k)), .val (.int a0), .val (.int a1), .val (.int a2), .val (.int b0), .val (.int b1), .val (.int b2), .val (.ref tA), .val (.ref tB), .val (.ref a4), .val (.int (2 : Int32)), .unset, .val (.ref tB), .unset, .unset, .unset]) rfl ?_
      show Steps p.tables e below (TC.setTop (mkF m 207 #[.val (.int p1), .val (.int p2), .val (.int p3), .val (.int p4), .val (.int cc), .val (.int (Int32.ofNat n)), .val (.int (Int32.ofNat k)), .val (.int a0), .val (.int a1), .val (.int a2), .val (.int b0), .val (.int b1), .val (.int b2), .val (.ref tA), .val (.ref tB), .val (.ref a4), .val (.int (2 : Int32)), .unset, .val (.ref tB), .unset, .unset, .unset] [])) _
      refine XS.aload XC.here hx rfl (hb hby at_207) rfl rfl ?_
      show Steps p.tables e below (TC.setTop (mkF m 209 #[.val (.int p1), .val (.int p2), .val (.int p3), .val (.int p4), .val (.int cc), .val (.int (Int32.ofNat n)), .val (.int (Int32.ofNat k)), .val (.int a0), .val (.int a1), .val (.int a2), .val (.int b0), .val (.int b1), .val (.int b2), .val (.ref tA), .val (.ref tB), .val (.ref a4), .val (.int (2 : Int32)), .unset, .val (.ref tB), .unset, .unset, .unset] [(.ref a4)])) _
      refine XS.aload XC.here hx rfl (hb hby at_209) rfl rfl ?_
      show Steps p.tables e below (TC.setTop (mkF m 211 #[.val (.int p1), .val (.int p2), .val (.int p3), .val (.int p4), .val (.int cc), .val (.int (Int32.ofNat n)), .val (.int (Int32.ofNat k)), .val (.int a0), .val (.int a1), .val (.int a2), .val (.int b0), .val (.int b1), .val (.int b2), .val (.ref tA), .val (.ref tB), .val (.ref a4), .val (.int (2 : Int32)), .unset, .val (.ref tB), .unset, .unset, .unset] [(.ref tB), (.ref a4)])) _
      exact kt
    obtain ⟨cqD, kqD, qaD, qbD, qcD⟩ := isOf hZB rfl EsC
    obtain ⟨_, _, ⟨TD, LD, kD, nD⟩, -, XD, ⟨LcD, hQD, lD, yD, zD⟩, stD⟩ := XC.virtualBack hx (y := (⟨"com/example/bare_migrate/baremigrate/Migration$Script", "equals", "(Ljava/lang/Object;)Z"⟩ : MethodName)) (z := (⟨"com/example/bare_migrate/baremigrate/Migration$Script", "equals", "(Ljava/lang/Object;)Z"⟩ : MethodName)) hownB (mvT hZB (hw _ (List.mem_of_getElem? (i := 47) rfl))) (mvT hZB (hw _ (List.mem_of_getElem? (i := 48) rfl))) (notFace_of_selects (args := #[]) (mvT hZB (hw _ (List.mem_of_getElem? (i := 50) rfl)))) (mvT hZB (hw _ (List.mem_of_getElem? (i := 50) rfl))) (mvT hZB (hw _ (List.mem_of_getElem? (i := 49) rfl))) (by decide) (backOf (W := 0) (rmQs l Z a0' hw a4 TC.heap n0 tB SB2.1) hZB (hw _ (List.mem_of_getElem? (i := 51) rfl)) (hw _ (List.mem_of_getElem? (i := 37) rfl)) (by decide) (by decide)) qaD qcD (g := (mkF m 211 #[.val (.int p1), .val (.int p2), .val (.int p3), .val (.int p4), .val (.int cc), .val (.int (Int32.ofNat n)), .val (.int (Int32.ofNat k)), .val (.int a0), .val (.int a1), .val (.int a2), .val (.int b0), .val (.int b1), .val (.int b2), .val (.ref tA), .val (.ref tB), .val (.ref a4), .val (.int (2 : Int32)), .unset, .val (.ref tB), .unset, .unset, .unset] [(.ref tB), (.ref a4)])) rfl (by rw [hml]; rfl) (Steps.refl _) (argsL := [(.ref tB)]) (rest := []) (lenOf pdQ rfl) rfl (by show 2 * 0 + _ ≤ _; exact Nat.le_of_eq rfl) (hb hby at_211) (fun _ _ => ⟨rfl, rfl, Nat.le_of_ble_eq_true rfl, Nat.le_of_ble_eq_true rfl⟩)
    dsimp only [Pt.U, Pt.locs, Pt.cells, Pt.slots] at XD lD yD zD stD hQD
    subst lD yD zD
    obtain ⟨rfl, ND, eD⟩ := hQD
    have MD := Fr.app (MC) ND
    have sg8 : ∀ target, Steps p.tables e below (TD.setTop (mkF m 340 #[.val (.int p1), .val (.int p2), .val (.int p3), .val (.int p4), .val (.int cc), .val (.int (Int32.ofNat n)), .val (.int (Int32.ofNat k)), .val (.int a0), .val (.int a1), .val (.int a2), .val (.int b0), .val (.int b1), .val (.int b2), .val (.ref tA), .val (.ref tB), .val (.ref a4), .val (.int (2 : Int32)), .val (.int (1 : Int32)), .val (.ref a4), .unset, .unset, .unset] [(.ref a4), (.ref a4)])) target → Steps p.tables e below (TD.setTop (mkF m 214 #[.val (.int p1), .val (.int p2), .val (.int p3), .val (.int p4), .val (.int cc), .val (.int (Int32.ofNat n)), .val (.int (Int32.ofNat k)), .val (.int a0), .val (.int a1), .val (.int a2), .val (.int b0), .val (.int b1), .val (.int b2), .val (.ref tA), .val (.ref tB), .val (.ref a4), .val (.int (2 : Int32)), .unset, .val (.ref tB), .unset, .unset, .unset] [(.int (0 : Int32))])) target := by
      intro target kt
      show Steps p.tables e below (TD.setTop (mkF m 214 #[.val (.int p1), .val (.int p2), .val (.int p3), .val (.int p4), .val (.int cc), .val (.int (Int32.ofNat n)), .val (.int (Int32.ofNat k)), .val (.int a0), .val (.int a1), .val (.int a2), .val (.int b0), .val (.int b1), .val (.int b2), .val (.ref tA), .val (.ref tB), .val (.ref a4), .val (.int (2 : Int32)), .unset, .val (.ref tB), .unset, .unset, .unset] [(.int (0 : Int32))])) _
      refine XS.ifNo XD.here hx rfl (hb hby at_214) rfl (by decide) ?_
      show Steps p.tables e below (TD.setTop (mkF m 217 #[.val (.int p1), .val (.int p2), .val (.int p3), .val (.int p4), .val (.int cc), .val (.int (Int32.ofNat n)), .val (.int (Int32.ofNat k)), .val (.int a0), .val (.int a1), .val (.int a2), .val (.int b0), .val (.int b1), .val (.int b2), .val (.ref tA), .val (.ref tB), .val (.ref a4), .val (.int (2 : Int32)), .unset, .val (.ref tB), .unset, .unset, .unset] [])) _
      refine XS.iconst XD.here hx rfl (hb hby at_217) ?_
      show Steps p.tables e below (TD.setTop (mkF m 218 #[.val (.int p1), .val (.int p2), .val (.int p3), .val (.int p4), .val (.int cc), .val (.int (Int32.ofNat n)), .val (.int (Int32.ofNat k)), .val (.int a0), .val (.int a1), .val (.int a2), .val (.int b0), .val (.int b1), .val (.int b2), .val (.ref tA), .val (.ref tB), .val (.ref a4), .val (.int (2 : Int32)), .unset, .val (.ref tB), .unset, .unset, .unset] [(.int (1 : Int32))])) _
      refine XS.goto XD.here hx rfl (pc0 := 218) (pc' := 222) rfl (hb hby at_218) (by decide) (by decide) ?_
      show Steps p.tables e below (TD.setTop (mkF m 222 #[.val (.int p1), .val (.int p2), .val (.int p3), .val (.int p4), .val (.int cc), .val (.int (Int32.ofNat n)), .val (.int (Int32.ofNat k)), .val (.int a0), .val (.int a1), .val (.int a2), .val (.int b0), .val (.int b1), .val (.int b2), .val (.ref tA), .val (.ref tB), .val (.ref a4), .val (.int (2 : Int32)), .unset, .val (.ref tB), .unset, .unset, .unset] [(.int (1 : Int32))])) _
      refine XS.istore XD.here hx rfl (hb hby at_222) rfl (l' := #[.val (.int p1), .val (.int p2), .val (.int p3), .val (.int p4), .val (.int cc), .val (.int (Int32.ofNat n)), .val (.int (Int32.ofNat k)), .val (.int a0), .val (.int a1), .val (.int a2), .val (.int b0), .val (.int b1), .val (.int b2), .val (.ref tA), .val (.ref tB), .val (.ref a4), .val (.int (2 : Int32)), .val (.int (1 : Int32)), .val (.ref tB), .unset, .unset, .unset]) rfl ?_
      show Steps p.tables e below (TD.setTop (mkF m 224 #[.val (.int p1), .val (.int p2), .val (.int p3), .val (.int p4), .val (.int cc), .val (.int (Int32.ofNat n)), .val (.int (Int32.ofNat k)), .val (.int a0), .val (.int a1), .val (.int a2), .val (.int b0), .val (.int b1), .val (.int b2), .val (.ref tA), .val (.ref tB), .val (.ref a4), .val (.int (2 : Int32)), .val (.int (1 : Int32)), .val (.ref tB), .unset, .unset, .unset] [])) _
      refine XS.goto XD.here hx rfl (pc0 := 224) (pc' := 327) rfl (hb hby at_224) (by decide) (by decide) ?_
      show Steps p.tables e below (TD.setTop (mkF m 327 #[.val (.int p1), .val (.int p2), .val (.int p3), .val (.int p4), .val (.int cc), .val (.int (Int32.ofNat n)), .val (.int (Int32.ofNat k)), .val (.int a0), .val (.int a1), .val (.int a2), .val (.int b0), .val (.int b1), .val (.int b2), .val (.ref tA), .val (.ref tB), .val (.ref a4), .val (.int (2 : Int32)), .val (.int (1 : Int32)), .val (.ref tB), .unset, .unset, .unset] [])) _
      refine XS.aload XD.here hx rfl (hb hby at_327) rfl rfl ?_
      show Steps p.tables e below (TD.setTop (mkF m 329 #[.val (.int p1), .val (.int p2), .val (.int p3), .val (.int p4), .val (.int cc), .val (.int (Int32.ofNat n)), .val (.int (Int32.ofNat k)), .val (.int a0), .val (.int a1), .val (.int a2), .val (.int b0), .val (.int b1), .val (.int b2), .val (.ref tA), .val (.ref tB), .val (.ref a4), .val (.int (2 : Int32)), .val (.int (1 : Int32)), .val (.ref tB), .unset, .unset, .unset] [(.ref a4)])) _
      refine XS.astore XD.here hx rfl (hb hby at_329) rfl rfl (l' := #[.val (.int p1), .val (.int p2), .val (.int p3), .val (.int p4), .val (.int cc), .val (.int (Int32.ofNat n)), .val (.int (Int32.ofNat k)), .val (.int a0), .val (.int a1), .val (.int a2), .val (.int b0), .val (.int b1), .val (.int b2), .val (.ref tA), .val (.ref tB), .val (.ref a4), .val (.int (2 : Int32)), .val (.int (1 : Int32)), .val (.ref a4), .unset, .unset, .unset]) rfl ?_
      show Steps p.tables e below (TD.setTop (mkF m 331 #[.val (.int p1), .val (.int p2), .val (.int p3), .val (.int p4), .val (.int cc), .val (.int (Int32.ofNat n)), .val (.int (Int32.ofNat k)), .val (.int a0), .val (.int a1), .val (.int a2), .val (.int b0), .val (.int b1), .val (.int b2), .val (.ref tA), .val (.ref tB), .val (.ref a4), .val (.int (2 : Int32)), .val (.int (1 : Int32)), .val (.ref a4), .unset, .unset, .unset] [])) _
      refine XS.iload XD.here hx rfl (hb hby at_331) rfl ?_
      show Steps p.tables e below (TD.setTop (mkF m 333 #[.val (.int p1), .val (.int p2), .val (.int p3), .val (.int p4), .val (.int cc), .val (.int (Int32.ofNat n)), .val (.int (Int32.ofNat k)), .val (.int a0), .val (.int a1), .val (.int a2), .val (.int b0), .val (.int b1), .val (.int b2), .val (.ref tA), .val (.ref tB), .val (.ref a4), .val (.int (2 : Int32)), .val (.int (1 : Int32)), .val (.ref a4), .unset, .unset, .unset] [(.int (1 : Int32))])) _
      refine XS.ifNo XD.here hx rfl (hb hby at_333) rfl (by decide) ?_
      show Steps p.tables e below (TD.setTop (mkF m 336 #[.val (.int p1), .val (.int p2), .val (.int p3), .val (.int p4), .val (.int cc), .val (.int (Int32.ofNat n)), .val (.int (Int32.ofNat k)), .val (.int a0), .val (.int a1), .val (.int a2), .val (.int b0), .val (.int b1), .val (.int b2), .val (.ref tA), .val (.ref tB), .val (.ref a4), .val (.int (2 : Int32)), .val (.int (1 : Int32)), .val (.ref a4), .unset, .unset, .unset] [])) _
      refine XS.aload XD.here hx rfl (hb hby at_336) rfl rfl ?_
      show Steps p.tables e below (TD.setTop (mkF m 338 #[.val (.int p1), .val (.int p2), .val (.int p3), .val (.int p4), .val (.int cc), .val (.int (Int32.ofNat n)), .val (.int (Int32.ofNat k)), .val (.int a0), .val (.int a1), .val (.int a2), .val (.int b0), .val (.int b1), .val (.int b2), .val (.ref tA), .val (.ref tB), .val (.ref a4), .val (.int (2 : Int32)), .val (.int (1 : Int32)), .val (.ref a4), .unset, .unset, .unset] [(.ref a4)])) _
      refine XS.aload XD.here hx rfl (hb hby at_338) rfl rfl ?_
      show Steps p.tables e below (TD.setTop (mkF m 340 #[.val (.int p1), .val (.int p2), .val (.int p3), .val (.int p4), .val (.int cc), .val (.int (Int32.ofNat n)), .val (.int (Int32.ofNat k)), .val (.int a0), .val (.int a1), .val (.int a2), .val (.int b0), .val (.int b1), .val (.int b2), .val (.ref tA), .val (.ref tB), .val (.ref a4), .val (.int (2 : Int32)), .val (.int (1 : Int32)), .val (.ref a4), .unset, .unset, .unset] [(.ref a4), (.ref a4)])) _
      exact kt
    obtain ⟨cqZ, kqZ, qaZ, qbZ, qcZ⟩ := isOf hZB eD EsC
    obtain ⟨_, _, ⟨TZ, LZ, kZ, nZ⟩, -, XZ, ⟨LcZ, hQZ, lZ, yZ, zZ⟩, stZ⟩ := XD.virtualBack hx (y := (⟨"com/example/bare_migrate/baremigrate/Migration$Script", "equals", "(Ljava/lang/Object;)Z"⟩ : MethodName)) (z := (⟨"com/example/bare_migrate/baremigrate/Migration$Script", "equals", "(Ljava/lang/Object;)Z"⟩ : MethodName)) hownB (mvT hZB (hw _ (List.mem_of_getElem? (i := 47) rfl))) (mvT hZB (hw _ (List.mem_of_getElem? (i := 48) rfl))) (notFace_of_selects (args := #[]) (mvT hZB (hw _ (List.mem_of_getElem? (i := 50) rfl)))) (mvT hZB (hw _ (List.mem_of_getElem? (i := 50) rfl))) (mvT hZB (hw _ (List.mem_of_getElem? (i := 49) rfl))) (by decide) (backOf (W := 0) (rmQ l Z a0' hw a4 TC.heap n0 a4 tA tA ([a0, a1, a2].take n) ([a0, a1, a2].take n) (own_take lA n) (own_take lA n) (by rw [own_tk _ _ _ hn]; omega) (by rw [own_tk _ _ _ hn]; omega) G OC hG EsC FsC EsC FsC SA2 SA2) hZB (hw _ (List.mem_of_getElem? (i := 51) rfl)) (hw _ (List.mem_of_getElem? (i := 37) rfl)) (by decide) (by decide)) qaZ qcZ (g := (mkF m 340 #[.val (.int p1), .val (.int p2), .val (.int p3), .val (.int p4), .val (.int cc), .val (.int (Int32.ofNat n)), .val (.int (Int32.ofNat k)), .val (.int a0), .val (.int a1), .val (.int a2), .val (.int b0), .val (.int b1), .val (.int b2), .val (.ref tA), .val (.ref tB), .val (.ref a4), .val (.int (2 : Int32)), .val (.int (1 : Int32)), .val (.ref a4), .unset, .unset, .unset] [(.ref a4), (.ref a4)])) rfl (by rw [hml]; rfl) (Steps.refl _) (argsL := [(.ref a4)]) (rest := []) (lenOf pdQ rfl) rfl (by show 2 * 0 + _ ≤ _; exact Nat.le_of_eq rfl) (hb hby at_340) (fun _ _ => ⟨rfl, eD, Nat.le_of_ble_eq_true rfl, Nat.le_of_ble_eq_true rfl⟩)
    dsimp only [Pt.U, Pt.locs, Pt.cells, Pt.slots] at XZ lZ yZ zZ stZ hQZ
    subst lZ yZ zZ
    obtain ⟨rfl, NZ, eZ⟩ := hQZ
    have MZ := Fr.app (MD) NZ
    have sg9 : ∀ target, Steps p.tables e below (TZ.setTop (mkF m 351 #[.val (.int p1), .val (.int p2), .val (.int p3), .val (.int p4), .val (.int cc), .val (.int (Int32.ofNat n)), .val (.int (Int32.ofNat k)), .val (.int a0), .val (.int a1), .val (.int a2), .val (.int b0), .val (.int b1), .val (.int b2), .val (.ref tA), .val (.ref tB), .val (.ref a4), .val (.int (2 : Int32)), .val (.int (1 : Int32)), .val (.ref a4), .unset, .unset, .unset] [(.int (1 : Int32))])) target → Steps p.tables e below (TZ.setTop (mkF m 343 #[.val (.int p1), .val (.int p2), .val (.int p3), .val (.int p4), .val (.int cc), .val (.int (Int32.ofNat n)), .val (.int (Int32.ofNat k)), .val (.int a0), .val (.int a1), .val (.int a2), .val (.int b0), .val (.int b1), .val (.int b2), .val (.ref tA), .val (.ref tB), .val (.ref a4), .val (.int (2 : Int32)), .val (.int (1 : Int32)), .val (.ref a4), .unset, .unset, .unset] [(.int (own_eq ([a0, a1, a2].take n) ([a0, a1, a2].take n)))])) target := by
      intro target kt
      show Steps p.tables e below (TZ.setTop (mkF m 343 #[.val (.int p1), .val (.int p2), .val (.int p3), .val (.int p4), .val (.int cc), .val (.int (Int32.ofNat n)), .val (.int (Int32.ofNat k)), .val (.int a0), .val (.int a1), .val (.int a2), .val (.int b0), .val (.int b1), .val (.int b2), .val (.ref tA), .val (.ref tB), .val (.ref a4), .val (.int (2 : Int32)), .val (.int (1 : Int32)), .val (.ref a4), .unset, .unset, .unset] [(.int (own_eq ([a0, a1, a2].take n) ([a0, a1, a2].take n)))])) _
      refine XS.ifNo XZ.here hx rfl (hb hby at_343) rfl (by rw [own_eq_t rfl]; decide) ?_
      show Steps p.tables e below (TZ.setTop (mkF m 346 #[.val (.int p1), .val (.int p2), .val (.int p3), .val (.int p4), .val (.int cc), .val (.int (Int32.ofNat n)), .val (.int (Int32.ofNat k)), .val (.int a0), .val (.int a1), .val (.int a2), .val (.int b0), .val (.int b1), .val (.int b2), .val (.ref tA), .val (.ref tB), .val (.ref a4), .val (.int (2 : Int32)), .val (.int (1 : Int32)), .val (.ref a4), .unset, .unset, .unset] [])) _
      refine XS.iconst XZ.here hx rfl (hb hby at_346) ?_
      show Steps p.tables e below (TZ.setTop (mkF m 347 #[.val (.int p1), .val (.int p2), .val (.int p3), .val (.int p4), .val (.int cc), .val (.int (Int32.ofNat n)), .val (.int (Int32.ofNat k)), .val (.int a0), .val (.int a1), .val (.int a2), .val (.int b0), .val (.int b1), .val (.int b2), .val (.ref tA), .val (.ref tB), .val (.ref a4), .val (.int (2 : Int32)), .val (.int (1 : Int32)), .val (.ref a4), .unset, .unset, .unset] [(.int (1 : Int32))])) _
      refine XS.goto XZ.here hx rfl (pc0 := 347) (pc' := 351) rfl (hb hby at_347) (by decide) (by decide) ?_
      show Steps p.tables e below (TZ.setTop (mkF m 351 #[.val (.int p1), .val (.int p2), .val (.int p3), .val (.int p4), .val (.int cc), .val (.int (Int32.ofNat n)), .val (.int (Int32.ofNat k)), .val (.int a0), .val (.int a1), .val (.int a2), .val (.int b0), .val (.int b1), .val (.int b2), .val (.ref tA), .val (.ref tB), .val (.ref a4), .val (.int (2 : Int32)), .val (.int (1 : Int32)), .val (.ref a4), .unset, .unset, .unset] [(.int (1 : Int32))])) _
      exact kt
    have kz : TB.heap.size ≤ TZ.heap.size := by rw [eZ]; exact EC.1
    obtain ⟨fs, hr, hrun, hended, hW⟩ := XZ.leaveW hSB kz (v := some (.int (1 : Int32))) (fun h => by rw [Bd.returns] at h; cases h)
    refine ⟨_, _, castTop (ef_0 m p1 p2 p3 p4) (stp _ ?_), hrun, hended, _, _, rfl, ⟨rfl, MZ⟩, own_w hW (by decide) (by decide)⟩
    show Steps p.tables e below (s₁.setTop (mkF m 153 #[.val (.int p1), .val (.int p2), .val (.int p3), .val (.int p4), .val (.int cc), .val (.int (Int32.ofNat n)), .val (.int (Int32.ofNat k)), .val (.int a0), .val (.int a1), .val (.int a2), .val (.int b0), .val (.int b1), .val (.int b2), .unset, .unset, .unset, .unset, .unset, .unset, .unset, .unset, .unset] [])) _
    refine sg1 _ ?_
    show Steps p.tables e below (s₁.setTop (mkF m 161 #[.val (.int p1), .val (.int p2), .val (.int p3), .val (.int p4), .val (.int cc), .val (.int (Int32.ofNat n)), .val (.int (Int32.ofNat k)), .val (.int a0), .val (.int a1), .val (.int a2), .val (.int b0), .val (.int b1), .val (.int b2), .unset, .unset, .unset, .unset, .unset, .unset, .unset, .unset, .unset] [(.int a2), (.int a1), (.int a0), (.int (Int32.ofNat n))])) _
    refine stA.trans ?_
    show Steps p.tables e below (TA.setTop (mkF m 164 #[.val (.int p1), .val (.int p2), .val (.int p3), .val (.int p4), .val (.int cc), .val (.int (Int32.ofNat n)), .val (.int (Int32.ofNat k)), .val (.int a0), .val (.int a1), .val (.int a2), .val (.int b0), .val (.int b1), .val (.int b2), .unset, .unset, .unset, .unset, .unset, .unset, .unset, .unset, .unset] [(.ref tA)])) _
    refine sg2 _ ?_
    show Steps p.tables e below (TA.setTop (mkF m 174 #[.val (.int p1), .val (.int p2), .val (.int p3), .val (.int p4), .val (.int cc), .val (.int (Int32.ofNat n)), .val (.int (Int32.ofNat k)), .val (.int a0), .val (.int a1), .val (.int a2), .val (.int b0), .val (.int b1), .val (.int b2), .val (.ref tA), .unset, .unset, .unset, .unset, .unset, .unset, .unset, .unset] [(.int b2), (.int b1), (.int b0), (.int (Int32.ofNat k))])) _
    refine stB.trans ?_
    show Steps p.tables e below (TB.setTop (mkF m 177 #[.val (.int p1), .val (.int p2), .val (.int p3), .val (.int p4), .val (.int cc), .val (.int (Int32.ofNat n)), .val (.int (Int32.ofNat k)), .val (.int a0), .val (.int a1), .val (.int a2), .val (.int b0), .val (.int b1), .val (.int b2), .val (.ref tA), .unset, .unset, .unset, .unset, .unset, .unset, .unset, .unset] [(.ref tB)])) _
    refine sg3 _ ?_
    show Steps p.tables e below (TB.setTop (mkF m 179 #[.val (.int p1), .val (.int p2), .val (.int p3), .val (.int p4), .val (.int cc), .val (.int (Int32.ofNat n)), .val (.int (Int32.ofNat k)), .val (.int a0), .val (.int a1), .val (.int a2), .val (.int b0), .val (.int b1), .val (.int b2), .val (.ref tA), .val (.ref tB), .unset, .unset, .unset, .unset, .unset, .unset, .unset] [])) _
    refine st4 _ ?_
    show Steps p.tables e below (T4.setTop (mkF m 182 #[.val (.int p1), .val (.int p2), .val (.int p3), .val (.int p4), .val (.int cc), .val (.int (Int32.ofNat n)), .val (.int (Int32.ofNat k)), .val (.int a0), .val (.int a1), .val (.int a2), .val (.int b0), .val (.int b1), .val (.int b2), .val (.ref tA), .val (.ref tB), .unset, .unset, .unset, .unset, .unset, .unset, .unset] [(.ref a4)])) _
    refine sg5 _ ?_
    show Steps p.tables e below (T4.setTop (mkF m 185 #[.val (.int p1), .val (.int p2), .val (.int p3), .val (.int p4), .val (.int cc), .val (.int (Int32.ofNat n)), .val (.int (Int32.ofNat k)), .val (.int a0), .val (.int a1), .val (.int a2), .val (.int b0), .val (.int b1), .val (.int b2), .val (.ref tA), .val (.ref tB), .unset, .unset, .unset, .unset, .unset, .unset, .unset] [(.ref tA), (.ref a4), (.ref a4)])) _
    refine stC.trans ?_
    show Steps p.tables e below (TC.setTop (mkF m 188 #[.val (.int p1), .val (.int p2), .val (.int p3), .val (.int p4), .val (.int cc), .val (.int (Int32.ofNat n)), .val (.int (Int32.ofNat k)), .val (.int a0), .val (.int a1), .val (.int a2), .val (.int b0), .val (.int b1), .val (.int b2), .val (.ref tA), .val (.ref tB), .unset, .unset, .unset, .unset, .unset, .unset, .unset] [(.ref a4)])) _
    refine sg6 _ ?_
    show Steps p.tables e below (TC.setTop (mkF m 197 #[.val (.int p1), .val (.int p2), .val (.int p3), .val (.int p4), .val (.int cc), .val (.int (Int32.ofNat n)), .val (.int (Int32.ofNat k)), .val (.int a0), .val (.int a1), .val (.int a2), .val (.int b0), .val (.int b1), .val (.int b2), .val (.ref tA), .val (.ref tB), .val (.ref a4), .val (.int ((((p4).toUInt32 >>> ((1 : Int32) &&& 31).toUInt32).toInt32) &&& (3 : Int32))), .unset, .unset, .unset, .unset, .unset] [])) _
    refine sg7 _ ?_
    show Steps p.tables e below (TC.setTop (mkF m 211 #[.val (.int p1), .val (.int p2), .val (.int p3), .val (.int p4), .val (.int cc), .val (.int (Int32.ofNat n)), .val (.int (Int32.ofNat k)), .val (.int a0), .val (.int a1), .val (.int a2), .val (.int b0), .val (.int b1), .val (.int b2), .val (.ref tA), .val (.ref tB), .val (.ref a4), .val (.int (2 : Int32)), .unset, .val (.ref tB), .unset, .unset, .unset] [(.ref tB), (.ref a4)])) _
    refine stD.trans ?_
    show Steps p.tables e below (TD.setTop (mkF m 214 #[.val (.int p1), .val (.int p2), .val (.int p3), .val (.int p4), .val (.int cc), .val (.int (Int32.ofNat n)), .val (.int (Int32.ofNat k)), .val (.int a0), .val (.int a1), .val (.int a2), .val (.int b0), .val (.int b1), .val (.int b2), .val (.ref tA), .val (.ref tB), .val (.ref a4), .val (.int (2 : Int32)), .unset, .val (.ref tB), .unset, .unset, .unset] [(.int (0 : Int32))])) _
    refine sg8 _ ?_
    show Steps p.tables e below (TD.setTop (mkF m 340 #[.val (.int p1), .val (.int p2), .val (.int p3), .val (.int p4), .val (.int cc), .val (.int (Int32.ofNat n)), .val (.int (Int32.ofNat k)), .val (.int a0), .val (.int a1), .val (.int a2), .val (.int b0), .val (.int b1), .val (.int b2), .val (.ref tA), .val (.ref tB), .val (.ref a4), .val (.int (2 : Int32)), .val (.int (1 : Int32)), .val (.ref a4), .unset, .unset, .unset] [(.ref a4), (.ref a4)])) _
    refine stZ.trans ?_
    show Steps p.tables e below (TZ.setTop (mkF m 343 #[.val (.int p1), .val (.int p2), .val (.int p3), .val (.int p4), .val (.int cc), .val (.int (Int32.ofNat n)), .val (.int (Int32.ofNat k)), .val (.int a0), .val (.int a1), .val (.int a2), .val (.int b0), .val (.int b1), .val (.int b2), .val (.ref tA), .val (.ref tB), .val (.ref a4), .val (.int (2 : Int32)), .val (.int (1 : Int32)), .val (.ref a4), .unset, .unset, .unset] [(.int (own_eq ([a0, a1, a2].take n) ([a0, a1, a2].take n)))])) _
    refine sg9 _ ?_
    show Steps p.tables e below (TZ.setTop (mkF m 351 #[.val (.int p1), .val (.int p2), .val (.int p3), .val (.int p4), .val (.int cc), .val (.int (Int32.ofNat n)), .val (.int (Int32.ofNat k)), .val (.int a0), .val (.int a1), .val (.int a2), .val (.int b0), .val (.int b1), .val (.int b2), .val (.ref tA), .val (.ref tB), .val (.ref a4), .val (.int (2 : Int32)), .val (.int (1 : Int32)), .val (.ref a4), .unset, .unset, .unset] [(.int (1 : Int32))])) _
    exact retN XZ hx (t := .boolean) Bd.returns (by simp) (hb hby at_351) hr
  by_cases hk3 : kd = 3
  · rw [hk3] at hkd
    have sg7 : ∀ target, Steps p.tables e below (TC.setTop (mkF m 240 #[.val (.int p1), .val (.int p2), .val (.int p3), .val (.int p4), .val (.int cc), .val (.int (Int32.ofNat n)), .val (.int (Int32.ofNat k)), .val (.int a0), .val (.int a1), .val (.int a2), .val (.int b0), .val (.int b1), .val (.int b2), .val (.ref tA), .val (.ref tB), .val (.ref a4), .val (.int (3 : Int32)), .unset, .val .null, .unset, .unset, .unset] [.null, (.ref a4)])) target → Steps p.tables e below (TC.setTop (mkF m 197 #[.val (.int p1), .val (.int p2), .val (.int p3), .val (.int p4), .val (.int cc), .val (.int (Int32.ofNat n)), .val (.int (Int32.ofNat k)), .val (.int a0), .val (.int a1), .val (.int a2), .val (.int b0), .val (.int b1), .val (.int b2), .val (.ref tA), .val (.ref tB), .val (.ref a4), .val (.int ((((p4).toUInt32 >>> ((1 : Int32) &&& 31).toUInt32).toInt32) &&& (3 : Int32))), .unset, .unset, .unset, .unset, .unset] [])) target := by
      intro target kt
      show Steps p.tables e below (TC.setTop (mkF m 197 #[.val (.int p1), .val (.int p2), .val (.int p3), .val (.int p4), .val (.int cc), .val (.int (Int32.ofNat n)), .val (.int (Int32.ofNat k)), .val (.int a0), .val (.int a1), .val (.int a2), .val (.int b0), .val (.int b1), .val (.int b2), .val (.ref tA), .val (.ref tB), .val (.ref a4), .val (.int ((((p4).toUInt32 >>> ((1 : Int32) &&& 31).toUInt32).toInt32) &&& (3 : Int32))), .unset, .unset, .unset, .unset, .unset] [])) _
      rw [← hkd]
      show Steps p.tables e below (TC.setTop (mkF m 197 #[.val (.int p1), .val (.int p2), .val (.int p3), .val (.int p4), .val (.int cc), .val (.int (Int32.ofNat n)), .val (.int (Int32.ofNat k)), .val (.int a0), .val (.int a1), .val (.int a2), .val (.int b0), .val (.int b1), .val (.int b2), .val (.ref tA), .val (.ref tB), .val (.ref a4), .val (.int (3 : Int32)), .unset, .unset, .unset, .unset, .unset] [])) _
      refine XS.iload XC.here hx rfl (hb hby at_197) rfl ?_
      show Steps p.tables e below (TC.setTop (mkF m 199 #[.val (.int p1), .val (.int p2), .val (.int p3), .val (.int p4), .val (.int cc), .val (.int (Int32.ofNat n)), .val (.int (Int32.ofNat k)), .val (.int a0), .val (.int a1), .val (.int a2), .val (.int b0), .val (.int b1), .val (.int b2), .val (.ref tA), .val (.ref tB), .val (.ref a4), .val (.int (3 : Int32)), .unset, .unset, .unset, .unset, .unset] [(.int (3 : Int32))])) _
      refine XS.iconst XC.here hx rfl (hb hby at_199) ?_
      show Steps p.tables e below (TC.setTop (mkF m 200 #[.val (.int p1), .val (.int p2), .val (.int p3), .val (.int p4), .val (.int cc), .val (.int (Int32.ofNat n)), .val (.int (Int32.ofNat k)), .val (.int a0), .val (.int a1), .val (.int a2), .val (.int b0), .val (.int b1), .val (.int b2), .val (.ref tA), .val (.ref tB), .val (.ref a4), .val (.int (3 : Int32)), .unset, .unset, .unset, .unset, .unset] [(.int (2 : Int32)), (.int (3 : Int32))])) _
      refine XS.icmpYes XC.here hx rfl (pc0 := 200) (pc' := 227) rfl (hb hby at_200) rfl (by decide) (by decide) (by decide) ?_
      show Steps p.tables e below (TC.setTop (mkF m 227 #[.val (.int p1), .val (.int p2), .val (.int p3), .val (.int p4), .val (.int cc), .val (.int (Int32.ofNat n)), .val (.int (Int32.ofNat k)), .val (.int a0), .val (.int a1), .val (.int a2), .val (.int b0), .val (.int b1), .val (.int b2), .val (.ref tA), .val (.ref tB), .val (.ref a4), .val (.int (3 : Int32)), .unset, .unset, .unset, .unset, .unset] [])) _
      refine XS.iload XC.here hx rfl (hb hby at_227) rfl ?_
      show Steps p.tables e below (TC.setTop (mkF m 229 #[.val (.int p1), .val (.int p2), .val (.int p3), .val (.int p4), .val (.int cc), .val (.int (Int32.ofNat n)), .val (.int (Int32.ofNat k)), .val (.int a0), .val (.int a1), .val (.int a2), .val (.int b0), .val (.int b1), .val (.int b2), .val (.ref tA), .val (.ref tB), .val (.ref a4), .val (.int (3 : Int32)), .unset, .unset, .unset, .unset, .unset] [(.int (3 : Int32))])) _
      refine XS.iconst XC.here hx rfl (hb hby at_229) ?_
      show Steps p.tables e below (TC.setTop (mkF m 230 #[.val (.int p1), .val (.int p2), .val (.int p3), .val (.int p4), .val (.int cc), .val (.int (Int32.ofNat n)), .val (.int (Int32.ofNat k)), .val (.int a0), .val (.int a1), .val (.int a2), .val (.int b0), .val (.int b1), .val (.int b2), .val (.ref tA), .val (.ref tB), .val (.ref a4), .val (.int (3 : Int32)), .unset, .unset, .unset, .unset, .unset] [(.int (3 : Int32)), (.int (3 : Int32))])) _
      refine XS.icmpNo XC.here hx rfl (hb hby at_230) rfl (by decide) ?_
      show Steps p.tables e below (TC.setTop (mkF m 233 #[.val (.int p1), .val (.int p2), .val (.int p3), .val (.int p4), .val (.int cc), .val (.int (Int32.ofNat n)), .val (.int (Int32.ofNat k)), .val (.int a0), .val (.int a1), .val (.int a2), .val (.int b0), .val (.int b1), .val (.int b2), .val (.ref tA), .val (.ref tB), .val (.ref a4), .val (.int (3 : Int32)), .unset, .unset, .unset, .unset, .unset] [])) _
      refine XS.aconstNull XC.here hx rfl (hb hby at_233) ?_
      show Steps p.tables e below (TC.setTop (mkF m 234 #[.val (.int p1), .val (.int p2), .val (.int p3), .val (.int p4), .val (.int cc), .val (.int (Int32.ofNat n)), .val (.int (Int32.ofNat k)), .val (.int a0), .val (.int a1), .val (.int a2), .val (.int b0), .val (.int b1), .val (.int b2), .val (.ref tA), .val (.ref tB), .val (.ref a4), .val (.int (3 : Int32)), .unset, .unset, .unset, .unset, .unset] [.null])) _
      refine XS.astore XC.here hx rfl (hb hby at_234) rfl rfl (l' := #[.val (.int p1), .val (.int p2), .val (.int p3), .val (.int p4), .val (.int cc), .val (.int (Int32.ofNat n)), .val (.int (Int32.ofNat k)), .val (.int a0), .val (.int a1), .val (.int a2), .val (.int b0), .val (.int b1), .val (.int b2), .val (.ref tA), .val (.ref tB), .val (.ref a4), .val (.int (3 : Int32)), .unset, .val .null, .unset, .unset, .unset]) rfl ?_
      show Steps p.tables e below (TC.setTop (mkF m 236 #[.val (.int p1), .val (.int p2), .val (.int p3), .val (.int p4), .val (.int cc), .val (.int (Int32.ofNat n)), .val (.int (Int32.ofNat k)), .val (.int a0), .val (.int a1), .val (.int a2), .val (.int b0), .val (.int b1), .val (.int b2), .val (.ref tA), .val (.ref tB), .val (.ref a4), .val (.int (3 : Int32)), .unset, .val .null, .unset, .unset, .unset] [])) _
      refine XS.aload XC.here hx rfl (hb hby at_236) rfl rfl ?_
      show Steps p.tables e below (TC.setTop (mkF m 238 #[.val (.int p1), .val (.int p2), .val (.int p3), .val (.int p4), .val (.int cc), .val (.int (Int32.ofNat n)), .val (.int (Int32.ofNat k)), .val (.int a0), .val (.int a1), .val (.int a2), .val (.int b0), .val (.int b1), .val (.int b2), .val (.ref tA), .val (.ref tB), .val (.ref a4), .val (.int (3 : Int32)), .unset, .val .null, .unset, .unset, .unset] [(.ref a4)])) _
      refine XS.aload XC.here hx rfl (hb hby at_238) rfl rfl ?_
      show Steps p.tables e below (TC.setTop (mkF m 240 #[.val (.int p1), .val (.int p2), .val (.int p3), .val (.int p4), .val (.int cc), .val (.int (Int32.ofNat n)), .val (.int (Int32.ofNat k)), .val (.int a0), .val (.int a1), .val (.int a2), .val (.int b0), .val (.int b1), .val (.int b2), .val (.ref tA), .val (.ref tB), .val (.ref a4), .val (.int (3 : Int32)), .unset, .val .null, .unset, .unset, .unset] [.null, (.ref a4)])) _
      exact kt
    obtain ⟨cqD, kqD, qaD, qbD, qcD⟩ := isOf hZB rfl EsC
    obtain ⟨_, _, ⟨TD, LD, kD, nD⟩, -, XD, ⟨LcD, hQD, lD, yD, zD⟩, stD⟩ := XC.virtualBack hx (y := (⟨"com/example/bare_migrate/baremigrate/Migration$Script", "equals", "(Ljava/lang/Object;)Z"⟩ : MethodName)) (z := (⟨"com/example/bare_migrate/baremigrate/Migration$Script", "equals", "(Ljava/lang/Object;)Z"⟩ : MethodName)) hownB (mvT hZB (hw _ (List.mem_of_getElem? (i := 47) rfl))) (mvT hZB (hw _ (List.mem_of_getElem? (i := 48) rfl))) (notFace_of_selects (args := #[]) (mvT hZB (hw _ (List.mem_of_getElem? (i := 50) rfl)))) (mvT hZB (hw _ (List.mem_of_getElem? (i := 50) rfl))) (mvT hZB (hw _ (List.mem_of_getElem? (i := 49) rfl))) (by decide) (backOf (W := 0) (rmQn l Z a0' hw a4 TC.heap n0) hZB (hw _ (List.mem_of_getElem? (i := 51) rfl)) (hw _ (List.mem_of_getElem? (i := 37) rfl)) (by decide) (by decide)) qaD qcD (g := (mkF m 240 #[.val (.int p1), .val (.int p2), .val (.int p3), .val (.int p4), .val (.int cc), .val (.int (Int32.ofNat n)), .val (.int (Int32.ofNat k)), .val (.int a0), .val (.int a1), .val (.int a2), .val (.int b0), .val (.int b1), .val (.int b2), .val (.ref tA), .val (.ref tB), .val (.ref a4), .val (.int (3 : Int32)), .unset, .val .null, .unset, .unset, .unset] [.null, (.ref a4)])) rfl (by rw [hml]; rfl) (Steps.refl _) (argsL := [.null]) (rest := []) (lenOf pdQ rfl) rfl (by show 2 * 0 + _ ≤ _; exact Nat.le_of_eq rfl) (hb hby at_240) (fun _ _ => ⟨rfl, rfl, Nat.le_of_ble_eq_true rfl, Nat.le_of_ble_eq_true rfl⟩)
    dsimp only [Pt.U, Pt.locs, Pt.cells, Pt.slots] at XD lD yD zD stD hQD
    subst lD yD zD
    obtain ⟨rfl, ND, eD⟩ := hQD
    have MD := Fr.app (MC) ND
    have sg8 : ∀ target, Steps p.tables e below (TD.setTop (mkF m 340 #[.val (.int p1), .val (.int p2), .val (.int p3), .val (.int p4), .val (.int cc), .val (.int (Int32.ofNat n)), .val (.int (Int32.ofNat k)), .val (.int a0), .val (.int a1), .val (.int a2), .val (.int b0), .val (.int b1), .val (.int b2), .val (.ref tA), .val (.ref tB), .val (.ref a4), .val (.int (3 : Int32)), .val (.int (1 : Int32)), .val (.ref a4), .unset, .unset, .unset] [(.ref a4), (.ref a4)])) target → Steps p.tables e below (TD.setTop (mkF m 243 #[.val (.int p1), .val (.int p2), .val (.int p3), .val (.int p4), .val (.int cc), .val (.int (Int32.ofNat n)), .val (.int (Int32.ofNat k)), .val (.int a0), .val (.int a1), .val (.int a2), .val (.int b0), .val (.int b1), .val (.int b2), .val (.ref tA), .val (.ref tB), .val (.ref a4), .val (.int (3 : Int32)), .unset, .val .null, .unset, .unset, .unset] [(.int (0 : Int32))])) target := by
      intro target kt
      show Steps p.tables e below (TD.setTop (mkF m 243 #[.val (.int p1), .val (.int p2), .val (.int p3), .val (.int p4), .val (.int cc), .val (.int (Int32.ofNat n)), .val (.int (Int32.ofNat k)), .val (.int a0), .val (.int a1), .val (.int a2), .val (.int b0), .val (.int b1), .val (.int b2), .val (.ref tA), .val (.ref tB), .val (.ref a4), .val (.int (3 : Int32)), .unset, .val .null, .unset, .unset, .unset] [(.int (0 : Int32))])) _
      refine XS.ifNo XD.here hx rfl (hb hby at_243) rfl (by decide) ?_
      show Steps p.tables e below (TD.setTop (mkF m 246 #[.val (.int p1), .val (.int p2), .val (.int p3), .val (.int p4), .val (.int cc), .val (.int (Int32.ofNat n)), .val (.int (Int32.ofNat k)), .val (.int a0), .val (.int a1), .val (.int a2), .val (.int b0), .val (.int b1), .val (.int b2), .val (.ref tA), .val (.ref tB), .val (.ref a4), .val (.int (3 : Int32)), .unset, .val .null, .unset, .unset, .unset] [])) _
      refine XS.iconst XD.here hx rfl (hb hby at_246) ?_
      show Steps p.tables e below (TD.setTop (mkF m 247 #[.val (.int p1), .val (.int p2), .val (.int p3), .val (.int p4), .val (.int cc), .val (.int (Int32.ofNat n)), .val (.int (Int32.ofNat k)), .val (.int a0), .val (.int a1), .val (.int a2), .val (.int b0), .val (.int b1), .val (.int b2), .val (.ref tA), .val (.ref tB), .val (.ref a4), .val (.int (3 : Int32)), .unset, .val .null, .unset, .unset, .unset] [(.int (1 : Int32))])) _
      refine XS.goto XD.here hx rfl (pc0 := 247) (pc' := 251) rfl (hb hby at_247) (by decide) (by decide) ?_
      show Steps p.tables e below (TD.setTop (mkF m 251 #[.val (.int p1), .val (.int p2), .val (.int p3), .val (.int p4), .val (.int cc), .val (.int (Int32.ofNat n)), .val (.int (Int32.ofNat k)), .val (.int a0), .val (.int a1), .val (.int a2), .val (.int b0), .val (.int b1), .val (.int b2), .val (.ref tA), .val (.ref tB), .val (.ref a4), .val (.int (3 : Int32)), .unset, .val .null, .unset, .unset, .unset] [(.int (1 : Int32))])) _
      refine XS.istore XD.here hx rfl (hb hby at_251) rfl (l' := #[.val (.int p1), .val (.int p2), .val (.int p3), .val (.int p4), .val (.int cc), .val (.int (Int32.ofNat n)), .val (.int (Int32.ofNat k)), .val (.int a0), .val (.int a1), .val (.int a2), .val (.int b0), .val (.int b1), .val (.int b2), .val (.ref tA), .val (.ref tB), .val (.ref a4), .val (.int (3 : Int32)), .val (.int (1 : Int32)), .val .null, .unset, .unset, .unset]) rfl ?_
      show Steps p.tables e below (TD.setTop (mkF m 253 #[.val (.int p1), .val (.int p2), .val (.int p3), .val (.int p4), .val (.int cc), .val (.int (Int32.ofNat n)), .val (.int (Int32.ofNat k)), .val (.int a0), .val (.int a1), .val (.int a2), .val (.int b0), .val (.int b1), .val (.int b2), .val (.ref tA), .val (.ref tB), .val (.ref a4), .val (.int (3 : Int32)), .val (.int (1 : Int32)), .val .null, .unset, .unset, .unset] [])) _
      refine XS.goto XD.here hx rfl (pc0 := 253) (pc' := 327) rfl (hb hby at_253) (by decide) (by decide) ?_
      show Steps p.tables e below (TD.setTop (mkF m 327 #[.val (.int p1), .val (.int p2), .val (.int p3), .val (.int p4), .val (.int cc), .val (.int (Int32.ofNat n)), .val (.int (Int32.ofNat k)), .val (.int a0), .val (.int a1), .val (.int a2), .val (.int b0), .val (.int b1), .val (.int b2), .val (.ref tA), .val (.ref tB), .val (.ref a4), .val (.int (3 : Int32)), .val (.int (1 : Int32)), .val .null, .unset, .unset, .unset] [])) _
      refine XS.aload XD.here hx rfl (hb hby at_327) rfl rfl ?_
      show Steps p.tables e below (TD.setTop (mkF m 329 #[.val (.int p1), .val (.int p2), .val (.int p3), .val (.int p4), .val (.int cc), .val (.int (Int32.ofNat n)), .val (.int (Int32.ofNat k)), .val (.int a0), .val (.int a1), .val (.int a2), .val (.int b0), .val (.int b1), .val (.int b2), .val (.ref tA), .val (.ref tB), .val (.ref a4), .val (.int (3 : Int32)), .val (.int (1 : Int32)), .val .null, .unset, .unset, .unset] [(.ref a4)])) _
      refine XS.astore XD.here hx rfl (hb hby at_329) rfl rfl (l' := #[.val (.int p1), .val (.int p2), .val (.int p3), .val (.int p4), .val (.int cc), .val (.int (Int32.ofNat n)), .val (.int (Int32.ofNat k)), .val (.int a0), .val (.int a1), .val (.int a2), .val (.int b0), .val (.int b1), .val (.int b2), .val (.ref tA), .val (.ref tB), .val (.ref a4), .val (.int (3 : Int32)), .val (.int (1 : Int32)), .val (.ref a4), .unset, .unset, .unset]) rfl ?_
      show Steps p.tables e below (TD.setTop (mkF m 331 #[.val (.int p1), .val (.int p2), .val (.int p3), .val (.int p4), .val (.int cc), .val (.int (Int32.ofNat n)), .val (.int (Int32.ofNat k)), .val (.int a0), .val (.int a1), .val (.int a2), .val (.int b0), .val (.int b1), .val (.int b2), .val (.ref tA), .val (.ref tB), .val (.ref a4), .val (.int (3 : Int32)), .val (.int (1 : Int32)), .val (.ref a4), .unset, .unset, .unset] [])) _
      refine XS.iload XD.here hx rfl (hb hby at_331) rfl ?_
      show Steps p.tables e below (TD.setTop (mkF m 333 #[.val (.int p1), .val (.int p2), .val (.int p3), .val (.int p4), .val (.int cc), .val (.int (Int32.ofNat n)), .val (.int (Int32.ofNat k)), .val (.int a0), .val (.int a1), .val (.int a2), .val (.int b0), .val (.int b1), .val (.int b2), .val (.ref tA), .val (.ref tB), .val (.ref a4), .val (.int (3 : Int32)), .val (.int (1 : Int32)), .val (.ref a4), .unset, .unset, .unset] [(.int (1 : Int32))])) _
      refine XS.ifNo XD.here hx rfl (hb hby at_333) rfl (by decide) ?_
      show Steps p.tables e below (TD.setTop (mkF m 336 #[.val (.int p1), .val (.int p2), .val (.int p3), .val (.int p4), .val (.int cc), .val (.int (Int32.ofNat n)), .val (.int (Int32.ofNat k)), .val (.int a0), .val (.int a1), .val (.int a2), .val (.int b0), .val (.int b1), .val (.int b2), .val (.ref tA), .val (.ref tB), .val (.ref a4), .val (.int (3 : Int32)), .val (.int (1 : Int32)), .val (.ref a4), .unset, .unset, .unset] [])) _
      refine XS.aload XD.here hx rfl (hb hby at_336) rfl rfl ?_
      show Steps p.tables e below (TD.setTop (mkF m 338 #[.val (.int p1), .val (.int p2), .val (.int p3), .val (.int p4), .val (.int cc), .val (.int (Int32.ofNat n)), .val (.int (Int32.ofNat k)), .val (.int a0), .val (.int a1), .val (.int a2), .val (.int b0), .val (.int b1), .val (.int b2), .val (.ref tA), .val (.ref tB), .val (.ref a4), .val (.int (3 : Int32)), .val (.int (1 : Int32)), .val (.ref a4), .unset, .unset, .unset] [(.ref a4)])) _
      refine XS.aload XD.here hx rfl (hb hby at_338) rfl rfl ?_
      show Steps p.tables e below (TD.setTop (mkF m 340 #[.val (.int p1), .val (.int p2), .val (.int p3), .val (.int p4), .val (.int cc), .val (.int (Int32.ofNat n)), .val (.int (Int32.ofNat k)), .val (.int a0), .val (.int a1), .val (.int a2), .val (.int b0), .val (.int b1), .val (.int b2), .val (.ref tA), .val (.ref tB), .val (.ref a4), .val (.int (3 : Int32)), .val (.int (1 : Int32)), .val (.ref a4), .unset, .unset, .unset] [(.ref a4), (.ref a4)])) _
      exact kt
    obtain ⟨cqZ, kqZ, qaZ, qbZ, qcZ⟩ := isOf hZB eD EsC
    obtain ⟨_, _, ⟨TZ, LZ, kZ, nZ⟩, -, XZ, ⟨LcZ, hQZ, lZ, yZ, zZ⟩, stZ⟩ := XD.virtualBack hx (y := (⟨"com/example/bare_migrate/baremigrate/Migration$Script", "equals", "(Ljava/lang/Object;)Z"⟩ : MethodName)) (z := (⟨"com/example/bare_migrate/baremigrate/Migration$Script", "equals", "(Ljava/lang/Object;)Z"⟩ : MethodName)) hownB (mvT hZB (hw _ (List.mem_of_getElem? (i := 47) rfl))) (mvT hZB (hw _ (List.mem_of_getElem? (i := 48) rfl))) (notFace_of_selects (args := #[]) (mvT hZB (hw _ (List.mem_of_getElem? (i := 50) rfl)))) (mvT hZB (hw _ (List.mem_of_getElem? (i := 50) rfl))) (mvT hZB (hw _ (List.mem_of_getElem? (i := 49) rfl))) (by decide) (backOf (W := 0) (rmQ l Z a0' hw a4 TC.heap n0 a4 tA tA ([a0, a1, a2].take n) ([a0, a1, a2].take n) (own_take lA n) (own_take lA n) (by rw [own_tk _ _ _ hn]; omega) (by rw [own_tk _ _ _ hn]; omega) G OC hG EsC FsC EsC FsC SA2 SA2) hZB (hw _ (List.mem_of_getElem? (i := 51) rfl)) (hw _ (List.mem_of_getElem? (i := 37) rfl)) (by decide) (by decide)) qaZ qcZ (g := (mkF m 340 #[.val (.int p1), .val (.int p2), .val (.int p3), .val (.int p4), .val (.int cc), .val (.int (Int32.ofNat n)), .val (.int (Int32.ofNat k)), .val (.int a0), .val (.int a1), .val (.int a2), .val (.int b0), .val (.int b1), .val (.int b2), .val (.ref tA), .val (.ref tB), .val (.ref a4), .val (.int (3 : Int32)), .val (.int (1 : Int32)), .val (.ref a4), .unset, .unset, .unset] [(.ref a4), (.ref a4)])) rfl (by rw [hml]; rfl) (Steps.refl _) (argsL := [(.ref a4)]) (rest := []) (lenOf pdQ rfl) rfl (by show 2 * 0 + _ ≤ _; exact Nat.le_of_eq rfl) (hb hby at_340) (fun _ _ => ⟨rfl, eD, Nat.le_of_ble_eq_true rfl, Nat.le_of_ble_eq_true rfl⟩)
    dsimp only [Pt.U, Pt.locs, Pt.cells, Pt.slots] at XZ lZ yZ zZ stZ hQZ
    subst lZ yZ zZ
    obtain ⟨rfl, NZ, eZ⟩ := hQZ
    have MZ := Fr.app (MD) NZ
    have sg9 : ∀ target, Steps p.tables e below (TZ.setTop (mkF m 351 #[.val (.int p1), .val (.int p2), .val (.int p3), .val (.int p4), .val (.int cc), .val (.int (Int32.ofNat n)), .val (.int (Int32.ofNat k)), .val (.int a0), .val (.int a1), .val (.int a2), .val (.int b0), .val (.int b1), .val (.int b2), .val (.ref tA), .val (.ref tB), .val (.ref a4), .val (.int (3 : Int32)), .val (.int (1 : Int32)), .val (.ref a4), .unset, .unset, .unset] [(.int (1 : Int32))])) target → Steps p.tables e below (TZ.setTop (mkF m 343 #[.val (.int p1), .val (.int p2), .val (.int p3), .val (.int p4), .val (.int cc), .val (.int (Int32.ofNat n)), .val (.int (Int32.ofNat k)), .val (.int a0), .val (.int a1), .val (.int a2), .val (.int b0), .val (.int b1), .val (.int b2), .val (.ref tA), .val (.ref tB), .val (.ref a4), .val (.int (3 : Int32)), .val (.int (1 : Int32)), .val (.ref a4), .unset, .unset, .unset] [(.int (own_eq ([a0, a1, a2].take n) ([a0, a1, a2].take n)))])) target := by
      intro target kt
      show Steps p.tables e below (TZ.setTop (mkF m 343 #[.val (.int p1), .val (.int p2), .val (.int p3), .val (.int p4), .val (.int cc), .val (.int (Int32.ofNat n)), .val (.int (Int32.ofNat k)), .val (.int a0), .val (.int a1), .val (.int a2), .val (.int b0), .val (.int b1), .val (.int b2), .val (.ref tA), .val (.ref tB), .val (.ref a4), .val (.int (3 : Int32)), .val (.int (1 : Int32)), .val (.ref a4), .unset, .unset, .unset] [(.int (own_eq ([a0, a1, a2].take n) ([a0, a1, a2].take n)))])) _
      refine XS.ifNo XZ.here hx rfl (hb hby at_343) rfl (by rw [own_eq_t rfl]; decide) ?_
      show Steps p.tables e below (TZ.setTop (mkF m 346 #[.val (.int p1), .val (.int p2), .val (.int p3), .val (.int p4), .val (.int cc), .val (.int (Int32.ofNat n)), .val (.int (Int32.ofNat k)), .val (.int a0), .val (.int a1), .val (.int a2), .val (.int b0), .val (.int b1), .val (.int b2), .val (.ref tA), .val (.ref tB), .val (.ref a4), .val (.int (3 : Int32)), .val (.int (1 : Int32)), .val (.ref a4), .unset, .unset, .unset] [])) _
      refine XS.iconst XZ.here hx rfl (hb hby at_346) ?_
      show Steps p.tables e below (TZ.setTop (mkF m 347 #[.val (.int p1), .val (.int p2), .val (.int p3), .val (.int p4), .val (.int cc), .val (.int (Int32.ofNat n)), .val (.int (Int32.ofNat k)), .val (.int a0), .val (.int a1), .val (.int a2), .val (.int b0), .val (.int b1), .val (.int b2), .val (.ref tA), .val (.ref tB), .val (.ref a4), .val (.int (3 : Int32)), .val (.int (1 : Int32)), .val (.ref a4), .unset, .unset, .unset] [(.int (1 : Int32))])) _
      refine XS.goto XZ.here hx rfl (pc0 := 347) (pc' := 351) rfl (hb hby at_347) (by decide) (by decide) ?_
      show Steps p.tables e below (TZ.setTop (mkF m 351 #[.val (.int p1), .val (.int p2), .val (.int p3), .val (.int p4), .val (.int cc), .val (.int (Int32.ofNat n)), .val (.int (Int32.ofNat k)), .val (.int a0), .val (.int a1), .val (.int a2), .val (.int b0), .val (.int b1), .val (.int b2), .val (.ref tA), .val (.ref tB), .val (.ref a4), .val (.int (3 : Int32)), .val (.int (1 : Int32)), .val (.ref a4), .unset, .unset, .unset] [(.int (1 : Int32))])) _
      exact kt
    have kz : TB.heap.size ≤ TZ.heap.size := by rw [eZ]; exact EC.1
    obtain ⟨fs, hr, hrun, hended, hW⟩ := XZ.leaveW hSB kz (v := some (.int (1 : Int32))) (fun h => by rw [Bd.returns] at h; cases h)
    refine ⟨_, _, castTop (ef_0 m p1 p2 p3 p4) (stp _ ?_), hrun, hended, _, _, rfl, ⟨rfl, MZ⟩, own_w hW (by decide) (by decide)⟩
    show Steps p.tables e below (s₁.setTop (mkF m 153 #[.val (.int p1), .val (.int p2), .val (.int p3), .val (.int p4), .val (.int cc), .val (.int (Int32.ofNat n)), .val (.int (Int32.ofNat k)), .val (.int a0), .val (.int a1), .val (.int a2), .val (.int b0), .val (.int b1), .val (.int b2), .unset, .unset, .unset, .unset, .unset, .unset, .unset, .unset, .unset] [])) _
    refine sg1 _ ?_
    show Steps p.tables e below (s₁.setTop (mkF m 161 #[.val (.int p1), .val (.int p2), .val (.int p3), .val (.int p4), .val (.int cc), .val (.int (Int32.ofNat n)), .val (.int (Int32.ofNat k)), .val (.int a0), .val (.int a1), .val (.int a2), .val (.int b0), .val (.int b1), .val (.int b2), .unset, .unset, .unset, .unset, .unset, .unset, .unset, .unset, .unset] [(.int a2), (.int a1), (.int a0), (.int (Int32.ofNat n))])) _
    refine stA.trans ?_
    show Steps p.tables e below (TA.setTop (mkF m 164 #[.val (.int p1), .val (.int p2), .val (.int p3), .val (.int p4), .val (.int cc), .val (.int (Int32.ofNat n)), .val (.int (Int32.ofNat k)), .val (.int a0), .val (.int a1), .val (.int a2), .val (.int b0), .val (.int b1), .val (.int b2), .unset, .unset, .unset, .unset, .unset, .unset, .unset, .unset, .unset] [(.ref tA)])) _
    refine sg2 _ ?_
    show Steps p.tables e below (TA.setTop (mkF m 174 #[.val (.int p1), .val (.int p2), .val (.int p3), .val (.int p4), .val (.int cc), .val (.int (Int32.ofNat n)), .val (.int (Int32.ofNat k)), .val (.int a0), .val (.int a1), .val (.int a2), .val (.int b0), .val (.int b1), .val (.int b2), .val (.ref tA), .unset, .unset, .unset, .unset, .unset, .unset, .unset, .unset] [(.int b2), (.int b1), (.int b0), (.int (Int32.ofNat k))])) _
    refine stB.trans ?_
    show Steps p.tables e below (TB.setTop (mkF m 177 #[.val (.int p1), .val (.int p2), .val (.int p3), .val (.int p4), .val (.int cc), .val (.int (Int32.ofNat n)), .val (.int (Int32.ofNat k)), .val (.int a0), .val (.int a1), .val (.int a2), .val (.int b0), .val (.int b1), .val (.int b2), .val (.ref tA), .unset, .unset, .unset, .unset, .unset, .unset, .unset, .unset] [(.ref tB)])) _
    refine sg3 _ ?_
    show Steps p.tables e below (TB.setTop (mkF m 179 #[.val (.int p1), .val (.int p2), .val (.int p3), .val (.int p4), .val (.int cc), .val (.int (Int32.ofNat n)), .val (.int (Int32.ofNat k)), .val (.int a0), .val (.int a1), .val (.int a2), .val (.int b0), .val (.int b1), .val (.int b2), .val (.ref tA), .val (.ref tB), .unset, .unset, .unset, .unset, .unset, .unset, .unset] [])) _
    refine st4 _ ?_
    show Steps p.tables e below (T4.setTop (mkF m 182 #[.val (.int p1), .val (.int p2), .val (.int p3), .val (.int p4), .val (.int cc), .val (.int (Int32.ofNat n)), .val (.int (Int32.ofNat k)), .val (.int a0), .val (.int a1), .val (.int a2), .val (.int b0), .val (.int b1), .val (.int b2), .val (.ref tA), .val (.ref tB), .unset, .unset, .unset, .unset, .unset, .unset, .unset] [(.ref a4)])) _
    refine sg5 _ ?_
    show Steps p.tables e below (T4.setTop (mkF m 185 #[.val (.int p1), .val (.int p2), .val (.int p3), .val (.int p4), .val (.int cc), .val (.int (Int32.ofNat n)), .val (.int (Int32.ofNat k)), .val (.int a0), .val (.int a1), .val (.int a2), .val (.int b0), .val (.int b1), .val (.int b2), .val (.ref tA), .val (.ref tB), .unset, .unset, .unset, .unset, .unset, .unset, .unset] [(.ref tA), (.ref a4), (.ref a4)])) _
    refine stC.trans ?_
    show Steps p.tables e below (TC.setTop (mkF m 188 #[.val (.int p1), .val (.int p2), .val (.int p3), .val (.int p4), .val (.int cc), .val (.int (Int32.ofNat n)), .val (.int (Int32.ofNat k)), .val (.int a0), .val (.int a1), .val (.int a2), .val (.int b0), .val (.int b1), .val (.int b2), .val (.ref tA), .val (.ref tB), .unset, .unset, .unset, .unset, .unset, .unset, .unset] [(.ref a4)])) _
    refine sg6 _ ?_
    show Steps p.tables e below (TC.setTop (mkF m 197 #[.val (.int p1), .val (.int p2), .val (.int p3), .val (.int p4), .val (.int cc), .val (.int (Int32.ofNat n)), .val (.int (Int32.ofNat k)), .val (.int a0), .val (.int a1), .val (.int a2), .val (.int b0), .val (.int b1), .val (.int b2), .val (.ref tA), .val (.ref tB), .val (.ref a4), .val (.int ((((p4).toUInt32 >>> ((1 : Int32) &&& 31).toUInt32).toInt32) &&& (3 : Int32))), .unset, .unset, .unset, .unset, .unset] [])) _
    refine sg7 _ ?_
    show Steps p.tables e below (TC.setTop (mkF m 240 #[.val (.int p1), .val (.int p2), .val (.int p3), .val (.int p4), .val (.int cc), .val (.int (Int32.ofNat n)), .val (.int (Int32.ofNat k)), .val (.int a0), .val (.int a1), .val (.int a2), .val (.int b0), .val (.int b1), .val (.int b2), .val (.ref tA), .val (.ref tB), .val (.ref a4), .val (.int (3 : Int32)), .unset, .val .null, .unset, .unset, .unset] [.null, (.ref a4)])) _
    refine stD.trans ?_
    show Steps p.tables e below (TD.setTop (mkF m 243 #[.val (.int p1), .val (.int p2), .val (.int p3), .val (.int p4), .val (.int cc), .val (.int (Int32.ofNat n)), .val (.int (Int32.ofNat k)), .val (.int a0), .val (.int a1), .val (.int a2), .val (.int b0), .val (.int b1), .val (.int b2), .val (.ref tA), .val (.ref tB), .val (.ref a4), .val (.int (3 : Int32)), .unset, .val .null, .unset, .unset, .unset] [(.int (0 : Int32))])) _
    refine sg8 _ ?_
    show Steps p.tables e below (TD.setTop (mkF m 340 #[.val (.int p1), .val (.int p2), .val (.int p3), .val (.int p4), .val (.int cc), .val (.int (Int32.ofNat n)), .val (.int (Int32.ofNat k)), .val (.int a0), .val (.int a1), .val (.int a2), .val (.int b0), .val (.int b1), .val (.int b2), .val (.ref tA), .val (.ref tB), .val (.ref a4), .val (.int (3 : Int32)), .val (.int (1 : Int32)), .val (.ref a4), .unset, .unset, .unset] [(.ref a4), (.ref a4)])) _
    refine stZ.trans ?_
    show Steps p.tables e below (TZ.setTop (mkF m 343 #[.val (.int p1), .val (.int p2), .val (.int p3), .val (.int p4), .val (.int cc), .val (.int (Int32.ofNat n)), .val (.int (Int32.ofNat k)), .val (.int a0), .val (.int a1), .val (.int a2), .val (.int b0), .val (.int b1), .val (.int b2), .val (.ref tA), .val (.ref tB), .val (.ref a4), .val (.int (3 : Int32)), .val (.int (1 : Int32)), .val (.ref a4), .unset, .unset, .unset] [(.int (own_eq ([a0, a1, a2].take n) ([a0, a1, a2].take n)))])) _
    refine sg9 _ ?_
    show Steps p.tables e below (TZ.setTop (mkF m 351 #[.val (.int p1), .val (.int p2), .val (.int p3), .val (.int p4), .val (.int cc), .val (.int (Int32.ofNat n)), .val (.int (Int32.ofNat k)), .val (.int a0), .val (.int a1), .val (.int a2), .val (.int b0), .val (.int b1), .val (.int b2), .val (.ref tA), .val (.ref tB), .val (.ref a4), .val (.int (3 : Int32)), .val (.int (1 : Int32)), .val (.ref a4), .unset, .unset, .unset] [(.int (1 : Int32))])) _
    exact retN XZ hx (t := .boolean) Bd.returns (by simp) (hb hby at_351) hr
  have sg7 : ∀ target, Steps p.tables e below (TC.setTop (mkF m 256 #[.val (.int p1), .val (.int p2), .val (.int p3), .val (.int p4), .val (.int cc), .val (.int (Int32.ofNat n)), .val (.int (Int32.ofNat k)), .val (.int a0), .val (.int a1), .val (.int a2), .val (.int b0), .val (.int b1), .val (.int b2), .val (.ref tA), .val (.ref tB), .val (.ref a4), .val (.int kd), .unset, .unset, .unset, .unset, .unset] [])) target → Steps p.tables e below (TC.setTop (mkF m 197 #[.val (.int p1), .val (.int p2), .val (.int p3), .val (.int p4), .val (.int cc), .val (.int (Int32.ofNat n)), .val (.int (Int32.ofNat k)), .val (.int a0), .val (.int a1), .val (.int a2), .val (.int b0), .val (.int b1), .val (.int b2), .val (.ref tA), .val (.ref tB), .val (.ref a4), .val (.int ((((p4).toUInt32 >>> ((1 : Int32) &&& 31).toUInt32).toInt32) &&& (3 : Int32))), .unset, .unset, .unset, .unset, .unset] [])) target := by
    intro target kt
    show Steps p.tables e below (TC.setTop (mkF m 197 #[.val (.int p1), .val (.int p2), .val (.int p3), .val (.int p4), .val (.int cc), .val (.int (Int32.ofNat n)), .val (.int (Int32.ofNat k)), .val (.int a0), .val (.int a1), .val (.int a2), .val (.int b0), .val (.int b1), .val (.int b2), .val (.ref tA), .val (.ref tB), .val (.ref a4), .val (.int ((((p4).toUInt32 >>> ((1 : Int32) &&& 31).toUInt32).toInt32) &&& (3 : Int32))), .unset, .unset, .unset, .unset, .unset] [])) _
    rw [← hkd]
    show Steps p.tables e below (TC.setTop (mkF m 197 #[.val (.int p1), .val (.int p2), .val (.int p3), .val (.int p4), .val (.int cc), .val (.int (Int32.ofNat n)), .val (.int (Int32.ofNat k)), .val (.int a0), .val (.int a1), .val (.int a2), .val (.int b0), .val (.int b1), .val (.int b2), .val (.ref tA), .val (.ref tB), .val (.ref a4), .val (.int kd), .unset, .unset, .unset, .unset, .unset] [])) _
    refine XS.iload XC.here hx rfl (hb hby at_197) rfl ?_
    show Steps p.tables e below (TC.setTop (mkF m 199 #[.val (.int p1), .val (.int p2), .val (.int p3), .val (.int p4), .val (.int cc), .val (.int (Int32.ofNat n)), .val (.int (Int32.ofNat k)), .val (.int a0), .val (.int a1), .val (.int a2), .val (.int b0), .val (.int b1), .val (.int b2), .val (.ref tA), .val (.ref tB), .val (.ref a4), .val (.int kd), .unset, .unset, .unset, .unset, .unset] [(.int kd)])) _
    refine XS.iconst XC.here hx rfl (hb hby at_199) ?_
    show Steps p.tables e below (TC.setTop (mkF m 200 #[.val (.int p1), .val (.int p2), .val (.int p3), .val (.int p4), .val (.int cc), .val (.int (Int32.ofNat n)), .val (.int (Int32.ofNat k)), .val (.int a0), .val (.int a1), .val (.int a2), .val (.int b0), .val (.int b1), .val (.int b2), .val (.ref tA), .val (.ref tB), .val (.ref a4), .val (.int kd), .unset, .unset, .unset, .unset, .unset] [(.int (2 : Int32)), (.int kd)])) _
    refine XS.icmpYes XC.here hx rfl (pc0 := 200) (pc' := 227) rfl (hb hby at_200) rfl (feq hk2).2 (by decide) (by decide) ?_
    show Steps p.tables e below (TC.setTop (mkF m 227 #[.val (.int p1), .val (.int p2), .val (.int p3), .val (.int p4), .val (.int cc), .val (.int (Int32.ofNat n)), .val (.int (Int32.ofNat k)), .val (.int a0), .val (.int a1), .val (.int a2), .val (.int b0), .val (.int b1), .val (.int b2), .val (.ref tA), .val (.ref tB), .val (.ref a4), .val (.int kd), .unset, .unset, .unset, .unset, .unset] [])) _
    refine XS.iload XC.here hx rfl (hb hby at_227) rfl ?_
    show Steps p.tables e below (TC.setTop (mkF m 229 #[.val (.int p1), .val (.int p2), .val (.int p3), .val (.int p4), .val (.int cc), .val (.int (Int32.ofNat n)), .val (.int (Int32.ofNat k)), .val (.int a0), .val (.int a1), .val (.int a2), .val (.int b0), .val (.int b1), .val (.int b2), .val (.ref tA), .val (.ref tB), .val (.ref a4), .val (.int kd), .unset, .unset, .unset, .unset, .unset] [(.int kd)])) _
    refine XS.iconst XC.here hx rfl (hb hby at_229) ?_
    show Steps p.tables e below (TC.setTop (mkF m 230 #[.val (.int p1), .val (.int p2), .val (.int p3), .val (.int p4), .val (.int cc), .val (.int (Int32.ofNat n)), .val (.int (Int32.ofNat k)), .val (.int a0), .val (.int a1), .val (.int a2), .val (.int b0), .val (.int b1), .val (.int b2), .val (.ref tA), .val (.ref tB), .val (.ref a4), .val (.int kd), .unset, .unset, .unset, .unset, .unset] [(.int (3 : Int32)), (.int kd)])) _
    refine XS.icmpYes XC.here hx rfl (pc0 := 230) (pc' := 256) rfl (hb hby at_230) rfl (feq hk3).2 (by decide) (by decide) ?_
    show Steps p.tables e below (TC.setTop (mkF m 256 #[.val (.int p1), .val (.int p2), .val (.int p3), .val (.int p4), .val (.int cc), .val (.int (Int32.ofNat n)), .val (.int (Int32.ofNat k)), .val (.int a0), .val (.int a1), .val (.int a2), .val (.int b0), .val (.int b1), .val (.int b2), .val (.ref tA), .val (.ref tB), .val (.ref a4), .val (.int kd), .unset, .unset, .unset, .unset, .unset] [])) _
    exact kt
  obtain ⟨T8, h8, X8, e8, E8, A8, D8, -, st8⟩ := newO XC hx hZB hownB (hw _ (List.mem_of_getElem? (i := 35) rfl)) (hw _ (List.mem_of_getElem? (i := 36) rfl)) (hw _ (List.mem_of_getElem? (i := 37) rfl)) rfl (g := (mkF m 256 #[.val (.int p1), .val (.int p2), .val (.int p3), .val (.int p4), .val (.int cc), .val (.int (Int32.ofNat n)), .val (.int (Int32.ofNat k)), .val (.int a0), .val (.int a1), .val (.int a2), .val (.int b0), .val (.int b1), .val (.int b2), .val (.ref tA), .val (.ref tB), .val (.ref a4), .val (.int kd), .unset, .unset, .unset, .unset, .unset] [])) rfl (hb hby at_256) (by decide) (by decide)
  obtain ⟨a8, g8⟩ : ∃ z, z = TC.heap.size := ⟨_, rfl⟩
  rw [← g8] at A8 D8 st8
  have sg9 : ∀ target, Steps p.tables e below (T8.setTop (mkF m 262 #[.val (.int p1), .val (.int p2), .val (.int p3), .val (.int p4), .val (.int cc), .val (.int (Int32.ofNat n)), .val (.int (Int32.ofNat k)), .val (.int a0), .val (.int a1), .val (.int a2), .val (.int b0), .val (.int b1), .val (.int b2), .val (.ref tA), .val (.ref tB), .val (.ref a4), .val (.int kd), .unset, .unset, .unset, .unset, .unset] [(.ref tB), (.ref a8), (.ref a8)])) target → Steps p.tables e below (T8.setTop (mkF m 259 #[.val (.int p1), .val (.int p2), .val (.int p3), .val (.int p4), .val (.int cc), .val (.int (Int32.ofNat n)), .val (.int (Int32.ofNat k)), .val (.int a0), .val (.int a1), .val (.int a2), .val (.int b0), .val (.int b1), .val (.int b2), .val (.ref tA), .val (.ref tB), .val (.ref a4), .val (.int kd), .unset, .unset, .unset, .unset, .unset] [(.ref a8)])) target := by
    intro target kt
    show Steps p.tables e below (T8.setTop (mkF m 259 #[.val (.int p1), .val (.int p2), .val (.int p3), .val (.int p4), .val (.int cc), .val (.int (Int32.ofNat n)), .val (.int (Int32.ofNat k)), .val (.int a0), .val (.int a1), .val (.int a2), .val (.int b0), .val (.int b1), .val (.int b2), .val (.ref tA), .val (.ref tB), .val (.ref a4), .val (.int kd), .unset, .unset, .unset, .unset, .unset] [(.ref a8)])) _
    refine XS.dup X8.here hx rfl (hb hby at_259) rfl rfl ?_
    show Steps p.tables e below (T8.setTop (mkF m 260 #[.val (.int p1), .val (.int p2), .val (.int p3), .val (.int p4), .val (.int cc), .val (.int (Int32.ofNat n)), .val (.int (Int32.ofNat k)), .val (.int a0), .val (.int a1), .val (.int a2), .val (.int b0), .val (.int b1), .val (.int b2), .val (.ref tA), .val (.ref tB), .val (.ref a4), .val (.int kd), .unset, .unset, .unset, .unset, .unset] [(.ref a8), (.ref a8)])) _
    refine XS.aload X8.here hx rfl (hb hby at_260) rfl rfl ?_
    show Steps p.tables e below (T8.setTop (mkF m 262 #[.val (.int p1), .val (.int p2), .val (.int p3), .val (.int p4), .val (.int cc), .val (.int (Int32.ofNat n)), .val (.int (Int32.ofNat k)), .val (.int a0), .val (.int a1), .val (.int a2), .val (.int b0), .val (.int b1), .val (.int b2), .val (.ref tA), .val (.ref tB), .val (.ref a4), .val (.int kd), .unset, .unset, .unset, .unset, .unset] [(.ref tB), (.ref a8), (.ref a8)])) _
    exact kt
  obtain ⟨_, _, ⟨TD, LD, kD, nD⟩, -, XD, ⟨LcD, hQD, lD, yD, zD⟩, stD⟩ := X8.specialBack hx (y := (⟨"com/example/bare_migrate/baremigrate/Migration$Script", "<init>", "(Ljava/lang/String;)V"⟩ : MethodName)) rfl hownB (mvT hZB (hw _ (List.mem_of_getElem? (i := 38) rfl))) (mvT hZB (hw _ (List.mem_of_getElem? (i := 39) rfl))) (mvT hZB (hw _ (List.mem_of_getElem? (i := 40) rfl))) (by decide) (backOf (W := 1) (rmI l Z a0' hw a8 tB h8 n0 (by rw [g8]; exact (Nat.le_trans Z0 eAC.1)) A8 (D8 (Or.inr (hw _ (List.mem_of_getElem? (i := 43) rfl))) (ty := .object "java/lang/String") (by decide))) hZB (hw _ (List.mem_of_getElem? (i := 40) rfl)) (hw _ (List.mem_of_getElem? (i := 37) rfl)) (by decide) (by decide)) (g := (mkF m 262 #[.val (.int p1), .val (.int p2), .val (.int p3), .val (.int p4), .val (.int cc), .val (.int (Int32.ofNat n)), .val (.int (Int32.ofNat k)), .val (.int a0), .val (.int a1), .val (.int a2), .val (.int b0), .val (.int b1), .val (.int b2), .val (.ref tA), .val (.ref tB), .val (.ref a4), .val (.int kd), .unset, .unset, .unset, .unset, .unset] [(.ref tB), (.ref a8), (.ref a8)])) rfl (by rw [hml]; rfl) (Steps.refl _) (a := a8) (argsL := [(.ref tB)]) (rest := [(.ref a8)]) (lenOf pdI rfl) rfl (by show 2 * 0 + _ ≤ _; exact Nat.le_of_eq rfl) (hb hby at_262) (fun _ _ => ⟨rfl, e8, Nat.le_of_ble_eq_true rfl, Nat.le_of_ble_eq_true rfl⟩)
  dsimp only [Pt.U, Pt.locs, Pt.cells, Pt.slots] at XD lD yD zD stD hQD
  subst lD yD zD
  obtain ⟨rfl, ND, KD, EsD, FsD⟩ := hQD
  have ED := own_ext_keep E8 KD (allS (by rw [g8]; exact Nat.le_refl _) all0)
  have MD := Fr.app (MC) ND
  have EsC2 := EsC.ext ED
  have FsC2 := FsC.ext ED
  have SA3 := SA2.ext ED
  have SB3 := SB2.ext ED
  have OD := OC.ext ED
  have sg10 : ∀ target, Steps p.tables e below (TD.setTop (mkF m 283 #[.val (.int p1), .val (.int p2), .val (.int p3), .val (.int p4), .val (.int cc), .val (.int (Int32.ofNat n)), .val (.int (Int32.ofNat k)), .val (.int a0), .val (.int a1), .val (.int a2), .val (.int b0), .val (.int b1), .val (.int b2), .val (.ref tA), .val (.ref tB), .val (.ref a4), .val (.int kd), .unset, .val (.ref a8), .unset, .unset, .unset] [(.int b2), (.int b1), (.int b0), (.int (Int32.ofNat k)), (.int a2), (.int a1), (.int a0), (.int (Int32.ofNat n))])) target → Steps p.tables e below (TD.setTop (mkF m 265 #[.val (.int p1), .val (.int p2), .val (.int p3), .val (.int p4), .val (.int cc), .val (.int (Int32.ofNat n)), .val (.int (Int32.ofNat k)), .val (.int a0), .val (.int a1), .val (.int a2), .val (.int b0), .val (.int b1), .val (.int b2), .val (.ref tA), .val (.ref tB), .val (.ref a4), .val (.int kd), .unset, .unset, .unset, .unset, .unset] [(.ref a8)])) target := by
    intro target kt
    show Steps p.tables e below (TD.setTop (mkF m 265 #[.val (.int p1), .val (.int p2), .val (.int p3), .val (.int p4), .val (.int cc), .val (.int (Int32.ofNat n)), .val (.int (Int32.ofNat k)), .val (.int a0), .val (.int a1), .val (.int a2), .val (.int b0), .val (.int b1), .val (.int b2), .val (.ref tA), .val (.ref tB), .val (.ref a4), .val (.int kd), .unset, .unset, .unset, .unset, .unset] [(.ref a8)])) _
    refine XS.astore XD.here hx rfl (hb hby at_265) rfl rfl (l' := #[.val (.int p1), .val (.int p2), .val (.int p3), .val (.int p4), .val (.int cc), .val (.int (Int32.ofNat n)), .val (.int (Int32.ofNat k)), .val (.int a0), .val (.int a1), .val (.int a2), .val (.int b0), .val (.int b1), .val (.int b2), .val (.ref tA), .val (.ref tB), .val (.ref a4), .val (.int kd), .unset, .val (.ref a8), .unset, .unset, .unset]) rfl ?_
    show Steps p.tables e below (TD.setTop (mkF m 267 #[.val (.int p1), .val (.int p2), .val (.int p3), .val (.int p4), .val (.int cc), .val (.int (Int32.ofNat n)), .val (.int (Int32.ofNat k)), .val (.int a0), .val (.int a1), .val (.int a2), .val (.int b0), .val (.int b1), .val (.int b2), .val (.ref tA), .val (.ref tB), .val (.ref a4), .val (.int kd), .unset, .val (.ref a8), .unset, .unset, .unset] [])) _
    refine XS.iload XD.here hx rfl (hb hby at_267) rfl ?_
    show Steps p.tables e below (TD.setTop (mkF m 269 #[.val (.int p1), .val (.int p2), .val (.int p3), .val (.int p4), .val (.int cc), .val (.int (Int32.ofNat n)), .val (.int (Int32.ofNat k)), .val (.int a0), .val (.int a1), .val (.int a2), .val (.int b0), .val (.int b1), .val (.int b2), .val (.ref tA), .val (.ref tB), .val (.ref a4), .val (.int kd), .unset, .val (.ref a8), .unset, .unset, .unset] [(.int (Int32.ofNat n))])) _
    refine XS.iload XD.here hx rfl (hb hby at_269) rfl ?_
    show Steps p.tables e below (TD.setTop (mkF m 271 #[.val (.int p1), .val (.int p2), .val (.int p3), .val (.int p4), .val (.int cc), .val (.int (Int32.ofNat n)), .val (.int (Int32.ofNat k)), .val (.int a0), .val (.int a1), .val (.int a2), .val (.int b0), .val (.int b1), .val (.int b2), .val (.ref tA), .val (.ref tB), .val (.ref a4), .val (.int kd), .unset, .val (.ref a8), .unset, .unset, .unset] [(.int a0), (.int (Int32.ofNat n))])) _
    refine XS.iload XD.here hx rfl (hb hby at_271) rfl ?_
    show Steps p.tables e below (TD.setTop (mkF m 273 #[.val (.int p1), .val (.int p2), .val (.int p3), .val (.int p4), .val (.int cc), .val (.int (Int32.ofNat n)), .val (.int (Int32.ofNat k)), .val (.int a0), .val (.int a1), .val (.int a2), .val (.int b0), .val (.int b1), .val (.int b2), .val (.ref tA), .val (.ref tB), .val (.ref a4), .val (.int kd), .unset, .val (.ref a8), .unset, .unset, .unset] [(.int a1), (.int a0), (.int (Int32.ofNat n))])) _
    refine XS.iload XD.here hx rfl (hb hby at_273) rfl ?_
    show Steps p.tables e below (TD.setTop (mkF m 275 #[.val (.int p1), .val (.int p2), .val (.int p3), .val (.int p4), .val (.int cc), .val (.int (Int32.ofNat n)), .val (.int (Int32.ofNat k)), .val (.int a0), .val (.int a1), .val (.int a2), .val (.int b0), .val (.int b1), .val (.int b2), .val (.ref tA), .val (.ref tB), .val (.ref a4), .val (.int kd), .unset, .val (.ref a8), .unset, .unset, .unset] [(.int a2), (.int a1), (.int a0), (.int (Int32.ofNat n))])) _
    refine XS.iload XD.here hx rfl (hb hby at_275) rfl ?_
    show Steps p.tables e below (TD.setTop (mkF m 277 #[.val (.int p1), .val (.int p2), .val (.int p3), .val (.int p4), .val (.int cc), .val (.int (Int32.ofNat n)), .val (.int (Int32.ofNat k)), .val (.int a0), .val (.int a1), .val (.int a2), .val (.int b0), .val (.int b1), .val (.int b2), .val (.ref tA), .val (.ref tB), .val (.ref a4), .val (.int kd), .unset, .val (.ref a8), .unset, .unset, .unset] [(.int (Int32.ofNat k)), (.int a2), (.int a1), (.int a0), (.int (Int32.ofNat n))])) _
    refine XS.iload XD.here hx rfl (hb hby at_277) rfl ?_
    show Steps p.tables e below (TD.setTop (mkF m 279 #[.val (.int p1), .val (.int p2), .val (.int p3), .val (.int p4), .val (.int cc), .val (.int (Int32.ofNat n)), .val (.int (Int32.ofNat k)), .val (.int a0), .val (.int a1), .val (.int a2), .val (.int b0), .val (.int b1), .val (.int b2), .val (.ref tA), .val (.ref tB), .val (.ref a4), .val (.int kd), .unset, .val (.ref a8), .unset, .unset, .unset] [(.int b0), (.int (Int32.ofNat k)), (.int a2), (.int a1), (.int a0), (.int (Int32.ofNat n))])) _
    refine XS.iload XD.here hx rfl (hb hby at_279) rfl ?_
    show Steps p.tables e below (TD.setTop (mkF m 281 #[.val (.int p1), .val (.int p2), .val (.int p3), .val (.int p4), .val (.int cc), .val (.int (Int32.ofNat n)), .val (.int (Int32.ofNat k)), .val (.int a0), .val (.int a1), .val (.int a2), .val (.int b0), .val (.int b1), .val (.int b2), .val (.ref tA), .val (.ref tB), .val (.ref a4), .val (.int kd), .unset, .val (.ref a8), .unset, .unset, .unset] [(.int b1), (.int b0), (.int (Int32.ofNat k)), (.int a2), (.int a1), (.int a0), (.int (Int32.ofNat n))])) _
    refine XS.iload XD.here hx rfl (hb hby at_281) rfl ?_
    show Steps p.tables e below (TD.setTop (mkF m 283 #[.val (.int p1), .val (.int p2), .val (.int p3), .val (.int p4), .val (.int cc), .val (.int (Int32.ofNat n)), .val (.int (Int32.ofNat k)), .val (.int a0), .val (.int a1), .val (.int a2), .val (.int b0), .val (.int b1), .val (.int b2), .val (.ref tA), .val (.ref tB), .val (.ref a4), .val (.int kd), .unset, .val (.ref a8), .unset, .unset, .unset] [(.int b2), (.int b1), (.int b0), (.int (Int32.ofNat k)), (.int a2), (.int a1), (.int a0), (.int (Int32.ofNat n))])) _
    exact kt
  obtain ⟨_, _, ⟨TE, LE, kE, nE⟩, -, XE, ⟨LcE, hQE, lE, yE, zE⟩, stE⟩ := Jvm.LawKit.callS XD hx (y := (⟨"com/example/bare_migrate/baremigrate/ScriptEqualsPinLaw", "same", "(ICCCICCC)Z"⟩ : MethodName)) hownB (mvT hZB (hw _ (List.mem_of_getElem? (i := 44) rfl))) (mvT hZB (hw _ (List.mem_of_getElem? (i := 45) rfl))) (mvT hZB (hw _ (List.mem_of_getElem? (i := 3) rfl))) (mvT hZB (hw _ (List.mem_of_getElem? (i := 46) rfl))) (by decide) (backOf (W := 0) (rmS l Z n k hn hk a0 a1 a2 b0 b1 b2 TD.heap n0) hZB (hw _ (List.mem_of_getElem? (i := 46) rfl)) (hw _ (List.mem_of_getElem? (i := 3) rfl)) (by decide) (by decide)) (g := (mkF m 283 #[.val (.int p1), .val (.int p2), .val (.int p3), .val (.int p4), .val (.int cc), .val (.int (Int32.ofNat n)), .val (.int (Int32.ofNat k)), .val (.int a0), .val (.int a1), .val (.int a2), .val (.int b0), .val (.int b1), .val (.int b2), .val (.ref tA), .val (.ref tB), .val (.ref a4), .val (.int kd), .unset, .val (.ref a8), .unset, .unset, .unset] [(.int b2), (.int b1), (.int b0), (.int (Int32.ofNat k)), (.int a2), (.int a1), (.int a0), (.int (Int32.ofNat n))])) rfl (by rw [hml]; rfl) (argsL := [(.int (Int32.ofNat n)), (.int a0), (.int a1), (.int a2), (.int (Int32.ofNat k)), (.int b0), (.int b1), (.int b2)]) (rest := []) (lenOf pdS rfl) rfl (by show 2 * 0 + _ ≤ _; exact Nat.le_of_eq rfl) (hb hby at_283) (fun _ _ => ⟨rfl, rfl, Nat.le_of_ble_eq_true rfl, Nat.le_of_ble_eq_true rfl⟩)
  dsimp only [Pt.U, Pt.locs, Pt.cells, Pt.slots] at XE lE yE zE stE hQE
  subst lE yE zE
  obtain ⟨rfl, NE, eE⟩ := hQE
  have ME := Fr.app (MD) NE
  have sg11 : ∀ target, Steps p.tables e below (TE.setTop (mkF m 300 #[.val (.int p1), .val (.int p2), .val (.int p3), .val (.int p4), .val (.int cc), .val (.int (Int32.ofNat n)), .val (.int (Int32.ofNat k)), .val (.int a0), .val (.int a1), .val (.int a2), .val (.int b0), .val (.int b1), .val (.int b2), .val (.ref tA), .val (.ref tB), .val (.ref a4), .val (.int kd), .unset, .val (.ref a8), .val (.int (own_eq ([a0, a1, a2].take n) ([b0, b1, b2].take k))), .val (.ref a8), .val (.ref a4)] [(.ref a8), (.ref a4)])) target → Steps p.tables e below (TE.setTop (mkF m 286 #[.val (.int p1), .val (.int p2), .val (.int p3), .val (.int p4), .val (.int cc), .val (.int (Int32.ofNat n)), .val (.int (Int32.ofNat k)), .val (.int a0), .val (.int a1), .val (.int a2), .val (.int b0), .val (.int b1), .val (.int b2), .val (.ref tA), .val (.ref tB), .val (.ref a4), .val (.int kd), .unset, .val (.ref a8), .unset, .unset, .unset] [(.int (own_eq ([a0, a1, a2].take n) ([b0, b1, b2].take k)))])) target := by
    intro target kt
    show Steps p.tables e below (TE.setTop (mkF m 286 #[.val (.int p1), .val (.int p2), .val (.int p3), .val (.int p4), .val (.int cc), .val (.int (Int32.ofNat n)), .val (.int (Int32.ofNat k)), .val (.int a0), .val (.int a1), .val (.int a2), .val (.int b0), .val (.int b1), .val (.int b2), .val (.ref tA), .val (.ref tB), .val (.ref a4), .val (.int kd), .unset, .val (.ref a8), .unset, .unset, .unset] [(.int (own_eq ([a0, a1, a2].take n) ([b0, b1, b2].take k)))])) _
    refine XS.istore XE.here hx rfl (hb hby at_286) rfl (l' := #[.val (.int p1), .val (.int p2), .val (.int p3), .val (.int p4), .val (.int cc), .val (.int (Int32.ofNat n)), .val (.int (Int32.ofNat k)), .val (.int a0), .val (.int a1), .val (.int a2), .val (.int b0), .val (.int b1), .val (.int b2), .val (.ref tA), .val (.ref tB), .val (.ref a4), .val (.int kd), .unset, .val (.ref a8), .val (.int (own_eq ([a0, a1, a2].take n) ([b0, b1, b2].take k))), .unset, .unset]) rfl ?_
    show Steps p.tables e below (TE.setTop (mkF m 288 #[.val (.int p1), .val (.int p2), .val (.int p3), .val (.int p4), .val (.int cc), .val (.int (Int32.ofNat n)), .val (.int (Int32.ofNat k)), .val (.int a0), .val (.int a1), .val (.int a2), .val (.int b0), .val (.int b1), .val (.int b2), .val (.ref tA), .val (.ref tB), .val (.ref a4), .val (.int kd), .unset, .val (.ref a8), .val (.int (own_eq ([a0, a1, a2].take n) ([b0, b1, b2].take k))), .unset, .unset] [])) _
    refine XS.aload XE.here hx rfl (hb hby at_288) rfl rfl ?_
    show Steps p.tables e below (TE.setTop (mkF m 290 #[.val (.int p1), .val (.int p2), .val (.int p3), .val (.int p4), .val (.int cc), .val (.int (Int32.ofNat n)), .val (.int (Int32.ofNat k)), .val (.int a0), .val (.int a1), .val (.int a2), .val (.int b0), .val (.int b1), .val (.int b2), .val (.ref tA), .val (.ref tB), .val (.ref a4), .val (.int kd), .unset, .val (.ref a8), .val (.int (own_eq ([a0, a1, a2].take n) ([b0, b1, b2].take k))), .unset, .unset] [(.ref a8)])) _
    refine XS.astore XE.here hx rfl (hb hby at_290) rfl rfl (l' := #[.val (.int p1), .val (.int p2), .val (.int p3), .val (.int p4), .val (.int cc), .val (.int (Int32.ofNat n)), .val (.int (Int32.ofNat k)), .val (.int a0), .val (.int a1), .val (.int a2), .val (.int b0), .val (.int b1), .val (.int b2), .val (.ref tA), .val (.ref tB), .val (.ref a4), .val (.int kd), .unset, .val (.ref a8), .val (.int (own_eq ([a0, a1, a2].take n) ([b0, b1, b2].take k))), .val (.ref a8), .unset]) rfl ?_
    show Steps p.tables e below (TE.setTop (mkF m 292 #[.val (.int p1), .val (.int p2), .val (.int p3), .val (.int p4), .val (.int cc), .val (.int (Int32.ofNat n)), .val (.int (Int32.ofNat k)), .val (.int a0), .val (.int a1), .val (.int a2), .val (.int b0), .val (.int b1), .val (.int b2), .val (.ref tA), .val (.ref tB), .val (.ref a4), .val (.int kd), .unset, .val (.ref a8), .val (.int (own_eq ([a0, a1, a2].take n) ([b0, b1, b2].take k))), .val (.ref a8), .unset] [])) _
    refine XS.aload XE.here hx rfl (hb hby at_292) rfl rfl ?_
    show Steps p.tables e below (TE.setTop (mkF m 294 #[.val (.int p1), .val (.int p2), .val (.int p3), .val (.int p4), .val (.int cc), .val (.int (Int32.ofNat n)), .val (.int (Int32.ofNat k)), .val (.int a0), .val (.int a1), .val (.int a2), .val (.int b0), .val (.int b1), .val (.int b2), .val (.ref tA), .val (.ref tB), .val (.ref a4), .val (.int kd), .unset, .val (.ref a8), .val (.int (own_eq ([a0, a1, a2].take n) ([b0, b1, b2].take k))), .val (.ref a8), .unset] [(.ref a4)])) _
    refine XS.astore XE.here hx rfl (hb hby at_294) rfl rfl (l' := #[.val (.int p1), .val (.int p2), .val (.int p3), .val (.int p4), .val (.int cc), .val (.int (Int32.ofNat n)), .val (.int (Int32.ofNat k)), .val (.int a0), .val (.int a1), .val (.int a2), .val (.int b0), .val (.int b1), .val (.int b2), .val (.ref tA), .val (.ref tB), .val (.ref a4), .val (.int kd), .unset, .val (.ref a8), .val (.int (own_eq ([a0, a1, a2].take n) ([b0, b1, b2].take k))), .val (.ref a8), .val (.ref a4)]) rfl ?_
    show Steps p.tables e below (TE.setTop (mkF m 296 #[.val (.int p1), .val (.int p2), .val (.int p3), .val (.int p4), .val (.int cc), .val (.int (Int32.ofNat n)), .val (.int (Int32.ofNat k)), .val (.int a0), .val (.int a1), .val (.int a2), .val (.int b0), .val (.int b1), .val (.int b2), .val (.ref tA), .val (.ref tB), .val (.ref a4), .val (.int kd), .unset, .val (.ref a8), .val (.int (own_eq ([a0, a1, a2].take n) ([b0, b1, b2].take k))), .val (.ref a8), .val (.ref a4)] [])) _
    refine XS.aload XE.here hx rfl (hb hby at_296) rfl rfl ?_
    show Steps p.tables e below (TE.setTop (mkF m 298 #[.val (.int p1), .val (.int p2), .val (.int p3), .val (.int p4), .val (.int cc), .val (.int (Int32.ofNat n)), .val (.int (Int32.ofNat k)), .val (.int a0), .val (.int a1), .val (.int a2), .val (.int b0), .val (.int b1), .val (.int b2), .val (.ref tA), .val (.ref tB), .val (.ref a4), .val (.int kd), .unset, .val (.ref a8), .val (.int (own_eq ([a0, a1, a2].take n) ([b0, b1, b2].take k))), .val (.ref a8), .val (.ref a4)] [(.ref a4)])) _
    refine XS.aload XE.here hx rfl (hb hby at_298) rfl rfl ?_
    show Steps p.tables e below (TE.setTop (mkF m 300 #[.val (.int p1), .val (.int p2), .val (.int p3), .val (.int p4), .val (.int cc), .val (.int (Int32.ofNat n)), .val (.int (Int32.ofNat k)), .val (.int a0), .val (.int a1), .val (.int a2), .val (.int b0), .val (.int b1), .val (.int b2), .val (.ref tA), .val (.ref tB), .val (.ref a4), .val (.int kd), .unset, .val (.ref a8), .val (.int (own_eq ([a0, a1, a2].take n) ([b0, b1, b2].take k))), .val (.ref a8), .val (.ref a4)] [(.ref a8), (.ref a4)])) _
    exact kt
  obtain ⟨cqF, kqF, qaF, qbF, qcF⟩ := isOf hZB eE EsC2
  obtain ⟨_, _, ⟨TF, LF, kF, nF⟩, -, XF, ⟨LcF, hQF, lF, yF, zF⟩, stF⟩ := XE.virtualBack hx (y := (⟨"com/example/bare_migrate/baremigrate/Migration$Script", "equals", "(Ljava/lang/Object;)Z"⟩ : MethodName)) (z := (⟨"com/example/bare_migrate/baremigrate/Migration$Script", "equals", "(Ljava/lang/Object;)Z"⟩ : MethodName)) hownB (mvT hZB (hw _ (List.mem_of_getElem? (i := 47) rfl))) (mvT hZB (hw _ (List.mem_of_getElem? (i := 48) rfl))) (notFace_of_selects (args := #[]) (mvT hZB (hw _ (List.mem_of_getElem? (i := 50) rfl)))) (mvT hZB (hw _ (List.mem_of_getElem? (i := 50) rfl))) (mvT hZB (hw _ (List.mem_of_getElem? (i := 49) rfl))) (by decide) (backOf (W := 0) (rmQ l Z a0' hw a4 TD.heap n0 a8 tA tB ([a0, a1, a2].take n) ([b0, b1, b2].take k) (own_take lA n) (own_take lB k) (by rw [own_tk _ _ _ hn]; omega) (by rw [own_tk _ _ _ hk]; omega) G OD hG EsC2 FsC2 EsD FsD SA3 SB3) hZB (hw _ (List.mem_of_getElem? (i := 51) rfl)) (hw _ (List.mem_of_getElem? (i := 37) rfl)) (by decide) (by decide)) qaF qcF (g := (mkF m 300 #[.val (.int p1), .val (.int p2), .val (.int p3), .val (.int p4), .val (.int cc), .val (.int (Int32.ofNat n)), .val (.int (Int32.ofNat k)), .val (.int a0), .val (.int a1), .val (.int a2), .val (.int b0), .val (.int b1), .val (.int b2), .val (.ref tA), .val (.ref tB), .val (.ref a4), .val (.int kd), .unset, .val (.ref a8), .val (.int (own_eq ([a0, a1, a2].take n) ([b0, b1, b2].take k))), .val (.ref a8), .val (.ref a4)] [(.ref a8), (.ref a4)])) rfl (by rw [hml]; rfl) (Steps.refl _) (argsL := [(.ref a8)]) (rest := []) (lenOf pdQ rfl) rfl (by show 2 * 0 + _ ≤ _; exact Nat.le_of_eq rfl) (hb hby at_300) (fun _ _ => ⟨rfl, eE, Nat.le_of_ble_eq_true rfl, Nat.le_of_ble_eq_true rfl⟩)
  dsimp only [Pt.U, Pt.locs, Pt.cells, Pt.slots] at XF lF yF zF stF hQF
  subst lF yF zF
  obtain ⟨rfl, NF, eF⟩ := hQF
  have MF := Fr.app (ME) NF
  have sg12 : ∀ target, Steps p.tables e below (TF.setTop (mkF m 312 #[.val (.int p1), .val (.int p2), .val (.int p3), .val (.int p4), .val (.int cc), .val (.int (Int32.ofNat n)), .val (.int (Int32.ofNat k)), .val (.int a0), .val (.int a1), .val (.int a2), .val (.int b0), .val (.int b1), .val (.int b2), .val (.ref tA), .val (.ref tB), .val (.ref a4), .val (.int kd), .unset, .val (.ref a8), .val (.int (own_eq ([a0, a1, a2].take n) ([b0, b1, b2].take k))), .val (.ref a8), .val (.ref a4)] [(.ref a4), (.ref a8)])) target → Steps p.tables e below (TF.setTop (mkF m 303 #[.val (.int p1), .val (.int p2), .val (.int p3), .val (.int p4), .val (.int cc), .val (.int (Int32.ofNat n)), .val (.int (Int32.ofNat k)), .val (.int a0), .val (.int a1), .val (.int a2), .val (.int b0), .val (.int b1), .val (.int b2), .val (.ref tA), .val (.ref tB), .val (.ref a4), .val (.int kd), .unset, .val (.ref a8), .val (.int (own_eq ([a0, a1, a2].take n) ([b0, b1, b2].take k))), .val (.ref a8), .val (.ref a4)] [(.int (own_eq ([a0, a1, a2].take n) ([b0, b1, b2].take k)))])) target := by
    intro target kt
    show Steps p.tables e below (TF.setTop (mkF m 303 #[.val (.int p1), .val (.int p2), .val (.int p3), .val (.int p4), .val (.int cc), .val (.int (Int32.ofNat n)), .val (.int (Int32.ofNat k)), .val (.int a0), .val (.int a1), .val (.int a2), .val (.int b0), .val (.int b1), .val (.int b2), .val (.ref tA), .val (.ref tB), .val (.ref a4), .val (.int kd), .unset, .val (.ref a8), .val (.int (own_eq ([a0, a1, a2].take n) ([b0, b1, b2].take k))), .val (.ref a8), .val (.ref a4)] [(.int (own_eq ([a0, a1, a2].take n) ([b0, b1, b2].take k)))])) _
    refine XS.iload XF.here hx rfl (hb hby at_303) rfl ?_
    show Steps p.tables e below (TF.setTop (mkF m 305 #[.val (.int p1), .val (.int p2), .val (.int p3), .val (.int p4), .val (.int cc), .val (.int (Int32.ofNat n)), .val (.int (Int32.ofNat k)), .val (.int a0), .val (.int a1), .val (.int a2), .val (.int b0), .val (.int b1), .val (.int b2), .val (.ref tA), .val (.ref tB), .val (.ref a4), .val (.int kd), .unset, .val (.ref a8), .val (.int (own_eq ([a0, a1, a2].take n) ([b0, b1, b2].take k))), .val (.ref a8), .val (.ref a4)] [(.int (own_eq ([a0, a1, a2].take n) ([b0, b1, b2].take k))), (.int (own_eq ([a0, a1, a2].take n) ([b0, b1, b2].take k)))])) _
    refine XS.icmpNo XF.here hx rfl (hb hby at_305) rfl (teq rfl).2 ?_
    show Steps p.tables e below (TF.setTop (mkF m 308 #[.val (.int p1), .val (.int p2), .val (.int p3), .val (.int p4), .val (.int cc), .val (.int (Int32.ofNat n)), .val (.int (Int32.ofNat k)), .val (.int a0), .val (.int a1), .val (.int a2), .val (.int b0), .val (.int b1), .val (.int b2), .val (.ref tA), .val (.ref tB), .val (.ref a4), .val (.int kd), .unset, .val (.ref a8), .val (.int (own_eq ([a0, a1, a2].take n) ([b0, b1, b2].take k))), .val (.ref a8), .val (.ref a4)] [])) _
    refine XS.aload XF.here hx rfl (hb hby at_308) rfl rfl ?_
    show Steps p.tables e below (TF.setTop (mkF m 310 #[.val (.int p1), .val (.int p2), .val (.int p3), .val (.int p4), .val (.int cc), .val (.int (Int32.ofNat n)), .val (.int (Int32.ofNat k)), .val (.int a0), .val (.int a1), .val (.int a2), .val (.int b0), .val (.int b1), .val (.int b2), .val (.ref tA), .val (.ref tB), .val (.ref a4), .val (.int kd), .unset, .val (.ref a8), .val (.int (own_eq ([a0, a1, a2].take n) ([b0, b1, b2].take k))), .val (.ref a8), .val (.ref a4)] [(.ref a8)])) _
    refine XS.aload XF.here hx rfl (hb hby at_310) rfl rfl ?_
    show Steps p.tables e below (TF.setTop (mkF m 312 #[.val (.int p1), .val (.int p2), .val (.int p3), .val (.int p4), .val (.int cc), .val (.int (Int32.ofNat n)), .val (.int (Int32.ofNat k)), .val (.int a0), .val (.int a1), .val (.int a2), .val (.int b0), .val (.int b1), .val (.int b2), .val (.ref tA), .val (.ref tB), .val (.ref a4), .val (.int kd), .unset, .val (.ref a8), .val (.int (own_eq ([a0, a1, a2].take n) ([b0, b1, b2].take k))), .val (.ref a8), .val (.ref a4)] [(.ref a4), (.ref a8)])) _
    exact kt
  obtain ⟨cqG, kqG, qaG, qbG, qcG⟩ := isOf hZB eF EsD
  obtain ⟨_, _, ⟨TG, LG, kG, nG⟩, -, XG, ⟨LcG, hQG, lG, yG, zG⟩, stG⟩ := XF.virtualBack hx (y := (⟨"com/example/bare_migrate/baremigrate/Migration$Script", "equals", "(Ljava/lang/Object;)Z"⟩ : MethodName)) (z := (⟨"com/example/bare_migrate/baremigrate/Migration$Script", "equals", "(Ljava/lang/Object;)Z"⟩ : MethodName)) hownB (mvT hZB (hw _ (List.mem_of_getElem? (i := 47) rfl))) (mvT hZB (hw _ (List.mem_of_getElem? (i := 48) rfl))) (notFace_of_selects (args := #[]) (mvT hZB (hw _ (List.mem_of_getElem? (i := 50) rfl)))) (mvT hZB (hw _ (List.mem_of_getElem? (i := 50) rfl))) (mvT hZB (hw _ (List.mem_of_getElem? (i := 49) rfl))) (by decide) (backOf (W := 0) (rmQ l Z a0' hw a8 TD.heap n0 a4 tB tA ([b0, b1, b2].take k) ([a0, a1, a2].take n) (own_take lB k) (own_take lA n) (by rw [own_tk _ _ _ hk]; omega) (by rw [own_tk _ _ _ hn]; omega) G OD hG EsD FsD EsC2 FsC2 SB3 SA3) hZB (hw _ (List.mem_of_getElem? (i := 51) rfl)) (hw _ (List.mem_of_getElem? (i := 37) rfl)) (by decide) (by decide)) qaG qcG (g := (mkF m 312 #[.val (.int p1), .val (.int p2), .val (.int p3), .val (.int p4), .val (.int cc), .val (.int (Int32.ofNat n)), .val (.int (Int32.ofNat k)), .val (.int a0), .val (.int a1), .val (.int a2), .val (.int b0), .val (.int b1), .val (.int b2), .val (.ref tA), .val (.ref tB), .val (.ref a4), .val (.int kd), .unset, .val (.ref a8), .val (.int (own_eq ([a0, a1, a2].take n) ([b0, b1, b2].take k))), .val (.ref a8), .val (.ref a4)] [(.ref a4), (.ref a8)])) rfl (by rw [hml]; rfl) (Steps.refl _) (argsL := [(.ref a4)]) (rest := []) (lenOf pdQ rfl) rfl (by show 2 * 0 + _ ≤ _; exact Nat.le_of_eq rfl) (hb hby at_312) (fun _ _ => ⟨rfl, eF, Nat.le_of_ble_eq_true rfl, Nat.le_of_ble_eq_true rfl⟩)
  dsimp only [Pt.U, Pt.locs, Pt.cells, Pt.slots] at XG lG yG zG stG hQG
  subst lG yG zG
  obtain ⟨rfl, NG, eG⟩ := hQG
  have MG := Fr.app (MF) NG
  have sg13 : ∀ target, Steps p.tables e below (TG.setTop (mkF m 340 #[.val (.int p1), .val (.int p2), .val (.int p3), .val (.int p4), .val (.int cc), .val (.int (Int32.ofNat n)), .val (.int (Int32.ofNat k)), .val (.int a0), .val (.int a1), .val (.int a2), .val (.int b0), .val (.int b1), .val (.int b2), .val (.ref tA), .val (.ref tB), .val (.ref a4), .val (.int kd), .val (.int (1 : Int32)), .val (.ref a4), .val (.int (own_eq ([a0, a1, a2].take n) ([b0, b1, b2].take k))), .val (.ref a8), .val (.ref a4)] [(.ref a4), (.ref a4)])) target → Steps p.tables e below (TG.setTop (mkF m 315 #[.val (.int p1), .val (.int p2), .val (.int p3), .val (.int p4), .val (.int cc), .val (.int (Int32.ofNat n)), .val (.int (Int32.ofNat k)), .val (.int a0), .val (.int a1), .val (.int a2), .val (.int b0), .val (.int b1), .val (.int b2), .val (.ref tA), .val (.ref tB), .val (.ref a4), .val (.int kd), .unset, .val (.ref a8), .val (.int (own_eq ([a0, a1, a2].take n) ([b0, b1, b2].take k))), .val (.ref a8), .val (.ref a4)] [(.int (own_eq ([b0, b1, b2].take k) ([a0, a1, a2].take n)))])) target := by
    intro target kt
    show Steps p.tables e below (TG.setTop (mkF m 315 #[.val (.int p1), .val (.int p2), .val (.int p3), .val (.int p4), .val (.int cc), .val (.int (Int32.ofNat n)), .val (.int (Int32.ofNat k)), .val (.int a0), .val (.int a1), .val (.int a2), .val (.int b0), .val (.int b1), .val (.int b2), .val (.ref tA), .val (.ref tB), .val (.ref a4), .val (.int kd), .unset, .val (.ref a8), .val (.int (own_eq ([a0, a1, a2].take n) ([b0, b1, b2].take k))), .val (.ref a8), .val (.ref a4)] [(.int (own_eq ([b0, b1, b2].take k) ([a0, a1, a2].take n)))])) _
    refine XS.iload XG.here hx rfl (hb hby at_315) rfl ?_
    show Steps p.tables e below (TG.setTop (mkF m 317 #[.val (.int p1), .val (.int p2), .val (.int p3), .val (.int p4), .val (.int cc), .val (.int (Int32.ofNat n)), .val (.int (Int32.ofNat k)), .val (.int a0), .val (.int a1), .val (.int a2), .val (.int b0), .val (.int b1), .val (.int b2), .val (.ref tA), .val (.ref tB), .val (.ref a4), .val (.int kd), .unset, .val (.ref a8), .val (.int (own_eq ([a0, a1, a2].take n) ([b0, b1, b2].take k))), .val (.ref a8), .val (.ref a4)] [(.int (own_eq ([a0, a1, a2].take n) ([b0, b1, b2].take k))), (.int (own_eq ([b0, b1, b2].take k) ([a0, a1, a2].take n)))])) _
    refine XS.icmpNo XG.here hx rfl (hb hby at_317) rfl (teq (own_eq_c _ _)).2 ?_
    show Steps p.tables e below (TG.setTop (mkF m 320 #[.val (.int p1), .val (.int p2), .val (.int p3), .val (.int p4), .val (.int cc), .val (.int (Int32.ofNat n)), .val (.int (Int32.ofNat k)), .val (.int a0), .val (.int a1), .val (.int a2), .val (.int b0), .val (.int b1), .val (.int b2), .val (.ref tA), .val (.ref tB), .val (.ref a4), .val (.int kd), .unset, .val (.ref a8), .val (.int (own_eq ([a0, a1, a2].take n) ([b0, b1, b2].take k))), .val (.ref a8), .val (.ref a4)] [])) _
    refine XS.iconst XG.here hx rfl (hb hby at_320) ?_
    show Steps p.tables e below (TG.setTop (mkF m 321 #[.val (.int p1), .val (.int p2), .val (.int p3), .val (.int p4), .val (.int cc), .val (.int (Int32.ofNat n)), .val (.int (Int32.ofNat k)), .val (.int a0), .val (.int a1), .val (.int a2), .val (.int b0), .val (.int b1), .val (.int b2), .val (.ref tA), .val (.ref tB), .val (.ref a4), .val (.int kd), .unset, .val (.ref a8), .val (.int (own_eq ([a0, a1, a2].take n) ([b0, b1, b2].take k))), .val (.ref a8), .val (.ref a4)] [(.int (1 : Int32))])) _
    refine XS.goto XG.here hx rfl (pc0 := 321) (pc' := 325) rfl (hb hby at_321) (by decide) (by decide) ?_
    show Steps p.tables e below (TG.setTop (mkF m 325 #[.val (.int p1), .val (.int p2), .val (.int p3), .val (.int p4), .val (.int cc), .val (.int (Int32.ofNat n)), .val (.int (Int32.ofNat k)), .val (.int a0), .val (.int a1), .val (.int a2), .val (.int b0), .val (.int b1), .val (.int b2), .val (.ref tA), .val (.ref tB), .val (.ref a4), .val (.int kd), .unset, .val (.ref a8), .val (.int (own_eq ([a0, a1, a2].take n) ([b0, b1, b2].take k))), .val (.ref a8), .val (.ref a4)] [(.int (1 : Int32))])) _
    refine XS.istore XG.here hx rfl (hb hby at_325) rfl (l' := #[.val (.int p1), .val (.int p2), .val (.int p3), .val (.int p4), .val (.int cc), .val (.int (Int32.ofNat n)), .val (.int (Int32.ofNat k)), .val (.int a0), .val (.int a1), .val (.int a2), .val (.int b0), .val (.int b1), .val (.int b2), .val (.ref tA), .val (.ref tB), .val (.ref a4), .val (.int kd), .val (.int (1 : Int32)), .val (.ref a8), .val (.int (own_eq ([a0, a1, a2].take n) ([b0, b1, b2].take k))), .val (.ref a8), .val (.ref a4)]) rfl ?_
    show Steps p.tables e below (TG.setTop (mkF m 327 #[.val (.int p1), .val (.int p2), .val (.int p3), .val (.int p4), .val (.int cc), .val (.int (Int32.ofNat n)), .val (.int (Int32.ofNat k)), .val (.int a0), .val (.int a1), .val (.int a2), .val (.int b0), .val (.int b1), .val (.int b2), .val (.ref tA), .val (.ref tB), .val (.ref a4), .val (.int kd), .val (.int (1 : Int32)), .val (.ref a8), .val (.int (own_eq ([a0, a1, a2].take n) ([b0, b1, b2].take k))), .val (.ref a8), .val (.ref a4)] [])) _
    refine XS.aload XG.here hx rfl (hb hby at_327) rfl rfl ?_
    show Steps p.tables e below (TG.setTop (mkF m 329 #[.val (.int p1), .val (.int p2), .val (.int p3), .val (.int p4), .val (.int cc), .val (.int (Int32.ofNat n)), .val (.int (Int32.ofNat k)), .val (.int a0), .val (.int a1), .val (.int a2), .val (.int b0), .val (.int b1), .val (.int b2), .val (.ref tA), .val (.ref tB), .val (.ref a4), .val (.int kd), .val (.int (1 : Int32)), .val (.ref a8), .val (.int (own_eq ([a0, a1, a2].take n) ([b0, b1, b2].take k))), .val (.ref a8), .val (.ref a4)] [(.ref a4)])) _
    refine XS.astore XG.here hx rfl (hb hby at_329) rfl rfl (l' := #[.val (.int p1), .val (.int p2), .val (.int p3), .val (.int p4), .val (.int cc), .val (.int (Int32.ofNat n)), .val (.int (Int32.ofNat k)), .val (.int a0), .val (.int a1), .val (.int a2), .val (.int b0), .val (.int b1), .val (.int b2), .val (.ref tA), .val (.ref tB), .val (.ref a4), .val (.int kd), .val (.int (1 : Int32)), .val (.ref a4), .val (.int (own_eq ([a0, a1, a2].take n) ([b0, b1, b2].take k))), .val (.ref a8), .val (.ref a4)]) rfl ?_
    show Steps p.tables e below (TG.setTop (mkF m 331 #[.val (.int p1), .val (.int p2), .val (.int p3), .val (.int p4), .val (.int cc), .val (.int (Int32.ofNat n)), .val (.int (Int32.ofNat k)), .val (.int a0), .val (.int a1), .val (.int a2), .val (.int b0), .val (.int b1), .val (.int b2), .val (.ref tA), .val (.ref tB), .val (.ref a4), .val (.int kd), .val (.int (1 : Int32)), .val (.ref a4), .val (.int (own_eq ([a0, a1, a2].take n) ([b0, b1, b2].take k))), .val (.ref a8), .val (.ref a4)] [])) _
    refine XS.iload XG.here hx rfl (hb hby at_331) rfl ?_
    show Steps p.tables e below (TG.setTop (mkF m 333 #[.val (.int p1), .val (.int p2), .val (.int p3), .val (.int p4), .val (.int cc), .val (.int (Int32.ofNat n)), .val (.int (Int32.ofNat k)), .val (.int a0), .val (.int a1), .val (.int a2), .val (.int b0), .val (.int b1), .val (.int b2), .val (.ref tA), .val (.ref tB), .val (.ref a4), .val (.int kd), .val (.int (1 : Int32)), .val (.ref a4), .val (.int (own_eq ([a0, a1, a2].take n) ([b0, b1, b2].take k))), .val (.ref a8), .val (.ref a4)] [(.int (1 : Int32))])) _
    refine XS.ifNo XG.here hx rfl (hb hby at_333) rfl (by decide) ?_
    show Steps p.tables e below (TG.setTop (mkF m 336 #[.val (.int p1), .val (.int p2), .val (.int p3), .val (.int p4), .val (.int cc), .val (.int (Int32.ofNat n)), .val (.int (Int32.ofNat k)), .val (.int a0), .val (.int a1), .val (.int a2), .val (.int b0), .val (.int b1), .val (.int b2), .val (.ref tA), .val (.ref tB), .val (.ref a4), .val (.int kd), .val (.int (1 : Int32)), .val (.ref a4), .val (.int (own_eq ([a0, a1, a2].take n) ([b0, b1, b2].take k))), .val (.ref a8), .val (.ref a4)] [])) _
    refine XS.aload XG.here hx rfl (hb hby at_336) rfl rfl ?_
    show Steps p.tables e below (TG.setTop (mkF m 338 #[.val (.int p1), .val (.int p2), .val (.int p3), .val (.int p4), .val (.int cc), .val (.int (Int32.ofNat n)), .val (.int (Int32.ofNat k)), .val (.int a0), .val (.int a1), .val (.int a2), .val (.int b0), .val (.int b1), .val (.int b2), .val (.ref tA), .val (.ref tB), .val (.ref a4), .val (.int kd), .val (.int (1 : Int32)), .val (.ref a4), .val (.int (own_eq ([a0, a1, a2].take n) ([b0, b1, b2].take k))), .val (.ref a8), .val (.ref a4)] [(.ref a4)])) _
    refine XS.aload XG.here hx rfl (hb hby at_338) rfl rfl ?_
    show Steps p.tables e below (TG.setTop (mkF m 340 #[.val (.int p1), .val (.int p2), .val (.int p3), .val (.int p4), .val (.int cc), .val (.int (Int32.ofNat n)), .val (.int (Int32.ofNat k)), .val (.int a0), .val (.int a1), .val (.int a2), .val (.int b0), .val (.int b1), .val (.int b2), .val (.ref tA), .val (.ref tB), .val (.ref a4), .val (.int kd), .val (.int (1 : Int32)), .val (.ref a4), .val (.int (own_eq ([a0, a1, a2].take n) ([b0, b1, b2].take k))), .val (.ref a8), .val (.ref a4)] [(.ref a4), (.ref a4)])) _
    exact kt
  obtain ⟨cqZ, kqZ, qaZ, qbZ, qcZ⟩ := isOf hZB eG EsC2
  obtain ⟨_, _, ⟨TZ, LZ, kZ, nZ⟩, -, XZ, ⟨LcZ, hQZ, lZ, yZ, zZ⟩, stZ⟩ := XG.virtualBack hx (y := (⟨"com/example/bare_migrate/baremigrate/Migration$Script", "equals", "(Ljava/lang/Object;)Z"⟩ : MethodName)) (z := (⟨"com/example/bare_migrate/baremigrate/Migration$Script", "equals", "(Ljava/lang/Object;)Z"⟩ : MethodName)) hownB (mvT hZB (hw _ (List.mem_of_getElem? (i := 47) rfl))) (mvT hZB (hw _ (List.mem_of_getElem? (i := 48) rfl))) (notFace_of_selects (args := #[]) (mvT hZB (hw _ (List.mem_of_getElem? (i := 50) rfl)))) (mvT hZB (hw _ (List.mem_of_getElem? (i := 50) rfl))) (mvT hZB (hw _ (List.mem_of_getElem? (i := 49) rfl))) (by decide) (backOf (W := 0) (rmQ l Z a0' hw a4 TD.heap n0 a4 tA tA ([a0, a1, a2].take n) ([a0, a1, a2].take n) (own_take lA n) (own_take lA n) (by rw [own_tk _ _ _ hn]; omega) (by rw [own_tk _ _ _ hn]; omega) G OD hG EsC2 FsC2 EsC2 FsC2 SA3 SA3) hZB (hw _ (List.mem_of_getElem? (i := 51) rfl)) (hw _ (List.mem_of_getElem? (i := 37) rfl)) (by decide) (by decide)) qaZ qcZ (g := (mkF m 340 #[.val (.int p1), .val (.int p2), .val (.int p3), .val (.int p4), .val (.int cc), .val (.int (Int32.ofNat n)), .val (.int (Int32.ofNat k)), .val (.int a0), .val (.int a1), .val (.int a2), .val (.int b0), .val (.int b1), .val (.int b2), .val (.ref tA), .val (.ref tB), .val (.ref a4), .val (.int kd), .val (.int (1 : Int32)), .val (.ref a4), .val (.int (own_eq ([a0, a1, a2].take n) ([b0, b1, b2].take k))), .val (.ref a8), .val (.ref a4)] [(.ref a4), (.ref a4)])) rfl (by rw [hml]; rfl) (Steps.refl _) (argsL := [(.ref a4)]) (rest := []) (lenOf pdQ rfl) rfl (by show 2 * 0 + _ ≤ _; exact Nat.le_of_eq rfl) (hb hby at_340) (fun _ _ => ⟨rfl, eG, Nat.le_of_ble_eq_true rfl, Nat.le_of_ble_eq_true rfl⟩)
  dsimp only [Pt.U, Pt.locs, Pt.cells, Pt.slots] at XZ lZ yZ zZ stZ hQZ
  subst lZ yZ zZ
  obtain ⟨rfl, NZ, eZ⟩ := hQZ
  have MZ := Fr.app (MG) NZ
  have sg14 : ∀ target, Steps p.tables e below (TZ.setTop (mkF m 351 #[.val (.int p1), .val (.int p2), .val (.int p3), .val (.int p4), .val (.int cc), .val (.int (Int32.ofNat n)), .val (.int (Int32.ofNat k)), .val (.int a0), .val (.int a1), .val (.int a2), .val (.int b0), .val (.int b1), .val (.int b2), .val (.ref tA), .val (.ref tB), .val (.ref a4), .val (.int kd), .val (.int (1 : Int32)), .val (.ref a4), .val (.int (own_eq ([a0, a1, a2].take n) ([b0, b1, b2].take k))), .val (.ref a8), .val (.ref a4)] [(.int (1 : Int32))])) target → Steps p.tables e below (TZ.setTop (mkF m 343 #[.val (.int p1), .val (.int p2), .val (.int p3), .val (.int p4), .val (.int cc), .val (.int (Int32.ofNat n)), .val (.int (Int32.ofNat k)), .val (.int a0), .val (.int a1), .val (.int a2), .val (.int b0), .val (.int b1), .val (.int b2), .val (.ref tA), .val (.ref tB), .val (.ref a4), .val (.int kd), .val (.int (1 : Int32)), .val (.ref a4), .val (.int (own_eq ([a0, a1, a2].take n) ([b0, b1, b2].take k))), .val (.ref a8), .val (.ref a4)] [(.int (own_eq ([a0, a1, a2].take n) ([a0, a1, a2].take n)))])) target := by
    intro target kt
    show Steps p.tables e below (TZ.setTop (mkF m 343 #[.val (.int p1), .val (.int p2), .val (.int p3), .val (.int p4), .val (.int cc), .val (.int (Int32.ofNat n)), .val (.int (Int32.ofNat k)), .val (.int a0), .val (.int a1), .val (.int a2), .val (.int b0), .val (.int b1), .val (.int b2), .val (.ref tA), .val (.ref tB), .val (.ref a4), .val (.int kd), .val (.int (1 : Int32)), .val (.ref a4), .val (.int (own_eq ([a0, a1, a2].take n) ([b0, b1, b2].take k))), .val (.ref a8), .val (.ref a4)] [(.int (own_eq ([a0, a1, a2].take n) ([a0, a1, a2].take n)))])) _
    refine XS.ifNo XZ.here hx rfl (hb hby at_343) rfl (by rw [own_eq_t rfl]; decide) ?_
    show Steps p.tables e below (TZ.setTop (mkF m 346 #[.val (.int p1), .val (.int p2), .val (.int p3), .val (.int p4), .val (.int cc), .val (.int (Int32.ofNat n)), .val (.int (Int32.ofNat k)), .val (.int a0), .val (.int a1), .val (.int a2), .val (.int b0), .val (.int b1), .val (.int b2), .val (.ref tA), .val (.ref tB), .val (.ref a4), .val (.int kd), .val (.int (1 : Int32)), .val (.ref a4), .val (.int (own_eq ([a0, a1, a2].take n) ([b0, b1, b2].take k))), .val (.ref a8), .val (.ref a4)] [])) _
    refine XS.iconst XZ.here hx rfl (hb hby at_346) ?_
    show Steps p.tables e below (TZ.setTop (mkF m 347 #[.val (.int p1), .val (.int p2), .val (.int p3), .val (.int p4), .val (.int cc), .val (.int (Int32.ofNat n)), .val (.int (Int32.ofNat k)), .val (.int a0), .val (.int a1), .val (.int a2), .val (.int b0), .val (.int b1), .val (.int b2), .val (.ref tA), .val (.ref tB), .val (.ref a4), .val (.int kd), .val (.int (1 : Int32)), .val (.ref a4), .val (.int (own_eq ([a0, a1, a2].take n) ([b0, b1, b2].take k))), .val (.ref a8), .val (.ref a4)] [(.int (1 : Int32))])) _
    refine XS.goto XZ.here hx rfl (pc0 := 347) (pc' := 351) rfl (hb hby at_347) (by decide) (by decide) ?_
    show Steps p.tables e below (TZ.setTop (mkF m 351 #[.val (.int p1), .val (.int p2), .val (.int p3), .val (.int p4), .val (.int cc), .val (.int (Int32.ofNat n)), .val (.int (Int32.ofNat k)), .val (.int a0), .val (.int a1), .val (.int a2), .val (.int b0), .val (.int b1), .val (.int b2), .val (.ref tA), .val (.ref tB), .val (.ref a4), .val (.int kd), .val (.int (1 : Int32)), .val (.ref a4), .val (.int (own_eq ([a0, a1, a2].take n) ([b0, b1, b2].take k))), .val (.ref a8), .val (.ref a4)] [(.int (1 : Int32))])) _
    exact kt
  have kz : TB.heap.size ≤ TZ.heap.size := by rw [eZ]; exact (Nat.le_trans EC.1 ED.1)
  obtain ⟨fs, hr, hrun, hended, hW⟩ := XZ.leaveW hSB kz (v := some (.int (1 : Int32))) (fun h => by rw [Bd.returns] at h; cases h)
  refine ⟨_, _, castTop (ef_0 m p1 p2 p3 p4) (stp _ ?_), hrun, hended, _, _, rfl, ⟨rfl, MZ⟩, own_w hW (by decide) (by decide)⟩
  show Steps p.tables e below (s₁.setTop (mkF m 153 #[.val (.int p1), .val (.int p2), .val (.int p3), .val (.int p4), .val (.int cc), .val (.int (Int32.ofNat n)), .val (.int (Int32.ofNat k)), .val (.int a0), .val (.int a1), .val (.int a2), .val (.int b0), .val (.int b1), .val (.int b2), .unset, .unset, .unset, .unset, .unset, .unset, .unset, .unset, .unset] [])) _
  refine sg1 _ ?_
  show Steps p.tables e below (s₁.setTop (mkF m 161 #[.val (.int p1), .val (.int p2), .val (.int p3), .val (.int p4), .val (.int cc), .val (.int (Int32.ofNat n)), .val (.int (Int32.ofNat k)), .val (.int a0), .val (.int a1), .val (.int a2), .val (.int b0), .val (.int b1), .val (.int b2), .unset, .unset, .unset, .unset, .unset, .unset, .unset, .unset, .unset] [(.int a2), (.int a1), (.int a0), (.int (Int32.ofNat n))])) _
  refine stA.trans ?_
  show Steps p.tables e below (TA.setTop (mkF m 164 #[.val (.int p1), .val (.int p2), .val (.int p3), .val (.int p4), .val (.int cc), .val (.int (Int32.ofNat n)), .val (.int (Int32.ofNat k)), .val (.int a0), .val (.int a1), .val (.int a2), .val (.int b0), .val (.int b1), .val (.int b2), .unset, .unset, .unset, .unset, .unset, .unset, .unset, .unset, .unset] [(.ref tA)])) _
  refine sg2 _ ?_
  show Steps p.tables e below (TA.setTop (mkF m 174 #[.val (.int p1), .val (.int p2), .val (.int p3), .val (.int p4), .val (.int cc), .val (.int (Int32.ofNat n)), .val (.int (Int32.ofNat k)), .val (.int a0), .val (.int a1), .val (.int a2), .val (.int b0), .val (.int b1), .val (.int b2), .val (.ref tA), .unset, .unset, .unset, .unset, .unset, .unset, .unset, .unset] [(.int b2), (.int b1), (.int b0), (.int (Int32.ofNat k))])) _
  refine stB.trans ?_
  show Steps p.tables e below (TB.setTop (mkF m 177 #[.val (.int p1), .val (.int p2), .val (.int p3), .val (.int p4), .val (.int cc), .val (.int (Int32.ofNat n)), .val (.int (Int32.ofNat k)), .val (.int a0), .val (.int a1), .val (.int a2), .val (.int b0), .val (.int b1), .val (.int b2), .val (.ref tA), .unset, .unset, .unset, .unset, .unset, .unset, .unset, .unset] [(.ref tB)])) _
  refine sg3 _ ?_
  show Steps p.tables e below (TB.setTop (mkF m 179 #[.val (.int p1), .val (.int p2), .val (.int p3), .val (.int p4), .val (.int cc), .val (.int (Int32.ofNat n)), .val (.int (Int32.ofNat k)), .val (.int a0), .val (.int a1), .val (.int a2), .val (.int b0), .val (.int b1), .val (.int b2), .val (.ref tA), .val (.ref tB), .unset, .unset, .unset, .unset, .unset, .unset, .unset] [])) _
  refine st4 _ ?_
  show Steps p.tables e below (T4.setTop (mkF m 182 #[.val (.int p1), .val (.int p2), .val (.int p3), .val (.int p4), .val (.int cc), .val (.int (Int32.ofNat n)), .val (.int (Int32.ofNat k)), .val (.int a0), .val (.int a1), .val (.int a2), .val (.int b0), .val (.int b1), .val (.int b2), .val (.ref tA), .val (.ref tB), .unset, .unset, .unset, .unset, .unset, .unset, .unset] [(.ref a4)])) _
  refine sg5 _ ?_
  show Steps p.tables e below (T4.setTop (mkF m 185 #[.val (.int p1), .val (.int p2), .val (.int p3), .val (.int p4), .val (.int cc), .val (.int (Int32.ofNat n)), .val (.int (Int32.ofNat k)), .val (.int a0), .val (.int a1), .val (.int a2), .val (.int b0), .val (.int b1), .val (.int b2), .val (.ref tA), .val (.ref tB), .unset, .unset, .unset, .unset, .unset, .unset, .unset] [(.ref tA), (.ref a4), (.ref a4)])) _
  refine stC.trans ?_
  show Steps p.tables e below (TC.setTop (mkF m 188 #[.val (.int p1), .val (.int p2), .val (.int p3), .val (.int p4), .val (.int cc), .val (.int (Int32.ofNat n)), .val (.int (Int32.ofNat k)), .val (.int a0), .val (.int a1), .val (.int a2), .val (.int b0), .val (.int b1), .val (.int b2), .val (.ref tA), .val (.ref tB), .unset, .unset, .unset, .unset, .unset, .unset, .unset] [(.ref a4)])) _
  refine sg6 _ ?_
  show Steps p.tables e below (TC.setTop (mkF m 197 #[.val (.int p1), .val (.int p2), .val (.int p3), .val (.int p4), .val (.int cc), .val (.int (Int32.ofNat n)), .val (.int (Int32.ofNat k)), .val (.int a0), .val (.int a1), .val (.int a2), .val (.int b0), .val (.int b1), .val (.int b2), .val (.ref tA), .val (.ref tB), .val (.ref a4), .val (.int ((((p4).toUInt32 >>> ((1 : Int32) &&& 31).toUInt32).toInt32) &&& (3 : Int32))), .unset, .unset, .unset, .unset, .unset] [])) _
  refine sg7 _ ?_
  show Steps p.tables e below (TC.setTop (mkF m 256 #[.val (.int p1), .val (.int p2), .val (.int p3), .val (.int p4), .val (.int cc), .val (.int (Int32.ofNat n)), .val (.int (Int32.ofNat k)), .val (.int a0), .val (.int a1), .val (.int a2), .val (.int b0), .val (.int b1), .val (.int b2), .val (.ref tA), .val (.ref tB), .val (.ref a4), .val (.int kd), .unset, .unset, .unset, .unset, .unset] [])) _
  refine st8 _ ?_
  show Steps p.tables e below (T8.setTop (mkF m 259 #[.val (.int p1), .val (.int p2), .val (.int p3), .val (.int p4), .val (.int cc), .val (.int (Int32.ofNat n)), .val (.int (Int32.ofNat k)), .val (.int a0), .val (.int a1), .val (.int a2), .val (.int b0), .val (.int b1), .val (.int b2), .val (.ref tA), .val (.ref tB), .val (.ref a4), .val (.int kd), .unset, .unset, .unset, .unset, .unset] [(.ref a8)])) _
  refine sg9 _ ?_
  show Steps p.tables e below (T8.setTop (mkF m 262 #[.val (.int p1), .val (.int p2), .val (.int p3), .val (.int p4), .val (.int cc), .val (.int (Int32.ofNat n)), .val (.int (Int32.ofNat k)), .val (.int a0), .val (.int a1), .val (.int a2), .val (.int b0), .val (.int b1), .val (.int b2), .val (.ref tA), .val (.ref tB), .val (.ref a4), .val (.int kd), .unset, .unset, .unset, .unset, .unset] [(.ref tB), (.ref a8), (.ref a8)])) _
  refine stD.trans ?_
  show Steps p.tables e below (TD.setTop (mkF m 265 #[.val (.int p1), .val (.int p2), .val (.int p3), .val (.int p4), .val (.int cc), .val (.int (Int32.ofNat n)), .val (.int (Int32.ofNat k)), .val (.int a0), .val (.int a1), .val (.int a2), .val (.int b0), .val (.int b1), .val (.int b2), .val (.ref tA), .val (.ref tB), .val (.ref a4), .val (.int kd), .unset, .unset, .unset, .unset, .unset] [(.ref a8)])) _
  refine sg10 _ ?_
  show Steps p.tables e below (TD.setTop (mkF m 283 #[.val (.int p1), .val (.int p2), .val (.int p3), .val (.int p4), .val (.int cc), .val (.int (Int32.ofNat n)), .val (.int (Int32.ofNat k)), .val (.int a0), .val (.int a1), .val (.int a2), .val (.int b0), .val (.int b1), .val (.int b2), .val (.ref tA), .val (.ref tB), .val (.ref a4), .val (.int kd), .unset, .val (.ref a8), .unset, .unset, .unset] [(.int b2), (.int b1), (.int b0), (.int (Int32.ofNat k)), (.int a2), (.int a1), (.int a0), (.int (Int32.ofNat n))])) _
  refine stE _ ?_
  show Steps p.tables e below (TE.setTop (mkF m 286 #[.val (.int p1), .val (.int p2), .val (.int p3), .val (.int p4), .val (.int cc), .val (.int (Int32.ofNat n)), .val (.int (Int32.ofNat k)), .val (.int a0), .val (.int a1), .val (.int a2), .val (.int b0), .val (.int b1), .val (.int b2), .val (.ref tA), .val (.ref tB), .val (.ref a4), .val (.int kd), .unset, .val (.ref a8), .unset, .unset, .unset] [(.int (own_eq ([a0, a1, a2].take n) ([b0, b1, b2].take k)))])) _
  refine sg11 _ ?_
  show Steps p.tables e below (TE.setTop (mkF m 300 #[.val (.int p1), .val (.int p2), .val (.int p3), .val (.int p4), .val (.int cc), .val (.int (Int32.ofNat n)), .val (.int (Int32.ofNat k)), .val (.int a0), .val (.int a1), .val (.int a2), .val (.int b0), .val (.int b1), .val (.int b2), .val (.ref tA), .val (.ref tB), .val (.ref a4), .val (.int kd), .unset, .val (.ref a8), .val (.int (own_eq ([a0, a1, a2].take n) ([b0, b1, b2].take k))), .val (.ref a8), .val (.ref a4)] [(.ref a8), (.ref a4)])) _
  refine stF.trans ?_
  show Steps p.tables e below (TF.setTop (mkF m 303 #[.val (.int p1), .val (.int p2), .val (.int p3), .val (.int p4), .val (.int cc), .val (.int (Int32.ofNat n)), .val (.int (Int32.ofNat k)), .val (.int a0), .val (.int a1), .val (.int a2), .val (.int b0), .val (.int b1), .val (.int b2), .val (.ref tA), .val (.ref tB), .val (.ref a4), .val (.int kd), .unset, .val (.ref a8), .val (.int (own_eq ([a0, a1, a2].take n) ([b0, b1, b2].take k))), .val (.ref a8), .val (.ref a4)] [(.int (own_eq ([a0, a1, a2].take n) ([b0, b1, b2].take k)))])) _
  refine sg12 _ ?_
  show Steps p.tables e below (TF.setTop (mkF m 312 #[.val (.int p1), .val (.int p2), .val (.int p3), .val (.int p4), .val (.int cc), .val (.int (Int32.ofNat n)), .val (.int (Int32.ofNat k)), .val (.int a0), .val (.int a1), .val (.int a2), .val (.int b0), .val (.int b1), .val (.int b2), .val (.ref tA), .val (.ref tB), .val (.ref a4), .val (.int kd), .unset, .val (.ref a8), .val (.int (own_eq ([a0, a1, a2].take n) ([b0, b1, b2].take k))), .val (.ref a8), .val (.ref a4)] [(.ref a4), (.ref a8)])) _
  refine stG.trans ?_
  show Steps p.tables e below (TG.setTop (mkF m 315 #[.val (.int p1), .val (.int p2), .val (.int p3), .val (.int p4), .val (.int cc), .val (.int (Int32.ofNat n)), .val (.int (Int32.ofNat k)), .val (.int a0), .val (.int a1), .val (.int a2), .val (.int b0), .val (.int b1), .val (.int b2), .val (.ref tA), .val (.ref tB), .val (.ref a4), .val (.int kd), .unset, .val (.ref a8), .val (.int (own_eq ([a0, a1, a2].take n) ([b0, b1, b2].take k))), .val (.ref a8), .val (.ref a4)] [(.int (own_eq ([b0, b1, b2].take k) ([a0, a1, a2].take n)))])) _
  refine sg13 _ ?_
  show Steps p.tables e below (TG.setTop (mkF m 340 #[.val (.int p1), .val (.int p2), .val (.int p3), .val (.int p4), .val (.int cc), .val (.int (Int32.ofNat n)), .val (.int (Int32.ofNat k)), .val (.int a0), .val (.int a1), .val (.int a2), .val (.int b0), .val (.int b1), .val (.int b2), .val (.ref tA), .val (.ref tB), .val (.ref a4), .val (.int kd), .val (.int (1 : Int32)), .val (.ref a4), .val (.int (own_eq ([a0, a1, a2].take n) ([b0, b1, b2].take k))), .val (.ref a8), .val (.ref a4)] [(.ref a4), (.ref a4)])) _
  refine stZ.trans ?_
  show Steps p.tables e below (TZ.setTop (mkF m 343 #[.val (.int p1), .val (.int p2), .val (.int p3), .val (.int p4), .val (.int cc), .val (.int (Int32.ofNat n)), .val (.int (Int32.ofNat k)), .val (.int a0), .val (.int a1), .val (.int a2), .val (.int b0), .val (.int b1), .val (.int b2), .val (.ref tA), .val (.ref tB), .val (.ref a4), .val (.int kd), .val (.int (1 : Int32)), .val (.ref a4), .val (.int (own_eq ([a0, a1, a2].take n) ([b0, b1, b2].take k))), .val (.ref a8), .val (.ref a4)] [(.int (own_eq ([a0, a1, a2].take n) ([a0, a1, a2].take n)))])) _
  refine sg14 _ ?_
  show Steps p.tables e below (TZ.setTop (mkF m 351 #[.val (.int p1), .val (.int p2), .val (.int p3), .val (.int p4), .val (.int cc), .val (.int (Int32.ofNat n)), .val (.int (Int32.ofNat k)), .val (.int a0), .val (.int a1), .val (.int a2), .val (.int b0), .val (.int b1), .val (.int b2), .val (.ref tA), .val (.ref tB), .val (.ref a4), .val (.int kd), .val (.int (1 : Int32)), .val (.ref a4), .val (.int (own_eq ([a0, a1, a2].take n) ([b0, b1, b2].take k))), .val (.ref a8), .val (.ref a4)] [(.int (1 : Int32))])) _
  exact retN XZ hx (t := .boolean) Bd.returns (by simp) (hb hby at_351) hr
set_option maxRecDepth 65536 in
set_option maxHeartbeats 40000000 in
theorem comes_1 {Post : Tables → Env → Array Value → State → Outcome → State → Prop} (hpost : ∀ tb e args s v u, (limb_1_1.after args s (.returned v) u = true ∧ limb_1_2.after args s (.returned v) u = true ∧ True) → ReturnedEndW s (.returned v) u (Jvm.fieldLocs frame_1_writes args s ++ Jvm.arrayLocs frame_1_arrays args s ++ Jvm.staticLocs frame_1_statics s) 32 1152 → Post tb e args s (.returned v) u) :
    ArmFor flags0 classFile x code maxLocals ret World_1 tables_1 room_1 Calls_1 rest_1 Pre_1 Post := by
  intro l hfl _ _ p e ha hc hk s m args below hf hA hF happ hP
  obtain ⟨hcalls, hrest, hpre⟩ := hP
  obtain ⟨-, -, -, hnamed, -, -, -, hat⟩ := (Spec.applies_iff hf).mp happ
  obtain ⟨hg, hn⟩ := and_e (Cond.before_iff.mp (show (Jvm.Cond.and given_1 narrow_1).before args s = true from hpre))
  obtain ⟨h1, h2⟩ := and_e hg
  obtain ⟨h3, h4⟩ := and_e h2
  obtain ⟨h5, h6⟩ := and_e h4
  obtain ⟨h7, h8⟩ := and_e h6
  obtain ⟨w0, w1, w2, w3, rfl⟩ : ∃ w0 w1 w2 w3 : Value, args = #[w0, w1, w2, w3] := by
    have hs : args.size = 4 := by simpa [Cond.value, given_1] using h1
    obtain ⟨L⟩ := args
    match L, hs with
    | [w0, w1, w2, w3], _ => exact ⟨w0, w1, w2, w3, rfl⟩
  have hw := fun d (hd : d ∈ tables_1) => atoms_spec (ws := Jvm.Cond.code x code maxLocals ret :: tables_1) hat d (List.mem_cons_of_mem _ hd)
  obtain ⟨hsets, hown0⟩ := atoms_of _ (rest_1_c_eq ▸ (show rest_1_c.before _ s = true from hrest))
  have n5 := not_v (Cond.before_iff.mp (hsets _ (List.mem_of_getElem? (i := 2) rfl)))
  obtain ⟨i0, e0⟩ := is_v h3
  obtain rfl : w0 = (.int i0) := Option.some.inj e0
  obtain ⟨i1, e1⟩ := is_v h5
  obtain rfl : w1 = (.int i1) := Option.some.inj e1
  obtain ⟨i2, e2⟩ := is_v h7
  obtain rfl : w2 = (.int i2) := Option.some.inj e2
  obtain ⟨i3, e3⟩ := is_v h8
  obtain rfl : w3 = (.int i3) := Option.some.inj e3
  obtain ⟨i11, e10⟩ := is_v (Cond.before_iff.mp (hsets _ (List.mem_of_getElem? (i := 1) rfl)))
  have S12 : Sta s s.heap "java/lang/String" "COMPACT_STRINGS" "Z" (.int i11) := Sta.start e10 (Or.inl (hsets _ (List.mem_of_getElem? (i := 0) rfl)))
  have c17 : ¬ (i11 = (0 : Int32)) := gotF (Cond.eq_ints e10 (Term.int_eval (0))) n5
  have hEL : EW s _ consts_1 := EW.cons (hw _ (List.mem_of_getElem? (i := 64) rfl)) (by simp) EW.nil
  have hch : ∀ p ∈ consts_1, Jvm.Lit.constHeld s p.1 p.2 := hcalls.1
  have H0 : CHv s consts_1 s.vm s.heap := CHv.start hEL hch (hsets _ (List.mem_of_getElem? (i := 2) rfl)) (hw _ (List.mem_of_getElem? (i := 24) rfl)) (hw _ (List.mem_of_getElem? (i := 6) rfl))
  obtain ⟨n, o, h1, h2, h3, _, L, rfl, ⟨rfl, N⟩, hq⟩ := rm0 l s _ hw tables_1 consts_1 hEL (List.mem_cons_self ..) i0 i1 i2 i3 i11 s.heap s.heap.size (Nat.le_refl _) S12 c17 p e ha hc hk s m _ below hf ((Spec.applies_iff_loose hf).mp happ).1 ⟨rfl, State.Warmed39.refl s, rfl, H0⟩ trivial
  refine ⟨n, _, h1, h2, h3, hpost _ _ _ _ _ _ ⟨Cond.after_iff.mpr rfl, Cond.after_iff.mpr (eq_i res_at (Term.int_eval (1)) rfl), trivial⟩ ⟨hq.1, hq.2.1, hq.2.2.1, (hq.2.2.2.sift fun y hy => Or.inr (N y hy)).mono (by decide) (by decide)⟩⟩
theorem main_1_1 : Claimed_1_1 := comes_1 fun _ _ _ _ _ _ h hF => ⟨h.1, hF⟩
theorem main_1_2 : Claimed_1_2 := comes_1 fun _ _ _ _ _ _ h hF => ⟨h.2.1, hF⟩
end Jvm.Pilot.@@N@@
namespace Jvm.Pilot.@@N@@
open Jvm Jvm.ClassFile Sem Op Lib Jvm.Free Jvm.Stand Jvm.Pilot.@@N@@.Jvm.D
/-! MADE BY PROGRAM (witnessworld.py) out of the Statement's table words and the real class files: 21 classes; the members and pool entries that the words name. The judged class is class 1, her method 1. -/
namespace start1
open Jvm.ClassFile
def u (s : String) : CpInfo := .utf8 (stringToUtf16 s)
/-- a pool by its gaps: so many unusable entries, then the entry; so many at the end -/
def gap : Nat → List CpInfo → List CpInfo
  | 0, r => r
  | n + 1, r => .unusable :: gap n r
def poolList (es : List (Nat × CpInfo)) (last : Nat) : List CpInfo := es.foldr (fun e r => gap e.1 (e.2 :: r)) (gap last [])
def pool (es : List (Nat × CpInfo)) (last : Nat) : Array CpInfo := ⟨poolList es last⟩
def fileOf (pool : Array CpInfo) (this : Nat) (attrs : Array Attribute := #[]) (ms : Array MethodInfo := #[]) (fl : Nat := 33) (sup : Nat := 0) (ifs : Array Nat := #[]) (fds : Array FieldInfo := #[]) : ClassFile where
  minorVersion := 0
  majorVersion := 65
  constantPool := pool
  accessFlags := fl
  thisClass := this
  superClass := sup
  interfaces := ifs
  fields := fds
  methods := ms
  attributes := attrs
def plain (name : String) (sup : Option ClassId) : Class where
  name := name
  kind := .ordinary
  loader := none
  accessFlags := 33
  super := sup
  interfaces := #[]
  cf := none
  fields := #[]
  methods := #[]
  instanceTypes := #[]
  staticTypes := #[]
  resolved := #[]
  callSites := []
  init := .initialized
  statics := none
  mirror := none

def pool0 : Array CpInfo := pool [(5, u "<init>"), (0, u "()V"), (1, .class_ 10), (1, u "java/lang/Object")] 113

def k0c0 : Code := { maxStack := 0, maxLocals := 1, code := object_method_1_code, exceptionTable := #[], attributes := #[] }
def k0m0 : Method := { name := "<init>", desc := "()V", sig := { parameters := [], returnType := none }, accessFlags := 1, code := some k0c0 }
/-- java/lang/Object -/
def k0 : Class := { plain "java/lang/Object" none with
  accessFlags := 33
  interfaces := #[]
  cf := some (fileOf pool0 8 #[] #[{ accessFlags := 1, nameIndex := 5, descriptorIndex := 6, attributes := #[] }] 33 0 #[] #[])
  fields := #[]
  methods := #[k0m0]
  instanceTypes := #[]
  staticTypes := #[]
  resolved := Array.replicate 124 none
  statics := none }

def pool1 : Array CpInfo := pool [(2, .class_ 4), (1, u "java/lang/Object"), (0, u "<init>"), (0, u "()V"), (0, .integer 2147483647), (0, .methodref 9 10), (0, .class_ 11), (0, .nameAndType 12 13), (0, u "com/example/bare_migrate/baremigrate/ScriptEqualsPinLaw"), (0, u "text"), (0, u "(ICCC)Ljava/lang/String;"), (0, .class_ 15), (0, u "com/example/bare_migrate/baremigrate/Migration$Script"), (0, .methodref 14 17), (0, .nameAndType 5 18), (0, u "(Ljava/lang/String;)V"), (0, .methodref 14 20), (0, .nameAndType 21 22), (0, u "equals"), (0, u "(Ljava/lang/Object;)Z"), (0, .methodref 9 24), (0, .nameAndType 25 26), (0, u "same"), (0, u "(ICCCICCC)Z"), (0, .class_ 28), (0, u "java/lang/String"), (0, .methodref 27 30), (0, .nameAndType 5 31), (0, u "([C)V"), (2, u "law"), (0, u "(IIII)Z")] 7

def k1m0 : Method := { name := "<init>", desc := "()V", sig := { parameters := [], returnType := none }, accessFlags := 1, code := none }
def k1c1 : Code := { maxStack := 8, maxLocals := 22, code := code, exceptionTable := #[], attributes := #[] }
def k1m1 : Method := { name := "law", desc := "(IIII)Z", sig := { parameters := [.int, .int, .int, .int], returnType := some .boolean }, accessFlags := 9, code := some k1c1 }
def k1c2 : Code := { maxStack := 6, maxLocals := 4, code := method_3_code, exceptionTable := #[], attributes := #[] }
def k1m2 : Method := { name := "text", desc := "(ICCC)Ljava/lang/String;", sig := { parameters := [.int, .char, .char, .char], returnType := some (.object "java/lang/String") }, accessFlags := 10, code := some k1c2 }
def k1c3 : Code := { maxStack := 2, maxLocals := 8, code := method_4_code, exceptionTable := #[], attributes := #[] }
def k1m3 : Method := { name := "same", desc := "(ICCCICCC)Z", sig := { parameters := [.int, .char, .char, .char, .int, .char, .char, .char], returnType := some .boolean }, accessFlags := 10, code := some k1c3 }
/-- com/example/bare_migrate/baremigrate/ScriptEqualsPinLaw -/
def k1 : Class := { plain "com/example/bare_migrate/baremigrate/ScriptEqualsPinLaw" (some 0) with
  accessFlags := 49
  interfaces := #[]
  cf := some (fileOf pool1 9 #[] #[{ accessFlags := 1, nameIndex := 5, descriptorIndex := 6, attributes := #[] }, { accessFlags := 9, nameIndex := 34, descriptorIndex := 35, attributes := #[] }, { accessFlags := 10, nameIndex := 12, descriptorIndex := 13, attributes := #[] }, { accessFlags := 10, nameIndex := 25, descriptorIndex := 26, attributes := #[] }] 49 2 #[] #[])
  fields := #[]
  methods := #[k1m0, k1m1, k1m2, k1m3]
  instanceTypes := #[]
  staticTypes := #[]
  resolved := Array.replicate 43 none
  statics := none }

def pool2 : Array CpInfo := pool [(1, .class_ 2), (0, u "java/io/Serializable"), (0, .class_ 4), (0, u "java/lang/Object")] 2

/-- java/io/Serializable -/
def k2 : Class := { plain "java/io/Serializable" (some 0) with
  accessFlags := 1537
  interfaces := #[]
  cf := some (fileOf pool2 1 #[] #[] 1537 3 #[] #[])
  fields := #[]
  methods := #[]
  instanceTypes := #[]
  staticTypes := #[]
  resolved := Array.replicate 7 none
  statics := none }

def pool3 : Array CpInfo := pool [(1, .class_ 2), (0, u "java/lang/Comparable"), (0, .class_ 4), (0, u "java/lang/Object")] 7

/-- java/lang/Comparable -/
def k3 : Class := { plain "java/lang/Comparable" (some 0) with
  accessFlags := 1537
  interfaces := #[]
  cf := some (fileOf pool3 1 #[] #[] 1537 3 #[] #[])
  fields := #[]
  methods := #[]
  instanceTypes := #[]
  staticTypes := #[]
  resolved := Array.replicate 12 none
  statics := none }

def pool4 : Array CpInfo := pool [(2, .class_ 4), (1, u "java/lang/CharSequence"), (42, .class_ 48), (0, u "java/lang/CharSequence$1CodePointIterator"), (10, .class_ 60), (0, u "java/lang/CharSequence$1CharIterator"), (5, .class_ 67), (0, u "java/lang/Object")] 63

/-- java/lang/CharSequence -/
def k4 : Class := { plain "java/lang/CharSequence" (some 0) with
  accessFlags := 1537
  interfaces := #[]
  cf := some (fileOf pool4 2 #[.nestMembers #[47, 59]] #[] 1537 66 #[] #[])
  fields := #[]
  methods := #[]
  instanceTypes := #[]
  staticTypes := #[]
  resolved := Array.replicate 131 none
  statics := none }

def pool5 : Array CpInfo := pool [(1, .class_ 2), (0, u "java/lang/constant/Constable"), (0, .class_ 4), (0, u "java/lang/Object")] 6

/-- java/lang/constant/Constable -/
def k5 : Class := { plain "java/lang/constant/Constable" (some 0) with
  accessFlags := 1537
  interfaces := #[]
  cf := some (fileOf pool5 1 #[] #[] 1537 3 #[] #[])
  fields := #[]
  methods := #[]
  instanceTypes := #[]
  staticTypes := #[]
  resolved := Array.replicate 11 none
  statics := none }

def pool6 : Array CpInfo := pool [(1, .class_ 2), (0, u "java/lang/constant/ConstantDesc"), (0, .class_ 4), (0, u "java/lang/Object")] 32

/-- java/lang/constant/ConstantDesc -/
def k6 : Class := { plain "java/lang/constant/ConstantDesc" (some 0) with
  accessFlags := 1537
  interfaces := #[]
  cf := some (fileOf pool6 1 #[] #[] 1537 3 #[] #[])
  fields := #[]
  methods := #[]
  instanceTypes := #[]
  staticTypes := #[]
  resolved := Array.replicate 37 none
  statics := none }

def pool7 : Array CpInfo := pool [(1, .methodref 2 3), (0, .class_ 4), (0, .nameAndType 5 6), (0, u "java/lang/Object"), (0, u "<init>"), (0, u "()V"), (0, .string 8), (0, u ""), (0, .fieldref 10 11), (0, .class_ 12), (0, .nameAndType 13 14), (0, u "java/lang/String"), (0, u "value"), (0, u "[B"), (0, .fieldref 10 16), (0, .nameAndType 17 18), (0, u "coder"), (0, u "B"), (2, u "hash"), (0, u "I"), (2, u "hashIsZero"), (0, u "Z"), (0, .methodref 10 28), (0, .nameAndType 5 29), (0, u "([CIILjava/lang/Void;)V"), (8, .fieldref 10 39), (0, .nameAndType 40 26), (0, u "COMPACT_STRINGS"), (1, .class_ 44), (1, u "java/lang/StringUTF16"), (0, u "compress"), (1, .methodref 42 48), (0, .nameAndType 49 50), (0, u "coderFromArrayLen"), (0, u "([BI)B"), (56, .class_ 109), (1, u "java/lang/StringLatin1"), (67, .methodref 42 178), (0, .nameAndType 45 179), (0, u "([CII)[B"), (361, .methodref 107 542), (0, .nameAndType 543 544), (0, u "equals"), (0, u "([B[B)Z"), (28, u "(Ljava/lang/Object;)Z"), (1, .class_ 576), (0, u "java/lang/CharSequence"), (22, u "CASE_INSENSITIVE_ORDER"), (0, u "Ljava/util/Comparator;"), (409, u "([C)V"), (90, u "serialPersistentFields"), (0, u "[Ljava/io/ObjectStreamField;"), (0, .class_ 1104), (0, u "java/lang/String$CaseInsensitiveComparator"), (1, .class_ 1107), (0, u "java/io/Serializable"), (0, .class_ 1109), (0, u "java/lang/Comparable"), (0, .class_ 1111), (0, u "java/lang/constant/Constable"), (0, .class_ 1113), (0, u "java/lang/constant/ConstantDesc"), (2, u "serialVersionUID"), (0, u "J"), (3, u "REPL"), (0, u "C"), (2, u "LATIN1"), (1, u "UTF16")] 323

def k7m0 : Method := { name := "<init>", desc := "()V", sig := { parameters := [], returnType := none }, accessFlags := 1, code := none }
def k7c1 : Code := { maxStack := 5, maxLocals := 2, code := jdk_42_method_3_code, exceptionTable := #[], attributes := #[] }
def k7m1 : Method := { name := "<init>", desc := "([C)V", sig := { parameters := [(.array .char)], returnType := none }, accessFlags := 1, code := some k7c1 }
def k7c2 : Code := { maxStack := 2, maxLocals := 3, code := jdk_42_method_66_code, exceptionTable := #[], attributes := #[] }
def k7m2 : Method := { name := "equals", desc := "(Ljava/lang/Object;)Z", sig := { parameters := [(.object "java/lang/Object")], returnType := some .boolean }, accessFlags := 1, code := some k7c2 }
def k7c3 : Code := { maxStack := 4, maxLocals := 6, code := jdk_42_method_149_code, exceptionTable := #[], attributes := #[] }
def k7m3 : Method := { name := "<init>", desc := "([CIILjava/lang/Void;)V", sig := { parameters := [(.array .char), .int, .int, (.object "java/lang/Void")], returnType := none }, accessFlags := 2, code := some k7c3 }
/-- java/lang/String -/
def k7 : Class := { plain "java/lang/String" (some 0) with
  accessFlags := 49
  interfaces := #[2, 3, 4, 5, 6]
  cf := some (fileOf pool7 10 #[.nestMembers #[1103]] #[{ accessFlags := 1, nameIndex := 5, descriptorIndex := 6, attributes := #[] }, { accessFlags := 1, nameIndex := 5, descriptorIndex := 1010, attributes := #[] }, { accessFlags := 1, nameIndex := 543, descriptorIndex := 573, attributes := #[] }, { accessFlags := 2, nameIndex := 5, descriptorIndex := 29, attributes := #[] }] 49 2 #[1106, 1108, 575, 1110, 1112] #[{ accessFlags := 18, nameIndex := 13, descriptorIndex := 14, attributes := #[] }, { accessFlags := 18, nameIndex := 17, descriptorIndex := 18, attributes := #[] }, { accessFlags := 2, nameIndex := 21, descriptorIndex := 22, attributes := #[] }, { accessFlags := 2, nameIndex := 25, descriptorIndex := 26, attributes := #[] }, { accessFlags := 26, nameIndex := 1116, descriptorIndex := 1117, attributes := #[] }, { accessFlags := 24, nameIndex := 40, descriptorIndex := 26, attributes := #[] }, { accessFlags := 26, nameIndex := 1101, descriptorIndex := 1102, attributes := #[] }, { accessFlags := 26, nameIndex := 1121, descriptorIndex := 1122, attributes := #[] }, { accessFlags := 25, nameIndex := 599, descriptorIndex := 600, attributes := #[] }, { accessFlags := 24, nameIndex := 1125, descriptorIndex := 18, attributes := #[] }, { accessFlags := 24, nameIndex := 1127, descriptorIndex := 18, attributes := #[] }])
  fields := #[{ name := "value", type := (.array .byte), accessFlags := 18, slot := 0, constantValue := 0 }, { name := "coder", type := .byte, accessFlags := 18, slot := 1, constantValue := 0 }, { name := "hash", type := .int, accessFlags := 2, slot := 2, constantValue := 0 }, { name := "hashIsZero", type := .boolean, accessFlags := 2, slot := 3, constantValue := 0 }, { name := "serialVersionUID", type := .long, accessFlags := 26, slot := 0, constantValue := 0 }, { name := "COMPACT_STRINGS", type := .boolean, accessFlags := 24, slot := 1, constantValue := 0 }, { name := "serialPersistentFields", type := (.array (.object "java/io/ObjectStreamField")), accessFlags := 26, slot := 2, constantValue := 0 }, { name := "REPL", type := .char, accessFlags := 26, slot := 3, constantValue := 0 }, { name := "CASE_INSENSITIVE_ORDER", type := (.object "java/util/Comparator"), accessFlags := 25, slot := 4, constantValue := 0 }, { name := "LATIN1", type := .byte, accessFlags := 24, slot := 5, constantValue := 0 }, { name := "UTF16", type := .byte, accessFlags := 24, slot := 6, constantValue := 0 }]
  methods := #[k7m0, k7m1, k7m2, k7m3]
  instanceTypes := #[(.array .byte), .byte, .int, .boolean]
  staticTypes := #[.long, .boolean, (.array (.object "java/io/ObjectStreamField")), .char, (.object "java/util/Comparator"), .byte, .byte]
  resolved := Array.replicate 1451 none
  statics := some 0 }

def pool8 : Array CpInfo := pool [(6, .class_ 8), (1, u "java/lang/Object"), (0, u "<init>"), (0, u "()V"), (1, .class_ 14), (1, u "java/lang/StringUTF16"), (31, u "$assertionsDisabled"), (0, u "Z"), (13, u "HI_BYTE_SHIFT"), (0, u "I"), (2, u "LO_BYTE_SHIFT"), (49, .methodref 12 116), (0, .nameAndType 117 118), (0, u "compress"), (0, u "([CI[BII)I"), (3, u "([CII)[B"), (138, u "coderFromArrayLen"), (0, u "([BI)B"), (106, .class_ 371), (1, u "java/lang/StringUTF16$LinesSpliterator"), (58, u "MAX_LENGTH"), (196, .class_ 628), (0, u "java/lang/StringUTF16$CodePointsSpliterator"), (0, .class_ 630), (0, u "java/lang/StringUTF16$CharsSpliterator")] 4

def k8m0 : Method := { name := "<init>", desc := "()V", sig := { parameters := [], returnType := none }, accessFlags := 0, code := none }
def k8c1 : Code := { maxStack := 2, maxLocals := 2, code := jdk_52_method_15_code, exceptionTable := #[], attributes := #[] }
def k8m1 : Method := { name := "coderFromArrayLen", desc := "([BI)B", sig := { parameters := [(.array .byte), .int], returnType := some .byte }, accessFlags := 8, code := some k8c1 }
def k8c2 : Code := { maxStack := 5, maxLocals := 6, code := jdk_52_method_16_code, exceptionTable := #[], attributes := #[] }
def k8m2 : Method := { name := "compress", desc := "([CII)[B", sig := { parameters := [(.array .char), .int, .int], returnType := some (.array .byte) }, accessFlags := 9, code := some k8c2 }
def k8c3 : Code := { maxStack := 3, maxLocals := 7, code := jdk_52_method_21_code, exceptionTable := #[], attributes := #[] }
def k8m3 : Method := { name := "compress", desc := "([CI[BII)I", sig := { parameters := [(.array .char), .int, (.array .byte), .int, .int], returnType := some .int }, accessFlags := 9, code := some k8c3 }
/-- java/lang/StringUTF16 -/
def k8 : Class := { plain "java/lang/StringUTF16" (some 0) with
  accessFlags := 48
  interfaces := #[]
  cf := some (fileOf pool8 12 #[.nestMembers #[627, 629, 369]] #[{ accessFlags := 0, nameIndex := 9, descriptorIndex := 10, attributes := #[] }, { accessFlags := 8, nameIndex := 261, descriptorIndex := 262, attributes := #[] }, { accessFlags := 9, nameIndex := 117, descriptorIndex := 122, attributes := #[] }, { accessFlags := 9, nameIndex := 117, descriptorIndex := 118, attributes := #[] }] 48 6 #[] #[{ accessFlags := 26, nameIndex := 61, descriptorIndex := 62, attributes := #[] }, { accessFlags := 26, nameIndex := 65, descriptorIndex := 62, attributes := #[] }, { accessFlags := 24, nameIndex := 430, descriptorIndex := 62, attributes := #[] }, { accessFlags := 4120, nameIndex := 46, descriptorIndex := 47, attributes := #[] }])
  fields := #[{ name := "HI_BYTE_SHIFT", type := .int, accessFlags := 26, slot := 0, constantValue := 0 }, { name := "LO_BYTE_SHIFT", type := .int, accessFlags := 26, slot := 1, constantValue := 0 }, { name := "MAX_LENGTH", type := .int, accessFlags := 24, slot := 2, constantValue := 0 }, { name := "$assertionsDisabled", type := .boolean, accessFlags := 4120, slot := 3, constantValue := 0 }]
  methods := #[k8m0, k8m1, k8m2, k8m3]
  instanceTypes := #[]
  staticTypes := #[.int, .int, .int, .boolean]
  resolved := Array.replicate 635 none
  statics := none }

def pool9 : Array CpInfo := pool [(1, .class_ 2), (0, u "com/example/bare_migrate/baremigrate/Migration$Change"), (0, .class_ 4), (0, u "java/lang/Object"), (14, .class_ 20), (0, u "com/example/bare_migrate/baremigrate/Migration")] 5

/-- com/example/bare_migrate/baremigrate/Migration$Change -/
def k9 : Class := { plain "com/example/bare_migrate/baremigrate/Migration$Change" (some 0) with
  accessFlags := 1536
  interfaces := #[]
  cf := some (fileOf pool9 1 #[.nestHost 19] #[] 1536 3 #[] #[])
  fields := #[]
  methods := #[]
  instanceTypes := #[]
  staticTypes := #[]
  resolved := Array.replicate 26 none
  statics := none }

def pool10 : Array CpInfo := pool [(1, .class_ 2), (0, u "com/example/bare_migrate/baremigrate/Migration"), (0, .methodref 4 5), (0, .class_ 6), (0, .nameAndType 7 8), (0, u "java/lang/Object"), (0, u "<init>"), (0, u "()V"), (0, .fieldref 10 11), (0, .class_ 12), (0, .nameAndType 13 14), (0, u "com/example/bare_migrate/baremigrate/Migration$Script"), (0, u "text"), (0, u "Ljava/lang/String;"), (32, .class_ 48), (0, u "java/lang/String"), (23, u "(Ljava/lang/Object;)Z"), (29, .methodref 47 103), (0, .nameAndType 104 72), (0, u "equals"), (10, u "lastSplit"), (0, u "Ljava/lang/ref/SoftReference;"), (28, .class_ 146), (0, u "com/example/bare_migrate/baremigrate/Migration$Change"), (2, u "(Ljava/lang/String;)V")] 45

def k10c0 : Code := { maxStack := 2, maxLocals := 2, code := prog_47_method_1_code, exceptionTable := #[], attributes := #[] }
def k10m0 : Method := { name := "<init>", desc := "(Ljava/lang/String;)V", sig := { parameters := [(.object "java/lang/String")], returnType := none }, accessFlags := 0, code := some k10c0 }
def k10c1 : Code := { maxStack := 2, maxLocals := 3, code := prog_47_method_6_code, exceptionTable := #[], attributes := #[] }
def k10m1 : Method := { name := "equals", desc := "(Ljava/lang/Object;)Z", sig := { parameters := [(.object "java/lang/Object")], returnType := some .boolean }, accessFlags := 1, code := some k10c1 }
/-- com/example/bare_migrate/baremigrate/Migration$Script -/
def k10 : Class := { plain "com/example/bare_migrate/baremigrate/Migration$Script" (some 0) with
  accessFlags := 48
  interfaces := #[9]
  cf := some (fileOf pool10 10 #[.nestHost 1] #[{ accessFlags := 0, nameIndex := 7, descriptorIndex := 149, attributes := #[] }, { accessFlags := 1, nameIndex := 104, descriptorIndex := 72, attributes := #[] }] 48 4 #[145] #[{ accessFlags := 18, nameIndex := 13, descriptorIndex := 14, attributes := #[] }, { accessFlags := 2, nameIndex := 115, descriptorIndex := 116, attributes := #[] }])
  fields := #[{ name := "text", type := (.object "java/lang/String"), accessFlags := 18, slot := 0, constantValue := 0 }, { name := "lastSplit", type := (.object "java/lang/ref/SoftReference"), accessFlags := 2, slot := 1, constantValue := 0 }]
  methods := #[k10m0, k10m1]
  instanceTypes := #[(.object "java/lang/String"), (.object "java/lang/ref/SoftReference")]
  staticTypes := #[]
  resolved := Array.replicate 195 none
  statics := none }

def pool11 : Array CpInfo := pool [(4, .class_ 6), (1, u "java/lang/Object"), (0, u "<init>"), (0, u "()V"), (5, .class_ 16), (1, u "java/lang/StringLatin1"), (104, u "$assertionsDisabled"), (0, u "Z"), (98, .class_ 223), (1, u "java/lang/StringLatin1$LinesSpliterator"), (57, u "equals"), (0, u "([B[B)Z"), (107, .class_ 391), (0, u "java/lang/StringLatin1$CharsSpliterator")] 3

def k11m0 : Method := { name := "<init>", desc := "()V", sig := { parameters := [], returnType := none }, accessFlags := 0, code := none }
def k11c1 : Code := { maxStack := 3, maxLocals := 3, code := jdk_43_method_13_code, exceptionTable := #[], attributes := #[] }
def k11m1 : Method := { name := "equals", desc := "([B[B)Z", sig := { parameters := [(.array .byte), (.array .byte)], returnType := some .boolean }, accessFlags := 9, code := some k11c1 }
/-- java/lang/StringLatin1 -/
def k11 : Class := { plain "java/lang/StringLatin1" (some 0) with
  accessFlags := 48
  interfaces := #[]
  cf := some (fileOf pool11 14 #[.nestMembers #[390, 221]] #[{ accessFlags := 0, nameIndex := 7, descriptorIndex := 8, attributes := #[] }, { accessFlags := 9, nameIndex := 281, descriptorIndex := 282, attributes := #[] }] 48 4 #[] #[{ accessFlags := 4120, nameIndex := 121, descriptorIndex := 122, attributes := #[] }])
  fields := #[{ name := "$assertionsDisabled", type := .boolean, accessFlags := 4120, slot := 0, constantValue := 0 }]
  methods := #[k11m0, k11m1]
  instanceTypes := #[]
  staticTypes := #[.boolean]
  resolved := Array.replicate 395 none
  statics := none }

def pool12 : Array CpInfo := pool [(2, .class_ 4), (1, u "java/lang/Object"), (0, u "<init>"), (0, u "()V"), (17, .class_ 26), (1, u "jdk/internal/util/Preconditions"), (28, .class_ 56), (0, u "jdk/internal/util/Preconditions$4"), (57, .class_ 115), (0, u "jdk/internal/util/Preconditions$1"), (7, u "SIOOBE_FORMATTER"), (0, u "Ljava/util/function/BiFunction;"), (0, .class_ 126), (0, u "jdk/internal/util/Preconditions$2"), (3, u "AIOOBE_FORMATTER"), (0, .class_ 132), (0, u "jdk/internal/util/Preconditions$3"), (3, u "IOOBE_FORMATTER")] 57

def k12m0 : Method := { name := "<init>", desc := "()V", sig := { parameters := [], returnType := none }, accessFlags := 1, code := none }
/-- jdk/internal/util/Preconditions -/
def k12 : Class := { plain "jdk/internal/util/Preconditions" (some 0) with
  accessFlags := 33
  interfaces := #[]
  cf := some (fileOf pool12 24 #[.nestMembers #[55, 131, 125, 114]] #[{ accessFlags := 1, nameIndex := 5, descriptorIndex := 6, attributes := #[] }] 33 2 #[] #[{ accessFlags := 25, nameIndex := 123, descriptorIndex := 124, attributes := #[] }, { accessFlags := 25, nameIndex := 130, descriptorIndex := 124, attributes := #[] }, { accessFlags := 25, nameIndex := 136, descriptorIndex := 124, attributes := #[] }])
  fields := #[{ name := "SIOOBE_FORMATTER", type := (.object "java/util/function/BiFunction"), accessFlags := 25, slot := 0, constantValue := 0 }, { name := "AIOOBE_FORMATTER", type := (.object "java/util/function/BiFunction"), accessFlags := 25, slot := 1, constantValue := 0 }, { name := "IOOBE_FORMATTER", type := (.object "java/util/function/BiFunction"), accessFlags := 25, slot := 2, constantValue := 0 }]
  methods := #[k12m0]
  instanceTypes := #[]
  staticTypes := #[(.object "java/util/function/BiFunction"), (.object "java/util/function/BiFunction"), (.object "java/util/function/BiFunction")]
  resolved := Array.replicate 194 none
  statics := some 1 }

def pool13 : Array CpInfo := pool [(9, u "<init>"), (6, .class_ 18), (1, u "java/lang/Object"), (0, u "()V"), (1, .class_ 23), (1, u "jdk/internal/util/ArraysSupport"), (0, u "LOG2_ARRAY_LONG_INDEX_SCALE"), (0, u "I"), (2, u "U"), (0, u "Ljdk/internal/misc/Unsafe;"), (8, u "BIG_ENDIAN"), (0, u "Z"), (8, u "LOG2_BYTE_BIT_SIZE"), (4, u "LOG2_ARRAY_INT_INDEX_SCALE"), (54, u "JLA"), (0, u "Ljdk/internal/access/JavaLangAccess;"), (11, u "LOG2_ARRAY_BOOLEAN_INDEX_SCALE"), (9, u "LOG2_ARRAY_BYTE_INDEX_SCALE"), (5, u "LOG2_ARRAY_CHAR_INDEX_SCALE"), (5, u "LOG2_ARRAY_SHORT_INDEX_SCALE"), (18, u "LOG2_ARRAY_FLOAT_INDEX_SCALE"), (24, u "LOG2_ARRAY_DOUBLE_INDEX_SCALE"), (89, u "T_BOOLEAN"), (2, u "T_CHAR"), (1, u "T_FLOAT"), (1, u "T_DOUBLE"), (1, u "T_BYTE"), (1, u "T_SHORT"), (1, u "T_INT"), (1, u "T_LONG"), (1, u "SOFT_MAX_ARRAY_LENGTH")] 83

def k13m0 : Method := { name := "<init>", desc := "()V", sig := { parameters := [], returnType := none }, accessFlags := 2, code := none }
/-- jdk/internal/util/ArraysSupport -/
def k13 : Class := { plain "jdk/internal/util/ArraysSupport" (some 0) with
  accessFlags := 33
  interfaces := #[]
  cf := some (fileOf pool13 21 #[] #[{ accessFlags := 2, nameIndex := 9, descriptorIndex := 19, attributes := #[] }] 33 16 #[] #[{ accessFlags := 24, nameIndex := 28, descriptorIndex := 29, attributes := #[] }, { accessFlags := 26, nameIndex := 38, descriptorIndex := 39, attributes := #[] }, { accessFlags := 25, nameIndex := 121, descriptorIndex := 25, attributes := #[] }, { accessFlags := 25, nameIndex := 131, descriptorIndex := 25, attributes := #[] }, { accessFlags := 25, nameIndex := 137, descriptorIndex := 25, attributes := #[] }, { accessFlags := 25, nameIndex := 143, descriptorIndex := 25, attributes := #[] }, { accessFlags := 25, nameIndex := 53, descriptorIndex := 25, attributes := #[] }, { accessFlags := 25, nameIndex := 24, descriptorIndex := 25, attributes := #[] }, { accessFlags := 25, nameIndex := 162, descriptorIndex := 25, attributes := #[] }, { accessFlags := 25, nameIndex := 187, descriptorIndex := 25, attributes := #[] }, { accessFlags := 26, nameIndex := 48, descriptorIndex := 25, attributes := #[] }, { accessFlags := 25, nameIndex := 277, descriptorIndex := 25, attributes := #[] }, { accessFlags := 25, nameIndex := 280, descriptorIndex := 25, attributes := #[] }, { accessFlags := 25, nameIndex := 282, descriptorIndex := 25, attributes := #[] }, { accessFlags := 25, nameIndex := 284, descriptorIndex := 25, attributes := #[] }, { accessFlags := 25, nameIndex := 286, descriptorIndex := 25, attributes := #[] }, { accessFlags := 25, nameIndex := 288, descriptorIndex := 25, attributes := #[] }, { accessFlags := 25, nameIndex := 290, descriptorIndex := 25, attributes := #[] }, { accessFlags := 25, nameIndex := 292, descriptorIndex := 25, attributes := #[] }, { accessFlags := 26, nameIndex := 108, descriptorIndex := 109, attributes := #[] }, { accessFlags := 25, nameIndex := 294, descriptorIndex := 25, attributes := #[] }])
  fields := #[{ name := "U", type := (.object "jdk/internal/misc/Unsafe"), accessFlags := 24, slot := 0, constantValue := 0 }, { name := "BIG_ENDIAN", type := .boolean, accessFlags := 26, slot := 1, constantValue := 0 }, { name := "LOG2_ARRAY_BOOLEAN_INDEX_SCALE", type := .int, accessFlags := 25, slot := 2, constantValue := 0 }, { name := "LOG2_ARRAY_BYTE_INDEX_SCALE", type := .int, accessFlags := 25, slot := 3, constantValue := 0 }, { name := "LOG2_ARRAY_CHAR_INDEX_SCALE", type := .int, accessFlags := 25, slot := 4, constantValue := 0 }, { name := "LOG2_ARRAY_SHORT_INDEX_SCALE", type := .int, accessFlags := 25, slot := 5, constantValue := 0 }, { name := "LOG2_ARRAY_INT_INDEX_SCALE", type := .int, accessFlags := 25, slot := 6, constantValue := 0 }, { name := "LOG2_ARRAY_LONG_INDEX_SCALE", type := .int, accessFlags := 25, slot := 7, constantValue := 0 }, { name := "LOG2_ARRAY_FLOAT_INDEX_SCALE", type := .int, accessFlags := 25, slot := 8, constantValue := 0 }, { name := "LOG2_ARRAY_DOUBLE_INDEX_SCALE", type := .int, accessFlags := 25, slot := 9, constantValue := 0 }, { name := "LOG2_BYTE_BIT_SIZE", type := .int, accessFlags := 26, slot := 10, constantValue := 0 }, { name := "T_BOOLEAN", type := .int, accessFlags := 25, slot := 11, constantValue := 0 }, { name := "T_CHAR", type := .int, accessFlags := 25, slot := 12, constantValue := 0 }, { name := "T_FLOAT", type := .int, accessFlags := 25, slot := 13, constantValue := 0 }, { name := "T_DOUBLE", type := .int, accessFlags := 25, slot := 14, constantValue := 0 }, { name := "T_BYTE", type := .int, accessFlags := 25, slot := 15, constantValue := 0 }, { name := "T_SHORT", type := .int, accessFlags := 25, slot := 16, constantValue := 0 }, { name := "T_INT", type := .int, accessFlags := 25, slot := 17, constantValue := 0 }, { name := "T_LONG", type := .int, accessFlags := 25, slot := 18, constantValue := 0 }, { name := "JLA", type := (.object "jdk/internal/access/JavaLangAccess"), accessFlags := 26, slot := 19, constantValue := 0 }, { name := "SOFT_MAX_ARRAY_LENGTH", type := .int, accessFlags := 25, slot := 20, constantValue := 0 }]
  methods := #[k13m0]
  instanceTypes := #[]
  staticTypes := #[(.object "jdk/internal/misc/Unsafe"), .boolean, .int, .int, .int, .int, .int, .int, .int, .int, .int, .int, .int, .int, .int, .int, .int, .int, .int, (.object "jdk/internal/access/JavaLangAccess"), .int]
  resolved := Array.replicate 378 none
  statics := none }

def pool14 : Array CpInfo := pool [(1, u "java/lang/Cloneable"), (0, .class_ 1), (0, u "java/lang/Object"), (0, .class_ 3)] 3

/-- java/lang/Cloneable -/
def k14 : Class := { plain "java/lang/Cloneable" (some 0) with
  accessFlags := 1537
  interfaces := #[]
  cf := some (fileOf pool14 2 #[] #[] 1537 4 #[] #[])
  fields := #[]
  methods := #[]
  instanceTypes := #[]
  staticTypes := #[]
  resolved := Array.replicate 8 none
  statics := none }

/-- the primitive byte -/
def k15 : Class := { plain "byte" none with kind := .primitive 'B', accessFlags := 0x411 }
/-- [B -/
def k16 : Class := { plain "[B" (some 0) with kind := .array 15 .byte, interfaces := #[14, 2], accessFlags := 1041 }

/-- the primitive char -/
def k17 : Class := { plain "char" none with kind := .primitive 'C', accessFlags := 0x411 }
/-- [C -/
def k18 : Class := { plain "[C" (some 0) with kind := .array 17 .char, interfaces := #[14, 2], accessFlags := 1041 }

/-- the primitive int -/
def k19 : Class := { plain "int" none with kind := .primitive 'I', accessFlags := 0x411 }
/-- [I -/
def k20 : Class := { plain "[I" (some 0) with kind := .array 19 .int, interfaces := #[14, 2], accessFlags := 1041 }

def heap : Heap := #[{ cls := 7, slots := #[.long 0, .int 1, .null, .int 0, .null, .int 0, .int 0], vm := .statics 7 },
  { cls := 12, slots := #[.null, .null, .null], vm := .statics 12 }]
def classes : Array Class := #[k0, k1, k2, k3, k4, k5, k6, k7, k8, k9, k10, k11, k12, k13, k14, k15, k16, k17, k18, k19, k20]
def interned : List (Array UInt16 × Addr) := []
def slotsUsed : Nat := 10
def theMethod : MethodId := ⟨1, 1⟩
def args0 : Array Value := #[.int 5, .int 7, .int 3, .int 11]
def aboutOver (below : List Frame) : State where
  vm := { classes := classes, interned := interned.toArray }
  heap := heap
  slotsUsed := slotsUsed
  threads := #[{ frames := .invoking theMethod args0 :: below }]
def below0 : List Frame := [.native { method := ⟨0, 0⟩, args := #[] }]
def about1 : State := aboutOver below0
def p0 : Program := .bare "" "" ""
def e0 : Env := launch0.env 0 0 0
theorem w_frames : about1.frames = Frame.invoking theMethod args0 :: below0 := rfl
set_option maxRecDepth 65536 in
theorem w_args : argsFit about1.vm theMethod args0 = true := by decide +kernel
set_option maxRecDepth 65536 in
theorem w_heap : heapFits about1 = true := by decide +kernel
set_option maxRecDepth 65536 in
theorem w_runnable : about1.curStatus? = some .runnable := by decide +kernel
set_option maxRecDepth 65536 in
theorem w_alone : about1.alone = true := by decide +kernel
set_option maxRecDepth 65536 in
theorem w_named : about1.methodNamed? x = some theMethod := by decide +kernel
set_option maxRecDepth 65536 in
theorem w_hears : about1.hears theMethod below0 = true := by decide +kernel
set_option maxRecDepth 65536 in
theorem w_ripe : about1.ripe theMethod args0 below0 = true := by decide +kernel
theorem w_running : about1.status = .running := rfl
set_option maxRecDepth 65536 in
theorem w_room : about1.hasRoom e0.platform room_1 = true :=
  launch0.hasRoom_least _ room_1 (by decide +kernel) (by decide +kernel) (by decide +kernel) (by decide +kernel) (by decide +kernel) (by decide +kernel)
theorem allAtoms_all (ts : List Jvm.Cond) (a : Array Jvm.Value) (st : Jvm.State) : (allAtoms ts).before a st = ts.all (fun c => c.before a st) := by
  induction ts with
  | nil => rfl
  | cons c t ih =>
    show (Jvm.Cond.and c (allAtoms t)).before a st = _
    rw [Jvm.Cond.before_and, ih, List.all_cons]
def words1 : List Jvm.Cond := Jvm.Cond.code x code maxLocals ret :: tables_1
/-- a 'code' word, met by the world's own term for the bytes: nothing is compared byte by byte -/
theorem code_word {y : MethodName} {bytes : ByteArray} {mx : Nat} {rt : Option FieldType} {a : Array Value} {s : State} {m : MethodId} {meth : Method} {c : Code} (h1 : s.methodNamed? y = some m) (h2 : s.vm.method? m = some meth) (h3 : meth.code = some c) (h4 : c.code = bytes)
    (h5 : (c.maxLocals == mx && c.exceptionTable.isEmpty && decide (c.maxStack ≤ mostOperands) && decide (meth.sig.returnType = rt) && !meth.locks && decide (parseMethodDescriptor y.desc = some meth.sig)) = true) : (Jvm.Cond.code y bytes mx rt).before a s = true := by
  simp only [Bool.and_eq_true, beq_iff_eq, Bool.not_eq_true', decide_eq_true_eq] at h5
  obtain ⟨⟨⟨⟨⟨g1, g2⟩, g3⟩, g4⟩, g5⟩, g6⟩ := h5
  simp [Cond.before, Cond.holds, Cond.value, h1, h2, h3, h4, g1, g2, g3, g4, g5, g6]
def isCode : Jvm.Cond → Bool
  | .code _ _ _ _ => true
  | _ => false
theorem all_split {L : List Jvm.Cond} {P : Jvm.Cond → Bool} (h1 : L.all (fun c => isCode c || P c) = true) (h2 : ∀ c ∈ L.filter isCode, P c = true) : L.all P = true := by
  refine List.all_eq_true.mpr fun c hc => ?_
  have h := List.all_eq_true.mp h1 c hc
  rcases Bool.eq_false_or_eq_true (isCode c) with hi | hi
  · exact h2 c (List.mem_filter.mpr ⟨hc, hi⟩)
  · simpa [hi] using h
set_option maxRecDepth 65536 in
theorem w_c0 : (Jvm.Cond.code x code maxLocals ret).before args0 about1 = true := code_word (m := ⟨1, 1⟩) (meth := k1m1) (c := k1c1) (by decide +kernel) rfl rfl rfl (by decide +kernel)
set_option maxRecDepth 65536 in
theorem w_c1 : (Jvm.Cond.code ({ cls := "com/example/bare_migrate/baremigrate/ScriptEqualsPinLaw", name := "text", desc := "(ICCC)Ljava/lang/String;" } : Jvm.MethodName) method_3_code (4 : Nat) (Option.some (Jvm.ClassFile.FieldType.object "java/lang/String"))).before args0 about1 = true := code_word (m := ⟨1, 2⟩) (meth := k1m2) (c := k1c2) (by decide +kernel) rfl rfl rfl (by decide +kernel)
set_option maxRecDepth 65536 in
theorem w_c2 : (Jvm.Cond.code ({ cls := "java/lang/String", name := "<init>", desc := "([C)V" } : Jvm.MethodName) jdk_42_method_3_code (2 : Nat) (Option.none : Option Jvm.ClassFile.FieldType)).before args0 about1 = true := code_word (m := ⟨7, 1⟩) (meth := k7m1) (c := k7c1) (by decide +kernel) rfl rfl rfl (by decide +kernel)
set_option maxRecDepth 65536 in
theorem w_c3 : (Jvm.Cond.code ({ cls := "java/lang/String", name := "<init>", desc := "([CIILjava/lang/Void;)V" } : Jvm.MethodName) jdk_42_method_149_code (6 : Nat) (Option.none : Option Jvm.ClassFile.FieldType)).before args0 about1 = true := code_word (m := ⟨7, 3⟩) (meth := k7m3) (c := k7c3) (by decide +kernel) rfl rfl rfl (by decide +kernel)
set_option maxRecDepth 65536 in
theorem w_c4 : (Jvm.Cond.code ({ cls := "java/lang/Object", name := "<init>", desc := "()V" } : Jvm.MethodName) object_method_1_code (1 : Nat) (Option.none : Option Jvm.ClassFile.FieldType)).before args0 about1 = true := code_word (m := ⟨0, 0⟩) (meth := k0m0) (c := k0c0) (by decide +kernel) rfl rfl rfl (by decide +kernel)
set_option maxRecDepth 65536 in
theorem w_c5 : (Jvm.Cond.code ({ cls := "java/lang/StringUTF16", name := "compress", desc := "([CII)[B" } : Jvm.MethodName) jdk_52_method_16_code (6 : Nat) (Option.some (Jvm.ClassFile.FieldType.array Jvm.ClassFile.FieldType.byte))).before args0 about1 = true := code_word (m := ⟨8, 2⟩) (meth := k8m2) (c := k8c2) (by decide +kernel) rfl rfl rfl (by decide +kernel)
set_option maxRecDepth 65536 in
theorem w_c6 : (Jvm.Cond.code ({ cls := "java/lang/StringUTF16", name := "compress", desc := "([CI[BII)I" } : Jvm.MethodName) jdk_52_method_21_code (7 : Nat) (Option.some Jvm.ClassFile.FieldType.int)).before args0 about1 = true := code_word (m := ⟨8, 3⟩) (meth := k8m3) (c := k8c3) (by decide +kernel) rfl rfl rfl (by decide +kernel)
set_option maxRecDepth 65536 in
theorem w_c7 : (Jvm.Cond.code ({ cls := "java/lang/StringUTF16", name := "coderFromArrayLen", desc := "([BI)B" } : Jvm.MethodName) jdk_52_method_15_code (2 : Nat) (Option.some Jvm.ClassFile.FieldType.byte)).before args0 about1 = true := code_word (m := ⟨8, 1⟩) (meth := k8m1) (c := k8c1) (by decide +kernel) rfl rfl rfl (by decide +kernel)
set_option maxRecDepth 65536 in
theorem w_c8 : (Jvm.Cond.code ({ cls := "com/example/bare_migrate/baremigrate/Migration$Script", name := "<init>", desc := "(Ljava/lang/String;)V" } : Jvm.MethodName) prog_47_method_1_code (2 : Nat) (Option.none : Option Jvm.ClassFile.FieldType)).before args0 about1 = true := code_word (m := ⟨10, 0⟩) (meth := k10m0) (c := k10c0) (by decide +kernel) rfl rfl rfl (by decide +kernel)
set_option maxRecDepth 65536 in
theorem w_c9 : (Jvm.Cond.code ({ cls := "com/example/bare_migrate/baremigrate/ScriptEqualsPinLaw", name := "same", desc := "(ICCCICCC)Z" } : Jvm.MethodName) method_4_code (8 : Nat) (Option.some Jvm.ClassFile.FieldType.boolean)).before args0 about1 = true := code_word (m := ⟨1, 3⟩) (meth := k1m3) (c := k1c3) (by decide +kernel) rfl rfl rfl (by decide +kernel)
set_option maxRecDepth 65536 in
theorem w_c10 : (Jvm.Cond.code ({ cls := "com/example/bare_migrate/baremigrate/Migration$Script", name := "equals", desc := "(Ljava/lang/Object;)Z" } : Jvm.MethodName) prog_47_method_6_code (3 : Nat) (Option.some Jvm.ClassFile.FieldType.boolean)).before args0 about1 = true := code_word (m := ⟨10, 1⟩) (meth := k10m1) (c := k10c1) (by decide +kernel) rfl rfl rfl (by decide +kernel)
set_option maxRecDepth 65536 in
theorem w_c11 : (Jvm.Cond.code ({ cls := "java/lang/String", name := "equals", desc := "(Ljava/lang/Object;)Z" } : Jvm.MethodName) jdk_42_method_66_code (3 : Nat) (Option.some Jvm.ClassFile.FieldType.boolean)).before args0 about1 = true := code_word (m := ⟨7, 2⟩) (meth := k7m2) (c := k7c2) (by decide +kernel) rfl rfl rfl (by decide +kernel)
set_option maxRecDepth 65536 in
theorem w_c12 : (Jvm.Cond.code ({ cls := "java/lang/StringLatin1", name := "equals", desc := "([B[B)Z" } : Jvm.MethodName) jdk_43_method_13_code (3 : Nat) (Option.some Jvm.ClassFile.FieldType.boolean)).before args0 about1 = true := code_word (m := ⟨11, 1⟩) (meth := k11m1) (c := k11c1) (by decide +kernel) rfl rfl rfl (by decide +kernel)
def codes1 : List Jvm.Cond := [Jvm.Cond.code x code maxLocals ret, Jvm.Cond.code ({ cls := "com/example/bare_migrate/baremigrate/ScriptEqualsPinLaw", name := "text", desc := "(ICCC)Ljava/lang/String;" } : Jvm.MethodName) method_3_code (4 : Nat) (Option.some (Jvm.ClassFile.FieldType.object "java/lang/String")), Jvm.Cond.code ({ cls := "java/lang/String", name := "<init>", desc := "([C)V" } : Jvm.MethodName) jdk_42_method_3_code (2 : Nat) (Option.none : Option Jvm.ClassFile.FieldType), Jvm.Cond.code ({ cls := "java/lang/String", name := "<init>", desc := "([CIILjava/lang/Void;)V" } : Jvm.MethodName) jdk_42_method_149_code (6 : Nat) (Option.none : Option Jvm.ClassFile.FieldType), Jvm.Cond.code ({ cls := "java/lang/Object", name := "<init>", desc := "()V" } : Jvm.MethodName) object_method_1_code (1 : Nat) (Option.none : Option Jvm.ClassFile.FieldType), Jvm.Cond.code ({ cls := "java/lang/StringUTF16", name := "compress", desc := "([CII)[B" } : Jvm.MethodName) jdk_52_method_16_code (6 : Nat) (Option.some (Jvm.ClassFile.FieldType.array Jvm.ClassFile.FieldType.byte)), Jvm.Cond.code ({ cls := "java/lang/StringUTF16", name := "compress", desc := "([CI[BII)I" } : Jvm.MethodName) jdk_52_method_21_code (7 : Nat) (Option.some Jvm.ClassFile.FieldType.int), Jvm.Cond.code ({ cls := "java/lang/StringUTF16", name := "coderFromArrayLen", desc := "([BI)B" } : Jvm.MethodName) jdk_52_method_15_code (2 : Nat) (Option.some Jvm.ClassFile.FieldType.byte), Jvm.Cond.code ({ cls := "com/example/bare_migrate/baremigrate/Migration$Script", name := "<init>", desc := "(Ljava/lang/String;)V" } : Jvm.MethodName) prog_47_method_1_code (2 : Nat) (Option.none : Option Jvm.ClassFile.FieldType), Jvm.Cond.code ({ cls := "com/example/bare_migrate/baremigrate/ScriptEqualsPinLaw", name := "same", desc := "(ICCCICCC)Z" } : Jvm.MethodName) method_4_code (8 : Nat) (Option.some Jvm.ClassFile.FieldType.boolean), Jvm.Cond.code ({ cls := "com/example/bare_migrate/baremigrate/Migration$Script", name := "equals", desc := "(Ljava/lang/Object;)Z" } : Jvm.MethodName) prog_47_method_6_code (3 : Nat) (Option.some Jvm.ClassFile.FieldType.boolean), Jvm.Cond.code ({ cls := "java/lang/String", name := "equals", desc := "(Ljava/lang/Object;)Z" } : Jvm.MethodName) jdk_42_method_66_code (3 : Nat) (Option.some Jvm.ClassFile.FieldType.boolean), Jvm.Cond.code ({ cls := "java/lang/StringLatin1", name := "equals", desc := "([B[B)Z" } : Jvm.MethodName) jdk_43_method_13_code (3 : Nat) (Option.some Jvm.ClassFile.FieldType.boolean)]
set_option maxRecDepth 65536 in
theorem codes_eq : words1.filter isCode = codes1 := rfl
theorem w_codes : ∀ c ∈ words1.filter isCode, c.before args0 about1 = true := by
  rw [codes_eq]
  intro c hc
  simp only [codes1, List.mem_cons, List.not_mem_nil, or_false] at hc
  rcases hc with rfl | rfl | rfl | rfl | rfl | rfl | rfl | rfl | rfl | rfl | rfl | rfl | rfl
  · exact w_c0
  · exact w_c1
  · exact w_c2
  · exact w_c3
  · exact w_c4
  · exact w_c5
  · exact w_c6
  · exact w_c7
  · exact w_c8
  · exact w_c9
  · exact w_c10
  · exact w_c11
  · exact w_c12
set_option maxRecDepth 65536 in
theorem w_t1 : (words1.take 24).all (fun c => isCode c || c.before args0 about1) = true := by decide +kernel
set_option maxRecDepth 65536 in
theorem w_t2 : ((words1.drop 24).take 24).all (fun c => isCode c || c.before args0 about1) = true := by decide +kernel
set_option maxRecDepth 65536 in
theorem w_t3 : ((words1.drop 24).drop 24).all (fun c => isCode c || c.before args0 about1) = true := by decide +kernel
theorem w_tables : (allAtoms (Jvm.Cond.code x code maxLocals ret :: tables_1)).before args0 about1 = true := by
  rw [allAtoms_all]
  show words1.all (fun c => c.before args0 about1) = true
  refine all_split ?_ w_codes
  rw [← List.take_append_drop 24 words1, List.all_append, w_t1, ← List.take_append_drop 24 (words1.drop 24), List.all_append, w_t2, w_t3]
  rfl
set_option maxRecDepth 65536 in
theorem w_rest : rest_1_c.before args0 about1 = true := by decide +kernel
set_option maxRecDepth 65536 in
theorem w_case : (Jvm.Cond.and given_1 narrow_1).before args0 about1 = true := by decide +kernel
set_option maxRecDepth 65536 in
theorem w_consts : constsHeld consts_1 about1 := Jvm.Lit.constsHeldB_iff.mp (by decide +kernel)
theorem w_applies : (headSpec (Jvm.Cond.code x code maxLocals ret :: tables_1) room_1).applies x e0.platform about1 = true :=
  (Spec.applies_iff w_frames).mpr ⟨w_running, w_runnable, w_alone, w_named, w_hears, w_ripe, w_room, w_tables⟩
theorem atStart : AtStart classFile x code maxLocals ret World_1 tables_1 room_1 Calls_1 rest_1 Pre_1 launch0 p0 e0 about1 theMethod args0 below0 :=
  ⟨lists_1, trivial, launch0.admits_env _ _ _, launch0.least_env, fairChoices_fair.cas, fairChoices_fair.clock, w_frames, w_args, w_heap, w_applies, ⟨w_consts, trivial⟩, w_rest, w_case⟩
end start1
theorem witness_1 : WitnessClaimed_1 := ⟨start1.p0, start1.e0, start1.about1, start1.theMethod, start1.args0, start1.below0, start1.atStart⟩
end Jvm.Pilot.@@N@@
