import JvmDerived
import JvmDerived.Pilot.@@N@@Statement
import JvmDerived.Pilot.@@N@@Code
set_option linter.unusedVariables false
set_option linter.unusedSimpArgs false
/- laws to paste: Road.backV, Road.eqW, Road.codOf (cut by pick.py; bodies as the Statement names them) -/
namespace Jvm.Pilot.@@N@@
namespace StrChars
open Jvm Sem ClassFile Op Lib Jvm.Stand Jvm.Free.XT Jvm.Free.ALB Jvm.Free.JM Jvm.Free
open Jvm.Lib.Cold (StaticIs)
/-- a char array whose places are chars -/
def Ch (a : Addr) (A : Cell) (U : State) : Prop := Arr .char a A U ∧ Typed .char A
theorem Ch.mv {a : Addr} {A : Cell} {U U' : State} (h : Ch a A U) (hal : U.vm.Alike U'.vm) (hh : U'.heap = U.heap) : Ch a A U' := ⟨h.1.mv hal hh, h.2⟩
theorem Ch.keep {a : Addr} {A : Cell} {U U' : State} (h : Ch a A U) (hal : U.vm.Alike U'.vm) (hk : U'.heap[a]? = some A) : Ch a A U' := ⟨h.1.keep hal hk, h.2⟩
/-- what place i of a char[]'s cell holds -/
def cv (A : Cell) (i : Nat) : Int32 := match A.slots[i]? with | some (.int x) => x | _ => 0
theorem Ch.get {a : Addr} {A : Cell} {U : State} (h : Ch a A U) {i : Nat} (hi : i < A.slots.size) : A.slots[i]? = some (.int (cv A i)) := by
  have e := Array.getElem?_eq_getElem hi
  have f := h.2 i _ e
  unfold cv; rw [e]
  generalize A.slots[i] = v at f
  cases v <;> simp [fits] at f ⊢
/-- the byte that i2b leaves of a char -/
def lo8 (x : Int32) : Int32 := x.toInt8.toInt32
theorem fits_lo8 (y : Int32) : fits .byte (.int (lo8 y)) = true := by
  have h1 := y.toInt8.le_toInt
  have h2 := y.toInt8.toInt_lt
  simp only [lo8, fits, Bool.and_eq_true, decide_eq_true_eq, Int32.le_iff_toInt_le, Int8.toInt_toInt32, show (-128 : Int32).toInt = -128 from by decide, show (127 : Int32).toInt = 127 from by decide]
  omega
/-- A' is A but that each place j of lo .. hi - 1 holds f j -/
def Laid (A A' : Cell) (lo hi : Nat) (f : Nat → Value) : Prop := A'.cls = A.cls ∧ A'.vm = A.vm ∧ A'.slots.size = A.slots.size ∧ ∀ i, A'.slots[i]? = if lo ≤ i ∧ i < hi then some (f i) else A.slots[i]?
theorem Laid.zero (A : Cell) (lo : Nat) (f : Nat → Value) : Laid A A lo (lo + 0) f := ⟨rfl, rfl, rfl, fun i => by rw [if_neg (by omega)]⟩
theorem Laid.step {A Ak : Cell} {lo k : Nat} {f : Nat → Value} {v : Value} (h : Laid A Ak lo k f) (hlo : lo ≤ k) (hk : k < Ak.slots.size) (hv : v = f k) : Laid A (Ak.setSlot k v) lo (k + 1) f := by
  refine ⟨h.1, h.2.1, by simpa [Cell.setSlot] using h.2.2.1, fun i => ?_⟩
  by_cases e : k = i
  · subst e; rw [Cell.slots_setSlot_self v hk, if_pos (by omega), hv]
  · rw [Cell.slots_setSlot_ne v e, h.2.2.2 i]
    by_cases q : lo ≤ i ∧ i < k
    · rw [if_pos q, if_pos (by omega)]
    · rw [if_neg q, if_neg (by omega)]
def U16 : String := "java/lang/StringUTF16"
namespace Cmp5
def yN : MethodName := ⟨"java/lang/StringUTF16", "compress", "([CI[BII)I"⟩
abbrev yB : ByteArray := jdk_52_method_21_code
theorem d0 : decode yB 0 = .ok (.iconst 0, 1) := by decide +kernel
theorem d1 : decode yB 1 = .ok (.istore 5, 2) := by decide +kernel
theorem d3 : decode yB 3 = .ok (.iload 5, 2) := by decide +kernel
theorem d5 : decode yB 5 = .ok (.iload 4, 2) := by decide +kernel
theorem d7 : decode yB 7 = .ok (.if_icmp (.ge) 37, 3) := by decide +kernel
theorem d10 : decode yB 10 = .ok (.aload_n 0, 1) := by decide +kernel
theorem d11 : decode yB 11 = .ok (.iload_n 1, 1) := by decide +kernel
theorem d12 : decode yB 12 = .ok (.caload, 1) := by decide +kernel
theorem d13 : decode yB 13 = .ok (.istore 6, 2) := by decide +kernel
theorem d15 : decode yB 15 = .ok (.iload 6, 2) := by decide +kernel
theorem d17 : decode yB 17 = .ok (.sipush 255, 3) := by decide +kernel
theorem d20 : decode yB 20 = .ok (.if_icmp (.le) 6, 3) := by decide +kernel
theorem d26 : decode yB 26 = .ok (.aload_n 2, 1) := by decide +kernel
theorem d27 : decode yB 27 = .ok (.iload_n 3, 1) := by decide +kernel
theorem d28 : decode yB 28 = .ok (.iload 6, 2) := by decide +kernel
theorem d30 : decode yB 30 = .ok (.i2b, 1) := by decide +kernel
theorem d31 : decode yB 31 = .ok (.bastore, 1) := by decide +kernel
theorem d32 : decode yB 32 = .ok (.iinc 1 1, 3) := by decide +kernel
theorem d35 : decode yB 35 = .ok (.iinc 3 1, 3) := by decide +kernel
theorem d38 : decode yB 38 = .ok (.iinc 5 1, 3) := by decide +kernel
theorem d41 : decode yB 41 = .ok (.goto (-38), 3) := by decide +kernel
theorem d44 : decode yB 44 = .ok (.iload 4, 2) := by decide +kernel
theorem d46 : decode yB 46 = .ok (.ireturn, 1) := by decide +kernel
def site : List Cond := []
def tab : Cond := tabOf yN yB 7 (some .int) site
def P (b : Addr) (A : Cell) (d : Addr) (B : Cell) (o q len : Nat) (args : Array Value) (s : State) : Prop := args = #[.ref b, .int (Int32.ofNat o), .ref d, .int (Int32.ofNat q), .int (Int32.ofNat len)] ∧ Ch b A s ∧ Arr .byte d B s ∧ b ≠ d ∧ o + len ≤ A.slots.size ∧ q + len ≤ B.slots.size ∧ ∀ i, i < len → ¬ 255 < cv A (o + i)
def E (b : Addr) (A : Cell) (d : Addr) (B : Cell) (o q len : Nat) (r : Option Value) (s u : State) : Prop := r = some (.int (Int32.ofNat len)) ∧ ∃ B', Put d B' s u ∧ Laid B B' q (q + len) (fun j => Value.int (lo8 (cv A (o + (j - q)))))
/-- no char of the range above 255: len; the places written hold each char's low byte -/
theorem law (l : Launch) (b : Addr) (A : Cell) (d : Addr) (B : Cell) (o q len : Nat) : Law l yN 5 5 0 0 yB 7 (some .int) site (P b A d B o q len) (E b A d B o q len) (copyLocs d q len) 0 0 := by
  refine Law.of_walk (plainFor_of_name (by decide +kernel)) (by decide +kernel) (by decide +kernel) (by decide) (fun _ _ h => by rw [h.1]; rfl) (fun _ U U' hal hh h => ⟨h.1, h.2.1.mv hal hh, h.2.2.1.mv hal hh, h.2.2.2⟩) (fun r U U' V V' h1 hal h2 h => ⟨h.1, h.2.elim fun B' q => ⟨B', q.1.mv h1 h2, q.2⟩⟩) ?_
  intro p e s m args below meth c s₁ X0 hexec hbytes hml hret hlk hnm hown hh0 W hP
  obtain ⟨rfl, hA, hB, hne, l1, l2, hp⟩ := hP
  have c1 : Steps p.tables e below (s₁.setTop (entryFrame m #[.ref b, .int (Int32.ofNat o), .ref d, .int (Int32.ofNat q), .int (Int32.ofNat len)] 7)) (s₁.setTop (mkF m 0 #[.val (.ref b), .val (.int (Int32.ofNat o)), .val (.ref d), .val (.int (Int32.ofNat q)), .val (.int (Int32.ofNat len)), .unset, .unset] [])) := entry rfl
  have hA0 := hA.1.mv X0.warmed.alike hh0
  have hB0 := hB.mv X0.warmed.alike hh0
  have a31 := hA.1.2.2.2
  have c2 : Steps p.tables e below (s₁.setTop (entryFrame m #[.ref b, .int (Int32.ofNat o), .ref d, .int (Int32.ofNat q), .int (Int32.ofNat len)] 7)) (s₁.setTop (mkF m 3 #[.val (.ref b), .val (.int (Int32.ofNat o)), .val (.ref d), .val (.int (Int32.ofNat q)), .val (.int (Int32.ofNat len)), .val (.int 0), .unset] [])) := c1.trans (by
    refine iconstV X0.here hexec rfl 0 (hb hbytes d0) (by decide) ?_
    refine XS.istore X0.here hexec rfl (hb hbytes d1) rfl rfl ?_
    exact Steps.refl _)
  have loop : ∀ (r i : Nat), i + r = len → ∀ (z : Slot), (z = .unset ∨ ∃ w, z = .val w ∧ w.category = 1) → ∀ (Tl : State) (Bk : Cell), Stand p l e { frames := 0, locals := 0, cells := 0, slots := 0 } s m #[.ref b, .int (Int32.ofNat o), .ref d, .int (Int32.ofNat q), .int (Int32.ofNat len)] below meth c Tl ([] ++ copyLocs d q i) 0 0 → Put d Bk s₁ Tl → Laid B Bk q (q + i) (fun j => Value.int (lo8 (cv A (o + (j - q))))) →
      Steps p.tables e below (s₁.setTop (entryFrame m #[.ref b, .int (Int32.ofNat o), .ref d, .int (Int32.ofNat q), .int (Int32.ofNat len)] 7)) (Tl.setTop (mkF m 3 #[.val (.ref b), .val (.int (Int32.ofNat (o + i))), .val (.ref d), .val (.int (Int32.ofNat (q + i))), .val (.int (Int32.ofNat len)), .val (.int (Int32.ofNat i)), z] [])) → ∃ (T' : State) (B' : Cell) (z' : Slot), Stand p l e { frames := 0, locals := 0, cells := 0, slots := 0 } s m #[.ref b, .int (Int32.ofNat o), .ref d, .int (Int32.ofNat q), .int (Int32.ofNat len)] below meth c T' ([] ++ copyLocs d q len) 0 0 ∧ Put d B' s₁ T' ∧ Laid B B' q (q + len) (fun j => Value.int (lo8 (cv A (o + (j - q))))) ∧
      Steps p.tables e below (s₁.setTop (entryFrame m #[.ref b, .int (Int32.ofNat o), .ref d, .int (Int32.ofNat q), .int (Int32.ofNat len)] 7)) (T'.setTop (mkF m 3 #[.val (.ref b), .val (.int (Int32.ofNat (o + len))), .val (.ref d), .val (.int (Int32.ofNat (q + len))), .val (.int (Int32.ofNat len)), .val (.int (Int32.ofNat len)), z'] [])) := by
    intro r
    induction r with
    | zero =>
      intro i hi z hz Tl Bk Xl pl fl cl
      have hil : i = len := by omega
      rw [hil] at Xl fl cl
      exact ⟨Tl, Bk, z, Xl, pl, fl, cl⟩
    | succ r ih =>
      intro i hi z hz Tl Bk Xl pl fl cl
      have all := X0.warmed.alike.symm.trans Xl.warmed.alike
      have hAl := hA0.keep all (pl.other hne hA0.1)
      have hBk := hB0.like all pl.1 fl.1 fl.2.1 fl.2.2.1
      have hlt : q + i < Bk.slots.size := by rw [fl.2.2.1]; omega
      have c3 : Steps p.tables e below (s₁.setTop (entryFrame m #[.ref b, .int (Int32.ofNat o), .ref d, .int (Int32.ofNat q), .int (Int32.ofNat len)] 7)) (Tl.setTop (mkF m 12 #[.val (.ref b), .val (.int (Int32.ofNat (o + i))), .val (.ref d), .val (.int (Int32.ofNat (q + i))), .val (.int (Int32.ofNat len)), .val (.int (Int32.ofNat i)), z] [.int (Int32.ofNat (o + i)), .ref b])) := cl.trans (by
        refine XS.iload Xl.here hexec rfl (hb hbytes d3) rfl ?_
        refine XS.iload Xl.here hexec rfl (hb hbytes d5) rfl ?_
        refine XS.icmpNo Xl.here hexec rfl (hb hbytes d7) rfl (ii_ge_f (lt32 (by omega) (by omega))) ?_
        refine XS.aloadN Xl.here hexec rfl (hb hbytes d10) rfl rfl ?_
        refine XS.iloadN Xl.here hexec rfl (hb hbytes d11) rfl ?_
        exact Steps.refl _)
      have c4 : Steps p.tables e below (s₁.setTop (entryFrame m #[.ref b, .int (Int32.ofNat o), .ref d, .int (Int32.ofNat q), .int (Int32.ofNat len)] 7)) (Tl.setTop (mkF m 13 #[.val (.ref b), .val (.int (Int32.ofNat (o + i))), .val (.ref d), .val (.int (Int32.ofNat (q + i))), .val (.int (Int32.ofNat len)), .val (.int (Int32.ofNat i)), z] [.int (cv A (o + i))])) := c3.trans (by
        refine Xl.aget hexec hAl rfl (hA.get (i := o + i) (by omega)) rfl rfl (hb hbytes d12) ?_
        exact Steps.refl _)
      have c5 : Steps p.tables e below (s₁.setTop (entryFrame m #[.ref b, .int (Int32.ofNat o), .ref d, .int (Int32.ofNat q), .int (Int32.ofNat len)] 7)) (Tl.setTop (mkF m 15 #[.val (.ref b), .val (.int (Int32.ofNat (o + i))), .val (.ref d), .val (.int (Int32.ofNat (q + i))), .val (.int (Int32.ofNat len)), .val (.int (Int32.ofNat i)), .val (.int (cv A (o + i)))] [])) := c4.trans (by
        refine XS.istoreS Xl.here hexec rfl (hb hbytes d13) rfl rfl hz ?_
        exact Steps.refl _)
      have c6 : Steps p.tables e below (s₁.setTop (entryFrame m #[.ref b, .int (Int32.ofNat o), .ref d, .int (Int32.ofNat q), .int (Int32.ofNat len)] 7)) (Tl.setTop (mkF m 31 #[.val (.ref b), .val (.int (Int32.ofNat (o + i))), .val (.ref d), .val (.int (Int32.ofNat (q + i))), .val (.int (Int32.ofNat len)), .val (.int (Int32.ofNat i)), .val (.int (cv A (o + i)))] [.int (lo8 (cv A (o + i))), .int (Int32.ofNat (q + i)), .ref d])) := c5.trans (by
        refine XS.iload Xl.here hexec rfl (hb hbytes d15) rfl ?_
        refine sipushV Xl.here hexec rfl 255 (hb hbytes d17) (by decide) ?_
        refine XS.icmpYes Xl.here hexec rfl (pc0 := 20) rfl (hb hbytes d20) rfl (ii_le_t (hp i (by omega))) (by decide) rfl ?_
        refine XS.aloadN Xl.here hexec rfl (hb hbytes d26) rfl rfl ?_
        refine XS.iloadN Xl.here hexec rfl (hb hbytes d27) rfl ?_
        refine XS.iload Xl.here hexec rfl (hb hbytes d28) rfl ?_
        refine i2b Xl.here hexec rfl (hb hbytes d30) rfl ?_
        exact Steps.refl _)
      obtain ⟨T7, X7, p7, st7⟩ := Xl.aput hexec hBk rfl hlt rfl (fits_lo8 (cv A (o + i))) (g := (mkF m 31 #[.val (.ref b), .val (.int (Int32.ofNat (o + i))), .val (.ref d), .val (.int (Int32.ofNat (q + i))), .val (.int (Int32.ofNat len)), .val (.int (Int32.ofNat i)), .val (.int (cv A (o + i)))] [.int (lo8 (cv A (o + i))), .int (Int32.ofNat (q + i)), .ref d])) rfl (rest := []) rfl (hb hbytes d31)
      have c8 : Steps p.tables e below (s₁.setTop (entryFrame m #[.ref b, .int (Int32.ofNat o), .ref d, .int (Int32.ofNat q), .int (Int32.ofNat len)] 7)) (T7.setTop (mkF m 32 #[.val (.ref b), .val (.int (Int32.ofNat (o + i))), .val (.ref d), .val (.int (Int32.ofNat (q + i))), .val (.int (Int32.ofNat len)), .val (.int (Int32.ofNat i)), .val (.int (cv A (o + i)))] [])) := c6.trans (st7 _ (Steps.refl _))
      have c9 : Steps p.tables e below (s₁.setTop (entryFrame m #[.ref b, .int (Int32.ofNat o), .ref d, .int (Int32.ofNat q), .int (Int32.ofNat len)] 7)) (T7.setTop (mkF m 3 #[.val (.ref b), .val (.int (Int32.ofNat (o + i) + 1)), .val (.ref d), .val (.int (Int32.ofNat (q + i) + 1)), .val (.int (Int32.ofNat len)), .val (.int (Int32.ofNat i + 1)), .val (.int (cv A (o + i)))] [])) := c8.trans (by
        refine iincV X7.here hexec rfl 1 (hb hbytes d32) (by decide) rfl rfl ?_
        refine iincV X7.here hexec rfl 1 (hb hbytes d35) (by decide) rfl rfl ?_
        refine iincV X7.here hexec rfl 1 (hb hbytes d38) (by decide) rfl rfl ?_
        refine XS.goto X7.here hexec rfl (pc0 := 41) rfl (hb hbytes d41) (by decide) rfl ?_
        exact Steps.refl _)
      have c10 : Steps p.tables e below (s₁.setTop (entryFrame m #[.ref b, .int (Int32.ofNat o), .ref d, .int (Int32.ofNat q), .int (Int32.ofNat len)] 7)) (T7.setTop (mkF m 3 #[.val (.ref b), .val (.int (Int32.ofNat (o + (i + 1)))), .val (.ref d), .val (.int (Int32.ofNat (q + (i + 1)))), .val (.int (Int32.ofNat len)), .val (.int (Int32.ofNat (i + 1))), .val (.int (cv A (o + i)))] [])) := by
        have := c9
        rw [succ32, succ32, succ32] at this
        exact this
      exact ih (i + 1) (by omega) _ (Or.inr ⟨_, rfl, rfl⟩) T7 _ (by rw [copyLocs_step, ← List.append_assoc]; exact X7) (pl.trans p7) (fl.step (by omega) hlt (by simp)) c10
  obtain ⟨T9, B9, z9, X9, p9, f9, g9⟩ := loop len 0 (by omega) .unset (Or.inl rfl) s₁ B (by simpa [copyLocs] using X0) ⟨hB0.1, fun _ _ => rfl, rfl⟩ (Laid.zero _ _ _) c2
  have c11 : Steps p.tables e below (s₁.setTop (entryFrame m #[.ref b, .int (Int32.ofNat o), .ref d, .int (Int32.ofNat q), .int (Int32.ofNat len)] 7)) (T9.setTop (mkF m 46 #[.val (.ref b), .val (.int (Int32.ofNat (o + len))), .val (.ref d), .val (.int (Int32.ofNat (q + len))), .val (.int (Int32.ofNat len)), .val (.int (Int32.ofNat len)), z9] [.int (Int32.ofNat len)])) := g9.trans (by
    refine XS.iload X9.here hexec rfl (hb hbytes d3) rfl ?_
    refine XS.iload X9.here hexec rfl (hb hbytes d5) rfl ?_
    refine XS.icmpYes X9.here hexec rfl (pc0 := 7) rfl (hb hbytes d7) rfl (ii_ge_t (nlt32 (by omega) (Nat.le_refl _))) (by decide) rfl ?_
    refine XS.iload X9.here hexec rfl (hb hbytes d44) rfl ?_
    exact Steps.refl _)
  exact ⟨T9, some (.int (Int32.ofNat len)), _, _, _, X9, by simp, rfl, rfl, (fun h => by cases h), ⟨rfl, B9, p9.from hh0, f9⟩, fun fs hl => c11.trans (X9.ireturnOut hexec hret rfl (Or.inl rfl) (hb hbytes d46) hl)⟩
end Cmp5
namespace Cmp3
def yN : MethodName := ⟨"java/lang/StringUTF16", "compress", "([CII)[B"⟩
abbrev yB : ByteArray := jdk_52_method_16_code
theorem d0 : decode yB 0 = .ok (.iload_n 2, 1) := by decide +kernel
theorem d1 : decode yB 1 = .ok (.newarray .byte, 2) := by decide +kernel
theorem d3 : decode yB 3 = .ok (.astore_n 3, 1) := by decide +kernel
theorem d4 : decode yB 4 = .ok (.aload_n 0, 1) := by decide +kernel
theorem d5 : decode yB 5 = .ok (.iload_n 1, 1) := by decide +kernel
theorem d6 : decode yB 6 = .ok (.aload_n 3, 1) := by decide +kernel
theorem d7 : decode yB 7 = .ok (.iconst 0, 1) := by decide +kernel
theorem d8 : decode yB 8 = .ok (.iload_n 2, 1) := by decide +kernel
theorem d9 : decode yB 9 = .ok (.invokestatic 115, 3) := by decide +kernel
theorem d12 : decode yB 12 = .ok (.istore 4, 2) := by decide +kernel
theorem d14 : decode yB 14 = .ok (.iload 4, 2) := by decide +kernel
theorem d16 : decode yB 16 = .ok (.iload_n 2, 1) := by decide +kernel
theorem d17 : decode yB 17 = .ok (.if_icmp (.eq) 40, 3) := by decide +kernel
theorem d57 : decode yB 57 = .ok (.aload_n 3, 1) := by decide +kernel
theorem d58 : decode yB 58 = .ok (.areturn, 1) := by decide +kernel
def site : List Cond := [.arrayClass .byte, Cmp5.tab] ++ staticW U16 115 Cmp5.yN
def tab : Cond := tabOf yN yB 6 (some (.array .byte)) site
def P (b : Addr) (A : Cell) (o len : Nat) (args : Array Value) (s : State) : Prop := args = #[.ref b, .int (Int32.ofNat o), .int (Int32.ofNat len)] ∧ Ch b A s ∧ o + len ≤ A.slots.size ∧ len ≤ 536870912 ∧ ∀ i, i < len → ¬ 255 < cv A (o + i)
def E (b : Addr) (A : Cell) (o len : Nat) (r : Option Value) (s u : State) : Prop := NewArr .byte "[B" len (fun j => .int (lo8 (cv A (o + j)))) r s u ∧ u.heap.size = s.heap.size + 1
/-- no char of the range above 255: a new byte[] of their low bytes -/
theorem law (l : Launch) (b : Addr) (A : Cell) (o len : Nat) : Law l yN 3 3 1 18 yB 6 (some (.array .byte)) site (P b A o len) (E b A o len) [] 1 len := by
  refine Law.of_walk (plainFor_of_name (by decide +kernel)) (by decide +kernel) (by decide +kernel) (by decide) (fun _ _ h => by rw [h.1]; rfl) (fun _ U U' hal hh h => ⟨h.1, h.2.1.mv hal hh, h.2.2⟩) (fun r U U' V V' h1 hal h2 h => ⟨NewArr.mv r U U' V V' h1 hal h2 h.1, by rw [h1, h2]; exact h.2⟩) ?_
  intro p e s m args below meth c s₁ X0 hexec hbytes hml hret hlk hnm hown hh0 W hP
  obtain ⟨rfl, hA, l1, l2, hp⟩ := hP
  have a31 := hA.1.2.2.2
  have c1 : Steps p.tables e below (s₁.setTop (entryFrame m #[.ref b, .int (Int32.ofNat o), .int (Int32.ofNat len)] 6)) (s₁.setTop (mkF m 0 #[.val (.ref b), .val (.int (Int32.ofNat o)), .val (.int (Int32.ofNat len)), .unset, .unset, .unset] [])) := entry rfl
  have c2 : Steps p.tables e below (s₁.setTop (entryFrame m #[.ref b, .int (Int32.ofNat o), .int (Int32.ofNat len)] 6)) (s₁.setTop (mkF m 1 #[.val (.ref b), .val (.int (Int32.ofNat o)), .val (.int (Int32.ofNat len)), .unset, .unset, .unset] [.int (Int32.ofNat len)])) := c1.trans (by
    refine XS.iloadN X0.here hexec rfl (hb hbytes d0) rfl ?_
    exact Steps.refl _)
  obtain ⟨T3, B3, X3, ba3, bs3, bv3, bh3, bf3, st3⟩ := X0.anew hexec (atype := .byte) (wk W (.arrayClass .byte)) rfl (by show len * 1 ≤ _; omega) (by omega) (g := (mkF m 1 #[.val (.ref b), .val (.int (Int32.ofNat o)), .val (.int (Int32.ofNat len)), .unset, .unset, .unset] [.int (Int32.ofNat len)])) rfl (hb hbytes d1) (rest := []) rfl (Nat.le_refl _) (by show 0 + len ≤ len; omega)
  rw [hh0] at ba3 st3
  have kp3 : XT.Kept s T3 := (XT.Kept.of_eq hh0).push bh3
  have hA3 := hA.keep X3.warmed.alike (kp3 _ _ hA.1.1)
  have hne : b ≠ s.heap.size := hA.1.ne
  have c4 : Steps p.tables e below (s₁.setTop (entryFrame m #[.ref b, .int (Int32.ofNat o), .int (Int32.ofNat len)] 6)) (T3.setTop (mkF m 3 #[.val (.ref b), .val (.int (Int32.ofNat o)), .val (.int (Int32.ofNat len)), .unset, .unset, .unset] [.ref s.heap.size])) := c2.trans (st3 _ (Steps.refl _))
  have c5 : Steps p.tables e below (s₁.setTop (entryFrame m #[.ref b, .int (Int32.ofNat o), .int (Int32.ofNat len)] 6)) (T3.setTop (mkF m 9 #[.val (.ref b), .val (.int (Int32.ofNat o)), .val (.int (Int32.ofNat len)), .val (.ref s.heap.size), .unset, .unset] [.int (Int32.ofNat len), .int 0, .ref s.heap.size, .int (Int32.ofNat o), .ref b])) := c4.trans (by
    refine XS.astoreN X3.here hexec rfl (hb hbytes d3) rfl rfl rfl ?_
    refine XS.aloadN X3.here hexec rfl (hb hbytes d4) rfl rfl ?_
    refine XS.iloadN X3.here hexec rfl (hb hbytes d5) rfl ?_
    refine XS.aloadN X3.here hexec rfl (hb hbytes d6) rfl rfl ?_
    refine iconstV X3.here hexec rfl 0 (hb hbytes d7) (by decide) ?_
    refine XS.iloadN X3.here hexec rfl (hb hbytes d8) rfl ?_
    exact Steps.refl _)
  obtain ⟨v6, T6, X6, E6, g6⟩ := X3.callS hexec (Cmp5.law l b A s.heap.size B3 o 0 len) hown (wks W (staticW U16 115 Cmp5.yN)) (wk W Cmp5.tab) (W := 0) (Nat.le_of_ble_eq_true rfl) (Nat.le_of_ble_eq_true rfl) (Nat.le_refl _) (by show 0 + len + 0 ≤ len; omega) (g := (mkF m 9 #[.val (.ref b), .val (.int (Int32.ofNat o)), .val (.int (Int32.ofNat len)), .val (.ref s.heap.size), .unset, .unset] [.int (Int32.ofNat len), .int (Int32.ofNat 0), .ref s.heap.size, .int (Int32.ofNat o), .ref b])) rfl (by rw [hml]; rfl) c5 (argsL := [.ref b, .int (Int32.ofNat o), .ref s.heap.size, .int (Int32.ofNat 0), .int (Int32.ofNat len)]) (rest := []) rfl rfl (by show 2 * 0 + 0 ≤ _; decide) (hb hbytes d9) (⟨rfl, hA3, ba3, hne, l1, by rw [bs3]; simp, hp⟩)
  obtain ⟨rfl, B6, p6, f6⟩ := E6
  have c7 : Steps p.tables e below (s₁.setTop (entryFrame m #[.ref b, .int (Int32.ofNat o), .int (Int32.ofNat len)] 6)) (T6.setTop (mkF m 12 #[.val (.ref b), .val (.int (Int32.ofNat o)), .val (.int (Int32.ofNat len)), .val (.ref s.heap.size), .unset, .unset] [.int (Int32.ofNat len)])) := g6
  have c8 : Steps p.tables e below (s₁.setTop (entryFrame m #[.ref b, .int (Int32.ofNat o), .int (Int32.ofNat len)] 6)) (T6.setTop (mkF m 58 #[.val (.ref b), .val (.int (Int32.ofNat o)), .val (.int (Int32.ofNat len)), .val (.ref s.heap.size), .val (.int (Int32.ofNat len)), .unset] [.ref s.heap.size])) := c7.trans (by
    refine XS.istore X6.here hexec rfl (hb hbytes d12) rfl rfl ?_
    refine XS.iload X6.here hexec rfl (hb hbytes d14) rfl ?_
    refine XS.iloadN X6.here hexec rfl (hb hbytes d16) rfl ?_
    refine XS.icmpYes X6.here hexec rfl (pc0 := 17) rfl (hb hbytes d17) rfl (ii_eq_t rfl) (by decide) rfl ?_
    refine XS.aloadN X6.here hexec rfl (hb hbytes d57) rfl rfl ?_
    exact Steps.refl _)
  have X8 := X6.wide (L' := []) (cells' := 1) (slots' := len) (fun x hx hlt => by
    simp only [List.nil_append, copyLocs, List.mem_map, List.mem_range] at hx
    obtain ⟨i, -, rfl⟩ := hx
    exact absurd hlt (Nat.lt_irrefl _)) (Nat.le_refl _) (by omega)
  exact ⟨T6, some (.ref s.heap.size), _, _, _, X8, rfl, rfl, rfl, (fun h => by cases h), ⟨⟨rfl, B6, ba3.like (X3.warmed.alike.symm.trans X6.warmed.alike) p6.1 f6.1 f6.2.1 f6.2.2.1, f6.2.1.trans bv3, by rw [X6.warmed.alike.findClass, f6.1]; exact bf3, by rw [f6.2.2.1, bs3]; simp, fun j hj => by rw [f6.2.2.2 j, if_pos (by omega)]; rfl, kp3.put p6 (Nat.le_refl _)⟩, by rw [p6.2.2, bh3, hh0]; simp⟩, fun fs hl => c8.trans (X8.areturnOut hexec rfl hret rfl (hb hbytes d58) hl)⟩
end Cmp3
namespace CodL
def yN : MethodName := ⟨"java/lang/StringUTF16", "coderFromArrayLen", "([BI)B"⟩
abbrev yB : ByteArray := jdk_52_method_15_code
theorem d0 : decode yB 0 = .ok (.iload_n 1, 1) := by decide +kernel
theorem d1 : decode yB 1 = .ok (.aload_n 0, 1) := by decide +kernel
theorem d2 : decode yB 2 = .ok (.arraylength, 1) := by decide +kernel
theorem d3 : decode yB 3 = .ok (.isub, 1) := by decide +kernel
theorem d4 : decode yB 4 = .ok (.bipush 31, 2) := by decide +kernel
theorem d6 : decode yB 6 = .ok (.iushr, 1) := by decide +kernel
theorem d7 : decode yB 7 = .ok (.i2b, 1) := by decide +kernel
theorem d8 : decode yB 8 = .ok (.ireturn, 1) := by decide +kernel
def site : List Cond := []
def tab : Cond := tabOf yN yB 2 (some .byte) site
def P (d : Addr) (B : Cell) (args : Array Value) (s : State) : Prop := args = #[.ref d, .int (Int32.ofNat B.slots.size)] ∧ Arr .byte d B s
def E (r : Option Value) (s u : State) : Prop := XT.PureE (some (.int 0)) r s u
/-- an array as long as the number of chars: LATIN1 -/
theorem law (l : Launch) (d : Addr) (B : Cell) : Law l yN 2 2 0 0 yB 2 (some .byte) site (P d B) E [] 0 0 := by
  refine Law.of_walk (plainFor_of_name (by decide +kernel)) (by decide +kernel) (by decide +kernel) (by decide) (fun _ _ h => by rw [h.1]; rfl) (fun _ U U' hal hh h => ⟨h.1, h.2.mv hal hh⟩) (fun r U U' V V' h1 hal h2 h => XT.PureE.mv r U U' V V' h1 hal h2 h) ?_
  intro p e s m args below meth c s₁ X0 hexec hbytes hml hret hlk hnm hown hh0 W hP
  obtain ⟨rfl, hB⟩ := hP
  have hB0 := hB.mv X0.warmed.alike hh0
  have c1 : Steps p.tables e below (s₁.setTop (entryFrame m #[.ref d, .int (Int32.ofNat B.slots.size)] 2)) (s₁.setTop (mkF m 0 #[.val (.ref d), .val (.int (Int32.ofNat B.slots.size))] [])) := entry rfl
  have c2 : Steps p.tables e below (s₁.setTop (entryFrame m #[.ref d, .int (Int32.ofNat B.slots.size)] 2)) (s₁.setTop (mkF m 2 #[.val (.ref d), .val (.int (Int32.ofNat B.slots.size))] [.ref d, .int (Int32.ofNat B.slots.size)])) := c1.trans (by
    refine XS.iloadN X0.here hexec rfl (hb hbytes d0) rfl ?_
    refine XS.aloadN X0.here hexec rfl (hb hbytes d1) rfl rfl ?_
    exact Steps.refl _)
  have c3 : Steps p.tables e below (s₁.setTop (entryFrame m #[.ref d, .int (Int32.ofNat B.slots.size)] 2)) (s₁.setTop (mkF m 8 #[.val (.ref d), .val (.int (Int32.ofNat B.slots.size))] [.int (lo8 (ushr (Int32.ofNat B.slots.size - Int32.ofNat B.slots.size) 31))])) := c2.trans (by
    refine X0.alen hexec hB0 rfl rfl (hb hbytes d2) ?_
    refine XS.isub X0.here hexec rfl (hb hbytes d3) rfl ?_
    refine bipushV X0.here hexec rfl 31 (hb hbytes d4) (by decide) ?_
    refine iushr X0.here hexec rfl (hb hbytes d6) rfl ?_
    refine i2b X0.here hexec rfl (hb hbytes d7) rfl ?_
    exact Steps.refl _)
  have e0 : lo8 (ushr (Int32.ofNat B.slots.size - Int32.ofNat B.slots.size) 31) = 0 := by rw [Int32.sub_self]; decide
  rw [e0] at c3
  exact ⟨s₁, some (.int 0), _, _, _, X0, rfl, rfl, rfl, (fun h => by cases h), ⟨rfl, hh0⟩, fun fs hl => c3.trans (X0.ireturnOut hexec hret rfl (Or.inr (Or.inr (Or.inl rfl))) (hb hbytes d8) hl)⟩
end CodL
/-- the String at a is Latin-1 over a new byte[] (the heap's one new cell): the low bytes of the len chars of A from o on; every cell but a is kept -/
def Got (a : Addr) (D : Cell) (fV fC : Field) (A : Cell) (o len : Nat) (r : Option Value) (s u : State) : Prop := r = none ∧ ∃ D' V : Cell, Blank "java/lang/String" a D' u ∧ Same D D' [fV.slot, fC.slot] ∧ D'.slots[fV.slot]? = some (.ref s.heap.size) ∧ D'.slots[fC.slot]? = some (.int 0) ∧ Arr .byte s.heap.size V u ∧ V.vm = .none ∧ u.vm.findClass "[B" = some V.cls ∧ V.slots.size = len ∧ (∀ j, j < len → V.slots[j]? = some (.int (lo8 (cv A (o + j))))) ∧ (∀ (y : Addr) (c : Cell), y ≠ a → s.heap[y]? = some c → u.heap[y]? = some c) ∧ u.heap.size = s.heap.size + 1
theorem Got.mv {a : Addr} {D A : Cell} {fV fC : Field} {o len : Nat} : ∀ r (U U' V V' : State), U'.heap = U.heap → V.vm.Alike V'.vm → V'.heap = V.heap → Got a D fV fC A o len r U V → Got a D fV fC A o len r U' V' :=
  fun r U U' V V' h1 hal h2 ⟨e0, D', X, a1, a2, a3, a4, a5, a6, a7, a8, a9, a10, a11⟩ => ⟨e0, D', X, a1.mv hal h2, a2, by rw [h1]; exact a3, a4, by rw [h1]; exact a5.mv hal h2, a6, by rw [hal.findClass]; exact a7, a8, a9, by rw [h1, h2]; exact a10, by rw [h1, h2]; exact a11⟩
namespace New4
def yN : MethodName := ⟨"java/lang/String", "<init>", "([CIILjava/lang/Void;)V"⟩
abbrev yB : ByteArray := jdk_42_method_149_code
theorem d0 : decode yB 0 = .ok (.aload_n 0, 1) := by decide +kernel
theorem d1 : decode yB 1 = .ok (.invokespecial 1, 3) := by decide +kernel
theorem d4 : decode yB 4 = .ok (.iload_n 3, 1) := by decide +kernel
theorem d5 : decode yB 5 = .ok (.ifCond (.ne) 22, 3) := by decide +kernel
theorem d27 : decode yB 27 = .ok (.getstatic 38, 3) := by decide +kernel
theorem d30 : decode yB 30 = .ok (.ifCond (.eq) 28, 3) := by decide +kernel
theorem d33 : decode yB 33 = .ok (.aload_n 1, 1) := by decide +kernel
theorem d34 : decode yB 34 = .ok (.iload_n 2, 1) := by decide +kernel
theorem d35 : decode yB 35 = .ok (.iload_n 3, 1) := by decide +kernel
theorem d36 : decode yB 36 = .ok (.invokestatic 177, 3) := by decide +kernel
theorem d39 : decode yB 39 = .ok (.astore 5, 2) := by decide +kernel
theorem d41 : decode yB 41 = .ok (.aload_n 0, 1) := by decide +kernel
theorem d42 : decode yB 42 = .ok (.aload 5, 2) := by decide +kernel
theorem d44 : decode yB 44 = .ok (.iload_n 3, 1) := by decide +kernel
theorem d45 : decode yB 45 = .ok (.invokestatic 47, 3) := by decide +kernel
theorem d48 : decode yB 48 = .ok (.putfield 15, 3) := by decide +kernel
theorem d51 : decode yB 51 = .ok (.aload_n 0, 1) := by decide +kernel
theorem d52 : decode yB 52 = .ok (.aload 5, 2) := by decide +kernel
theorem d54 : decode yB 54 = .ok (.putfield 9, 3) := by decide +kernel
theorem d57 : decode yB 57 = .ok (.return_, 1) := by decide +kernel
def site : List Cond := [.fieldLink "java/lang/String" 38 "java/lang/String" "COMPACT_STRINGS" "Z", Cmp3.tab, CodL.tab, .laysFinal "java/lang/String" "java/lang/String" "value" "[B", .fieldLink "java/lang/String" 9 "java/lang/String" "value" "[B", .laysFinal "java/lang/String" "java/lang/String" "coder" "B", .fieldLink "java/lang/String" 15 "java/lang/String" "coder" "B"] ++ objW "java/lang/String" 1 ++ staticW "java/lang/String" 177 Cmp3.yN ++ staticW "java/lang/String" 47 CodL.yN
def tab : Cond := tabOf yN yB 6 none site
def P (a : Addr) (D : Cell) (fV fC : Field) (b : Addr) (A : Cell) (z : Int32) (o len : Nat) (args : Array Value) (s : State) : Prop := args = #[.ref a, .ref b, .int (Int32.ofNat o), .int (Int32.ofNat len), .null] ∧ Blank "java/lang/String" a D s ∧ Found "java/lang/String" "value" "[B" fV s ∧ Found "java/lang/String" "coder" "B" fC s ∧ Ch b A s ∧ StaticIs s "java/lang/String" "COMPACT_STRINGS" "Z" (.int z) ∧ ¬ z = 0 ∧ 0 < len ∧ o + len ≤ A.slots.size ∧ len ≤ 536870912 ∧ ∀ i, i < len → ¬ 255 < cv A (o + i)
def E (a : Addr) (D : Cell) (fV fC : Field) (A : Cell) (o len : Nat) (r : Option Value) (s u : State) : Prop := Got a D fV fC A o len r s u
/-- len > 0, no char of the range above 255: a Latin-1 String of their low bytes -/
theorem law (l : Launch) (a : Addr) (D : Cell) (fV fC : Field) (b : Addr) (A : Cell) (z : Int32) (o len : Nat) : Law l yN 5 4 2 35 yB 6 none site (P a D fV fC b A z o len) (E a D fV fC A o len) [⟨a, fC.slot⟩, ⟨a, fV.slot⟩] 1 len := by
  refine Law.of_walk (plainFor_of_name (by decide +kernel)) (by decide +kernel) (by decide +kernel) (by decide) (fun _ _ h => by rw [h.1]; rfl) (fun _ U U' hal hh h => ⟨h.1, h.2.1.mv hal hh, h.2.2.1.al hal, h.2.2.2.1.al hal, h.2.2.2.2.1.mv hal hh, h.2.2.2.2.2.1.there hal hh, h.2.2.2.2.2.2⟩) (fun r U U' V V' h1 hal h2 h => Got.mv r U U' V V' h1 hal h2 h) ?_
  intro p e s m args below meth c s₁ X0 hexec hbytes hml hret hlk hnm hown hh0 W hP
  obtain ⟨rfl, hB, f1, f2, hA, s1, hz, l0, l1, l2, hp⟩ := hP
  have a31 := hA.1.2.2.2
  have c1 : Steps p.tables e below (s₁.setTop (entryFrame m #[.ref a, .ref b, .int (Int32.ofNat o), .int (Int32.ofNat len), .null] 6)) (s₁.setTop (mkF m 0 #[.val (.ref a), .val (.ref b), .val (.int (Int32.ofNat o)), .val (.int (Int32.ofNat len)), .val .null, .unset] [])) := entry rfl
  have c2 : Steps p.tables e below (s₁.setTop (entryFrame m #[.ref a, .ref b, .int (Int32.ofNat o), .int (Int32.ofNat len), .null] 6)) (s₁.setTop (mkF m 1 #[.val (.ref a), .val (.ref b), .val (.int (Int32.ofNat o)), .val (.int (Int32.ofNat len)), .val .null, .unset] [.ref a])) := c1.trans (by
    refine XS.aloadN X0.here hexec rfl (hb hbytes d0) rfl rfl ?_
    exact Steps.refl _)
  obtain ⟨T3, X3, q3, st3⟩ := X0.oinit hexec hown (wks W (objW "java/lang/String" 1)) (g := (mkF m 1 #[.val (.ref a), .val (.ref b), .val (.int (Int32.ofNat o)), .val (.int (Int32.ofNat len)), .val .null, .unset] [.ref a])) rfl (by rw [hml]; rfl) (rest := []) rfl (hb hbytes d1) (W := 0) (by show 2 * 0 + 0 ≤ _; decide) (Nat.le_of_ble_eq_true rfl) (Nat.le_of_ble_eq_true rfl)
  have hh3 := q3.trans hh0
  have c4 : Steps p.tables e below (s₁.setTop (entryFrame m #[.ref a, .ref b, .int (Int32.ofNat o), .int (Int32.ofNat len), .null] 6)) (T3.setTop (mkF m 27 #[.val (.ref a), .val (.ref b), .val (.int (Int32.ofNat o)), .val (.int (Int32.ofNat len)), .val .null, .unset] [])) := (c2.trans (st3 _ (Steps.refl _))).trans (by
    refine XS.iloadN X3.here hexec rfl (hb hbytes d4) rfl ?_
    refine XS.ifYes X3.here hexec rfl (pc0 := 5) rfl (hb hbytes d5) rfl (i0_ne_t (nz32 (by omega) l0)) (by decide) rfl ?_
    exact Steps.refl _)
  obtain ⟨T5, X5, q5, st5⟩ := X3.sget hexec hown (wk W (.fieldLink "java/lang/String" 38 "java/lang/String" "COMPACT_STRINGS" "Z")) s1 (fun _ _ h => by rw [hh3]; exact h) (g := (mkF m 27 #[.val (.ref a), .val (.ref b), .val (.int (Int32.ofNat o)), .val (.int (Int32.ofNat len)), .val .null, .unset] [])) rfl (hb hbytes d27)
  have hh5 := q5.trans hh3
  have c6 : Steps p.tables e below (s₁.setTop (entryFrame m #[.ref a, .ref b, .int (Int32.ofNat o), .int (Int32.ofNat len), .null] 6)) (T5.setTop (mkF m 30 #[.val (.ref a), .val (.ref b), .val (.int (Int32.ofNat o)), .val (.int (Int32.ofNat len)), .val .null, .unset] [.int z])) := c4.trans (st5 _ (Steps.refl _))
  have c7 : Steps p.tables e below (s₁.setTop (entryFrame m #[.ref a, .ref b, .int (Int32.ofNat o), .int (Int32.ofNat len), .null] 6)) (T5.setTop (mkF m 36 #[.val (.ref a), .val (.ref b), .val (.int (Int32.ofNat o)), .val (.int (Int32.ofNat len)), .val .null, .unset] [.int (Int32.ofNat len), .int (Int32.ofNat o), .ref b])) := c6.trans (by
    refine XS.ifNo X5.here hexec rfl (hb hbytes d30) rfl (i0_eq_f hz) ?_
    refine XS.aloadN X5.here hexec rfl (hb hbytes d33) rfl rfl ?_
    refine XS.iloadN X5.here hexec rfl (hb hbytes d34) rfl ?_
    refine XS.iloadN X5.here hexec rfl (hb hbytes d35) rfl ?_
    exact Steps.refl _)
  obtain ⟨v8, T8, X8, E8, g8⟩ := X5.callS hexec (Cmp3.law l b A o len) hown (wks W (staticW "java/lang/String" 177 Cmp3.yN)) (wk W Cmp3.tab) (W := 0) (Nat.le_of_ble_eq_true rfl) (Nat.le_of_ble_eq_true rfl) (Nat.le_refl _) (by show 0 + len ≤ len; omega) (g := (mkF m 36 #[.val (.ref a), .val (.ref b), .val (.int (Int32.ofNat o)), .val (.int (Int32.ofNat len)), .val .null, .unset] [.int (Int32.ofNat len), .int (Int32.ofNat o), .ref b])) rfl (by rw [hml]; rfl) c7 (argsL := [.ref b, .int (Int32.ofNat o), .int (Int32.ofNat len)]) (rest := []) rfl rfl (by show 2 * 0 + 0 ≤ _; decide) (hb hbytes d36) (⟨rfl, hA.mv X5.warmed.alike hh5, l1, l2, hp⟩)
  obtain ⟨e8, z8⟩ := E8
  obtain ⟨rfl, N, n1, n2, n3, n4, n5, n6⟩ := NewArr.mv _ T5 s _ _ hh5.symm (Vm.Alike.refl _) rfl e8
  rw [hh5] at z8
  have hB1 := hB.keep X8.warmed.alike (n6 _ _ hB.1)
  have hne : s.heap.size ≠ a := (Nat.ne_of_lt (Array.getElem?_eq_some_iff.mp hB.1).1).symm
  have c9 : Steps p.tables e below (s₁.setTop (entryFrame m #[.ref a, .ref b, .int (Int32.ofNat o), .int (Int32.ofNat len), .null] 6)) (T8.setTop (mkF m 39 #[.val (.ref a), .val (.ref b), .val (.int (Int32.ofNat o)), .val (.int (Int32.ofNat len)), .val .null, .unset] [.ref s.heap.size])) := g8
  have c10 : Steps p.tables e below (s₁.setTop (entryFrame m #[.ref a, .ref b, .int (Int32.ofNat o), .int (Int32.ofNat len), .null] 6)) (T8.setTop (mkF m 45 #[.val (.ref a), .val (.ref b), .val (.int (Int32.ofNat o)), .val (.int (Int32.ofNat len)), .val .null, .val (.ref s.heap.size)] [.int (Int32.ofNat N.slots.size), .ref s.heap.size, .ref a])) := by
    have hc : Steps p.tables e below (s₁.setTop (entryFrame m #[.ref a, .ref b, .int (Int32.ofNat o), .int (Int32.ofNat len), .null] 6)) (T8.setTop (mkF m 45 #[.val (.ref a), .val (.ref b), .val (.int (Int32.ofNat o)), .val (.int (Int32.ofNat len)), .val .null, .val (.ref s.heap.size)] [.int (Int32.ofNat len), .ref s.heap.size, .ref a])) := c9.trans (by
      refine XS.astore X8.here hexec rfl (hb hbytes d39) rfl rfl rfl ?_
      refine XS.aloadN X8.here hexec rfl (hb hbytes d41) rfl rfl ?_
      refine XS.aload X8.here hexec rfl (hb hbytes d42) rfl rfl ?_
      refine XS.iloadN X8.here hexec rfl (hb hbytes d44) rfl ?_
      exact Steps.refl _)
    rw [n4]; exact hc
  obtain ⟨v11, T11, X11, E11, g11⟩ := X8.callS hexec (CodL.law l s.heap.size N) hown (wks W (staticW "java/lang/String" 47 CodL.yN)) (wk W CodL.tab) (W := 1) (Nat.le_of_ble_eq_true rfl) (Nat.le_of_ble_eq_true rfl) (Nat.le_refl _) (by show 0 + len + 0 ≤ len; omega) (g := (mkF m 45 #[.val (.ref a), .val (.ref b), .val (.int (Int32.ofNat o)), .val (.int (Int32.ofNat len)), .val .null, .val (.ref s.heap.size)] [.int (Int32.ofNat N.slots.size), .ref s.heap.size, .ref a])) rfl (by rw [hml]; rfl) c10 (argsL := [.ref s.heap.size, .int (Int32.ofNat N.slots.size)]) (rest := [.ref a]) rfl rfl (by show 2 * 0 + (1 + 0) ≤ _; decide) (hb hbytes d45) (⟨rfl, n1⟩)
  obtain ⟨rfl, q11⟩ := E11
  have hB11 := hB1.mv (X8.warmed.alike.symm.trans X11.warmed.alike) q11
  have c12 : Steps p.tables e below (s₁.setTop (entryFrame m #[.ref a, .ref b, .int (Int32.ofNat o), .int (Int32.ofNat len), .null] 6)) (T11.setTop (mkF m 48 #[.val (.ref a), .val (.ref b), .val (.int (Int32.ofNat o)), .val (.int (Int32.ofNat len)), .val .null, .val (.ref s.heap.size)] [.int 0, .ref a])) := g11
  obtain ⟨T13, X13, p13, bl13, sl13, st13⟩ := X11.finit hexec hown (wk W (.fieldLink "java/lang/String" 15 "java/lang/String" "coder" "B")) (Or.inr ⟨_, (wk W (.laysFinal "java/lang/String" "java/lang/String" "coder" "B"))⟩) (Or.inl ⟨rfl, hnm⟩) f2 (Or.inl rfl) hB11 (t := .byte) (by decide +kernel) rfl (g := (mkF m 48 #[.val (.ref a), .val (.ref b), .val (.int (Int32.ofNat o)), .val (.int (Int32.ofNat len)), .val .null, .val (.ref s.heap.size)] [.int 0, .ref a])) rfl (rest := []) rfl (hb hbytes d48)
  have c14 : Steps p.tables e below (s₁.setTop (entryFrame m #[.ref a, .ref b, .int (Int32.ofNat o), .int (Int32.ofNat len), .null] 6)) (T13.setTop (mkF m 54 #[.val (.ref a), .val (.ref b), .val (.int (Int32.ofNat o)), .val (.int (Int32.ofNat len)), .val .null, .val (.ref s.heap.size)] [.ref s.heap.size, .ref a])) := (c12.trans (st13 _ (Steps.refl _))).trans (by
    refine XS.aloadN X13.here hexec rfl (hb hbytes d51) rfl rfl ?_
    refine XS.aload X13.here hexec rfl (hb hbytes d52) rfl rfl ?_
    exact Steps.refl _)
  obtain ⟨T15, X15, p15, bl15, sl15, st15⟩ := X13.finit hexec hown (wk W (.fieldLink "java/lang/String" 9 "java/lang/String" "value" "[B")) (Or.inr ⟨_, (wk W (.laysFinal "java/lang/String" "java/lang/String" "value" "[B"))⟩) (Or.inl ⟨rfl, hnm⟩) f1 (Or.inl rfl) bl13 (t := (.array .byte)) (by decide +kernel) rfl (g := (mkF m 54 #[.val (.ref a), .val (.ref b), .val (.int (Int32.ofNat o)), .val (.int (Int32.ofNat len)), .val .null, .val (.ref s.heap.size)] [.ref s.heap.size, .ref a])) rfl (rest := []) rfl (hb hbytes d54)
  have c16 : Steps p.tables e below (s₁.setTop (entryFrame m #[.ref a, .ref b, .int (Int32.ofNat o), .int (Int32.ofNat len), .null] 6)) (T15.setTop (mkF m 57 #[.val (.ref a), .val (.ref b), .val (.int (Int32.ofNat o)), .val (.int (Int32.ofNat len)), .val .null, .val (.ref s.heap.size)] [])) := c14.trans (st15 _ (Steps.refl _))
  have ap := apart (Or.inr ⟨_, (wk W (.laysFinal "java/lang/String" "java/lang/String" "value" "[B"))⟩) (Or.inr ⟨_, (wk W (.laysFinal "java/lang/String" "java/lang/String" "coder" "B"))⟩) f1 f2 (t₁ := .array .byte) (t₂ := .byte) (by decide +kernel) (by decide +kernel) (by decide)
  have al := X8.warmed.alike.symm.trans X15.warmed.alike
  have n7 : T11.heap[s.heap.size]? = some N := by rw [q11]; exact n1.1
  exact ⟨T15, none, _, _, _, X15, by simp, rfl, by omega, (fun _ => rfl), ⟨rfl, _, N, bl15, ((Same.refl D _).set _ (by simp)).set _ (by simp), sl15, (Cell.slots_setSlot_ne _ ap).trans sl13, n1.keep al (p15.other hne (p13.other hne n7)), n2, by rw [al.findClass]; exact n3, n4, n5, fun y c h1 h2 => p15.other h1 (p13.other h1 (by rw [q11]; exact n6 y c h2)), by rw [p15.2.2, p13.2.2, q11]; exact z8⟩, fun fs hl => c16.trans (X15.returnOut hexec hret (hb hbytes d57) hl)⟩
end New4
namespace New1
def yN : MethodName := ⟨"java/lang/String", "<init>", "([C)V"⟩
abbrev yB : ByteArray := jdk_42_method_3_code
theorem d0 : decode yB 0 = .ok (.aload_n 0, 1) := by decide +kernel
theorem d1 : decode yB 1 = .ok (.aload_n 1, 1) := by decide +kernel
theorem d2 : decode yB 2 = .ok (.iconst 0, 1) := by decide +kernel
theorem d3 : decode yB 3 = .ok (.aload_n 1, 1) := by decide +kernel
theorem d4 : decode yB 4 = .ok (.arraylength, 1) := by decide +kernel
theorem d5 : decode yB 5 = .ok (.aconst_null, 1) := by decide +kernel
theorem d6 : decode yB 6 = .ok (.invokespecial 27, 3) := by decide +kernel
theorem d9 : decode yB 9 = .ok (.return_, 1) := by decide +kernel
def site : List Cond := [New4.tab] ++ initW "java/lang/String" 27 New4.yN
def tab : Cond := tabOf yN yB 2 none site
def P (a : Addr) (D : Cell) (fV fC : Field) (b : Addr) (A : Cell) (z : Int32) (args : Array Value) (s : State) : Prop := args = #[.ref a, .ref b] ∧ Blank "java/lang/String" a D s ∧ Found "java/lang/String" "value" "[B" fV s ∧ Found "java/lang/String" "coder" "B" fC s ∧ Ch b A s ∧ StaticIs s "java/lang/String" "COMPACT_STRINGS" "Z" (.int z) ∧ ¬ z = 0 ∧ 0 < A.slots.size ∧ A.slots.size ≤ 536870912 ∧ ∀ i, i < A.slots.size → ¬ 255 < cv A i
def E (a : Addr) (D : Cell) (fV fC : Field) (A : Cell) (r : Option Value) (s u : State) : Prop := Got a D fV fC A 0 A.slots.size r s u
/-- new String(chars), not empty, no char above 255: a Latin-1 String of their low bytes -/
theorem law (l : Launch) (a : Addr) (D : Cell) (fV fC : Field) (b : Addr) (A : Cell) (z : Int32) : Law l yN 2 1 3 52 yB 2 none site (P a D fV fC b A z) (E a D fV fC A) [⟨a, fC.slot⟩, ⟨a, fV.slot⟩] 1 A.slots.size := by
  refine Law.of_walk (plainFor_of_name (by decide +kernel)) (by decide +kernel) (by decide +kernel) (by decide) (fun _ _ h => by rw [h.1]; rfl) (fun _ U U' hal hh h => ⟨h.1, h.2.1.mv hal hh, h.2.2.1.al hal, h.2.2.2.1.al hal, h.2.2.2.2.1.mv hal hh, h.2.2.2.2.2.1.there hal hh, h.2.2.2.2.2.2⟩) (fun r U U' V V' h1 hal h2 h => Got.mv r U U' V V' h1 hal h2 h) ?_
  intro p e s m args below meth c s₁ X0 hexec hbytes hml hret hlk hnm hown hh0 W hP
  obtain ⟨rfl, hB, f1, f2, hA, s1, hz, l0, l2, hp⟩ := hP
  have c1 : Steps p.tables e below (s₁.setTop (entryFrame m #[.ref a, .ref b] 2)) (s₁.setTop (mkF m 0 #[.val (.ref a), .val (.ref b)] [])) := entry rfl
  have c2 : Steps p.tables e below (s₁.setTop (entryFrame m #[.ref a, .ref b] 2)) (s₁.setTop (mkF m 6 #[.val (.ref a), .val (.ref b)] [.null, .int (Int32.ofNat A.slots.size), .int 0, .ref b, .ref a])) := c1.trans (by
    refine XS.aloadN X0.here hexec rfl (hb hbytes d0) rfl rfl ?_
    refine XS.aloadN X0.here hexec rfl (hb hbytes d1) rfl rfl ?_
    refine iconstV X0.here hexec rfl 0 (hb hbytes d2) (by decide) ?_
    refine XS.aloadN X0.here hexec rfl (hb hbytes d3) rfl rfl ?_
    refine X0.alen hexec (hA.1.mv X0.warmed.alike hh0) rfl rfl (hb hbytes d4) ?_
    refine XS.aconstNull X0.here hexec rfl (hb hbytes d5) ?_
    exact Steps.refl _)
  obtain ⟨v3, T3, X3, E3, g3⟩ := X0.callN hexec (New4.law l a D fV fC b A z 0 A.slots.size) rfl hown (wks W (initW "java/lang/String" 27 New4.yN)) (W New4.tab (by simp only [site, List.mem_cons, List.mem_append, true_or, or_true])) (W := 0) (Nat.le_of_ble_eq_true rfl) (Nat.le_of_ble_eq_true rfl) (Nat.le_refl _) (by show 0 + A.slots.size ≤ A.slots.size; omega) (g := (mkF m 6 #[.val (.ref a), .val (.ref b)] [.null, .int (Int32.ofNat A.slots.size), .int (Int32.ofNat 0), .ref b, .ref a])) rfl (by rw [hml]; rfl) c2 (argsL := [.ref b, .int (Int32.ofNat 0), .int (Int32.ofNat A.slots.size), .null]) (rest := []) rfl rfl (by show 2 * 0 + 0 ≤ _; decide) (hb hbytes d6) (⟨rfl, hB.mv X0.warmed.alike hh0, f1.al X0.warmed.alike, f2.al X0.warmed.alike, hA.mv X0.warmed.alike hh0, s1.there X0.warmed.alike hh0, hz, l0, by omega, l2, fun i hi => by rw [Nat.zero_add]; exact hp i hi⟩)
  have e0 := Got.mv _ s₁ s _ _ hh0.symm (Vm.Alike.refl _) rfl E3
  obtain rfl := e0.1
  have c4 : Steps p.tables e below (s₁.setTop (entryFrame m #[.ref a, .ref b] 2)) (T3.setTop (mkF m 9 #[.val (.ref a), .val (.ref b)] [])) := g3
  exact ⟨T3, none, _, _, _, X3, by simp, rfl, by omega, (fun _ => rfl), e0, fun fs hl => c4.trans (X3.returnOut hexec hret (hb hbytes d9) hl)⟩
theorem pays {l : Launch} {R : Room} {p : Program} {e : Env} {below : List Frame} {s : State} {sargs : Array Value} {len W : Nat} (a : Addr) (D : Cell) (fV fC : Field) (b : Addr) (A : Cell) (z : Int32) (htab : tab.before sargs s = true) (hfr : 4 ≤ R.frames) (hlo : W + 65 ≤ R.locals) :
    Back l R p e below s sargs yN len W (fun A₁ a₁ => A₁.cells + 1 ≤ R.cells ∧ A₁.slots + A.slots.size ≤ R.slots ∧ P a D fV fC b A z a₁ A₁.U) (fun A₁ _ v₁ B₁ => E a D fV fC A v₁ A₁.U B₁.U ∧ B₁.locs = A₁.locs ++ [⟨a, fC.slot⟩, ⟨a, fV.slot⟩] ∧ B₁.cells = A₁.cells + 1 ∧ B₁.slots = A₁.slots + A.slots.size) :=
  (law l a D fV fC b A z).pays htab hfr (by omega)
end New1
/-- the byte, read back as charAt reads it, is the char -/
theorem lo8_mask {x : Int32} (h0 : ¬ x < 0) (h1 : ¬ 255 < x) : lo8 x &&& 255 = x := by
  have t : ∀ k : Fin 256, lo8 (Int32.ofNat k.val) &&& 255 = Int32.ofNat k.val := by decide +kernel
  rw [Int32.lt_iff_toInt_lt] at h0 h1
  have e0 : (0 : Int32).toInt = 0 := rfl
  have e1 : (255 : Int32).toInt = 255 := rfl
  obtain ⟨k, hk⟩ : ∃ k : Nat, x.toInt = k := ⟨x.toInt.toNat, by omega⟩
  have hx : x = Int32.ofNat k := Int32.toInt_inj.mp (by rw [hk, Int32.toInt_ofNat_small (by omega)])
  rw [hx]
  exact t ⟨k, by omega⟩
end StrChars
namespace StrChars.Road
open Jvm Sem ClassFile Op Lib Jvm.Stand Jvm.Free Jvm.Free.XT
open Jvm.Lib.Cold (StaticIs)
abbrev ST : String := "java/lang/String"
/-- every table word that New1's law asks, flat -/
abbrev words : List Jvm.Cond := [.code New1.yN New1.yB 2 none, .initialized ST, .methodLink ST 27 New4.yN, .instanceMethod New4.yN,
  .code New4.yN New4.yB 6 none, .fieldLink ST 38 ST "COMPACT_STRINGS" "Z", .laysFinal ST ST "value" "[B", .fieldLink ST 9 ST "value" "[B", .laysFinal ST ST "coder" "B", .fieldLink ST 15 ST "coder" "B",
  .methodLink ST 1 Lib.objectInit, .instanceMethod Lib.objectInit, .code Lib.objectInit ⟨#[0xb1]⟩ 1 none, .methodLink ST 177 Cmp3.yN, .static Cmp3.yN, .methodLink ST 47 CodL.yN, .static CodL.yN,
  .code Cmp3.yN Cmp3.yB 6 (some (.array .byte)), .initialized U16, .arrayClass .byte, .methodLink U16 115 Cmp5.yN, .static Cmp5.yN, .code Cmp5.yN Cmp5.yB 7 (some .int), .code CodL.yN CodL.yB 2 (some .byte)]
theorem tab_of {a : Array Value} {s : State} (h : ∀ w ∈ words, w.before a s = true) : New1.tab.before a s = true := by
  have h5 : Cmp5.tab.before a s = true := unparts (wk h (.code Cmp5.yN Cmp5.yB 7 (some .int))) (wks h (.initialized Cmp5.yN.cls :: Cmp5.site))
  have hc : CodL.tab.before a s = true := unparts (wk h (.code CodL.yN CodL.yB 2 (some .byte))) (wks h (.initialized CodL.yN.cls :: CodL.site))
  have q5 : ∀ w ∈ Cmp5.tab :: words, w.before a s = true := fun w hw => (List.mem_cons.mp hw).elim (fun e => e ▸ h5) (h w)
  have h3 : Cmp3.tab.before a s = true := unparts (wk q5 (.code Cmp3.yN Cmp3.yB 6 (some (.array .byte)))) (wks q5 (.initialized Cmp3.yN.cls :: Cmp3.site))
  have q3 : ∀ w ∈ Cmp3.tab :: CodL.tab :: words, w.before a s = true := fun w hw => (List.mem_cons.mp hw).elim (fun e => e ▸ h3) fun hw => (List.mem_cons.mp hw).elim (fun e => e ▸ hc) (h w)
  have h4 : New4.tab.before a s = true := unparts (wk q3 (.code New4.yN New4.yB 6 none)) (wks q3 (.initialized New4.yN.cls :: New4.site))
  have q4 : ∀ w ∈ New4.tab :: words, w.before a s = true := fun w hw => (List.mem_cons.mp hw).elim (fun e => e ▸ h4) (h w)
  exact unparts (wk q4 (.code New1.yN New1.yB 2 none)) (wks q4 (.initialized New1.yN.cls :: New1.site))
/-- the words ride from the start Z to the walk's own state -/
theorem moved {Z s : State} {a0 args : Array Value} (hZ : Z.Warmed39 s.vm) (hw : ∀ d ∈ words, d.before a0 Z = true) : ∀ d ∈ words, d.before args s = true := fun d hd => by
  have q := hw d hd
  have t : ∀ d ∈ words, d = .arrayClass .byte ∨ (d.onTables && d.keepsFace) = true := by decide +kernel
  rcases t d hd with rfl | t
  · exact RoadKit.mvA hZ q
  · exact RoadKit.mv hZ q t
/-- WHAT COMES BACK, over the tables of the start Z: h the heap at the call, h' behind it -/
def Q (Z : State) (x : Addr) (A : Cell) (h : Heap) (v : Option Value) (h' : Heap) (L : List Loc) : Prop := v = none ∧ (∀ y ∈ L, y.base = x) ∧ RoadKit.Keep h h' [x] ∧ h'.size = h.size + 1 ∧ RoadKit.Exa Z h' x ST ∧ RoadKit.Fld Z h' x ST "value" "[B" (.ref h.size) ∧ RoadKit.Fld Z h' x ST "coder" "B" (.int 0) ∧
  (∃ V : Cell, RoadKit.Arr Z h' h.size V .byte ∧ V.vm = .none ∧ Z.vm.findClass "[B" = some V.cls ∧ V.slots.size = A.slots.size ∧ ∀ j, j < A.slots.size → V.slots[j]? = some (.int (lo8 (cv A j)))) ∧
  ∀ (O n d : String) (w : Value), RoadKit.Fld Z h x O n d w → RoadKit.slotOf Z O n d ≠ RoadKit.slotOf Z ST "value" "[B" → RoadKit.slotOf Z O n d ≠ RoadKit.slotOf Z ST "coder" "B" → RoadKit.Fld Z h' x O n d w
/-- **new String(chars) AT A CALL, IN THE ROAD'S FORM**: for specialBack behind newO: x the fresh String, b the char[] with the cell A -/
theorem back {p : Program} {l : Launch} {e : Env} {R : Room} {s : State} {args : Array Value} {below : List Frame} {len W : Nat} {Z : State} {a0 : Array Value} {h : Heap} (hZ : Z.Warmed39 s.vm) (hw : ∀ d ∈ words, d.before a0 Z = true) {kI : Nat} (wi : (Jvm.Cond.instantiable ST kI).before a0 Z = true)
    {x b : Addr} {A : Cell} {z : Int32} {v0 c0 : Value} (E : RoadKit.Exa Z h x ST) (V : RoadKit.Fld Z h x ST "value" "[B" v0) (C : RoadKit.Fld Z h x ST "coder" "B" c0) (K : RoadKit.Arr Z h b A .char) (hty : Typed .char A) (S : RoadKit.Sta Z h ST "COMPACT_STRINGS" "Z" (.int z)) (hz : ¬ z = 0)
    (l0 : 0 < A.slots.size) (l2 : A.slots.size ≤ 536870912) (hp : ∀ i, i < A.slots.size → ¬ 255 < cv A i) (hfr : 4 ≤ R.frames) (hlo : W + 65 ≤ R.locals) :
    Back l R p e below s args New1.yN len W (fun P a => a = #[.ref x, .ref b] ∧ P.U.heap = h ∧ P.cells + 1 ≤ R.cells ∧ P.slots + A.slots.size ≤ R.slots)
      (fun P _ v B => ∃ L, Q Z x A h v B.U.heap L ∧ B.locs = P.locs ++ L ∧ B.cells = P.cells + 1 ∧ B.slots = P.slots + A.slots.size) := by
  intro m meth c P g ig mk a X hg hsize hdg hW hn hp'
  obtain ⟨rfl, rfl, r1, r2⟩ := hp'
  have al : Z.vm.Alike P.U.vm := hZ.alike.trans X.warmed.alike
  obtain ⟨D, cfV, kV, iV, fV, hD, gV, stV, knV, obV, asV, slV⟩ := id V
  obtain ⟨D', cfC, kC, iC, fC, hD', gC, stC, -, -, asC, slC⟩ := id C
  cases hD.symm.trans hD'
  obtain ⟨D2, kD, e1, e2, e3, e4, e5⟩ := id E
  cases hD.symm.trans e1
  obtain ⟨c2, k2, i1, i2, i3, -⟩ := Cond.instantiable_spec wi
  cases e2.symm.trans i1
  cases e3.symm.trans i2
  obtain ⟨kU, u1, u2⟩ := al.2.2 _ _ e3
  have hB : Blank ST x D P.U := ⟨hD, ⟨knV, fun q hq => by rw [hq] at obV; cases obV⟩, by rw [al.findClass]; exact e2, kU, u1, by rw [u2]; exact i3, by rw [u2]; exact e5 i3⟩
  have F1 : Found ST "value" "[B" fV P.U := ⟨SBG.found_only al ⟨cfV, kV, iV, gV⟩, stV⟩
  have F2 : Found ST "coder" "B" fC P.U := ⟨SBG.found_only al ⟨cfC, kC, iC, gC⟩, stC⟩
  have hA : Ch b A P.U := ⟨⟨K.1, State.isArrayOf_alike al K.2.1, K.2.2, by omega⟩, hty⟩
  have hS : StaticIs P.U ST "COMPACT_STRINGS" "Z" (.int z) := by
    obtain ⟨cfS, iS, kS, fS, st, cS, t1, t2, t3, t4, t5, t6, t7⟩ := S
    exact StaticIs.there (s := { Z with heap := P.U.heap }) ⟨cfS, iS, kS, fS, st, cS, t1, t2, t3, t4, t5, (fun q => by rw [q] at t6; cases t6), t7⟩ al rfl
  obtain ⟨v, B, X', ⟨⟨hv, E', V', q1, q2, q3, q4, q5, q6, q7, q8, q9, q10, q11⟩, hl, hc, hs⟩, st⟩ := New1.pays x D fV fC b A z (tab_of (moved hZ hw)) hfr hlo m meth c P g ig mk _ X hg hsize hdg hW hn ⟨r1, r2, rfl, hB, F1, F2, hA, hS, hz, l0, l2, hp⟩
  have al' : Z.vm.Alike B.U.vm := hZ.alike.trans X'.warmed.alike
  have hsz : E'.slots.size = D.slots.size := by
    obtain ⟨-, -, -, kB, w1, w2, w3⟩ := q1
    obtain ⟨kB', y1, y2⟩ := al'.2.2 _ _ e3
    rw [q2.2.1] at w1
    cases w1.symm.trans y1
    rw [w3, e5 i3, y2]
  refine ⟨v, B, X', ⟨_, ⟨hv, ?_, ⟨by omega, fun y cy hy hn' => q10 y cy (by simpa using hn') hy, fun y cy hy => ?_⟩, q11, ⟨E', _, q1.1, by rw [q2.2.1]; exact e2, by rw [q2.2.1]; exact e3, by rw [q2.1]; exact obV, fun _ => by rw [hsz]; exact e5 i3⟩,
    ⟨E', cfV, kV, iV, fV, q1.1, gV, stV, by rw [q2.1]; exact knV, by rw [q2.1]; exact obV, by rw [q2.2.1]; exact asV, q3⟩, ⟨E', cfC, kC, iC, fC, q1.1, gC, stC, by rw [q2.1]; exact knV, by rw [q2.1]; exact obV, by rw [q2.2.1]; exact asC, q4⟩,
    ⟨V', ⟨q5.1, State.isArrayOf_alike al'.symm q5.2.1, q5.2.2.1⟩, q6, by rw [← al'.findClass]; exact q7, q8, fun j hj => by have := q9 j hj; rwa [Nat.zero_add] at this⟩, fun O n d w F n1 n2 => ?_⟩, hl, hc, hs⟩, st⟩
  · intro y hy
    simp only [List.mem_cons, List.not_mem_nil, or_false] at hy
    rcases hy with rfl | rfl <;> rfl
  · by_cases q : y = x
    · subst q
      cases hD.symm.trans hy
      exact ⟨E', q1.1, q2.2.1, q2.1, hsz⟩
    · exact ⟨cy, q10 y cy q hy, rfl, rfl, rfl⟩
  · obtain ⟨D3, cf, k, i, f, g1, g2, g3, g4, g5, g6, g7⟩ := F
    cases hD.symm.trans g1
    simp only [RoadKit.slotOf, g2, gV, gC, Option.map_some, Option.getD_some] at n1 n2
    exact ⟨E', cf, k, i, f, q1.1, g2, g3, by rw [q2.1]; exact g4, by rw [q2.1]; exact g5, by rw [q2.2.1]; exact g6, by rw [q2.2.2 f.slot (by simp [n1, n2])]; exact g7⟩
end StrChars.Road
namespace StrChars.Road
open Jvm Sem ClassFile Op Lib Jvm.Stand Jvm.Free Jvm.Free.XT
/-- WHAT COMES BACK, the byte[] as a list of values -/
def QA (Z : State) (x : Addr) (zn : Int32) (cs : List Int32) (h : Heap) (v : Option Value) (h' : Heap) (L : List Loc) : Prop := v = none ∧ (∀ y ∈ L, y.base = x) ∧ RoadKit.Keep h h' [x] ∧ h'.size = h.size + 1 ∧ RoadKit.Exa Z h' x ST ∧ RoadKit.Fld Z h' x ST "value" "[B" (.ref h.size) ∧ RoadKit.Fld Z h' x ST "coder" "B" (.int 0) ∧
  (∃ kb, Z.vm.findClass "[B" = some kb ∧ RoadKit.Arv Z h' h.size kb .byte zn (cs.map fun c => .int (lo8 c)) (.int 0)) ∧
  ∀ (O n d : String) (w : Value), RoadKit.Fld Z h x O n d w → RoadKit.slotOf Z O n d ≠ RoadKit.slotOf Z ST "value" "[B" → RoadKit.slotOf Z O n d ≠ RoadKit.slotOf Z ST "coder" "B" → RoadKit.Fld Z h' x O n d w
/-- **new String(chars) AT A CALL, THE ARRAYS AS LISTS**: the char[] at b holds cs, not empty, no char above 255 -/
theorem backArv {p : Program} {l : Launch} {e : Env} {R : Room} {s : State} {args : Array Value} {below : List Frame} {len W : Nat} {Z : State} {a0 : Array Value} {h : Heap} (hZ : Z.Warmed39 s.vm) (hw : ∀ d ∈ words, d.before a0 Z = true) {kI : Nat} (wi : (Jvm.Cond.instantiable ST kI).before a0 Z = true)
    {x b : Addr} {k : ClassId} {zn z : Int32} {cs : List Int32} {dv v0 c0 : Value} (E : RoadKit.Exa Z h x ST) (V : RoadKit.Fld Z h x ST "value" "[B" v0) (C : RoadKit.Fld Z h x ST "coder" "B" c0) (K : RoadKit.Arv Z h b k .char zn (cs.map Value.int) dv) (S : RoadKit.Sta Z h ST "COMPACT_STRINGS" "Z" (.int z)) (hz : ¬ z = 0)
    (hlen : zn.toNatClampNeg = cs.length) (h0 : 0 < cs.length) (hbig : cs.length ≤ 536870912) (hall : ∀ c ∈ cs, ¬ 255 < c) (hfr : 4 ≤ R.frames) (hlo : W + 65 ≤ R.locals) :
    Back l R p e below s args New1.yN len W (fun P a => a = #[.ref x, .ref b] ∧ P.U.heap = h ∧ P.cells + 1 ≤ R.cells ∧ P.slots + cs.length ≤ R.slots)
      (fun P _ v B => ∃ L, QA Z x zn cs h v B.U.heap L ∧ B.locs = P.locs ++ L ∧ B.cells = P.cells + 1 ∧ B.slots = P.slots + cs.length) := by
  obtain ⟨A, K1, K2, K3, K4, K5, K6⟩ := K
  have e : A.slots.size = cs.length := K3.trans hlen
  have hat : ∀ (i : Nat) (hi : i < cs.length), A.slots[i]? = some (.int cs[i]) := fun i hi => by rw [K5 i (by omega)]; simp [List.getD_eq_getElem?_getD, hi]
  have hcv : ∀ (i : Nat) (hi : i < cs.length), cv A i = cs[i] := fun i hi => by unfold cv; rw [hat i hi]
  have hty : Typed .char A := fun i v hv => by
    have hi : i < A.slots.size := (Array.getElem?_eq_some_iff.mp hv).1
    have q := K5 i hi
    rw [hv] at q
    rw [Option.some.inj q]
    exact K6 i hi
  refine Back.mono (back hZ hw wi E V C K1 hty S hz (by omega) (by omega) (fun i hi => by rw [hcv i (by omega)]; exact hall _ (List.getElem_mem _)) hfr hlo) (fun P a hp => ⟨hp.1, hp.2.1, hp.2.2.1, by rw [e]; exact hp.2.2.2⟩) (fun P a v B hp hq => ?_)
  obtain ⟨L, ⟨q1, q2, q3, q4, q5, q6, q7, ⟨V', v1, v2, v3, v4, v5⟩, q9⟩, hl, hc, hs⟩ := hq
  refine ⟨L, ⟨q1, q2, q3, q4, q5, q6, q7, ⟨V'.cls, v3, V', v1, rfl, by rw [v4, e, hlen], K4, fun i hi => ?_, fun i hi => ?_⟩, q9⟩, hl, hc, by rw [hs, e]⟩
  · have hi' : i < cs.length := by omega
    rw [v5 i (by omega), hcv i hi']; simp [List.getD_eq_getElem?_getD, hi']
  · have hi' : i < cs.length := by omega
    simp only [List.getD_eq_getElem?_getD, List.getElem?_map, List.getElem?_eq_getElem hi', Option.map_some, Option.getD_some]
    exact fits_lo8 _
end StrChars.Road
namespace StrChars.Road
open Jvm Sem ClassFile Op Lib Jvm.Stand Jvm.Free Jvm.Free.XT
/-- WHAT COMES BACK, in the writer's own shape -/
def QV (Z : State) (x : Addr) (N : Int32) (bs : List Int32) (h : Heap) (n0 : Nat) (v : Option Value) (h' : Heap) (L : List Loc) : Prop := v = none ∧ RoadKit.Fr n0 L ∧ RoadKit.Keep h h' [x] ∧ RoadKit.Exa Z h' x ST ∧ RoadKit.Fld Z h' x ST "coder" "B" (.int 0) ∧
  ∃ (t : Addr) (kb : ClassId), n0 ≤ t ∧ h.size ≤ t ∧ ¬ t = x ∧ RoadKit.Fld Z h' x ST "value" "[B" (.ref t) ∧ RoadKit.Arv Z h' t kb .byte N (bs.map Value.int) (.int 0)
/-- **new String(chars) AT A CALL, FOR THE WRITER**: a char[] of n known ints, each 0 to 255 -/
theorem backV {p : Program} {l : Launch} {e : Env} {R : Room} {s : State} {args : Array Value} {below : List Frame} {len W : Nat} {Z : State} {a0 : Array Value} {h : Heap} (hZ : Z.Warmed39 s.vm) (hw : ∀ d ∈ words, d.before a0 Z = true) {kI : Nat} (wi : (Jvm.Cond.instantiable ST kI).before a0 Z = true)
    {x b : Addr} {kC : ClassId} {cs bs : List Int32} {d v0 c0 : Value} {z N : Int32} {n n0 : Nat} (hx0 : n0 ≤ x) (hh0 : n0 ≤ h.size) (E : RoadKit.Exa Z h x ST) (V : RoadKit.Fld Z h x ST "value" "[B" v0) (C : RoadKit.Fld Z h x ST "coder" "B" c0) (K : RoadKit.Arv Z h b kC .char N (cs.map Value.int) d) (S : RoadKit.Sta Z h ST "COMPACT_STRINGS" "Z" (.int z)) (hz : ¬ z = 0)
    (hn : cs.length = n) (hN : N = Int32.ofNat n) (l0 : 0 < n) (l2 : n ≤ 4000) (hp : ∀ c ∈ cs, ¬ c < 0 ∧ ¬ (255 : Int32) < c) (hb : bs = cs.map (fun c => c.toInt8.toInt32)) (hfr : 4 ≤ R.frames) (hlo : W + 65 ≤ R.locals) :
    Back l R p e below s args (⟨"java/lang/String", "<init>", "([C)V"⟩ : MethodName) len W (fun P a => a = #[.ref x, .ref b] ∧ P.U.heap = h ∧ P.cells + 1 ≤ R.cells ∧ P.slots + n ≤ R.slots)
      (fun P _ v B => ∃ L, QV Z x N bs h n0 v B.U.heap L ∧ B.locs = P.locs ++ L ∧ B.cells = P.cells + 1 ∧ B.slots = P.slots + n) := by
  subst hn hN hb
  refine Back.mono (backArv hZ hw wi E V C K S hz (n32 (by omega)) l0 (by omega) (fun c hc => (hp c hc).2) hfr hlo) (fun P a hp => hp) (fun P a v B hp hq => ?_)
  obtain ⟨L, ⟨q1, q2, q3, q4, q5, q6, q7, ⟨kb, v1, v2⟩, q9⟩, hl, hc, hs⟩ := hq
  exact ⟨L, ⟨q1, fun y hy => by rw [q2 y hy]; exact hx0, q3, q5, q7, h.size, kb, hh0, Nat.le_refl _, Nat.ne_of_gt E.lt, q6, by rw [List.map_map]; exact v2⟩, hl, hc, hs⟩
end StrChars.Road
namespace StrChars
open Jvm Sem ClassFile Op Lib Jvm.Stand Jvm.Free.XT Jvm.Free.ALB Jvm.Free.JM Jvm.Free
open Jvm.Lib.Cold (StaticIs)
def hi8 (x : Int32) : Int32 := lo8 (x >>> ((8 : Int32) &&& 31))
/-- what StringUTF16.getChar makes of two bytes -/
def pairCh (u v : Int32) : Int32 := (((u &&& 255) <<< ((0 : Int32) &&& 31)) ||| ((v &&& 255) <<< ((8 : Int32) &&& 31))).toUInt32.toUInt16.toUInt32.toInt32
theorem lo8_and (x : Int32) : (lo8 x &&& 255).toBitVec.toNat = x.toBitVec.toNat % 256 := by
  have h : (lo8 x).toBitVec = (x.toBitVec.signExtend 8).signExtend 32 := by rw [lo8, Int8.toBitVec_toInt32, Int32.toBitVec_toInt8]
  rw [Int32.toBitVec_and, BitVec.toNat_and, h]
  have e : ((x.toBitVec.signExtend 8).signExtend 32).toNat % 256 = x.toBitVec.toNat % 256 := by
    rw [BitVec.toNat_signExtend]
    have hlt := x.toBitVec.isLt
    simp only [BitVec.toNat_setWidth, BitVec.toNat_signExtend]
    split <;> split <;> omega
  rw [← e]
  exact Nat.and_two_pow_sub_one_eq_mod _ 8
theorem pair_says {c : Int32} (h0 : ¬ c < 0) (h1 : ¬ 65535 < c) : pairCh (lo8 c) (hi8 c) = c := by
  rw [Int32.lt_iff_toInt_lt] at h0 h1
  have e0 : (0 : Int32).toInt = 0 := rfl
  have e1 : (65535 : Int32).toInt = 65535 := rfl
  have hc : c.toInt = c.toBitVec.toNat := by
    have := c.toBitVec.isLt
    have e : c.toInt = c.toBitVec.toInt := rfl
    rw [e] at h0 h1
    rw [e]
    rw [BitVec.toInt_eq_toNat_cond] at h0 h1 ⊢
    split at h0 <;> split <;> omega
  have hn : c.toBitVec.toNat < 65536 := by omega
  have a1 := lo8_and c
  have a2 : (hi8 c &&& 255).toBitVec.toNat = c.toBitVec.toNat / 256 := by
    rw [hi8, lo8_and]
    have e : ((8 : Int32) &&& 31) = 8 := by decide
    rw [e, Int32.toBitVec_shiftRight]
    have e2 : ((8 : Int32).toBitVec.smod 32) = 8#32 := by decide
    rw [e2, BitVec.sshiftRight_eq', BitVec.toNat_sshiftRight_of_msb_false (by rw [BitVec.msb_eq_false_iff_two_mul_lt]; omega)]
    show c.toBitVec.toNat >>> 8 % 256 = _
    rw [Nat.shiftRight_eq_div_pow]
    omega
  unfold pairCh
  apply Int32.toBitVec_inj.mp
  apply BitVec.eq_of_toNat_eq
  have f0 : ((0 : Int32) &&& 31) = 0 := by decide
  have f8 : ((8 : Int32) &&& 31) = 8 := by decide
  rw [f0, f8]
  have g : (((lo8 c &&& 255) <<< (0 : Int32)) ||| ((hi8 c &&& 255) <<< (8 : Int32))).toBitVec.toNat = c.toBitVec.toNat := by
    rw [Int32.toBitVec_or, Int32.toBitVec_shiftLeft, Int32.toBitVec_shiftLeft]
    have s0 : ((0 : Int32).toBitVec.smod 32) = 0#32 := by decide
    have s8 : ((8 : Int32).toBitVec.smod 32) = 8#32 := by decide
    rw [s0, s8, BitVec.toNat_or]
    simp only [BitVec.shiftLeft_eq', BitVec.toNat_shiftLeft, a1, a2]
    show (c.toBitVec.toNat % 256) <<< 0 % 2 ^ 32 ||| (c.toBitVec.toNat / 256) <<< 8 % 2 ^ 32 = _
    rw [Nat.shiftLeft_zero, Nat.mod_eq_of_lt (show c.toBitVec.toNat % 256 < 2 ^ 32 by omega), Nat.mod_eq_of_lt (show (c.toBitVec.toNat / 256) <<< 8 < 2 ^ 32 by rw [Nat.shiftLeft_eq]; omega), Nat.or_comm, ← Nat.shiftLeft_add_eq_or_of_lt (by omega), Nat.shiftLeft_eq]
    omega
  show BitVec.toNat (((((lo8 c &&& 255) <<< (0 : Int32)) ||| ((hi8 c &&& 255) <<< (8 : Int32))).toBitVec.setWidth 16).setWidth 32) = _
  rw [BitVec.toNat_setWidth, BitVec.toNat_setWidth, g]
  omega
end StrChars
namespace StrChars
open Jvm Sem ClassFile Op Lib Jvm.Stand Jvm.Free.XT Jvm.Free.ALB Jvm.Free.JM Jvm.Free
open Jvm.Lib.Cold (StaticIs)
/-- the array's cell V codes the n chars f 0 .. f (n - 1) by the coder cd, as the JDK does: coder 1 just where some char is above 255 -/
def Cod (cd : Int32) (n : Nat) (f : Nat → Int32) (V : Cell) : Prop := (cd = 0 ∧ V.slots.size = n ∧ ∀ j, j < n → V.slots[j]? = some (.int (lo8 (f j))) ∧ ¬ 255 < f j) ∨ (cd = 1 ∧ V.slots.size = 2 * n ∧ (∀ j, j < n → V.slots[2 * j]? = some (.int (lo8 (f j))) ∧ V.slots[2 * j + 1]? = some (.int (hi8 (f j)))) ∧ ∃ j, j < n ∧ 255 < f j)
/-- **x is a String of the n chars f 0 .. f (n - 1)**, Latin-1 or UTF-16; its array at t has the cell V -/
def Txt (x t : Addr) (V : Cell) (cd : Int32) (n : Nat) (f : Nat → Int32) (U : State) : Prop := Exact "java/lang/String" x U ∧ Has x "java/lang/String" "value" "[B" (.ref t) U ∧ Has x "java/lang/String" "coder" "B" (.int cd) U ∧ XT.Arr .byte t V U ∧ Cod cd n f V ∧ ∀ j, j < n → ¬ f j < 0 ∧ ¬ 65535 < f j
theorem Txt.mv {x t : Addr} {V : Cell} {cd : Int32} {n : Nat} {f : Nat → Int32} {U U' : State} (h : Txt x t V cd n f U) (hal : U.vm.Alike U'.vm) (hh : U'.heap = U.heap) : Txt x t V cd n f U' := ⟨h.1.mv hal hh, h.2.1.mv hal hh, h.2.2.1.mv hal hh, h.2.2.2.1.mv hal hh, h.2.2.2.2⟩
end StrChars
namespace StrChars.Road
open Jvm Sem ClassFile Op Lib Jvm.Stand Jvm.Free Jvm.Free.XT
open Jvm.Lib.Cold (StaticIs)
theorem consq {a : Array Value} {s : State} {c : Jvm.Cond} {L : List Jvm.Cond} (h0 : c.before a s = true) (h : ∀ w ∈ L, w.before a s = true) : ∀ w ∈ c :: L, w.before a s = true := fun w hw => (List.mem_cons.mp hw).elim (fun e => e ▸ h0) (h w)
/-- the bytes of the chars cs, low before high -/
def wideBytes : List Int32 → List Value
  | [] => []
  | c :: cs => .int (lo8 c) :: .int (hi8 c) :: wideBytes cs
theorem wide_lo (d : Value) : ∀ (cs : List Int32) (j : Nat), j < cs.length → (wideBytes cs).getD (2 * j) d = .int (lo8 (cs.getD j 0))
  | [], j, h => absurd h (Nat.not_lt_zero j)
  | c :: cs, 0, _ => rfl
  | c :: cs, j + 1, h => by
    have q := wide_lo d cs j (by simpa using h)
    rw [show 2 * (j + 1) = 2 * j + 1 + 1 from by omega]
    simpa [wideBytes] using q
theorem wide_hi (d : Value) : ∀ (cs : List Int32) (j : Nat), j < cs.length → (wideBytes cs).getD (2 * j + 1) d = .int (hi8 (cs.getD j 0))
  | [], j, h => absurd h (Nat.not_lt_zero j)
  | c :: cs, 0, _ => rfl
  | c :: cs, j + 1, h => by
    have q := wide_hi d cs j (by simpa using h)
    rw [show 2 * (j + 1) + 1 = 2 * j + 1 + 1 + 1 from by omega]
    simpa [wideBytes] using q
theorem low_at (d : Value) (cs : List Int32) (j : Nat) (h : j < cs.length) : (cs.map fun c => Value.int (lo8 c)).getD j d = .int (lo8 (cs.getD j 0)) := by
  simp [List.getD_eq_getElem?_getD, h]
/-- an array of N2 bytes vs codes the chars cs by the coder cd -/
def CodA (cs : List Int32) (cd N2 : Int32) (vs : List Value) : Prop := (cd = 0 ∧ N2 = Int32.ofNat cs.length ∧ vs = (cs.map fun c => Value.int (lo8 c)) ∧ ∀ c ∈ cs, ¬ 255 < c) ∨ (cd = 1 ∧ N2 = Int32.ofNat (2 * cs.length) ∧ vs = wideBytes cs ∧ ∃ c ∈ cs, 255 < c)
theorem CodA.cod {cs : List Int32} {cd N2 : Int32} {vs : List Value} {V : Cell} (h : CodA cs cd N2 vs) (hn : 2 * cs.length < 2 ^ 31) (hs : V.slots.size = N2.toNatClampNeg) (hv : RoadKit.Has V vs (.int 0)) : Cod cd cs.length (fun j => cs.getD j 0) V := by
  rcases h with ⟨rfl, rfl, rfl, h⟩ | ⟨rfl, rfl, rfl, c, hc, hw⟩
  · rw [n32 (by omega)] at hs
    exact Or.inl ⟨rfl, hs, fun j hj => ⟨by rw [hv j (by omega), low_at _ _ _ hj], by
      have e : cs.getD j 0 = cs[j] := by simp [List.getD_eq_getElem?_getD, hj]
      show ¬ 255 < cs.getD j 0
      rw [e]; exact h _ (List.getElem_mem _)⟩⟩
  · rw [n32 (by omega)] at hs
    obtain ⟨j, hj, rfl⟩ := List.getElem_of_mem hc
    exact Or.inr ⟨rfl, hs, fun j hj => ⟨by rw [hv _ (by omega), wide_lo _ _ _ hj], by rw [hv _ (by omega), wide_hi _ _ _ hj]⟩, j, hj, by
      have e : cs.getD j 0 = cs[j] := by simp [List.getD_eq_getElem?_getD, hj]
      show 255 < cs.getD j 0
      rw [e]; exact hw⟩
/-- an object of exactly java/lang/String, its two fields found: as the laws ask it -/
theorem strObj {Z U : State} {a0 : Array Value} {kI : Nat} (wi : (Jvm.Cond.instantiable ST kI).before a0 Z = true) (al : Z.vm.Alike U.vm) {x : Addr} {v0 c0 : Value} (E : RoadKit.Exa Z U.heap x ST) (V : RoadKit.Fld Z U.heap x ST "value" "[B" v0) (C : RoadKit.Fld Z U.heap x ST "coder" "B" c0) :
    ∃ (D : Cell) (fV fC : Field), Blank ST x D U ∧ Found ST "value" "[B" fV U ∧ Found ST "coder" "B" fC U ∧ D.slots[fV.slot]? = some v0 ∧ D.slots[fC.slot]? = some c0 ∧ RoadKit.slotOf Z ST "value" "[B" = fV.slot ∧ RoadKit.slotOf Z ST "coder" "B" = fC.slot := by
  obtain ⟨D, cfV, kV, iV, fV, hD, gV, stV, knV, obV, asV, slV⟩ := V
  obtain ⟨D', cfC, kC, iC, fC, hD', gC, stC, -, -, asC, slC⟩ := C
  cases hD.symm.trans hD'
  obtain ⟨D2, kD, e1, e2, e3, e4, e5⟩ := E
  cases hD.symm.trans e1
  obtain ⟨c2, k2, i1, i2, i3, -⟩ := Cond.instantiable_spec wi
  cases e2.symm.trans i1
  cases e3.symm.trans i2
  obtain ⟨kU, u1, u2⟩ := al.2.2 _ _ e3
  exact ⟨D, fV, fC, ⟨hD, ⟨knV, fun q hq => by rw [hq] at obV; cases obV⟩, by rw [al.findClass]; exact e2, kU, u1, by rw [u2]; exact i3, by rw [u2]; exact e5 i3⟩, ⟨SBG.found_only al ⟨cfV, kV, iV, gV⟩, stV⟩, ⟨SBG.found_only al ⟨cfC, kC, iC, gC⟩, stC⟩, slV, slC, by simp [RoadKit.slotOf, gV], by simp [RoadKit.slotOf, gC]⟩
theorem sta_is {Z U : State} (al : Z.vm.Alike U.vm) {C n d : String} {v : Value} (S : RoadKit.Sta Z U.heap C n d v) : StaticIs U C n d v := by
  obtain ⟨cfS, iS, kS, fS, st, cS, t1, t2, t3, t4, t5, t6, t7⟩ := S
  exact StaticIs.there (s := { Z with heap := U.heap }) ⟨cfS, iS, kS, fS, st, cS, t1, t2, t3, t4, t5, (fun q => by rw [q] at t6; cases t6), t7⟩ al rfl
end StrChars.Road
namespace StrChars
open Jvm Sem ClassFile Op Lib Jvm.Stand Jvm.Free.XT Jvm.Free.ALB Jvm.Free.JM Jvm.Free
open Jvm.Lib.Cold (StaticIs)
/-- what place i of a byte[]'s cell holds -/
def yv (A : Cell) (i : Nat) : Int32 := match A.slots[i]? with | some (.int x) => x | _ => 0
theorem yv_get {a : Addr} {A : Cell} {U : State} (h : XT.Arr .byte a A U) (ht : Typed .byte A) {i : Nat} (hi : i < A.slots.size) : A.slots[i]? = some (.int (yv A i)) := by
  have e := Array.getElem?_eq_getElem hi
  have f := ht i _ e
  unfold yv; rw [e]
  generalize A.slots[i] = v at f
  cases v <;> simp [fits] at f ⊢
/-- the two arrays are equal, place for place -/
def EqC (A B : Cell) : Prop := A.slots.size = B.slots.size ∧ ∀ i, i < A.slots.size → yv A i = yv B i
/-- a boolean that says whether p -/
def Says01 (q : Prop) (r : Option Value) (s u : State) : Prop := ∃ v : Int32, r = some (.int v) ∧ u.heap = s.heap ∧ ((v = 1 ∧ q) ∨ (v = 0 ∧ ¬ q))
theorem Says01.mv {q : Prop} : ∀ r (U U' V V' : State), U'.heap = U.heap → V.vm.Alike V'.vm → V'.heap = V.heap → Says01 q r U V → Says01 q r U' V' :=
  fun r U U' V V' h1 _ h2 ⟨v, a, b, c⟩ => ⟨v, a, by rw [h1, h2]; exact b, c⟩
namespace LEq
def yN : MethodName := ⟨"java/lang/StringLatin1", "equals", "([B[B)Z"⟩
abbrev yB : ByteArray := jdk_43_method_13_code
theorem d0 : decode yB 0 = .ok (.aload_n 0, 1) := by decide +kernel
theorem d1 : decode yB 1 = .ok (.arraylength, 1) := by decide +kernel
theorem d2 : decode yB 2 = .ok (.aload_n 1, 1) := by decide +kernel
theorem d3 : decode yB 3 = .ok (.arraylength, 1) := by decide +kernel
theorem d4 : decode yB 4 = .ok (.if_icmp (.ne) 30, 3) := by decide +kernel
theorem d7 : decode yB 7 = .ok (.iconst 0, 1) := by decide +kernel
theorem d8 : decode yB 8 = .ok (.istore_n 2, 1) := by decide +kernel
theorem d9 : decode yB 9 = .ok (.iload_n 2, 1) := by decide +kernel
theorem d10 : decode yB 10 = .ok (.aload_n 0, 1) := by decide +kernel
theorem d11 : decode yB 11 = .ok (.arraylength, 1) := by decide +kernel
theorem d12 : decode yB 12 = .ok (.if_icmp (.ge) 20, 3) := by decide +kernel
theorem d15 : decode yB 15 = .ok (.aload_n 0, 1) := by decide +kernel
theorem d16 : decode yB 16 = .ok (.iload_n 2, 1) := by decide +kernel
theorem d17 : decode yB 17 = .ok (.baload, 1) := by decide +kernel
theorem d18 : decode yB 18 = .ok (.aload_n 1, 1) := by decide +kernel
theorem d19 : decode yB 19 = .ok (.iload_n 2, 1) := by decide +kernel
theorem d20 : decode yB 20 = .ok (.baload, 1) := by decide +kernel
theorem d21 : decode yB 21 = .ok (.if_icmp (.eq) 5, 3) := by decide +kernel
theorem d24 : decode yB 24 = .ok (.iconst 0, 1) := by decide +kernel
theorem d25 : decode yB 25 = .ok (.ireturn, 1) := by decide +kernel
theorem d26 : decode yB 26 = .ok (.iinc 2 1, 3) := by decide +kernel
theorem d29 : decode yB 29 = .ok (.goto (-20), 3) := by decide +kernel
theorem d32 : decode yB 32 = .ok (.iconst 1, 1) := by decide +kernel
theorem d33 : decode yB 33 = .ok (.ireturn, 1) := by decide +kernel
theorem d34 : decode yB 34 = .ok (.iconst 0, 1) := by decide +kernel
theorem d35 : decode yB 35 = .ok (.ireturn, 1) := by decide +kernel
def site : List Cond := []
def tab : Cond := tabOf yN yB 3 (some .boolean) site
def P (a : Addr) (A : Cell) (b : Addr) (B : Cell) (args : Array Value) (s : State) : Prop := args = #[.ref a, .ref b] ∧ XT.Arr .byte a A s ∧ Typed .byte A ∧ XT.Arr .byte b B s ∧ Typed .byte B
/-- whether two byte[] are equal, place for place -/
theorem law (l : Launch) (a : Addr) (A : Cell) (b : Addr) (B : Cell) : Law l yN 2 2 0 0 yB 3 (some .boolean) site (P a A b B) (Says01 (EqC A B)) [] 0 0 := by
  refine Law.of_walk (plainFor_of_name (by decide +kernel)) (by decide +kernel) (by decide +kernel) (by decide) (fun _ _ h => by rw [h.1]; rfl) (fun _ U U' hal hh h => ⟨h.1, h.2.1.mv hal hh, h.2.2.1, h.2.2.2.1.mv hal hh, h.2.2.2.2⟩) (fun r U U' V V' h1 hal h2 h => Says01.mv r U U' V V' h1 hal h2 h) ?_
  intro p e s m args below meth c s₁ X0 hexec hbytes hml hret hlk hnm hown hh0 W hP
  obtain ⟨rfl, hA, tA, hB, tB⟩ := hP
  have a31 := hA.2.2.2
  have b31 := hB.2.2.2
  have hA0 := hA.mv X0.warmed.alike hh0
  have hB0 := hB.mv X0.warmed.alike hh0
  have c1 : Steps p.tables e below (s₁.setTop (entryFrame m #[.ref a, .ref b] 3)) (s₁.setTop (mkF m 0 #[.val (.ref a), .val (.ref b), .unset] [])) := entry rfl
  have c2 : Steps p.tables e below (s₁.setTop (entryFrame m #[.ref a, .ref b] 3)) (s₁.setTop (mkF m 4 #[.val (.ref a), .val (.ref b), .unset] [.int (Int32.ofNat B.slots.size), .int (Int32.ofNat A.slots.size)])) := c1.trans (by
    refine XS.aloadN X0.here hexec rfl (hb hbytes d0) rfl rfl ?_
    refine X0.alen hexec hA0 rfl rfl (hb hbytes d1) ?_
    refine XS.aloadN X0.here hexec rfl (hb hbytes d2) rfl rfl ?_
    refine X0.alen hexec hB0 rfl rfl (hb hbytes d3) ?_
    exact Steps.refl _)
  by_cases hs : A.slots.size = B.slots.size
  · have c3 : Steps p.tables e below (s₁.setTop (entryFrame m #[.ref a, .ref b] 3)) (s₁.setTop (mkF m 9 #[.val (.ref a), .val (.ref b), .val (.int 0)] [])) := c2.trans (by
      refine XS.icmpNo X0.here hexec rfl (hb hbytes d4) rfl (ii_ne_f (by rw [hs])) ?_
      refine iconstV X0.here hexec rfl 0 (hb hbytes d7) (by decide) ?_
      refine XS.istoreN X0.here hexec rfl (hb hbytes d8) rfl rfl ?_
      exact Steps.refl _)
    have loop : ∀ (r i : Nat), i + r = A.slots.size → (∀ j, j < i → yv A j = yv B j) → Steps p.tables e below (s₁.setTop (entryFrame m #[.ref a, .ref b] 3)) (s₁.setTop (mkF m 9 #[.val (.ref a), .val (.ref b), .val (.int (Int32.ofNat i))] [])) → ∃ (pc : Nat) (Ls : Array Slot) (v : Int32), (pc = 25 ∨ pc = 33) ∧ ((v = 1 ∧ EqC A B) ∨ (v = 0 ∧ ¬ EqC A B)) ∧ Steps p.tables e below (s₁.setTop (entryFrame m #[.ref a, .ref b] 3)) (s₁.setTop (mkF m pc Ls [.int v])) := by
      intro r
      induction r with
      | zero =>
        intro i hi he cl
        exact ⟨33, _, 1, Or.inr rfl, Or.inl ⟨rfl, hs, fun j hj => he j (by omega)⟩, cl.trans (by
          refine XS.iloadN X0.here hexec rfl (hb hbytes d9) rfl ?_
          refine XS.aloadN X0.here hexec rfl (hb hbytes d10) rfl rfl ?_
          refine X0.alen hexec hA0 rfl rfl (hb hbytes d11) ?_
          refine XS.icmpYes X0.here hexec rfl (pc0 := 12) rfl (hb hbytes d12) rfl (ii_ge_t (nlt32 (by omega) (by omega))) (by decide) rfl ?_
          refine iconstV X0.here hexec rfl 1 (hb hbytes d32) (by decide) ?_
          exact Steps.refl _)⟩
      | succ r ih =>
        intro i hi he cl
        have c4 : Steps p.tables e below (s₁.setTop (entryFrame m #[.ref a, .ref b] 3)) (s₁.setTop (mkF m 21 #[.val (.ref a), .val (.ref b), .val (.int (Int32.ofNat i))] [.int (yv B i), .int (yv A i)])) := cl.trans (by
          refine XS.iloadN X0.here hexec rfl (hb hbytes d9) rfl ?_
          refine XS.aloadN X0.here hexec rfl (hb hbytes d10) rfl rfl ?_
          refine X0.alen hexec hA0 rfl rfl (hb hbytes d11) ?_
          refine XS.icmpNo X0.here hexec rfl (hb hbytes d12) rfl (ii_ge_f (lt32 (by omega) (by omega))) ?_
          refine XS.aloadN X0.here hexec rfl (hb hbytes d15) rfl rfl ?_
          refine XS.iloadN X0.here hexec rfl (hb hbytes d16) rfl ?_
          refine X0.aget hexec hA0 rfl (yv_get hA tA (i := i) (by omega)) rfl rfl (hb hbytes d17) ?_
          refine XS.aloadN X0.here hexec rfl (hb hbytes d18) rfl rfl ?_
          refine XS.iloadN X0.here hexec rfl (hb hbytes d19) rfl ?_
          refine X0.aget hexec hB0 rfl (yv_get hB tB (i := i) (by omega)) rfl rfl (hb hbytes d20) ?_
          exact Steps.refl _)
        by_cases hv : yv A i = yv B i
        · have c5 : Steps p.tables e below (s₁.setTop (entryFrame m #[.ref a, .ref b] 3)) (s₁.setTop (mkF m 9 #[.val (.ref a), .val (.ref b), .val (.int (Int32.ofNat i + 1))] [])) := c4.trans (by
            refine XS.icmpYes X0.here hexec rfl (pc0 := 21) rfl (hb hbytes d21) rfl (ii_eq_t hv) (by decide) rfl ?_
            refine iincV X0.here hexec rfl 1 (hb hbytes d26) (by decide) rfl rfl ?_
            refine XS.goto X0.here hexec rfl (pc0 := 29) rfl (hb hbytes d29) (by decide) rfl ?_
            exact Steps.refl _)
          rw [succ32] at c5
          exact ih (i + 1) (by omega) (fun j hj => by
            by_cases e : j = i
            · rw [e]; exact hv
            · exact he j (by omega)) c5
        · exact ⟨25, _, 0, Or.inl rfl, Or.inr ⟨rfl, fun q => hv (q.2 i (by omega))⟩, c4.trans (by
            refine XS.icmpNo X0.here hexec rfl (hb hbytes d21) rfl (ii_eq_f hv) ?_
            refine iconstV X0.here hexec rfl 0 (hb hbytes d24) (by decide) ?_
            exact Steps.refl _)⟩
    obtain ⟨pc, Ls, v, hpc, hv, cz⟩ := loop A.slots.size 0 (by omega) (fun j hj => absurd hj (Nat.not_lt_zero j)) c3
    have nv : narrow .boolean (.int v) = .int v := by rcases hv with ⟨rfl, -⟩ | ⟨rfl, -⟩ <;> rfl
    rcases hpc with rfl | rfl
    · exact ⟨s₁, some (.int v), _, _, _, X0, rfl, rfl, rfl, (fun h => by cases h), ⟨v, rfl, hh0, hv⟩, fun fs hl => cz.trans (X0.ireturnOut hexec hret nv (Or.inr (Or.inl rfl)) (hb hbytes d25) hl)⟩
    · exact ⟨s₁, some (.int v), _, _, _, X0, rfl, rfl, rfl, (fun h => by cases h), ⟨v, rfl, hh0, hv⟩, fun fs hl => cz.trans (X0.ireturnOut hexec hret nv (Or.inr (Or.inl rfl)) (hb hbytes d33) hl)⟩
  · have c3 : Steps p.tables e below (s₁.setTop (entryFrame m #[.ref a, .ref b] 3)) (s₁.setTop (mkF m 35 #[.val (.ref a), .val (.ref b), .unset] [.int 0])) := c2.trans (by
      refine XS.icmpYes X0.here hexec rfl (pc0 := 4) rfl (hb hbytes d4) rfl (ii_ne_t (ne32 a31 b31 hs)) (by decide) rfl ?_
      refine iconstV X0.here hexec rfl 0 (hb hbytes d34) (by decide) ?_
      exact Steps.refl _)
    exact ⟨s₁, some (.int 0), _, _, _, X0, rfl, rfl, rfl, (fun h => by cases h), ⟨0, rfl, hh0, Or.inr ⟨rfl, fun q => hs q.1⟩⟩, fun fs hl => c3.trans (X0.ireturnOut hexec hret rfl (Or.inr (Or.inl rfl)) (hb hbytes d35) hl)⟩
end LEq
theorem Cod.ty {cd : Int32} {n : Nat} {f : Nat → Int32} {V : Cell} (h : Cod cd n f V) : Typed .byte V := fun i v hv => by
  have hi : i < V.slots.size := (Array.getElem?_eq_some_iff.mp hv).1
  rcases h with ⟨-, k1, k2⟩ | ⟨-, k1, k2, -⟩
  · rw [(k2 i (by omega)).1] at hv; cases hv; exact fits_lo8 _
  · rcases Nat.mod_two_eq_zero_or_one i with e | e
    · obtain ⟨j, rfl⟩ : ∃ j, i = 2 * j := ⟨i / 2, by omega⟩
      rw [(k2 j (by omega)).1] at hv; cases hv; exact fits_lo8 _
    · obtain ⟨j, rfl⟩ : ∃ j, i = 2 * j + 1 := ⟨i / 2, by omega⟩
      rw [(k2 j (by omega)).2] at hv; cases hv; exact fits_lo8 _
/-- the same text -/
def SameT (n : Nat) (f : Nat → Int32) (k : Nat) (g : Nat → Int32) : Prop := n = k ∧ ∀ j, j < n → f j = g j
theorem lo8_inj {x y : Int32} (h0 : ¬ x < 0) (h1 : ¬ 255 < x) (k0 : ¬ y < 0) (k1 : ¬ 255 < y) (h : lo8 x = lo8 y) : x = y := by
  rw [← lo8_mask h0 h1, ← lo8_mask k0 k1, h]
/-- arrays coded by one coder are equal just where the texts are -/
theorem Cod.eqv {cd : Int32} {n k : Nat} {f g : Nat → Int32} {V V' : Cell} (h : Cod cd n f V) (h' : Cod cd k g V') (hf : ∀ j, j < n → ¬ f j < 0 ∧ ¬ 65535 < f j) (hg : ∀ j, j < k → ¬ g j < 0 ∧ ¬ 65535 < g j) : EqC V V' ↔ SameT n f k g := by
  have yvv : ∀ {W : Cell} {i : Nat} {x : Int32}, W.slots[i]? = some (.int x) → yv W i = x := fun q => by unfold yv; rw [q]
  rcases h with ⟨rfl, k1, k2⟩ | ⟨rfl, k1, k2, -⟩
  · rcases h' with ⟨-, m1, m2⟩ | ⟨e, -⟩
    · constructor
      · rintro ⟨e1, e2⟩
        refine ⟨by omega, fun j hj => ?_⟩
        have q := e2 j (by omega)
        rw [yvv (k2 j hj).1, yvv (m2 j (by omega)).1] at q
        exact lo8_inj (hf j hj).1 (k2 j hj).2 (hg j (by omega)).1 (m2 j (by omega)).2 q
      · rintro ⟨rfl, e2⟩
        refine ⟨by omega, fun j hj => ?_⟩
        rw [yvv (k2 j (by omega)).1, yvv (m2 j (by omega)).1, e2 j (by omega)]
    · exact absurd e (by decide)
  · rcases h' with ⟨e, -⟩ | ⟨-, m1, m2, -⟩
    · exact absurd e (by decide)
    · constructor
      · rintro ⟨e1, e2⟩
        refine ⟨by omega, fun j hj => ?_⟩
        have q1 := e2 (2 * j) (by omega)
        have q2 := e2 (2 * j + 1) (by omega)
        rw [yvv (k2 j hj).1, yvv (m2 j (by omega)).1] at q1
        rw [yvv (k2 j hj).2, yvv (m2 j (by omega)).2] at q2
        rw [← pair_says (hf j hj).1 (hf j hj).2, ← pair_says (hg j (by omega)).1 (hg j (by omega)).2, q1, q2]
      · rintro ⟨rfl, e2⟩
        refine ⟨by omega, fun i hi => ?_⟩
        rcases Nat.mod_two_eq_zero_or_one i with e | e
        · obtain ⟨j, rfl⟩ : ∃ j, i = 2 * j := ⟨i / 2, by omega⟩
          rw [yvv (k2 j (by omega)).1, yvv (m2 j (by omega)).1, e2 j (by omega)]
        · obtain ⟨j, rfl⟩ : ∃ j, i = 2 * j + 1 := ⟨i / 2, by omega⟩
          rw [yvv (k2 j (by omega)).2, yvv (m2 j (by omega)).2, e2 j (by omega)]
/-- two codings differ: so do the texts -/
theorem Cod.dif {cd cd' : Int32} {n k : Nat} {f g : Nat → Int32} {V V' : Cell} (h : Cod cd n f V) (h' : Cod cd' k g V') (hne : ¬ cd = cd') : ¬ SameT n f k g := by
  rintro ⟨rfl, e⟩
  rcases h with ⟨rfl, -, k2⟩ | ⟨rfl, -, -, j, hj, hw⟩
  · rcases h' with ⟨rfl, -⟩ | ⟨-, -, -, j, hj, hw⟩
    · exact hne rfl
    · exact (k2 j hj).2 (by rw [e j hj]; exact hw)
  · rcases h' with ⟨-, -, m2⟩ | ⟨rfl, -⟩
    · exact (m2 j hj).2 (by rw [← e j hj]; exact hw)
    · exact hne rfl
/-- an object of exactly C is an instance of C -/
theorem cinst {p : Program} {l : Launch} {e : Env} {R : Room} {s : State} {m : MethodId} {args : Array Value} {below : List Frame} {meth : Method} {c : Code} {T : State} {locs : List Loc} {cells slots : Nat} (X : Stand p l e R s m args below meth c T locs cells slots) (hexec : p.tables.exec = Jvm.exec) {own C : String} {index : Nat} (hown : s.vm.findClass own = some m.cls) (hlink : (Cond.classLink own index C).before args s = true) {a : Addr} (hE : Exact C a T)
    {g : JFrame} (hg : g.method = m) {rest : List Value} (hstack : g.stack = .ref a :: rest) (hdg : decode c.code g.pc = .ok (.instanceof index, 3)) :
    ∃ T', Stand p l e R s m args below meth c T' locs cells slots ∧ T'.heap = T.heap ∧ ∀ target, Steps p.tables e below (T'.setTop { g with pc := g.pc + 3, stack := .int 1 :: rest }) target → Steps p.tables e below (T.setTop g) target := by
  obtain ⟨cB, h1, D, h2, h3, h4⟩ := hE
  have h1' : s.vm.findClass C = some cB := by rw [← X.warmed.alike.findClass]; exact h1
  obtain ⟨vm', X', st⟩ := X.instanceofYes hexec hown hlink h2 h4 h1' (by rw [h3]; exact Jvm.Free.SB.assignable_self _ _) hg hstack hdg
  exact ⟨_, X', rfl, st⟩
theorem cself {p : Program} {l : Launch} {e : Env} {R : Room} {s : State} {m : MethodId} {args : Array Value} {below : List Frame} {meth : Method} {c : Code} {T : State} {locs : List Loc} {cells slots : Nat} (X : Stand p l e R s m args below meth c T locs cells slots) (hexec : p.tables.exec = Jvm.exec) {own C : String} {index : Nat} (hown : s.vm.findClass own = some m.cls) (hlink : (Cond.classLink own index C).before args s = true) {a : Addr} (hE : Exact C a T)
    {g : JFrame} (hg : g.method = m) {rest : List Value} (hstack : g.stack = .ref a :: rest) (hdg : decode c.code g.pc = .ok (.checkcast index, 3)) :
    ∃ T', Stand p l e R s m args below meth c T' locs cells slots ∧ T'.heap = T.heap ∧ ∀ target, Steps p.tables e below (T'.setTop { g with pc := g.pc + 3, stack := .ref a :: rest }) target → Steps p.tables e below (T.setTop g) target := by
  obtain ⟨cB, h1, D, h2, h3, h4⟩ := hE
  have h1' : s.vm.findClass C = some cB := by rw [← X.warmed.alike.findClass]; exact h1
  obtain ⟨vm', X', st⟩ := X.checkcastYes hexec hown hlink h2 h4 h1' (by rw [h3]; exact Jvm.Free.SB.assignable_self _ _) hg hstack hdg
  exact ⟨_, X', rfl, fun t h => st t (by rw [← hstack] at h; exact h)⟩
namespace SEq
def yN : MethodName := ⟨"java/lang/String", "equals", "(Ljava/lang/Object;)Z"⟩
abbrev yB : ByteArray := jdk_42_method_66_code
theorem d0 : decode yB 0 = .ok (.aload_n 0, 1) := by decide +kernel
theorem d1 : decode yB 1 = .ok (.aload_n 1, 1) := by decide +kernel
theorem d2 : decode yB 2 = .ok (.if_acmp (.ne) 5, 3) := by decide +kernel
theorem d5 : decode yB 5 = .ok (.iconst 1, 1) := by decide +kernel
theorem d6 : decode yB 6 = .ok (.ireturn, 1) := by decide +kernel
theorem d7 : decode yB 7 = .ok (.aload_n 1, 1) := by decide +kernel
theorem d8 : decode yB 8 = .ok (.instanceof 10, 3) := by decide +kernel
theorem d11 : decode yB 11 = .ok (.ifCond (.eq) 43, 3) := by decide +kernel
theorem d14 : decode yB 14 = .ok (.aload_n 1, 1) := by decide +kernel
theorem d15 : decode yB 15 = .ok (.checkcast 10, 3) := by decide +kernel
theorem d18 : decode yB 18 = .ok (.astore_n 2, 1) := by decide +kernel
theorem d19 : decode yB 19 = .ok (.getstatic 38, 3) := by decide +kernel
theorem d22 : decode yB 22 = .ok (.ifCond (.eq) 14, 3) := by decide +kernel
theorem d25 : decode yB 25 = .ok (.aload_n 0, 1) := by decide +kernel
theorem d26 : decode yB 26 = .ok (.getfield 15, 3) := by decide +kernel
theorem d29 : decode yB 29 = .ok (.aload_n 2, 1) := by decide +kernel
theorem d30 : decode yB 30 = .ok (.getfield 15, 3) := by decide +kernel
theorem d33 : decode yB 33 = .ok (.if_icmp (.ne) 21, 3) := by decide +kernel
theorem d36 : decode yB 36 = .ok (.aload_n 0, 1) := by decide +kernel
theorem d37 : decode yB 37 = .ok (.getfield 9, 3) := by decide +kernel
theorem d40 : decode yB 40 = .ok (.aload_n 2, 1) := by decide +kernel
theorem d41 : decode yB 41 = .ok (.getfield 9, 3) := by decide +kernel
theorem d44 : decode yB 44 = .ok (.invokestatic 541, 3) := by decide +kernel
theorem d47 : decode yB 47 = .ok (.ifCond (.eq) 7, 3) := by decide +kernel
theorem d50 : decode yB 50 = .ok (.iconst 1, 1) := by decide +kernel
theorem d51 : decode yB 51 = .ok (.goto 4, 3) := by decide +kernel
theorem d54 : decode yB 54 = .ok (.iconst 0, 1) := by decide +kernel
theorem d55 : decode yB 55 = .ok (.ireturn, 1) := by decide +kernel
def site : List Cond := [.classLink "java/lang/String" 10 "java/lang/String", .fieldLink "java/lang/String" 38 "java/lang/String" "COMPACT_STRINGS" "Z", .fieldLink "java/lang/String" 15 "java/lang/String" "coder" "B", .fieldLink "java/lang/String" 9 "java/lang/String" "value" "[B", LEq.tab] ++ staticW "java/lang/String" 541 LEq.yN
def tab : Cond := tabOf yN yB 3 (some .boolean) site
def P (x t : Addr) (V : Cell) (cd : Int32) (n : Nat) (f : Nat → Int32) (y t' : Addr) (V' : Cell) (cd' : Int32) (k : Nat) (g : Nat → Int32) (z : Int32) (args : Array Value) (s : State) : Prop := args = #[.ref x, .ref y] ∧ Txt x t V cd n f s ∧ Txt y t' V' cd' k g s ∧ StaticIs s "java/lang/String" "COMPACT_STRINGS" "Z" (.int z) ∧ ¬ z = 0
/-- equals(Object) of two Strings: whether the texts are the same -/
theorem law (l : Launch) (x t : Addr) (V : Cell) (cd : Int32) (n : Nat) (f : Nat → Int32) (y t' : Addr) (V' : Cell) (cd' : Int32) (k : Nat) (g : Nat → Int32) (z : Int32) : Law l yN 2 1 1 14 yB 3 (some .boolean) site (P x t V cd n f y t' V' cd' k g z) (Says01 (SameT n f k g)) [] 0 0 := by
  refine Law.of_walk (plainFor_of_name (by decide +kernel)) (by decide +kernel) (by decide +kernel) (by decide) (fun _ _ h => by rw [h.1]; rfl) (fun _ U U' hal hh h => ⟨h.1, h.2.1.mv hal hh, h.2.2.1.mv hal hh, h.2.2.2.1.there hal hh, h.2.2.2.2⟩) (fun r U U' V V' h1 hal h2 h => Says01.mv r U U' V V' h1 hal h2 h) ?_
  intro p e s m args below meth c s₁ X0 hexec hbytes hml hret hlk hnm hown hh0 W hP
  obtain ⟨rfl, hx, hy, s1, hz⟩ := hP
  have c1 : Steps p.tables e below (s₁.setTop (entryFrame m #[.ref x, .ref y] 3)) (s₁.setTop (mkF m 2 #[.val (.ref x), .val (.ref y), .unset] [.ref y, .ref x])) := Steps.trans (entry rfl) (by
    show Steps p.tables e below (s₁.setTop (mkF m 0 #[.val (.ref x), .val (.ref y), .unset] [])) _
    refine XS.aloadN X0.here hexec rfl (hb hbytes d0) rfl rfl ?_
    refine XS.aloadN X0.here hexec rfl (hb hbytes d1) rfl rfl ?_
    exact Steps.refl _)
  by_cases hxy : x = y
  · have c2 : Steps p.tables e below (s₁.setTop (entryFrame m #[.ref x, .ref y] 3)) (s₁.setTop (mkF m 6 #[.val (.ref x), .val (.ref y), .unset] [.int 1])) := c1.trans (by
      refine acmpNo X0.here hexec rfl (hb hbytes d2) rfl rfl rfl (by simp [acmp, hxy]) ?_
      refine iconstV X0.here hexec rfl 1 (hb hbytes d5) (by decide) ?_
      exact Steps.refl _)
    subst hxy
    have ec : cd = cd' := by
      obtain ⟨D, fd, a1, a2, a3⟩ := hx.2.2.1
      obtain ⟨D', fd', b1, b2, b3⟩ := hy.2.2.1
      cases a1.symm.trans b1
      obtain ⟨q1, q2, q3, q4⟩ := a2.1
      obtain ⟨r1, r2, r3, r4⟩ := b2.1
      cases q4.symm.trans r4
      cases a3.symm.trans b3; rfl
    have et : t = t' := by
      obtain ⟨D, fd, a1, a2, a3⟩ := hx.2.1
      obtain ⟨D', fd', b1, b2, b3⟩ := hy.2.1
      cases a1.symm.trans b1
      obtain ⟨q1, q2, q3, q4⟩ := a2.1
      obtain ⟨r1, r2, r3, r4⟩ := b2.1
      cases q4.symm.trans r4
      cases a3.symm.trans b3; rfl
    subst ec et
    have ev : V = V' := by cases hx.2.2.2.1.1.symm.trans hy.2.2.2.1.1; rfl
    subst ev
    have hs : SameT n f k g := (Cod.eqv hx.2.2.2.2.1 hy.2.2.2.2.1 hx.2.2.2.2.2 hy.2.2.2.2.2).mp ⟨rfl, fun _ _ => rfl⟩
    exact ⟨s₁, some (.int 1), _, _, _, X0, rfl, rfl, rfl, (fun h => by cases h), ⟨1, rfl, hh0, Or.inl ⟨rfl, hs⟩⟩, fun fs hl => c2.trans (X0.ireturnOut hexec hret rfl (Or.inr (Or.inl rfl)) (hb hbytes d6) hl)⟩
  · have c2 : Steps p.tables e below (s₁.setTop (entryFrame m #[.ref x, .ref y] 3)) (s₁.setTop (mkF m 8 #[.val (.ref x), .val (.ref y), .unset] [.ref y])) := c1.trans (by
      refine acmpYes X0.here hexec rfl (pc0 := 2) rfl (hb hbytes d2) rfl rfl rfl (by simp [acmp, hxy]) (by decide) rfl ?_
      refine XS.aloadN X0.here hexec rfl (hb hbytes d7) rfl rfl ?_
      exact Steps.refl _)
    obtain ⟨T3, X3, q3, st3⟩ := cinst X0 hexec hown (wk W (.classLink "java/lang/String" 10 "java/lang/String")) (hy.mv X0.warmed.alike hh0).1 (g := (mkF m 8 #[.val (.ref x), .val (.ref y), .unset] [.ref y])) rfl (rest := []) rfl (hb hbytes d8)
    have hh3 := q3.trans hh0
    have c4 : Steps p.tables e below (s₁.setTop (entryFrame m #[.ref x, .ref y] 3)) (T3.setTop (mkF m 15 #[.val (.ref x), .val (.ref y), .unset] [.ref y])) := (c2.trans (st3 _ (Steps.refl _))).trans (by
      refine XS.ifNo X3.here hexec rfl (hb hbytes d11) rfl (i0_eq_f (by decide)) ?_
      refine XS.aloadN X3.here hexec rfl (hb hbytes d14) rfl rfl ?_
      exact Steps.refl _)
    obtain ⟨T5, X5, q5, st5⟩ := cself X3 hexec hown (wk W (.classLink "java/lang/String" 10 "java/lang/String")) (hy.mv X3.warmed.alike hh3).1 (g := (mkF m 15 #[.val (.ref x), .val (.ref y), .unset] [.ref y])) rfl (rest := []) rfl (hb hbytes d15)
    have hh5 := q5.trans hh3
    have c6 : Steps p.tables e below (s₁.setTop (entryFrame m #[.ref x, .ref y] 3)) (T5.setTop (mkF m 19 #[.val (.ref x), .val (.ref y), .val (.ref y)] [])) := (c4.trans (st5 _ (Steps.refl _))).trans (by
      refine XS.astoreN X5.here hexec rfl (hb hbytes d18) rfl rfl rfl ?_
      exact Steps.refl _)
    obtain ⟨T7, X7, q7, st7⟩ := X5.sget hexec hown (wk W (.fieldLink "java/lang/String" 38 "java/lang/String" "COMPACT_STRINGS" "Z")) s1 (fun _ _ h => by rw [hh5]; exact h) (g := (mkF m 19 #[.val (.ref x), .val (.ref y), .val (.ref y)] [])) rfl (hb hbytes d19)
    have hh7 := q7.trans hh5
    have c8 : Steps p.tables e below (s₁.setTop (entryFrame m #[.ref x, .ref y] 3)) (T7.setTop (mkF m 26 #[.val (.ref x), .val (.ref y), .val (.ref y)] [.ref x])) := (c6.trans (st7 _ (Steps.refl _))).trans (by
      refine XS.ifNo X7.here hexec rfl (hb hbytes d22) rfl (i0_eq_f hz) ?_
      refine XS.aloadN X7.here hexec rfl (hb hbytes d25) rfl rfl ?_
      exact Steps.refl _)
    obtain ⟨T9, X9, q9, st9⟩ := X7.hget hexec hown (wk W (.fieldLink "java/lang/String" 15 "java/lang/String" "coder" "B")) (hx.mv X7.warmed.alike hh7).2.2.1 (g := (mkF m 26 #[.val (.ref x), .val (.ref y), .val (.ref y)] [.ref x])) rfl (rest := []) rfl (hb hbytes d26)
    have hh9 := q9.trans hh7
    have c10 : Steps p.tables e below (s₁.setTop (entryFrame m #[.ref x, .ref y] 3)) (T9.setTop (mkF m 30 #[.val (.ref x), .val (.ref y), .val (.ref y)] [.ref y, .int cd])) := (c8.trans (st9 _ (Steps.refl _))).trans (by
      refine XS.aloadN X9.here hexec rfl (hb hbytes d29) rfl rfl ?_
      exact Steps.refl _)
    obtain ⟨T11, X11, q11, st11⟩ := X9.hget hexec hown (wk W (.fieldLink "java/lang/String" 15 "java/lang/String" "coder" "B")) (hy.mv X9.warmed.alike hh9).2.2.1 (g := (mkF m 30 #[.val (.ref x), .val (.ref y), .val (.ref y)] [.ref y, .int cd])) rfl (rest := [.int cd]) rfl (hb hbytes d30)
    have hh11 := q11.trans hh9
    have c12 : Steps p.tables e below (s₁.setTop (entryFrame m #[.ref x, .ref y] 3)) (T11.setTop (mkF m 33 #[.val (.ref x), .val (.ref y), .val (.ref y)] [.int cd', .int cd])) := c10.trans (st11 _ (Steps.refl _))
    by_cases hcd : cd = cd'
    · subst hcd
      have c13 : Steps p.tables e below (s₁.setTop (entryFrame m #[.ref x, .ref y] 3)) (T11.setTop (mkF m 37 #[.val (.ref x), .val (.ref y), .val (.ref y)] [.ref x])) := c12.trans (by
        refine XS.icmpNo X11.here hexec rfl (hb hbytes d33) rfl (ii_ne_f rfl) ?_
        refine XS.aloadN X11.here hexec rfl (hb hbytes d36) rfl rfl ?_
        exact Steps.refl _)
      obtain ⟨T14, X14, q14, st14⟩ := X11.hget hexec hown (wk W (.fieldLink "java/lang/String" 9 "java/lang/String" "value" "[B")) (hx.mv X11.warmed.alike hh11).2.1 (g := (mkF m 37 #[.val (.ref x), .val (.ref y), .val (.ref y)] [.ref x])) rfl (rest := []) rfl (hb hbytes d37)
      have hh14 := q14.trans hh11
      have c15 : Steps p.tables e below (s₁.setTop (entryFrame m #[.ref x, .ref y] 3)) (T14.setTop (mkF m 41 #[.val (.ref x), .val (.ref y), .val (.ref y)] [.ref y, .ref t])) := (c13.trans (st14 _ (Steps.refl _))).trans (by
        refine XS.aloadN X14.here hexec rfl (hb hbytes d40) rfl rfl ?_
        exact Steps.refl _)
      obtain ⟨T16, X16, q16, st16⟩ := X14.hget hexec hown (wk W (.fieldLink "java/lang/String" 9 "java/lang/String" "value" "[B")) (hy.mv X14.warmed.alike hh14).2.1 (g := (mkF m 41 #[.val (.ref x), .val (.ref y), .val (.ref y)] [.ref y, .ref t])) rfl (rest := [.ref t]) rfl (hb hbytes d41)
      have hh16 := q16.trans hh14
      have c17 : Steps p.tables e below (s₁.setTop (entryFrame m #[.ref x, .ref y] 3)) (T16.setTop (mkF m 44 #[.val (.ref x), .val (.ref y), .val (.ref y)] [.ref t', .ref t])) := c15.trans (st16 _ (Steps.refl _))
      obtain ⟨v18, T18, X18, E18, g18⟩ := X16.callS hexec (LEq.law l t V t' V') hown (wks W (staticW "java/lang/String" 541 LEq.yN)) (wk W LEq.tab) (W := 0) (Nat.le_of_ble_eq_true rfl) (Nat.le_of_ble_eq_true rfl) (Nat.le_refl _) (Nat.le_refl _) (g := (mkF m 44 #[.val (.ref x), .val (.ref y), .val (.ref y)] [.ref t', .ref t])) rfl (by rw [hml]; rfl) c17 (argsL := [.ref t, .ref t']) (rest := []) rfl rfl (by show 2 * 0 + 0 ≤ _; decide) (hb hbytes d44) (⟨rfl, hx.2.2.2.1.mv X16.warmed.alike hh16, hx.2.2.2.2.1.ty, hy.2.2.2.1.mv X16.warmed.alike hh16, hy.2.2.2.2.1.ty⟩)
      obtain ⟨v, rfl, q18, hv⟩ := E18
      have iff := Cod.eqv hx.2.2.2.2.1 hy.2.2.2.2.1 hx.2.2.2.2.2 hy.2.2.2.2.2
      rcases hv with ⟨rfl, he⟩ | ⟨rfl, he⟩
      · have c19 : Steps p.tables e below (s₁.setTop (entryFrame m #[.ref x, .ref y] 3)) (T18.setTop (mkF m 55 #[.val (.ref x), .val (.ref y), .val (.ref y)] [.int 1])) := Steps.trans g18 (by
          refine XS.ifNo X18.here hexec rfl (hb hbytes d47) rfl (i0_eq_f (by decide)) ?_
          refine iconstV X18.here hexec rfl 1 (hb hbytes d50) (by decide) ?_
          refine XS.goto X18.here hexec rfl (pc0 := 51) rfl (hb hbytes d51) (by decide) rfl ?_
          exact Steps.refl _)
        exact ⟨T18, some (.int 1), _, _, _, X18, rfl, rfl, rfl, (fun h => by cases h), ⟨1, rfl, q18.trans hh16, Or.inl ⟨rfl, iff.mp he⟩⟩, fun fs hl => c19.trans (X18.ireturnOut hexec hret rfl (Or.inr (Or.inl rfl)) (hb hbytes d55) hl)⟩
      · have c19 : Steps p.tables e below (s₁.setTop (entryFrame m #[.ref x, .ref y] 3)) (T18.setTop (mkF m 55 #[.val (.ref x), .val (.ref y), .val (.ref y)] [.int 0])) := Steps.trans g18 (by
          refine XS.ifYes X18.here hexec rfl (pc0 := 47) rfl (hb hbytes d47) rfl (i0_eq_t rfl) (by decide) rfl ?_
          refine iconstV X18.here hexec rfl 0 (hb hbytes d54) (by decide) ?_
          exact Steps.refl _)
        exact ⟨T18, some (.int 0), _, _, _, X18, rfl, rfl, rfl, (fun h => by cases h), ⟨0, rfl, q18.trans hh16, Or.inr ⟨rfl, fun q => he (iff.mpr q)⟩⟩, fun fs hl => c19.trans (X18.ireturnOut hexec hret rfl (Or.inr (Or.inl rfl)) (hb hbytes d55) hl)⟩
    · have c13 : Steps p.tables e below (s₁.setTop (entryFrame m #[.ref x, .ref y] 3)) (T11.setTop (mkF m 55 #[.val (.ref x), .val (.ref y), .val (.ref y)] [.int 0])) := c12.trans (by
        refine XS.icmpYes X11.here hexec rfl (pc0 := 33) rfl (hb hbytes d33) rfl (ii_ne_t hcd) (by decide) rfl ?_
        refine iconstV X11.here hexec rfl 0 (hb hbytes d54) (by decide) ?_
        exact Steps.refl _)
      exact ⟨T11, some (.int 0), _, _, _, X11, rfl, rfl, rfl, (fun h => by cases h), ⟨0, rfl, hh11, Or.inr ⟨rfl, Cod.dif hx.2.2.2.2.1 hy.2.2.2.2.1 hcd⟩⟩, fun fs hl => c13.trans (X11.ireturnOut hexec hret rfl (Or.inr (Or.inl rfl)) (hb hbytes d55) hl)⟩
theorem pays {l : Launch} {R : Room} {p : Program} {e : Env} {below : List Frame} {s : State} {sargs : Array Value} {len W : Nat} (x t : Addr) (V : Cell) (cd : Int32) (n : Nat) (f : Nat → Int32) (y t' : Addr) (V' : Cell) (cd' : Int32) (k : Nat) (g : Nat → Int32) (z : Int32) (htab : tab.before sargs s = true) (hfr : 2 ≤ R.frames) (hlo : W + 28 ≤ R.locals) :
    Back l R p e below s sargs yN len W (fun A₁ a₁ => A₁.cells + 0 ≤ R.cells ∧ A₁.slots + 0 ≤ R.slots ∧ P x t V cd n f y t' V' cd' k g z a₁ A₁.U) (fun A₁ _ v₁ B₁ => Says01 (SameT n f k g) v₁ A₁.U B₁.U ∧ B₁.locs = A₁.locs ++ [] ∧ B₁.cells = A₁.cells + 0 ∧ B₁.slots = A₁.slots + 0) :=
  (law l x t V cd n f y t' V' cd' k g z).pays htab hfr (by omega)
end SEq
end StrChars
namespace StrChars.Road
open Jvm Sem ClassFile Op Lib Jvm.Stand Jvm.Free Jvm.Free.XT
open Jvm.Lib.Cold (StaticIs)
/-- the words of String.equals(Object) -/
abbrev wordsEq : List Jvm.Cond := [.code SEq.yN SEq.yB 3 (some .boolean), .initialized ST, .classLink ST 10 ST, .fieldLink ST 38 ST "COMPACT_STRINGS" "Z", .fieldLink ST 15 ST "coder" "B", .fieldLink ST 9 ST "value" "[B", .methodLink ST 541 LEq.yN, .static LEq.yN, .code LEq.yN LEq.yB 3 (some .boolean), .initialized "java/lang/StringLatin1"]
theorem tabEq_of {a : Array Value} {s : State} (h : ∀ w ∈ wordsEq, w.before a s = true) : SEq.tab.before a s = true := by
  have hl : LEq.tab.before a s = true := unparts (wk h (.code LEq.yN LEq.yB 3 (some .boolean))) (wks h (.initialized LEq.yN.cls :: LEq.site))
  have q := consq hl h
  exact unparts (wk q (.code SEq.yN SEq.yB 3 (some .boolean))) (wks q (.initialized SEq.yN.cls :: SEq.site))
theorem movedEq {Z s : State} {a0 args : Array Value} (hZ : Z.Warmed39 s.vm) (hw : ∀ d ∈ wordsEq, d.before a0 Z = true) : ∀ d ∈ wordsEq, d.before args s = true := fun d hd => by
  have t : ∀ d ∈ wordsEq, (d.onTables && d.keepsFace) = true := by decide +kernel
  exact RoadKit.mv hZ (hw d hd) (t d hd)
/-- the road's facts of a String, as the laws ask it -/
theorem txt_of {Z U : State} {a0 : Array Value} {kI : Nat} (wi : (Jvm.Cond.instantiable ST kI).before a0 Z = true) (al : Z.vm.Alike U.vm) {x t : Addr} {kb : ClassId} {cs : List Int32} {cd N2 : Int32} {vs : List Value} (E : RoadKit.Exa Z U.heap x ST) (V : RoadKit.Fld Z U.heap x ST "value" "[B" (.ref t)) (C : RoadKit.Fld Z U.heap x ST "coder" "B" (.int cd)) (K : RoadKit.Arv Z U.heap t kb .byte N2 vs (.int 0)) (hc : CodA cs cd N2 vs) (hb : ∀ c ∈ cs, ¬ c < 0 ∧ ¬ (65535 : Int32) < c) (l2 : cs.length ≤ 4000) :
    ∃ A, Txt x t A cd cs.length (fun j => cs.getD j 0) U := by
  obtain ⟨A, K1, K2, K3, K4, K5, K6⟩ := K
  have hcod := hc.cod (by omega) K3 K5
  obtain ⟨D, fV, fC, hB, F1, F2, g1, g2, -, -⟩ := strObj wi al E V C
  exact ⟨A, ⟨_, hB.2.2.1, D, hB.1, rfl, by cases q : D.vm <;> first | rfl | exact absurd q (hB.2.1.2 _)⟩, Has.of hB F1 g1, Has.of hB F2 g2, ⟨K1.1, State.isArrayOf_alike al K1.2.1, K1.2.2, by rcases hcod with ⟨-, q, -⟩ | ⟨-, q, -⟩ <;> omega⟩, hcod, fun j hj => by
    have e : cs.getD j 0 = cs[j] := by simp [List.getD_eq_getElem?_getD, hj]
    show ¬ cs.getD j 0 < 0 ∧ ¬ 65535 < cs.getD j 0
    rw [e]; exact hb _ (List.getElem_mem _)⟩
theorem same_list (cs ds : List Int32) : SameT cs.length (fun j => cs.getD j 0) ds.length (fun j => ds.getD j 0) ↔ cs = ds := by
  constructor
  · rintro ⟨e, q⟩
    refine List.ext_getElem e fun j h1 h2 => ?_
    have := q j h1
    simpa [List.getD_eq_getElem?_getD, h1, h2] using this
  · rintro rfl
    exact ⟨rfl, fun _ _ => rfl⟩
/-- **equals(Object) OF TWO SUCH STRINGS**: 1 just where the chars are the same -/
theorem eqW {p : Program} {l : Launch} {e : Env} {R : Room} {s : State} {args : Array Value} {below : List Frame} {len W : Nat} {Z : State} {a0 : Array Value} {h : Heap} (hZ : Z.Warmed39 s.vm) (hw : ∀ d ∈ wordsEq, d.before a0 Z = true) {kI : Nat} (wi : (Jvm.Cond.instantiable ST kI).before a0 Z = true)
    {x t : Addr} {kb : ClassId} {cs : List Int32} {cd N2 : Int32} {vs : List Value} (E : RoadKit.Exa Z h x ST) (V : RoadKit.Fld Z h x ST "value" "[B" (.ref t)) (C : RoadKit.Fld Z h x ST "coder" "B" (.int cd)) (K : RoadKit.Arv Z h t kb .byte N2 vs (.int 0)) (hc : CodA cs cd N2 vs) (hb : ∀ c ∈ cs, ¬ c < 0 ∧ ¬ (65535 : Int32) < c) (l2 : cs.length ≤ 4000)
    {y t' : Addr} {kb' : ClassId} {ds : List Int32} {cd' N2' : Int32} {vs' : List Value} (E' : RoadKit.Exa Z h y ST) (V' : RoadKit.Fld Z h y ST "value" "[B" (.ref t')) (C' : RoadKit.Fld Z h y ST "coder" "B" (.int cd')) (K' : RoadKit.Arv Z h t' kb' .byte N2' vs' (.int 0)) (hc' : CodA ds cd' N2' vs') (hb' : ∀ c ∈ ds, ¬ c < 0 ∧ ¬ (65535 : Int32) < c) (l2' : ds.length ≤ 4000)
    {z : Int32} (S : RoadKit.Sta Z h ST "COMPACT_STRINGS" "Z" (.int z)) (hz : ¬ z = 0) (hfr : 2 ≤ R.frames) (hlo : W + 28 ≤ R.locals) :
    Back l R p e below s args (⟨"java/lang/String", "equals", "(Ljava/lang/Object;)Z"⟩ : MethodName) len W (fun P a => a = #[.ref x, .ref y] ∧ P.U.heap = h ∧ P.cells + 0 ≤ R.cells ∧ P.slots + 0 ≤ R.slots)
      (fun P _ v B => ∃ L, (((v = some (.int 1) ∧ cs = ds) ∨ (v = some (.int 0) ∧ ¬ cs = ds)) ∧ L = [] ∧ B.U.heap = h) ∧ B.locs = P.locs ++ L ∧ B.cells = P.cells + 0 ∧ B.slots = P.slots + 0) := by
  intro m meth c P g ig mk a X hg hsize hdg hW hn hp'
  obtain ⟨rfl, rfl, r1, r2⟩ := hp'
  have al : Z.vm.Alike P.U.vm := hZ.alike.trans X.warmed.alike
  obtain ⟨A, hx⟩ := txt_of wi al E V C K hc hb l2
  obtain ⟨A', hy⟩ := txt_of wi al E' V' C' K' hc' hb' l2'
  obtain ⟨v, B, X', ⟨⟨w, hv, hh, hq⟩, hl, hk, hs⟩, st⟩ := SEq.pays x t A cd cs.length (fun j => cs.getD j 0) y t' A' cd' ds.length (fun j => ds.getD j 0) z (tabEq_of (movedEq hZ hw)) hfr hlo m meth c P g ig mk _ X hg hsize hdg hW hn ⟨r1, r2, rfl, hx, hy, sta_is al S, hz⟩
  refine ⟨v, B, X', ⟨[], ⟨?_, rfl, hh⟩, hl, hk, hs⟩, st⟩
  rcases hq with ⟨rfl, q⟩ | ⟨rfl, q⟩
  · exact Or.inl ⟨hv, (same_list cs ds).mp q⟩
  · exact Or.inr ⟨hv, fun e => q ((same_list cs ds).mpr e)⟩
end StrChars.Road
namespace StrChars.Road
open Jvm Sem ClassFile Op Lib Jvm.Stand Jvm.Free Jvm.Free.XT
open Jvm.Lib.Cold (StaticIs)
/-- what backV says of its String, as the contracts of this text ask it: cs's low bytes, coder 0 -/
theorem codOf {cs : List Int32} {n : Nat} (hn : cs.length = n) (hb : ∀ c ∈ cs, ¬ 255 < c) : CodA cs 0 (Int32.ofNat n) ((cs.map lo8).map Value.int) := Or.inl ⟨rfl, by rw [hn], by simp [List.map_map, Function.comp_def], hb⟩
end StrChars.Road
end Jvm.Pilot.@@N@@
namespace Jvm.Pilot.@@N@@
open Jvm Jvm.ClassFile Sem Op Lib Jvm.Free Jvm.Stand Jvm.LawKit Jvm.RoadKit Bundle Jvm.Pilot.@@N@@.Jvm.D

/-! Strings -/
abbrev own_ST : String := "java/lang/String"
theorem own_ext_refl (h : Heap) : Ext h h := ⟨Nat.le_refl _, fun _ _ q => q⟩
theorem own_ext_trans {h h1 h2 : Heap} (E : Ext h h1) (F : Ext h1 h2) : Ext h h2 := ⟨Nat.le_trans E.1 F.1, fun a c q => F.2 a c (E.2 a c q)⟩
theorem own_ext_keep {h h1 h2 : Heap} {ws : List Addr} (E : Ext h h1) (K : Keep h1 h2 ws) (q : ∀ w ∈ ws, h.size ≤ w) : Ext h h2 :=
  ⟨Nat.le_trans E.1 K.1, fun a c r => K.2.1 a c (E.2 a c r) fun z => absurd (Array.getElem?_eq_some_iff.mp r).1 (Nat.not_lt.mpr (q a z))⟩
theorem own_ext_wr {h h1 h2 : Heap} {a : Addr} {sl : Nat} {v : Value} (E : Ext h h1) (W : Wr h1 h2 a sl v) (q : h.size ≤ a) : Ext h h2 := own_ext_keep E (Keep.of_wr W) (allS q all0)
/-- x is a String of the chars cs, Latin-1 -/
def own_Str (Z : State) (h : Heap) (x : Addr) (cs : List Int32) : Prop := Exa Z h x "java/lang/String" ∧ Fld Z h x "java/lang/String" "coder" "B" (.int 0) ∧
  ∃ (t : Addr) (kb : ClassId), Fld Z h x "java/lang/String" "value" "[B" (.ref t) ∧ Arv Z h t kb .byte (Int32.ofNat cs.length) ((cs.map fun c => c.toInt8.toInt32).map Value.int) (.int 0)
theorem own_Str.ext {Z : State} {h h' : Heap} {x : Addr} {cs : List Int32} (F : own_Str Z h x cs) (E : Ext h h') : own_Str Z h' x cs := by
  obtain ⟨a, b, t, kb, c, d⟩ := F
  exact ⟨a.ext E, b.ext E, t, kb, c.ext E, d.ext E⟩
/-- each char is Latin-1 -/
def own_lat (cs : List Int32) : Prop := ∀ c ∈ cs, ¬ c < 0 ∧ ¬ (255 : Int32) < c
theorem own_up {cs : List Int32} (h : own_lat cs) : ∀ c ∈ cs, ¬ c < 0 ∧ ¬ (65535 : Int32) < c := fun c hc => ⟨(h c hc).1, fun q => (h c hc).2 (by rw [Int32.lt_iff_toInt_lt] at q ⊢; have e1 : (65535 : Int32).toInt = 65535 := rfl; have e2 : (255 : Int32).toInt = 255 := rfl; omega)⟩
theorem own_safe {Z : State} {EL : List (String × Nat)} {vm : Vm} {h : Heap} {x : Addr} (hal : Z.vm.Alike vm) (E : Exa Z h x "java/lang/String") (F : Fld Z h x "java/lang/String" "value" "[B" .null) : Safe Z EL vm h x := fun B => by
  obtain ⟨p, -, u, a, -, q, -, G, rfl | rfl⟩ := B
  · obtain ⟨cell, cf, k, i, f, h1, h2, h3, h4, h5, h6, h7⟩ := F
    cases (show h[q.sa]? = some q.sC from G.ha).symm.trans h1
    obtain ⟨cS, ⟨⟨s1, s2, s3, ⟨cv, kv, iv, s4, s4'⟩, -, s6, s7, s8, -⟩, -, -⟩, -⟩ := G
    obtain ⟨kv', z4⟩ := ff_back (U := Wst Z vm h) hal s4
    cases h2.symm.trans z4
    rw [h7] at s8
    cases s8
  · obtain ⟨cell, k, e1, e2, e3, -, -⟩ := E
    cases (show h[q.sd]? = some q.SA from G.hd).symm.trans e1
    obtain ⟨cS, -, -, fB, -⟩ := G
    have fB' : Z.vm.findClass "[B" = some q.SA.cls := by rw [← hal.findClass]; exact fB
    exact ids_ne e2 fB' (by decide) rfl
theorem own_w {s t : State} {o : Outcome} {L : List Loc} {k n k' n' : Nat} (h : ReturnedEndW s o t L k n) (hk : k ≤ k') (hn : n ≤ n') : ReturnedEndW s o t L k' n' := ⟨h.1, h.2.1, h.2.2.1, h.2.2.2.mono hk hn⟩
theorem dE4_0 : decode jdk_42_method_149_code 0 = .ok (.aload_n 0, 1) := by decide +kernel
theorem dE4_1 : decode jdk_42_method_149_code 1 = .ok (.invokespecial 1, 3) := by decide +kernel
theorem dE4_4 : decode jdk_42_method_149_code 4 = .ok (.iload_n 3, 1) := by decide +kernel
theorem dE4_5 : decode jdk_42_method_149_code 5 = .ok (.ifCond .ne 22, 3) := by decide +kernel
theorem dE4_8 : decode jdk_42_method_149_code 8 = .ok (.aload_n 0, 1) := by decide +kernel
theorem dE4_9 : decode jdk_42_method_149_code 9 = .ok (.ldc 7, 2) := by decide +kernel
theorem dE4_11 : decode jdk_42_method_149_code 11 = .ok (.getfield 9, 3) := by decide +kernel
theorem dE4_14 : decode jdk_42_method_149_code 14 = .ok (.putfield 9, 3) := by decide +kernel
theorem dE4_17 : decode jdk_42_method_149_code 17 = .ok (.aload_n 0, 1) := by decide +kernel
theorem dE4_18 : decode jdk_42_method_149_code 18 = .ok (.ldc 7, 2) := by decide +kernel
theorem dE4_20 : decode jdk_42_method_149_code 20 = .ok (.getfield 15, 3) := by decide +kernel
theorem dE4_23 : decode jdk_42_method_149_code 23 = .ok (.putfield 15, 3) := by decide +kernel
theorem dE4_26 : decode jdk_42_method_149_code 26 = .ok (.return_, 1) := by decide +kernel
theorem dE1_0 : decode jdk_42_method_3_code 0 = .ok (.aload_n 0, 1) := by decide +kernel
theorem dE1_1 : decode jdk_42_method_3_code 1 = .ok (.aload_n 1, 1) := by decide +kernel
theorem dE1_2 : decode jdk_42_method_3_code 2 = .ok (.iconst 0, 1) := by decide +kernel
theorem dE1_3 : decode jdk_42_method_3_code 3 = .ok (.aload_n 1, 1) := by decide +kernel
theorem dE1_4 : decode jdk_42_method_3_code 4 = .ok (.arraylength, 1) := by decide +kernel
theorem dE1_5 : decode jdk_42_method_3_code 5 = .ok (.aconst_null, 1) := by decide +kernel
theorem dE1_6 : decode jdk_42_method_3_code 6 = .ok (.invokespecial 27, 3) := by decide +kernel
theorem dE1_9 : decode jdk_42_method_3_code 9 = .ok (.return_, 1) := by decide +kernel
theorem pn_S : plainName "java/lang/String" = true := by first | (simp [plainName, overriddenIn]; done) | decide +kernel
theorem efE4 (m : MethodId) (x b : Addr) (i j : Int32) : entryFrame m #[(.ref x), (.ref b), (.int i), (.int j), .null] 6 = mkF m 0 #[.val (.ref x), .val (.ref b), .val (.int i), .val (.int j), .val .null, .unset] [] := by first | (simp [entryFrame, mkF, argsToLocals, Value.category]; done) | rfl
theorem efE1 (m : MethodId) (x0 : Addr) (x1 : Addr) : entryFrame m #[(.ref x0), (.ref x1)] 2 = mkF m 0 #[.val (.ref x0), .val (.ref x1)] [] := by first | (simp [entryFrame, mkF, argsToLocals, Value.category, maxLocals]; done) | rfl
theorem pdE4 : parseMethodDescriptor "([CIILjava/lang/Void;)V" = some ⟨[(.array .char), .int, .int, (.object "java/lang/Void")], none⟩ := by decide +kernel
theorem pdE1 : parseMethodDescriptor "([C)V" = some ⟨[(.array .char)], none⟩ := by decide +kernel
def own_QE (Z : State) (x : Addr) (h0 : Heap) (n0 : Nat) (v : Option Value) (h : Heap) (L : List Loc) : Prop := v = none ∧ Fr n0 L ∧ Keep h0 h [x] ∧ own_Str Z h x []
set_option maxRecDepth 65536 in
set_option maxHeartbeats 40000000 in
theorem own_E4 (l : Launch) (Z : State) (a0 : Array Value) (hw : ∀ d ∈ tables_1, d.before a0 Z = true) (EL : List (String × Nat)) (hEL : EW Z a0 EL) (hmem : ("java/lang/String", 7) ∈ EL) (x b : Addr) (h0 : Heap) (n0 : Nat) (ge : n0 ≤ x) (Ex : Exa Z h0 x "java/lang/String") (Fv : Fld Z h0 x "java/lang/String" "value" "[B" .null) (Fc : Fld Z h0 x "java/lang/String" "coder" "B" (.int (0 : Int32))) :
    MetFree l (⟨"java/lang/String", "<init>", "([CIILjava/lang/Void;)V"⟩ : MethodName) (head1 [Jvm.Cond.code (⟨"java/lang/String", "<init>", "([CIILjava/lang/Void;)V"⟩ : MethodName) jdk_42_method_149_code 6 none] ({ frames := 1, cells := 2, slots := 4, locals := 20 } : Room)) (fun a U => a = #[(.ref x), (.ref b), (.int (0 : Int32)), (.int (0 : Int32)), .null] ∧ Z.Warmed39 U.vm ∧ U.heap = h0 ∧ CHv Z EL U.vm h0) (fun _ _ _ _ _ => True) (fun _ U o U' => ∃ v L, o = .returned v ∧ own_QE Z x h0 n0 v U'.heap L ∧ CHr Z EL U.vm U.heap U'.vm U'.heap ∧ ReturnedEndW U o U' L ({ frames := 1, cells := 2, slots := 4, locals := 20 } : Room).cells ({ frames := 1, cells := 2, slots := 4, locals := 20 } : Room).slots) := by
  refine MetFree.of_bodySF (plainFor_of_name pn_S) hisR ?_
  intro p e s m args below meth c s₁ Bd hml0 hP hK
  obtain ⟨rfl, hZ, hh, H0⟩ := hP
  have hx := Bd.exec
  have hby := Bd.bytes
  have hml : c.maxLocals = 6 := hml0
  have hown : s.vm.findClass "java/lang/String" = some m.cls := findClass_of_methodNamed Bd.named
  have hnm := (name_of_methodNamed Bd.named Bd.method).1
  have X0 : Stand p l e ({ frames := 1, cells := 2, slots := 4, locals := 20 } : Room) (s.setVm s.vm) m #[(.ref x), (.ref b), (.int (0 : Int32)), (.int (0 : Int32)), .null] below meth c s₁ [] 0 0 := Stand.of_body Bd
  have e0 : s₁.heap = h0 := by rw [← hh, Bd.state]; rfl
  have hS0 : s.Since s.vm s.heap.size := (State.WarmedH.refl s).since _
  have cne : RoadKit.slotOf Z "java/lang/String" "coder" "B" ≠ RoadKit.slotOf Z "java/lang/String" "value" "[B" := slot_ne (Or.inr (hw _ (List.mem_of_getElem? (i := 31) rfl))) (Or.inr (hw _ (List.mem_of_getElem? (i := 30) rfl))) (by decide) (t := .byte) (t' := .array .byte) (by decide) (by decide)
  have S0 : Safe Z EL s.vm h0 x := own_safe hZ.alike Ex Fv
  have xlt : x < h0.size := Ex.lt
  have hwS : ∀ a ∈ Bundle.stringAtoms, a.before a0 Z = true := fun d hd => hw d ((by decide +kernel : ∀ d ∈ Bundle.stringAtoms, d ∈ tables_1) d hd)
  have sg1 : ∀ target, Steps p.tables e below (s₁.setTop (mkF m 1 #[.val (.ref x), .val (.ref b), .val (.int (0 : Int32)), .val (.int (0 : Int32)), .val .null, .unset] [(.ref x)])) target → Steps p.tables e below (s₁.setTop (mkF m 0 #[.val (.ref x), .val (.ref b), .val (.int (0 : Int32)), .val (.int (0 : Int32)), .val .null, .unset] [])) target := by
    intro target kt
    show Steps p.tables e below (s₁.setTop (mkF m 0 #[.val (.ref x), .val (.ref b), .val (.int (0 : Int32)), .val (.int (0 : Int32)), .val .null, .unset] [])) _
    refine XS.aloadN X0.here hx rfl (hb hby dE4_0) rfl rfl ?_
    show Steps p.tables e below (s₁.setTop (mkF m 1 #[.val (.ref x), .val (.ref b), .val (.int (0 : Int32)), .val (.int (0 : Int32)), .val .null, .unset] [(.ref x)])) _
    exact kt
  obtain ⟨T1, X1, e1, st1⟩ := initO X0 hx hZ hown (hw _ (List.mem_of_getElem? (i := 25) rfl)) (hw _ (List.mem_of_getElem? (i := 26) rfl)) (hw _ (List.mem_of_getElem? (i := 27) rfl)) e0 (g := (mkF m 1 #[.val (.ref x), .val (.ref b), .val (.int (0 : Int32)), .val (.int (0 : Int32)), .val .null, .unset] [(.ref x)])) rfl (by rw [hml]; rfl) rfl (hb hby dE4_1) (by decide) (W := 0) (by show 2 * 0 + _ ≤ _; exact Nat.le_of_eq rfl) (by decide)
  have sg2 : ∀ target, Steps p.tables e below (T1.setTop (mkF m 9 #[.val (.ref x), .val (.ref b), .val (.int (0 : Int32)), .val (.int (0 : Int32)), .val .null, .unset] [(.ref x)])) target → Steps p.tables e below (T1.setTop (mkF m 4 #[.val (.ref x), .val (.ref b), .val (.int (0 : Int32)), .val (.int (0 : Int32)), .val .null, .unset] [])) target := by
    intro target kt
    show Steps p.tables e below (T1.setTop (mkF m 4 #[.val (.ref x), .val (.ref b), .val (.int (0 : Int32)), .val (.int (0 : Int32)), .val .null, .unset] [])) _
    refine XS.iloadN X1.here hx rfl (hb hby dE4_4) rfl ?_
    show Steps p.tables e below (T1.setTop (mkF m 5 #[.val (.ref x), .val (.ref b), .val (.int (0 : Int32)), .val (.int (0 : Int32)), .val .null, .unset] [(.int (0 : Int32))])) _
    refine XS.ifNo X1.here hx rfl (hb hby dE4_5) rfl (by decide) ?_
    show Steps p.tables e below (T1.setTop (mkF m 8 #[.val (.ref x), .val (.ref b), .val (.int (0 : Int32)), .val (.int (0 : Int32)), .val .null, .unset] [])) _
    refine XS.aloadN X1.here hx rfl (hb hby dE4_8) rfl rfl ?_
    show Steps p.tables e below (T1.setTop (mkF m 9 #[.val (.ref x), .val (.ref b), .val (.int (0 : Int32)), .val (.int (0 : Int32)), .val .null, .unset] [(.ref x)])) _
    exact kt
  obtain ⟨q, T2, h2, k2, t, kb, X2, e2, E2, hS2, hk2, hZ2, hown2, Aq, Cq, Vq, Kq, lq, lt, R2, Lq, ne2, st2⟩ := ldcCH (vm0 := s.vm) (text := "") X1 hx hZ hown (hw _ (List.mem_of_getElem? (i := 28) rfl)) hwS e1 hS0 (Nat.le_of_eq (by rw [hh])) hEL hmem H0 (vs := []) (z := 0) ⟨by simp, by simp⟩ (by decide) (by decide) (g := (mkF m 9 #[.val (.ref x), .val (.ref b), .val (.int (0 : Int32)), .val (.int (0 : Int32)), .val .null, .unset] [(.ref x)])) rfl (hb hby dE4_9) (n := 0) (by simp) (by decide) (by decide) (by decide)
  have S2 : Safe Z EL T2.vm h2 x := R2.safe xlt S0
  obtain ⟨nxq, nxt⟩ := ne2 x S2
  obtain ⟨T3, X3, e3, st3⟩ := getF X2 hx hZ2 hown2 (host := "") (Or.inl (hw _ (List.mem_of_getElem? (i := 34) rfl))) Via.refl e2 Vq (g := (mkF m 11 #[.val (.ref x), .val (.ref b), .val (.int (0 : Int32)), .val (.int (0 : Int32)), .val .null, .unset] [(.ref q), (.ref x)])) rfl rfl (hb hby dE4_11)
  obtain ⟨T4, h4, X4, e4, W4, st4⟩ := putF X3 hx hZ2 hown2 (host := "") (Or.inl (hw _ (List.mem_of_getElem? (i := 34) rfl))) Via.refl e3 (Fv.ext E2) (Ex.ext E2) (Or.inr ⟨(hw _ (List.mem_of_getElem? (i := 30) rfl)), rfl, hnm⟩) (hw _ (List.mem_of_getElem? (i := 15) rfl)) (ty := (.array .byte)) (by decide) rfl rfl (g := (mkF m 14 #[.val (.ref x), .val (.ref b), .val (.int (0 : Int32)), .val (.int (0 : Int32)), .val .null, .unset] [(.ref t), (.ref x)])) rfl rfl (hb hby dE4_14)
  have S4 : Safe Z EL T2.vm h4 x := Safe.wr W4 S2 R2.1 S2
  have sg5 : ∀ target, Steps p.tables e below (T4.setTop (mkF m 18 #[.val (.ref x), .val (.ref b), .val (.int (0 : Int32)), .val (.int (0 : Int32)), .val .null, .unset] [(.ref x)])) target → Steps p.tables e below (T4.setTop (mkF m 17 #[.val (.ref x), .val (.ref b), .val (.int (0 : Int32)), .val (.int (0 : Int32)), .val .null, .unset] [])) target := by
    intro target kt
    show Steps p.tables e below (T4.setTop (mkF m 17 #[.val (.ref x), .val (.ref b), .val (.int (0 : Int32)), .val (.int (0 : Int32)), .val .null, .unset] [])) _
    refine XS.aloadN X4.here hx rfl (hb hby dE4_17) rfl rfl ?_
    show Steps p.tables e below (T4.setTop (mkF m 18 #[.val (.ref x), .val (.ref b), .val (.int (0 : Int32)), .val (.int (0 : Int32)), .val .null, .unset] [(.ref x)])) _
    exact kt
  have st6 := ldcAgain X4 hx hZ2 hown2 (hw _ (List.mem_of_getElem? (i := 28) rfl)) Lq (g := (mkF m 18 #[.val (.ref x), .val (.ref b), .val (.int (0 : Int32)), .val (.int (0 : Int32)), .val .null, .unset] [(.ref x)])) rfl (hb hby dE4_18)
  obtain ⟨T7, X7, e7, st7⟩ := getF X4 hx hZ2 hown2 (host := "") (Or.inl (hw _ (List.mem_of_getElem? (i := 35) rfl))) Via.refl e4 (Cq.other W4 (Or.inl (Ne.symm nxq))) (g := (mkF m 20 #[.val (.ref x), .val (.ref b), .val (.int (0 : Int32)), .val (.int (0 : Int32)), .val .null, .unset] [(.ref q), (.ref x)])) rfl rfl (hb hby dE4_20)
  obtain ⟨T8, h8, X8, e8, W8, st8⟩ := putF X7 hx hZ2 hown2 (host := "") (Or.inl (hw _ (List.mem_of_getElem? (i := 35) rfl))) Via.refl e7 ((Fc.ext E2).other W4 (Or.inr cne)) ((Ex.ext E2).wr W4) (Or.inr ⟨(hw _ (List.mem_of_getElem? (i := 31) rfl)), rfl, hnm⟩) (hw _ (List.mem_of_getElem? (i := 15) rfl)) (ty := .byte) (by decide) rfl rfl (g := (mkF m 23 #[.val (.ref x), .val (.ref b), .val (.int (0 : Int32)), .val (.int (0 : Int32)), .val .null, .unset] [(.int (0 : Int32)), (.ref x)])) rfl rfl (hb hby dE4_23)
  have R6 : CHr Z EL T2.vm h2 T2.vm h8 := (CHr.wr W4 S2 R2.1).trans (CHr.wr W8 S4 (CHr.wr W4 S2 R2.1).1)
  have R7 : CHr Z EL T2.vm h8 T8.vm h8 := CHv.at X8 hZ2 hEL R6.1
  have kk : k2 ≤ T8.heap.size := by rw [e8, W8.size, W4.size]; exact hk2
  obtain ⟨fs, hr, hrun, hended, hW⟩ := X8.leaveW hS2 kk (v := none) (fun _ => rfl)
  have K6 : Keep h0 h8 [x] := (((Keep.refl h0 [x]).ext E2).wr W4 (Or.inl (List.mem_cons_self ..))).wr W8 (Or.inl (List.mem_cons_self ..))
  have N6 : Fr n0 _ := Fr.snoc X8 (Fr.snoc X4 (Fr.nil n0) ge) ge
  have Sx : own_Str Z h8 x [] := ⟨((Ex.ext E2).wr W4).wr W8, Fld.same W8 ((Fc.ext E2).other W4 (Or.inr cne)), t, kb, (Fld.same W4 (Fv.ext E2)).other W8 (Or.inr (Ne.symm cne)), (Kq.other W4 (Ne.symm nxt)).other W8 (Ne.symm nxt)⟩
  refine ⟨_, _, castTop (efE4 m x b 0 0) ?_, hrun, hended, _, _, rfl, ⟨rfl, N6, ?_, ?_⟩, ?_, own_w hW (by decide) (by decide)⟩
  · show Steps p.tables e below (s₁.setTop (mkF m 0 #[.val (.ref x), .val (.ref b), .val (.int (0 : Int32)), .val (.int (0 : Int32)), .val .null, .unset] [])) _
    refine sg1 _ ?_
    show Steps p.tables e below (s₁.setTop (mkF m 1 #[.val (.ref x), .val (.ref b), .val (.int (0 : Int32)), .val (.int (0 : Int32)), .val .null, .unset] [(.ref x)])) _
    refine st1 _ ?_
    show Steps p.tables e below (T1.setTop (mkF m 4 #[.val (.ref x), .val (.ref b), .val (.int (0 : Int32)), .val (.int (0 : Int32)), .val .null, .unset] [])) _
    refine sg2 _ ?_
    show Steps p.tables e below (T1.setTop (mkF m 9 #[.val (.ref x), .val (.ref b), .val (.int (0 : Int32)), .val (.int (0 : Int32)), .val .null, .unset] [(.ref x)])) _
    refine st2 _ ?_
    show Steps p.tables e below (T2.setTop (mkF m 11 #[.val (.ref x), .val (.ref b), .val (.int (0 : Int32)), .val (.int (0 : Int32)), .val .null, .unset] [(.ref q), (.ref x)])) _
    refine st3 _ ?_
    show Steps p.tables e below (T3.setTop (mkF m 14 #[.val (.ref x), .val (.ref b), .val (.int (0 : Int32)), .val (.int (0 : Int32)), .val .null, .unset] [(.ref t), (.ref x)])) _
    refine st4 _ ?_
    show Steps p.tables e below (T4.setTop (mkF m 17 #[.val (.ref x), .val (.ref b), .val (.int (0 : Int32)), .val (.int (0 : Int32)), .val .null, .unset] [])) _
    refine sg5 _ ?_
    show Steps p.tables e below (T4.setTop (mkF m 18 #[.val (.ref x), .val (.ref b), .val (.int (0 : Int32)), .val (.int (0 : Int32)), .val .null, .unset] [(.ref x)])) _
    refine st6 _ ?_
    show Steps p.tables e below (T4.setTop (mkF m 20 #[.val (.ref x), .val (.ref b), .val (.int (0 : Int32)), .val (.int (0 : Int32)), .val .null, .unset] [(.ref q), (.ref x)])) _
    refine st7 _ ?_
    show Steps p.tables e below (T7.setTop (mkF m 23 #[.val (.ref x), .val (.ref b), .val (.int (0 : Int32)), .val (.int (0 : Int32)), .val .null, .unset] [(.int (0 : Int32)), (.ref x)])) _
    refine st8 _ ?_
    show Steps p.tables e below (T8.setTop (mkF m 26 #[.val (.ref x), .val (.ref b), .val (.int (0 : Int32)), .val (.int (0 : Int32)), .val .null, .unset] [])) _
    exact X8.returnOut hx Bd.returns (hb hby dE4_26) hr
  · show Keep h0 T8.heap [x]
    rw [e8]; exact K6
  · show own_Str Z T8.heap x []
    rw [e8]; exact Sx
  · show CHr Z EL s.vm s.heap T8.vm T8.heap
    rw [e8, hh]; exact (R2.trans R6).trans R7
set_option maxRecDepth 65536 in
set_option maxHeartbeats 40000000 in
theorem own_E1 (l : Launch) (Z : State) (a0 : Array Value) (hw : ∀ d ∈ tables_1, d.before a0 Z = true) (EL : List (String × Nat)) (hEL : EW Z a0 EL) (hmem : ("java/lang/String", 7) ∈ EL) (x b : Addr) (h0 : Heap) (n0 : Nat) (ge : n0 ≤ x) (Ex : Exa Z h0 x "java/lang/String") (Fv : Fld Z h0 x "java/lang/String" "value" "[B" .null) (Fc : Fld Z h0 x "java/lang/String" "coder" "B" (.int (0 : Int32))) (kb : ClassId) (Kb : Arv Z h0 b kb .char (0 : Int32) [] (.int (0 : Int32))) :
    MetFree l (⟨"java/lang/String", "<init>", "([C)V"⟩ : MethodName) (head1 [Jvm.Cond.code (⟨"java/lang/String", "<init>", "([C)V"⟩ : MethodName) jdk_42_method_3_code 2 none] ({ frames := 2, cells := 2, slots := 4, locals := 37 } : Room)) (fun a U => a = #[(.ref x), (.ref b)] ∧ Z.Warmed39 U.vm ∧ U.heap = h0 ∧ CHv Z EL U.vm h0) (fun _ _ _ _ _ => True) (fun _ U o U' => ∃ v L, o = .returned v ∧ own_QE Z x h0 n0 v U'.heap L ∧ CHr Z EL U.vm U.heap U'.vm U'.heap ∧ ReturnedEndW U o U' L ({ frames := 2, cells := 2, slots := 4, locals := 37 } : Room).cells ({ frames := 2, cells := 2, slots := 4, locals := 37 } : Room).slots) := by
  refine MetFree.of_bodySF (plainFor_of_name pn_S) hisR ?_
  intro p e s m args below meth c s₁ Bd hml0 hP hK
  obtain ⟨rfl, hZ, hh, H0⟩ := hP
  have hx := Bd.exec
  have hby := Bd.bytes
  have hml : c.maxLocals = 2 := hml0
  have hown : s.vm.findClass "java/lang/String" = some m.cls := findClass_of_methodNamed Bd.named
  have X0 : Stand p l e ({ frames := 2, cells := 2, slots := 4, locals := 37 } : Room) s m #[(.ref x), (.ref b)] below meth c s₁ [] 0 0 := Stand.of_body Bd
  have e0 : s₁.heap = h0 := by rw [← hh, Bd.state]; rfl
  obtain ⟨cl, Ab, -, Sb, Mb, -, -⟩ := Kb
  have sg1 : ∀ target, Steps p.tables e below (s₁.setTop (mkF m 6 #[.val (.ref x), .val (.ref b)] [.null, (.int (0 : Int32)), (.int (0 : Int32)), (.ref b), (.ref x)])) target → Steps p.tables e below (s₁.setTop (mkF m 0 #[.val (.ref x), .val (.ref b)] [])) target := by
    intro target kt
    show Steps p.tables e below (s₁.setTop (mkF m 0 #[.val (.ref x), .val (.ref b)] [])) _
    refine XS.aloadN X0.here hx rfl (hb hby dE1_0) rfl rfl ?_
    show Steps p.tables e below (s₁.setTop (mkF m 1 #[.val (.ref x), .val (.ref b)] [(.ref x)])) _
    refine XS.aloadN X0.here hx rfl (hb hby dE1_1) rfl rfl ?_
    show Steps p.tables e below (s₁.setTop (mkF m 2 #[.val (.ref x), .val (.ref b)] [(.ref b), (.ref x)])) _
    refine XS.iconst X0.here hx rfl (hb hby dE1_2) ?_
    show Steps p.tables e below (s₁.setTop (mkF m 3 #[.val (.ref x), .val (.ref b)] [(.int (0 : Int32)), (.ref b), (.ref x)])) _
    refine XS.aloadN X0.here hx rfl (hb hby dE1_3) rfl rfl ?_
    show Steps p.tables e below (s₁.setTop (mkF m 4 #[.val (.ref x), .val (.ref b)] [(.ref b), (.int (0 : Int32)), (.ref b), (.ref x)])) _
    refine X0.arraylength hx (cell := cl) (by rw [e0]; exact Ab.1) (State.isArrayOf_alike hZ.alike Ab.2.1) (g := (mkF m 4 #[.val (.ref x), .val (.ref b)] [(.ref b), (.int (0 : Int32)), (.ref b), (.ref x)])) rfl (rest := [(.int (0 : Int32)), (.ref b), (.ref x)]) rfl (hb hby dE1_4) _ ?_
    rw [len_of Sb Mb]
    show Steps p.tables e below (s₁.setTop (mkF m 5 #[.val (.ref x), .val (.ref b)] [(.int (0 : Int32)), (.int (0 : Int32)), (.ref b), (.ref x)])) _
    refine XS.aconstNull X0.here hx rfl (hb hby dE1_5) ?_
    show Steps p.tables e below (s₁.setTop (mkF m 6 #[.val (.ref x), .val (.ref b)] [.null, (.int (0 : Int32)), (.int (0 : Int32)), (.ref b), (.ref x)])) _
    exact kt
  obtain ⟨_, _, ⟨T1, L1, k1, n1⟩, -, X1, hS1, gr1, ⟨Lc1, hQ1, l1, y1, z1, R1⟩, st1⟩ := X0.specialBackS hx (y := (⟨"java/lang/String", "<init>", "([CIILjava/lang/Void;)V"⟩ : MethodName)) rfl hown (mvT hZ (hw _ (List.mem_of_getElem? (i := 21) rfl))) (mvT hZ (hw _ (List.mem_of_getElem? (i := 22) rfl))) (mvT hZ (hw _ (List.mem_of_getElem? (i := 24) rfl))) (by decide) (backOfSH (W := 0) (own_E4 l Z a0 hw EL hEL hmem x b h0 n0 ge Ex Fv Fc) hZ (hw _ (List.mem_of_getElem? (i := 24) rfl)) (hw _ (List.mem_of_getElem? (i := 16) rfl)) (by decide) (by decide) hEL H0) (g := (mkF m 6 #[.val (.ref x), .val (.ref b)] [.null, (.int (0 : Int32)), (.int (0 : Int32)), (.ref b), (.ref x)])) rfl (by rw [hml]; rfl) (Steps.refl _) (a := x) (argsL := [(.ref b), (.int (0 : Int32)), (.int (0 : Int32)), .null]) (rest := []) (lenOf pdE4 rfl) rfl (by show 2 * 0 + _ ≤ _; exact Nat.le_of_eq rfl) (hb hby dE1_6) (fun _ _ => ⟨rfl, e0, Nat.le_of_ble_eq_true rfl, Nat.le_of_ble_eq_true rfl⟩)
  dsimp only [Pt.U, Pt.locs, Pt.cells, Pt.slots] at X1 hS1 gr1 l1 y1 z1 R1 st1 hQ1
  subst l1 y1 z1
  obtain ⟨rfl, N1, K1, S1⟩ := hQ1
  have hZ1 : Z.Warmed39 T1.vm := State.Warmed39.trans (t := s) hZ hS1.1
  have R7 := CHv.at X1 hZ1 hEL R1.1
  obtain ⟨fs, hr, hrun, hended, hW⟩ := X1.leaveW hS1 (Nat.le_refl _) (v := none) (fun _ => rfl)
  refine ⟨_, _, castTop (efE1 m x b) ?_, hrun, hended, _, _, rfl, ⟨rfl, N1, K1, S1⟩, ?_, own_w hW (by decide) (by decide)⟩
  · show Steps p.tables e below (s₁.setTop (mkF m 0 #[.val (.ref x), .val (.ref b)] [])) _
    refine sg1 _ ?_
    show Steps p.tables e below (s₁.setTop (mkF m 6 #[.val (.ref x), .val (.ref b)] [.null, (.int (0 : Int32)), (.int (0 : Int32)), (.ref b), (.ref x)])) _
    refine st1.trans ?_
    show Steps p.tables e below (T1.setTop (mkF m 9 #[.val (.ref x), .val (.ref b)] [])) _
    exact X1.returnOut hx Bd.returns (hb hby dE1_9) hr
  · show CHr Z EL s.vm s.heap T1.vm T1.heap
    rw [hh]; exact R1
theorem own_nar {c : Int32} (h : ¬ c < 0 ∧ ¬ (255 : Int32) < c) : nar .char c = c := by
  have h1 := c_i2c c
  have e0 : (0 : Int32).toInt = 0 := rfl
  have e1 : (255 : Int32).toInt = 255 := rfl
  obtain ⟨h2, h3⟩ := h
  rw [Int32.lt_iff_toInt_lt] at h2 h3
  show c.toUInt32.toUInt16.toUInt32.toInt32 = c
  rw [← Int32.toInt_inj]
  omega
theorem own_ch8 (x : Int32) : ¬ ((x &&& (255 : Int32)).toUInt32.toUInt16.toUInt32.toInt32) < 0 ∧ ¬ (255 : Int32) < ((x &&& (255 : Int32)).toUInt32.toUInt16.toUInt32.toInt32) := by
  have h1 := c_i2c (x &&& (255 : Int32))
  have h2 := c_and x 255 (by decide)
  have e0 : (0 : Int32).toInt = 0 := rfl
  have e1 : (255 : Int32).toInt = 255 := rfl
  rw [Int32.lt_iff_toInt_lt, Int32.lt_iff_toInt_lt]
  omega
theorem own_fc {c : Int32} (h : ¬ c < 0 ∧ ¬ (255 : Int32) < c) : fits .char (.int c) = true := by
  have q := fits_nar_char c
  rwa [own_nar h] at q
theorem own_hws : ∀ d ∈ StrChars.Road.words, d ∈ tables_1 := by decide +kernel
theorem own_heq : ∀ d ∈ StrChars.Road.wordsEq, d ∈ tables_1 := by decide +kernel
theorem own_cod {cs : List Int32} (h : own_lat cs) : StrChars.Road.CodA cs 0 (Int32.ofNat cs.length) ((cs.map fun c => c.toInt8.toInt32).map Value.int) := StrChars.Road.codOf rfl (fun c hc => (h c hc).2)
def own_eq (xs ys : List Int32) : Int32 := if xs = ys then 1 else 0
theorem own_eq_t {xs ys : List Int32} (h : xs = ys) : own_eq xs ys = 1 := if_pos h
theorem own_eq_f {xs ys : List Int32} (h : ¬ xs = ys) : own_eq xs ys = 0 := if_neg h
theorem own_eq_c (xs ys : List Int32) : own_eq xs ys = own_eq ys xs := by
  by_cases h : xs = ys
  · rw [own_eq_t h, own_eq_t h.symm]
  · rw [own_eq_f h, own_eq_f (fun q => h q.symm)]
def own_QS (n0 : Nat) (w : Value) (h0 : Heap) (v : Option Value) (h : Heap) (L : List Loc) : Prop := v = some w ∧ Fr n0 L ∧ h = h0
theorem pn_L : plainName "com/example/nephila/nephila/usage/RequestEqualsPinLaw" = true := by first | (simp [plainName, overriddenIn]; done) | decide +kernel
theorem pn_R : plainName "com/example/nephila/nephila/usage/Request" = true := by first | (simp [plainName, overriddenIn]; done) | decide +kernel
theorem pn_O : plainName "java/util/Objects" = true := by first | (simp [plainName, overriddenIn]; done) | decide +kernel
theorem pn_I : plainName "java/lang/Integer" = true := by first | (simp [plainName, overriddenIn]; done) | decide +kernel
theorem pn_N : plainName "java/lang/Number" = true := by first | (simp [plainName, overriddenIn]; done) | decide +kernel
theorem dL_0 : decode method_2_code 0 = .ok (.lload_n 0, 1) := by decide +kernel
theorem dL_1 : decode method_2_code 1 = .ok (.bipush 18, 2) := by decide +kernel
theorem dL_3 : decode method_2_code 3 = .ok (.iload_n 2, 1) := by decide +kernel
theorem dL_4 : decode method_2_code 4 = .ok (.imul, 1) := by decide +kernel
theorem dL_5 : decode method_2_code 5 = .ok (.lushr, 1) := by decide +kernel
theorem dL_6 : decode method_2_code 6 = .ok (.ldc2_w 7, 3) := by decide +kernel
theorem dL_9 : decode method_2_code 9 = .ok (.land, 1) := by decide +kernel
theorem dL_10 : decode method_2_code 10 = .ok (.l2i, 1) := by decide +kernel
theorem dL_11 : decode method_2_code 11 = .ok (.iconst 3, 1) := by decide +kernel
theorem dL_12 : decode method_2_code 12 = .ok (.irem, 1) := by decide +kernel
theorem dL_13 : decode method_2_code 13 = .ok (.ireturn, 1) := by decide +kernel
def own_len (p : Int64) (k : Int32) : Int32 := (((((((p).toUInt64 >>> (((18 : Int32) * k) &&& 0x3f).toInt64.toUInt64).toInt64) &&& (3 : Int64))).toInt32) % (3 : Int32))
theorem efL (m : MethodId) (x0 : Int64) (x1 : Int32) : entryFrame m #[(.long x0), (.int x1)] 3 = mkF m 0 #[.val (.long x0), .second, .val (.int x1)] [] := by first | (simp [entryFrame, mkF, argsToLocals, Value.category, maxLocals]; done) | rfl
theorem pdL : parseMethodDescriptor "(JI)I" = some ⟨[.long, .int], some .int⟩ := by decide +kernel
set_option maxRecDepth 65536 in
set_option maxHeartbeats 40000000 in
theorem rmLen (l : Launch) (Z : State) (a0 : Array Value) (hw : ∀ d ∈ tables_1, d.before a0 Z = true) (q : Int64) (k : Int32) (h0 : Heap) (n0 : Nat) :
    MetFree l (⟨"com/example/nephila/nephila/usage/RequestEqualsPinLaw", "len", "(JI)I"⟩ : MethodName) (head1 [Jvm.Cond.code (⟨"com/example/nephila/nephila/usage/RequestEqualsPinLaw", "len", "(JI)I"⟩ : MethodName) method_2_code 3 (some .int)] ({ frames := 0, cells := 0, slots := 0, locals := 0 } : Room)) (fun q_ U => q_ = #[(.long q), (.int k)] ∧ Z.Warmed39 U.vm ∧ U.heap = h0) (fun _ _ _ _ _ => True) (fun _ U o U' => ∃ v L, o = .returned v ∧ own_QS n0 (.int (own_len q k)) h0 v U'.heap L ∧ FrameEnd U o U' L ({ frames := 0, cells := 0, slots := 0, locals := 0 } : Room).cells ({ frames := 0, cells := 0, slots := 0, locals := 0 } : Room).slots) := by
  refine MetFree.of_bodySF (plainFor_of_name pn_L) hisR ?_
  intro p e s m args below meth c s₁ Bd hml0 hP hK
  obtain ⟨rfl, hZ, hh⟩ := hP
  have hx := Bd.exec
  have hby := Bd.bytes
  have hml : c.maxLocals = 3 := hml0
  have hown : s.vm.findClass "com/example/nephila/nephila/usage/RequestEqualsPinLaw" = some m.cls := findClass_of_methodNamed Bd.named
  have hnm := (name_of_methodNamed Bd.named Bd.method).1
  have X0 : Stand p l e ({ frames := 0, cells := 0, slots := 0, locals := 0 } : Room) s m #[(.long q), (.int k)] below meth c s₁ [] 0 0 := Stand.of_body Bd
  have e0 : s₁.heap = h0 := by rw [← hh, Bd.state]; rfl
  have sg1 : ∀ target, Steps p.tables e below (s₁.setTop (mkF m 13 #[.val (.long q), .second, .val (.int k)] [(.int (((((((q).toUInt64 >>> (((18 : Int32) * k) &&& 0x3f).toInt64.toUInt64).toInt64) &&& (3 : Int64))).toInt32) % (3 : Int32)))])) target → Steps p.tables e below (s₁.setTop (mkF m 0 #[.val (.long q), .second, .val (.int k)] [])) target := by
    intro target kt
    show Steps p.tables e below (s₁.setTop (mkF m 0 #[.val (.long q), .second, .val (.int k)] [])) _
    refine XS.lloadN X0.here hx rfl (hb hby dL_0) rfl ?_
    show Steps p.tables e below (s₁.setTop (mkF m 1 #[.val (.long q), .second, .val (.int k)] [(.long q)])) _
    refine XS.bipush X0.here hx rfl (hb hby dL_1) ?_
    show Steps p.tables e below (s₁.setTop (mkF m 3 #[.val (.long q), .second, .val (.int k)] [(.int (18 : Int32)), (.long q)])) _
    refine XS.iloadN X0.here hx rfl (hb hby dL_3) rfl ?_
    show Steps p.tables e below (s₁.setTop (mkF m 4 #[.val (.long q), .second, .val (.int k)] [(.int k), (.int (18 : Int32)), (.long q)])) _
    refine XS.imul X0.here hx rfl (hb hby dL_4) rfl ?_
    show Steps p.tables e below (s₁.setTop (mkF m 5 #[.val (.long q), .second, .val (.int k)] [(.int ((18 : Int32) * k)), (.long q)])) _
    refine XS.lushr X0.here hx rfl (hb hby dL_5) rfl ?_
    show Steps p.tables e below (s₁.setTop (mkF m 6 #[.val (.long q), .second, .val (.int k)] [(.long (((q).toUInt64 >>> (((18 : Int32) * k) &&& 0x3f).toInt64.toUInt64).toInt64))])) _
    refine X0.ldc2Long hx hown (mvT hZ (hw _ (List.mem_of_getElem? (i := 13) rfl))) (g := (mkF m 6 #[.val (.long q), .second, .val (.int k)] [(.long (((q).toUInt64 >>> (((18 : Int32) * k) &&& 0x3f).toInt64.toUInt64).toInt64))])) rfl (hb hby dL_6) _ ?_
    show Steps p.tables e below (s₁.setTop (mkF m 9 #[.val (.long q), .second, .val (.int k)] [(.long (3 : Int64)), (.long (((q).toUInt64 >>> (((18 : Int32) * k) &&& 0x3f).toInt64.toUInt64).toInt64))])) _
    refine XS.land X0.here hx rfl (hb hby dL_9) rfl ?_
    show Steps p.tables e below (s₁.setTop (mkF m 10 #[.val (.long q), .second, .val (.int k)] [(.long ((((q).toUInt64 >>> (((18 : Int32) * k) &&& 0x3f).toInt64.toUInt64).toInt64) &&& (3 : Int64)))])) _
    refine XS.l2i X0.here hx rfl (hb hby dL_10) rfl ?_
    show Steps p.tables e below (s₁.setTop (mkF m 11 #[.val (.long q), .second, .val (.int k)] [(.int ((((((q).toUInt64 >>> (((18 : Int32) * k) &&& 0x3f).toInt64.toUInt64).toInt64) &&& (3 : Int64))).toInt32))])) _
    refine XS.iconst X0.here hx rfl (hb hby dL_11) ?_
    show Steps p.tables e below (s₁.setTop (mkF m 12 #[.val (.long q), .second, .val (.int k)] [(.int (3 : Int32)), (.int ((((((q).toUInt64 >>> (((18 : Int32) * k) &&& 0x3f).toInt64.toUInt64).toInt64) &&& (3 : Int64))).toInt32))])) _
    refine iremM X0 hx rfl (hb hby dL_12) rfl (by decide) ?_
    show Steps p.tables e below (s₁.setTop (mkF m 13 #[.val (.long q), .second, .val (.int k)] [(.int (((((((q).toUInt64 >>> (((18 : Int32) * k) &&& 0x3f).toInt64.toUInt64).toInt64) &&& (3 : Int64))).toInt32) % (3 : Int32)))])) _
    exact kt
  obtain ⟨fs, hr, hrun, hended, hW, hsame⟩ := X0.leave (v := some (.int (own_len q k))) (fun h => by rw [Bd.returns] at h; cases h)
  refine ⟨_, _, castTop (efL m q k) ?_, hrun, hended, _, _, rfl, ?_, ⟨_, rfl⟩, hW, hsame.mono (by decide) (by decide)⟩
  · show Steps p.tables e below (s₁.setTop (mkF m 0 #[.val (.long q), .second, .val (.int k)] [])) _
    refine sg1 _ ?_
    show Steps p.tables e below (s₁.setTop (mkF m 13 #[.val (.long q), .second, .val (.int k)] [(.int (((((((q).toUInt64 >>> (((18 : Int32) * k) &&& 0x3f).toInt64.toUInt64).toInt64) &&& (3 : Int64))).toInt32) % (3 : Int32)))])) _
    exact retOut X0 hx (t := .int) Bd.returns rfl (Or.inl ⟨rfl, Or.inl rfl, _, rfl⟩) (hb hby dL_13) hr
  · show _
    exact ⟨rfl, Fr.nil n0, e0⟩
theorem dC_0 : decode method_3_code 0 = .ok (.lload_n 0, 1) := by decide +kernel
theorem dC_1 : decode method_3_code 1 = .ok (.bipush 18, 2) := by decide +kernel
theorem dC_3 : decode method_3_code 3 = .ok (.iload_n 2, 1) := by decide +kernel
theorem dC_4 : decode method_3_code 4 = .ok (.imul, 1) := by decide +kernel
theorem dC_5 : decode method_3_code 5 = .ok (.iconst 2, 1) := by decide +kernel
theorem dC_6 : decode method_3_code 6 = .ok (.iadd, 1) := by decide +kernel
theorem dC_7 : decode method_3_code 7 = .ok (.bipush 8, 2) := by decide +kernel
theorem dC_9 : decode method_3_code 9 = .ok (.iload_n 3, 1) := by decide +kernel
theorem dC_10 : decode method_3_code 10 = .ok (.imul, 1) := by decide +kernel
theorem dC_11 : decode method_3_code 11 = .ok (.iadd, 1) := by decide +kernel
theorem dC_12 : decode method_3_code 12 = .ok (.lushr, 1) := by decide +kernel
theorem dC_13 : decode method_3_code 13 = .ok (.ldc2_w 9, 3) := by decide +kernel
theorem dC_16 : decode method_3_code 16 = .ok (.land, 1) := by decide +kernel
theorem dC_17 : decode method_3_code 17 = .ok (.l2i, 1) := by decide +kernel
theorem dC_18 : decode method_3_code 18 = .ok (.i2c, 1) := by decide +kernel
theorem dC_19 : decode method_3_code 19 = .ok (.ireturn, 1) := by decide +kernel
def own_chr (p : Int64) (k i : Int32) : Int32 := ((((((((p).toUInt64 >>> (((((18 : Int32) * k) + (2 : Int32)) + ((8 : Int32) * i)) &&& 0x3f).toInt64.toUInt64).toInt64) &&& (255 : Int64))).toInt32)).toUInt32.toUInt16.toUInt32.toInt32)
theorem own_l8 (x : Int64) : ¬ ((x &&& (255 : Int64)).toInt32.toUInt32.toUInt16.toUInt32.toInt32) < 0 ∧ ¬ (255 : Int32) < ((x &&& (255 : Int64)).toInt32.toUInt32.toUInt16.toUInt32.toInt32) := by
  have h1 := c_i2c ((x &&& (255 : Int64)).toInt32)
  have h2 := c_maskL x 255 8 (by decide) (by decide)
  have h3 := c_l2i (x &&& (255 : Int64))
  have h4 := rng32 ((x &&& (255 : Int64)).toInt32)
  have e0 : (0 : Int32).toInt = 0 := rfl
  have e1 : (255 : Int32).toInt = 255 := rfl
  rw [Int32.lt_iff_toInt_lt, Int32.lt_iff_toInt_lt]
  omega
theorem own_chr_lat (p : Int64) (k i : Int32) : ¬ own_chr p k i < 0 ∧ ¬ (255 : Int32) < own_chr p k i := own_l8 _
theorem own_len_n (p : Int64) (k : Int32) : ∃ n : Nat, n ≤ 2 ∧ own_len p k = Int32.ofNat n := by
  have key : ∀ x : Int64, ∃ n : Nat, n ≤ 2 ∧ (x &&& (3 : Int64)).toInt32 % (3 : Int32) = Int32.ofNat n := fun x => by
    have h2 := c_maskL x 3 2 (by decide) (by decide)
    have h3 := c_l2i (x &&& (3 : Int64))
    have h4 := rng32 ((x &&& (3 : Int64)).toInt32)
    have h5 := (c_irem ((x &&& (3 : Int64)).toInt32) 3 3 rfl).1 (by omega)
    refine ⟨((x &&& (3 : Int64)).toInt32 % (3 : Int32)).toInt.toNat, by omega, ?_⟩
    rw [← Int32.toInt_inj, Int32.toInt_ofNat_of_lt (by omega)]
    omega
  exact key _
def own_cs (p : Int64) (k : Int32) : List Int32 := [own_chr p k 0, own_chr p k 1].take (own_len p k).toNatClampNeg
theorem own_cs_n {p : Int64} {k : Int32} {n : Nat} (hn : n ≤ 2) (h : own_len p k = Int32.ofNat n) : own_cs p k = [own_chr p k 0, own_chr p k 1].take n := by
  have e : (Int32.ofNat n).toNatClampNeg = n := by rw [Int32.toNatClampNeg, Int32.toInt_ofNat_of_lt (by omega)]; rfl
  rw [own_cs, h, e]
theorem own_cs_lat (p : Int64) (k : Int32) : own_lat (own_cs p k) := fun c hc => by
  have q := List.mem_of_mem_take hc
  simp only [List.mem_cons, List.not_mem_nil, or_false] at q
  rcases q with rfl | rfl <;> exact own_chr_lat ..
theorem own_cs_le (p : Int64) (k : Int32) : (own_cs p k).length ≤ 4000 := by
  have : (own_cs p k).length ≤ 2 := by rw [own_cs, List.length_take]; exact Nat.min_le_right ..
  omega
theorem efC (m : MethodId) (x0 : Int64) (x1 : Int32) (x2 : Int32) : entryFrame m #[(.long x0), (.int x1), (.int x2)] 4 = mkF m 0 #[.val (.long x0), .second, .val (.int x1), .val (.int x2)] [] := by first | (simp [entryFrame, mkF, argsToLocals, Value.category, maxLocals]; done) | rfl
theorem pdC : parseMethodDescriptor "(JII)C" = some ⟨[.long, .int, .int], some .char⟩ := by decide +kernel
set_option maxRecDepth 65536 in
set_option maxHeartbeats 40000000 in
theorem rmCh (l : Launch) (Z : State) (a0 : Array Value) (hw : ∀ d ∈ tables_1, d.before a0 Z = true) (q : Int64) (k i : Int32) (h0 : Heap) (n0 : Nat) :
    MetFree l (⟨"com/example/nephila/nephila/usage/RequestEqualsPinLaw", "ch", "(JII)C"⟩ : MethodName) (head1 [Jvm.Cond.code (⟨"com/example/nephila/nephila/usage/RequestEqualsPinLaw", "ch", "(JII)C"⟩ : MethodName) method_3_code 4 (some .char)] ({ frames := 0, cells := 0, slots := 0, locals := 0 } : Room)) (fun q_ U => q_ = #[(.long q), (.int k), (.int i)] ∧ Z.Warmed39 U.vm ∧ U.heap = h0) (fun _ _ _ _ _ => True) (fun _ U o U' => ∃ v L, o = .returned v ∧ own_QS n0 (.int (own_chr q k i)) h0 v U'.heap L ∧ FrameEnd U o U' L ({ frames := 0, cells := 0, slots := 0, locals := 0 } : Room).cells ({ frames := 0, cells := 0, slots := 0, locals := 0 } : Room).slots) := by
  refine MetFree.of_bodySF (plainFor_of_name pn_L) hisR ?_
  intro p e s m args below meth c s₁ Bd hml0 hP hK
  obtain ⟨rfl, hZ, hh⟩ := hP
  have hx := Bd.exec
  have hby := Bd.bytes
  have hml : c.maxLocals = 4 := hml0
  have hown : s.vm.findClass "com/example/nephila/nephila/usage/RequestEqualsPinLaw" = some m.cls := findClass_of_methodNamed Bd.named
  have hnm := (name_of_methodNamed Bd.named Bd.method).1
  have X0 : Stand p l e ({ frames := 0, cells := 0, slots := 0, locals := 0 } : Room) s m #[(.long q), (.int k), (.int i)] below meth c s₁ [] 0 0 := Stand.of_body Bd
  have e0 : s₁.heap = h0 := by rw [← hh, Bd.state]; rfl
  have hnr : nar .char (own_chr q k i) = own_chr q k i := own_nar (own_chr_lat q k i)
  have sg1 : ∀ target, Steps p.tables e below (s₁.setTop (mkF m 19 #[.val (.long q), .second, .val (.int k), .val (.int i)] [(.int ((((((((q).toUInt64 >>> (((((18 : Int32) * k) + (2 : Int32)) + ((8 : Int32) * i)) &&& 0x3f).toInt64.toUInt64).toInt64) &&& (255 : Int64))).toInt32)).toUInt32.toUInt16.toUInt32.toInt32))])) target → Steps p.tables e below (s₁.setTop (mkF m 0 #[.val (.long q), .second, .val (.int k), .val (.int i)] [])) target := by
    intro target kt
    show Steps p.tables e below (s₁.setTop (mkF m 0 #[.val (.long q), .second, .val (.int k), .val (.int i)] [])) _
    refine XS.lloadN X0.here hx rfl (hb hby dC_0) rfl ?_
    show Steps p.tables e below (s₁.setTop (mkF m 1 #[.val (.long q), .second, .val (.int k), .val (.int i)] [(.long q)])) _
    refine XS.bipush X0.here hx rfl (hb hby dC_1) ?_
    show Steps p.tables e below (s₁.setTop (mkF m 3 #[.val (.long q), .second, .val (.int k), .val (.int i)] [(.int (18 : Int32)), (.long q)])) _
    refine XS.iloadN X0.here hx rfl (hb hby dC_3) rfl ?_
    show Steps p.tables e below (s₁.setTop (mkF m 4 #[.val (.long q), .second, .val (.int k), .val (.int i)] [(.int k), (.int (18 : Int32)), (.long q)])) _
    refine XS.imul X0.here hx rfl (hb hby dC_4) rfl ?_
    show Steps p.tables e below (s₁.setTop (mkF m 5 #[.val (.long q), .second, .val (.int k), .val (.int i)] [(.int ((18 : Int32) * k)), (.long q)])) _
    refine XS.iconst X0.here hx rfl (hb hby dC_5) ?_
    show Steps p.tables e below (s₁.setTop (mkF m 6 #[.val (.long q), .second, .val (.int k), .val (.int i)] [(.int (2 : Int32)), (.int ((18 : Int32) * k)), (.long q)])) _
    refine XS.iadd X0.here hx rfl (hb hby dC_6) rfl ?_
    show Steps p.tables e below (s₁.setTop (mkF m 7 #[.val (.long q), .second, .val (.int k), .val (.int i)] [(.int (((18 : Int32) * k) + (2 : Int32))), (.long q)])) _
    refine XS.bipush X0.here hx rfl (hb hby dC_7) ?_
    show Steps p.tables e below (s₁.setTop (mkF m 9 #[.val (.long q), .second, .val (.int k), .val (.int i)] [(.int (8 : Int32)), (.int (((18 : Int32) * k) + (2 : Int32))), (.long q)])) _
    refine XS.iloadN X0.here hx rfl (hb hby dC_9) rfl ?_
    show Steps p.tables e below (s₁.setTop (mkF m 10 #[.val (.long q), .second, .val (.int k), .val (.int i)] [(.int i), (.int (8 : Int32)), (.int (((18 : Int32) * k) + (2 : Int32))), (.long q)])) _
    refine XS.imul X0.here hx rfl (hb hby dC_10) rfl ?_
    show Steps p.tables e below (s₁.setTop (mkF m 11 #[.val (.long q), .second, .val (.int k), .val (.int i)] [(.int ((8 : Int32) * i)), (.int (((18 : Int32) * k) + (2 : Int32))), (.long q)])) _
    refine XS.iadd X0.here hx rfl (hb hby dC_11) rfl ?_
    show Steps p.tables e below (s₁.setTop (mkF m 12 #[.val (.long q), .second, .val (.int k), .val (.int i)] [(.int ((((18 : Int32) * k) + (2 : Int32)) + ((8 : Int32) * i))), (.long q)])) _
    refine XS.lushr X0.here hx rfl (hb hby dC_12) rfl ?_
    show Steps p.tables e below (s₁.setTop (mkF m 13 #[.val (.long q), .second, .val (.int k), .val (.int i)] [(.long (((q).toUInt64 >>> (((((18 : Int32) * k) + (2 : Int32)) + ((8 : Int32) * i)) &&& 0x3f).toInt64.toUInt64).toInt64))])) _
    refine X0.ldc2Long hx hown (mvT hZ (hw _ (List.mem_of_getElem? (i := 59) rfl))) (g := (mkF m 13 #[.val (.long q), .second, .val (.int k), .val (.int i)] [(.long (((q).toUInt64 >>> (((((18 : Int32) * k) + (2 : Int32)) + ((8 : Int32) * i)) &&& 0x3f).toInt64.toUInt64).toInt64))])) rfl (hb hby dC_13) _ ?_
    show Steps p.tables e below (s₁.setTop (mkF m 16 #[.val (.long q), .second, .val (.int k), .val (.int i)] [(.long (255 : Int64)), (.long (((q).toUInt64 >>> (((((18 : Int32) * k) + (2 : Int32)) + ((8 : Int32) * i)) &&& 0x3f).toInt64.toUInt64).toInt64))])) _
    refine XS.land X0.here hx rfl (hb hby dC_16) rfl ?_
    show Steps p.tables e below (s₁.setTop (mkF m 17 #[.val (.long q), .second, .val (.int k), .val (.int i)] [(.long ((((q).toUInt64 >>> (((((18 : Int32) * k) + (2 : Int32)) + ((8 : Int32) * i)) &&& 0x3f).toInt64.toUInt64).toInt64) &&& (255 : Int64)))])) _
    refine XS.l2i X0.here hx rfl (hb hby dC_17) rfl ?_
    show Steps p.tables e below (s₁.setTop (mkF m 18 #[.val (.long q), .second, .val (.int k), .val (.int i)] [(.int ((((((q).toUInt64 >>> (((((18 : Int32) * k) + (2 : Int32)) + ((8 : Int32) * i)) &&& 0x3f).toInt64.toUInt64).toInt64) &&& (255 : Int64))).toInt32))])) _
    refine XS.i2c X0.here hx rfl (hb hby dC_18) rfl ?_
    show Steps p.tables e below (s₁.setTop (mkF m 19 #[.val (.long q), .second, .val (.int k), .val (.int i)] [(.int ((((((((q).toUInt64 >>> (((((18 : Int32) * k) + (2 : Int32)) + ((8 : Int32) * i)) &&& 0x3f).toInt64.toUInt64).toInt64) &&& (255 : Int64))).toInt32)).toUInt32.toUInt16.toUInt32.toInt32))])) _
    exact kt
  obtain ⟨fs, hr, hrun, hended, hW, hsame⟩ := X0.leave (v := some (.int (own_chr q k i))) (fun h => by rw [Bd.returns] at h; cases h)
  refine ⟨_, _, castTop (efC m q k i) ?_, hrun, hended, _, _, rfl, ?_, ⟨_, rfl⟩, hW, hsame.mono (by decide) (by decide)⟩
  · show Steps p.tables e below (s₁.setTop (mkF m 0 #[.val (.long q), .second, .val (.int k), .val (.int i)] [])) _
    refine sg1 _ ?_
    show Steps p.tables e below (s₁.setTop (mkF m 19 #[.val (.long q), .second, .val (.int k), .val (.int i)] [(.int ((((((((q).toUInt64 >>> (((((18 : Int32) * k) + (2 : Int32)) + ((8 : Int32) * i)) &&& 0x3f).toInt64.toUInt64).toInt64) &&& (255 : Int64))).toInt32)).toUInt32.toUInt16.toUInt32.toInt32))])) _
    exact retN X0 hx (t := .char) Bd.returns (by simp) (hb hby dC_19) (by show ∀ (f : JFrame) (acts : List Action), f.method = m → f.locked = none → f.entered = [] → (doReturn e (s₁.setTop f) acts (some (.int (nar .char (own_chr q k i))))).1 = _; rw [hnr]; exact hr)
  · show _
    exact ⟨rfl, Fr.nil n0, e0⟩
theorem dF_0 : decode method_6_code 0 = .ok (.iload 5, 2) := by decide +kernel
theorem dF_2 : decode method_6_code 2 = .ok (.ifCond .ne 5, 3) := by decide +kernel
theorem dF_5 : decode method_6_code 5 = .ok (.lload_n 2, 1) := by decide +kernel
theorem dF_6 : decode method_6_code 6 = .ok (.lreturn, 1) := by decide +kernel
theorem dF_7 : decode method_6_code 7 = .ok (.ldc2_w 26, 3) := by decide +kernel
theorem dF_10 : decode method_6_code 10 = .ok (.bipush 18, 2) := by decide +kernel
theorem dF_12 : decode method_6_code 12 = .ok (.iload 4, 2) := by decide +kernel
theorem dF_14 : decode method_6_code 14 = .ok (.imul, 1) := by decide +kernel
theorem dF_15 : decode method_6_code 15 = .ok (.lshl, 1) := by decide +kernel
theorem dF_16 : decode method_6_code 16 = .ok (.lstore 6, 2) := by decide +kernel
theorem dF_18 : decode method_6_code 18 = .ok (.lload_n 2, 1) := by decide +kernel
theorem dF_19 : decode method_6_code 19 = .ok (.lload 6, 2) := by decide +kernel
theorem dF_21 : decode method_6_code 21 = .ok (.ldc2_w 28, 3) := by decide +kernel
theorem dF_24 : decode method_6_code 24 = .ok (.lxor, 1) := by decide +kernel
theorem dF_25 : decode method_6_code 25 = .ok (.land, 1) := by decide +kernel
theorem dF_26 : decode method_6_code 26 = .ok (.lload_n 0, 1) := by decide +kernel
theorem dF_27 : decode method_6_code 27 = .ok (.lload 6, 2) := by decide +kernel
theorem dF_29 : decode method_6_code 29 = .ok (.land, 1) := by decide +kernel
theorem dF_30 : decode method_6_code 30 = .ok (.lor, 1) := by decide +kernel
theorem dF_31 : decode method_6_code 31 = .ok (.lreturn, 1) := by decide +kernel
theorem efF (m : MethodId) (x0 : Int64) (x1 : Int64) (x2 : Int32) (x3 : Int32) : entryFrame m #[(.long x0), (.long x1), (.int x2), (.int x3)] 8 = mkF m 0 #[.val (.long x0), .second, .val (.long x1), .second, .val (.int x2), .val (.int x3), .unset, .unset] [] := by first | (simp [entryFrame, mkF, argsToLocals, Value.category, maxLocals]; done) | rfl
theorem pdF : parseMethodDescriptor "(JJIZ)J" = some ⟨[.long, .long, .int, .boolean], some .long⟩ := by decide +kernel
def own_QF (n0 : Nat) (h0 : Heap) (v : Option Value) (h : Heap) (L : List Loc) : Prop := ∃ r : Int64, v = some (.long r) ∧ Fr n0 L ∧ h = h0
set_option maxRecDepth 65536 in
set_option maxHeartbeats 40000000 in
theorem rmCf (l : Launch) (Z : State) (a0 : Array Value) (hw : ∀ d ∈ tables_1, d.before a0 Z = true) (q r : Int64) (k b : Int32) (h0 : Heap) (n0 : Nat) :
    MetFree l (⟨"com/example/nephila/nephila/usage/RequestEqualsPinLaw", "copyField", "(JJIZ)J"⟩ : MethodName) (head1 [Jvm.Cond.code (⟨"com/example/nephila/nephila/usage/RequestEqualsPinLaw", "copyField", "(JJIZ)J"⟩ : MethodName) method_6_code 8 (some .long)] ({ frames := 0, cells := 0, slots := 0, locals := 0 } : Room)) (fun q_ U => q_ = #[(.long q), (.long r), (.int k), (.int b)] ∧ Z.Warmed39 U.vm ∧ U.heap = h0) (fun _ _ _ _ _ => True) (fun _ U o U' => ∃ v L, o = .returned v ∧ own_QF n0 h0 v U'.heap L ∧ FrameEnd U o U' L ({ frames := 0, cells := 0, slots := 0, locals := 0 } : Room).cells ({ frames := 0, cells := 0, slots := 0, locals := 0 } : Room).slots) := by
  refine MetFree.of_bodySF (plainFor_of_name pn_L) hisR ?_
  intro p e s m args below meth c s₁ Bd hml0 hP hK
  obtain ⟨rfl, hZ, hh⟩ := hP
  have hx := Bd.exec
  have hby := Bd.bytes
  have hml : c.maxLocals = 8 := hml0
  have hown : s.vm.findClass "com/example/nephila/nephila/usage/RequestEqualsPinLaw" = some m.cls := findClass_of_methodNamed Bd.named
  have hnm := (name_of_methodNamed Bd.named Bd.method).1
  have X0 : Stand p l e ({ frames := 0, cells := 0, slots := 0, locals := 0 } : Room) s m #[(.long q), (.long r), (.int k), (.int b)] below meth c s₁ [] 0 0 := Stand.of_body Bd
  have e0 : s₁.heap = h0 := by rw [← hh, Bd.state]; rfl
  by_cases hb0 : b = 0
  · have sg1 : ∀ target, Steps p.tables e below (s₁.setTop (mkF m 6 #[.val (.long q), .second, .val (.long r), .second, .val (.int k), .val (.int b), .unset, .unset] [(.long r)])) target → Steps p.tables e below (s₁.setTop (mkF m 0 #[.val (.long q), .second, .val (.long r), .second, .val (.int k), .val (.int b), .unset, .unset] [])) target := by
      intro target kt
      show Steps p.tables e below (s₁.setTop (mkF m 0 #[.val (.long q), .second, .val (.long r), .second, .val (.int k), .val (.int b), .unset, .unset] [])) _
      refine XS.iload X0.here hx rfl (hb hby dF_0) rfl ?_
      show Steps p.tables e below (s₁.setTop (mkF m 2 #[.val (.long q), .second, .val (.long r), .second, .val (.int k), .val (.int b), .unset, .unset] [(.int b)])) _
      refine XS.ifNo X0.here hx rfl (hb hby dF_2) rfl (by rw [if0]; exact (teq hb0).2) ?_
      show Steps p.tables e below (s₁.setTop (mkF m 5 #[.val (.long q), .second, .val (.long r), .second, .val (.int k), .val (.int b), .unset, .unset] [])) _
      refine XS.lloadN X0.here hx rfl (hb hby dF_5) rfl ?_
      show Steps p.tables e below (s₁.setTop (mkF m 6 #[.val (.long q), .second, .val (.long r), .second, .val (.int k), .val (.int b), .unset, .unset] [(.long r)])) _
      exact kt
    obtain ⟨fs, hr, hrun, hended, hW, hsame⟩ := X0.leave (v := some (.long r)) (fun h => by rw [Bd.returns] at h; cases h)
    refine ⟨_, _, castTop (efF m q r k b) ?_, hrun, hended, _, _, rfl, ?_, ⟨_, rfl⟩, hW, hsame.mono (by decide) (by decide)⟩
    · show Steps p.tables e below (s₁.setTop (mkF m 0 #[.val (.long q), .second, .val (.long r), .second, .val (.int k), .val (.int b), .unset, .unset] [])) _
      refine sg1 _ ?_
      show Steps p.tables e below (s₁.setTop (mkF m 6 #[.val (.long q), .second, .val (.long r), .second, .val (.int k), .val (.int b), .unset, .unset] [(.long r)])) _
      exact retOut X0 hx (t := .long) Bd.returns rfl (Or.inr (Or.inl ⟨rfl, rfl, _, rfl⟩)) (hb hby dF_6) hr
    · show _
      exact ⟨_, rfl, Fr.nil n0, e0⟩
  · have sg1 : ∀ target, Steps p.tables e below (s₁.setTop (mkF m 31 #[.val (.long q), .second, .val (.long r), .second, .val (.int k), .val (.int b), .val (.long ((262143 : Int64) <<< (((18 : Int32) * k) &&& 0x3f).toInt64)), .second] [(.long ((r &&& (((262143 : Int64) <<< (((18 : Int32) * k) &&& 0x3f).toInt64) ^^^ (-1 : Int64))) ||| (q &&& ((262143 : Int64) <<< (((18 : Int32) * k) &&& 0x3f).toInt64))))])) target → Steps p.tables e below (s₁.setTop (mkF m 0 #[.val (.long q), .second, .val (.long r), .second, .val (.int k), .val (.int b), .unset, .unset] [])) target := by
      intro target kt
      show Steps p.tables e below (s₁.setTop (mkF m 0 #[.val (.long q), .second, .val (.long r), .second, .val (.int k), .val (.int b), .unset, .unset] [])) _
      refine XS.iload X0.here hx rfl (hb hby dF_0) rfl ?_
      show Steps p.tables e below (s₁.setTop (mkF m 2 #[.val (.long q), .second, .val (.long r), .second, .val (.int k), .val (.int b), .unset, .unset] [(.int b)])) _
      refine XS.ifYes X0.here hx rfl (pc0 := 2) (pc' := 7) rfl (hb hby dF_2) rfl (by rw [if0]; exact (feq hb0).2) (by decide) (by decide) ?_
      show Steps p.tables e below (s₁.setTop (mkF m 7 #[.val (.long q), .second, .val (.long r), .second, .val (.int k), .val (.int b), .unset, .unset] [])) _
      refine X0.ldc2Long hx hown (mvT hZ (hw _ (List.mem_of_getElem? (i := 91) rfl))) (g := (mkF m 7 #[.val (.long q), .second, .val (.long r), .second, .val (.int k), .val (.int b), .unset, .unset] [])) rfl (hb hby dF_7) _ ?_
      show Steps p.tables e below (s₁.setTop (mkF m 10 #[.val (.long q), .second, .val (.long r), .second, .val (.int k), .val (.int b), .unset, .unset] [(.long (262143 : Int64))])) _
      refine XS.bipush X0.here hx rfl (hb hby dF_10) ?_
      show Steps p.tables e below (s₁.setTop (mkF m 12 #[.val (.long q), .second, .val (.long r), .second, .val (.int k), .val (.int b), .unset, .unset] [(.int (18 : Int32)), (.long (262143 : Int64))])) _
      refine XS.iload X0.here hx rfl (hb hby dF_12) rfl ?_
      show Steps p.tables e below (s₁.setTop (mkF m 14 #[.val (.long q), .second, .val (.long r), .second, .val (.int k), .val (.int b), .unset, .unset] [(.int k), (.int (18 : Int32)), (.long (262143 : Int64))])) _
      refine XS.imul X0.here hx rfl (hb hby dF_14) rfl ?_
      show Steps p.tables e below (s₁.setTop (mkF m 15 #[.val (.long q), .second, .val (.long r), .second, .val (.int k), .val (.int b), .unset, .unset] [(.int ((18 : Int32) * k)), (.long (262143 : Int64))])) _
      refine XS.lshl X0.here hx rfl (hb hby dF_15) rfl ?_
      show Steps p.tables e below (s₁.setTop (mkF m 16 #[.val (.long q), .second, .val (.long r), .second, .val (.int k), .val (.int b), .unset, .unset] [(.long ((262143 : Int64) <<< (((18 : Int32) * k) &&& 0x3f).toInt64))])) _
      refine XS.lstore X0.here hx rfl (hb hby dF_16) rfl (l' := #[.val (.long q), .second, .val (.long r), .second, .val (.int k), .val (.int b), .val (.long ((262143 : Int64) <<< (((18 : Int32) * k) &&& 0x3f).toInt64)), .second]) rfl ?_
      show Steps p.tables e below (s₁.setTop (mkF m 18 #[.val (.long q), .second, .val (.long r), .second, .val (.int k), .val (.int b), .val (.long ((262143 : Int64) <<< (((18 : Int32) * k) &&& 0x3f).toInt64)), .second] [])) _
      refine XS.lloadN X0.here hx rfl (hb hby dF_18) rfl ?_
      show Steps p.tables e below (s₁.setTop (mkF m 19 #[.val (.long q), .second, .val (.long r), .second, .val (.int k), .val (.int b), .val (.long ((262143 : Int64) <<< (((18 : Int32) * k) &&& 0x3f).toInt64)), .second] [(.long r)])) _
      refine XS.lload X0.here hx rfl (hb hby dF_19) rfl ?_
      show Steps p.tables e below (s₁.setTop (mkF m 21 #[.val (.long q), .second, .val (.long r), .second, .val (.int k), .val (.int b), .val (.long ((262143 : Int64) <<< (((18 : Int32) * k) &&& 0x3f).toInt64)), .second] [(.long ((262143 : Int64) <<< (((18 : Int32) * k) &&& 0x3f).toInt64)), (.long r)])) _
      refine X0.ldc2Long hx hown (mvT hZ (hw _ (List.mem_of_getElem? (i := 92) rfl))) (g := (mkF m 21 #[.val (.long q), .second, .val (.long r), .second, .val (.int k), .val (.int b), .val (.long ((262143 : Int64) <<< (((18 : Int32) * k) &&& 0x3f).toInt64)), .second] [(.long ((262143 : Int64) <<< (((18 : Int32) * k) &&& 0x3f).toInt64)), (.long r)])) rfl (hb hby dF_21) _ ?_
      show Steps p.tables e below (s₁.setTop (mkF m 24 #[.val (.long q), .second, .val (.long r), .second, .val (.int k), .val (.int b), .val (.long ((262143 : Int64) <<< (((18 : Int32) * k) &&& 0x3f).toInt64)), .second] [(.long (-1 : Int64)), (.long ((262143 : Int64) <<< (((18 : Int32) * k) &&& 0x3f).toInt64)), (.long r)])) _
      refine XS.lxor X0.here hx rfl (hb hby dF_24) rfl ?_
      show Steps p.tables e below (s₁.setTop (mkF m 25 #[.val (.long q), .second, .val (.long r), .second, .val (.int k), .val (.int b), .val (.long ((262143 : Int64) <<< (((18 : Int32) * k) &&& 0x3f).toInt64)), .second] [(.long (((262143 : Int64) <<< (((18 : Int32) * k) &&& 0x3f).toInt64) ^^^ (-1 : Int64))), (.long r)])) _
      refine XS.land X0.here hx rfl (hb hby dF_25) rfl ?_
      show Steps p.tables e below (s₁.setTop (mkF m 26 #[.val (.long q), .second, .val (.long r), .second, .val (.int k), .val (.int b), .val (.long ((262143 : Int64) <<< (((18 : Int32) * k) &&& 0x3f).toInt64)), .second] [(.long (r &&& (((262143 : Int64) <<< (((18 : Int32) * k) &&& 0x3f).toInt64) ^^^ (-1 : Int64))))])) _
      refine XS.lloadN X0.here hx rfl (hb hby dF_26) rfl ?_
      show Steps p.tables e below (s₁.setTop (mkF m 27 #[.val (.long q), .second, .val (.long r), .second, .val (.int k), .val (.int b), .val (.long ((262143 : Int64) <<< (((18 : Int32) * k) &&& 0x3f).toInt64)), .second] [(.long q), (.long (r &&& (((262143 : Int64) <<< (((18 : Int32) * k) &&& 0x3f).toInt64) ^^^ (-1 : Int64))))])) _
      refine XS.lload X0.here hx rfl (hb hby dF_27) rfl ?_
      show Steps p.tables e below (s₁.setTop (mkF m 29 #[.val (.long q), .second, .val (.long r), .second, .val (.int k), .val (.int b), .val (.long ((262143 : Int64) <<< (((18 : Int32) * k) &&& 0x3f).toInt64)), .second] [(.long ((262143 : Int64) <<< (((18 : Int32) * k) &&& 0x3f).toInt64)), (.long q), (.long (r &&& (((262143 : Int64) <<< (((18 : Int32) * k) &&& 0x3f).toInt64) ^^^ (-1 : Int64))))])) _
      refine XS.land X0.here hx rfl (hb hby dF_29) rfl ?_
      show Steps p.tables e below (s₁.setTop (mkF m 30 #[.val (.long q), .second, .val (.long r), .second, .val (.int k), .val (.int b), .val (.long ((262143 : Int64) <<< (((18 : Int32) * k) &&& 0x3f).toInt64)), .second] [(.long (q &&& ((262143 : Int64) <<< (((18 : Int32) * k) &&& 0x3f).toInt64))), (.long (r &&& (((262143 : Int64) <<< (((18 : Int32) * k) &&& 0x3f).toInt64) ^^^ (-1 : Int64))))])) _
      refine XS.lor X0.here hx rfl (hb hby dF_30) rfl ?_
      show Steps p.tables e below (s₁.setTop (mkF m 31 #[.val (.long q), .second, .val (.long r), .second, .val (.int k), .val (.int b), .val (.long ((262143 : Int64) <<< (((18 : Int32) * k) &&& 0x3f).toInt64)), .second] [(.long ((r &&& (((262143 : Int64) <<< (((18 : Int32) * k) &&& 0x3f).toInt64) ^^^ (-1 : Int64))) ||| (q &&& ((262143 : Int64) <<< (((18 : Int32) * k) &&& 0x3f).toInt64))))])) _
      exact kt
    obtain ⟨fs, hr, hrun, hended, hW, hsame⟩ := X0.leave (v := some (.long ((r &&& (((262143 : Int64) <<< (((18 : Int32) * k) &&& 0x3f).toInt64) ^^^ (-1 : Int64))) ||| (q &&& ((262143 : Int64) <<< (((18 : Int32) * k) &&& 0x3f).toInt64))))) (fun h => by rw [Bd.returns] at h; cases h)
    refine ⟨_, _, castTop (efF m q r k b) ?_, hrun, hended, _, _, rfl, ?_, ⟨_, rfl⟩, hW, hsame.mono (by decide) (by decide)⟩
    · show Steps p.tables e below (s₁.setTop (mkF m 0 #[.val (.long q), .second, .val (.long r), .second, .val (.int k), .val (.int b), .unset, .unset] [])) _
      refine sg1 _ ?_
      show Steps p.tables e below (s₁.setTop (mkF m 31 #[.val (.long q), .second, .val (.long r), .second, .val (.int k), .val (.int b), .val (.long ((262143 : Int64) <<< (((18 : Int32) * k) &&& 0x3f).toInt64)), .second] [(.long ((r &&& (((262143 : Int64) <<< (((18 : Int32) * k) &&& 0x3f).toInt64) ^^^ (-1 : Int64))) ||| (q &&& ((262143 : Int64) <<< (((18 : Int32) * k) &&& 0x3f).toInt64))))])) _
      exact retOut X0 hx (t := .long) Bd.returns rfl (Or.inr (Or.inl ⟨rfl, rfl, _, rfl⟩)) (hb hby dF_31) hr
    · show _
      exact ⟨_, rfl, Fr.nil n0, e0⟩
theorem dT_0 : decode method_4_code 0 = .ok (.lload_n 0, 1) := by decide +kernel
theorem dT_1 : decode method_4_code 1 = .ok (.iload_n 2, 1) := by decide +kernel
theorem dT_2 : decode method_4_code 2 = .ok (.invokestatic 11, 3) := by decide +kernel
theorem dT_5 : decode method_4_code 5 = .ok (.istore_n 3, 1) := by decide +kernel
theorem dT_6 : decode method_4_code 6 = .ok (.iload_n 3, 1) := by decide +kernel
theorem dT_7 : decode method_4_code 7 = .ok (.ifCond .ne 14, 3) := by decide +kernel
theorem dT_10 : decode method_4_code 10 = .ok (.new 17, 3) := by decide +kernel
theorem dT_13 : decode method_4_code 13 = .ok (.dup, 1) := by decide +kernel
theorem dT_14 : decode method_4_code 14 = .ok (.iconst 0, 1) := by decide +kernel
theorem dT_15 : decode method_4_code 15 = .ok (.newarray .char, 2) := by decide +kernel
theorem dT_17 : decode method_4_code 17 = .ok (.invokespecial 19, 3) := by decide +kernel
theorem dT_20 : decode method_4_code 20 = .ok (.areturn, 1) := by decide +kernel
theorem dT_21 : decode method_4_code 21 = .ok (.iload_n 3, 1) := by decide +kernel
theorem dT_22 : decode method_4_code 22 = .ok (.iconst 1, 1) := by decide +kernel
theorem dT_23 : decode method_4_code 23 = .ok (.if_icmp .ne 23, 3) := by decide +kernel
theorem dT_26 : decode method_4_code 26 = .ok (.new 17, 3) := by decide +kernel
theorem dT_29 : decode method_4_code 29 = .ok (.dup, 1) := by decide +kernel
theorem dT_30 : decode method_4_code 30 = .ok (.iconst 1, 1) := by decide +kernel
theorem dT_31 : decode method_4_code 31 = .ok (.newarray .char, 2) := by decide +kernel
theorem dT_33 : decode method_4_code 33 = .ok (.dup, 1) := by decide +kernel
theorem dT_34 : decode method_4_code 34 = .ok (.iconst 0, 1) := by decide +kernel
theorem dT_35 : decode method_4_code 35 = .ok (.lload_n 0, 1) := by decide +kernel
theorem dT_36 : decode method_4_code 36 = .ok (.iload_n 2, 1) := by decide +kernel
theorem dT_37 : decode method_4_code 37 = .ok (.iconst 0, 1) := by decide +kernel
theorem dT_38 : decode method_4_code 38 = .ok (.invokestatic 22, 3) := by decide +kernel
theorem dT_41 : decode method_4_code 41 = .ok (.castore, 1) := by decide +kernel
theorem dT_42 : decode method_4_code 42 = .ok (.invokespecial 19, 3) := by decide +kernel
theorem dT_45 : decode method_4_code 45 = .ok (.areturn, 1) := by decide +kernel
theorem dT_46 : decode method_4_code 46 = .ok (.new 17, 3) := by decide +kernel
theorem dT_49 : decode method_4_code 49 = .ok (.dup, 1) := by decide +kernel
theorem dT_50 : decode method_4_code 50 = .ok (.iconst 2, 1) := by decide +kernel
theorem dT_51 : decode method_4_code 51 = .ok (.newarray .char, 2) := by decide +kernel
theorem dT_53 : decode method_4_code 53 = .ok (.dup, 1) := by decide +kernel
theorem dT_54 : decode method_4_code 54 = .ok (.iconst 0, 1) := by decide +kernel
theorem dT_55 : decode method_4_code 55 = .ok (.lload_n 0, 1) := by decide +kernel
theorem dT_56 : decode method_4_code 56 = .ok (.iload_n 2, 1) := by decide +kernel
theorem dT_57 : decode method_4_code 57 = .ok (.iconst 0, 1) := by decide +kernel
theorem dT_58 : decode method_4_code 58 = .ok (.invokestatic 22, 3) := by decide +kernel
theorem dT_61 : decode method_4_code 61 = .ok (.castore, 1) := by decide +kernel
theorem dT_62 : decode method_4_code 62 = .ok (.dup, 1) := by decide +kernel
theorem dT_63 : decode method_4_code 63 = .ok (.iconst 1, 1) := by decide +kernel
theorem dT_64 : decode method_4_code 64 = .ok (.lload_n 0, 1) := by decide +kernel
theorem dT_65 : decode method_4_code 65 = .ok (.iload_n 2, 1) := by decide +kernel
theorem dT_66 : decode method_4_code 66 = .ok (.iconst 1, 1) := by decide +kernel
theorem dT_67 : decode method_4_code 67 = .ok (.invokestatic 22, 3) := by decide +kernel
theorem dT_70 : decode method_4_code 70 = .ok (.castore, 1) := by decide +kernel
theorem dT_71 : decode method_4_code 71 = .ok (.invokespecial 19, 3) := by decide +kernel
theorem dT_74 : decode method_4_code 74 = .ok (.areturn, 1) := by decide +kernel
theorem efT (m : MethodId) (x0 : Int64) (x1 : Int32) : entryFrame m #[(.long x0), (.int x1)] 4 = mkF m 0 #[.val (.long x0), .second, .val (.int x1), .unset] [] := by first | (simp [entryFrame, mkF, argsToLocals, Value.category, maxLocals]; done) | rfl
theorem pdT : parseMethodDescriptor "(JI)Ljava/lang/String;" = some ⟨[.long, .int], some (.object "java/lang/String")⟩ := by decide +kernel
def own_QT (Z : State) (cs : List Int32) (h0 : Heap) (n0 : Nat) (v : Option Value) (h : Heap) (L : List Loc) : Prop := ∃ a, v = some (.ref a) ∧ Fr n0 L ∧ Ext h0 h ∧ h0.size ≤ a ∧ own_Str Z h a cs
set_option maxRecDepth 65536 in
set_option maxHeartbeats 40000000 in
theorem rmT (l : Launch) (Z : State) (a0 : Array Value) (hw : ∀ d ∈ tables_1, d.before a0 Z = true) (EL : List (String × Nat)) (hEL : EW Z a0 EL) (hmem : ("java/lang/String", 7) ∈ EL) (q : Int64) (k : Int32) (G : Int32) (h0 : Heap) (n0 : Nat) (Z0 : n0 ≤ h0.size) (O : Sta Z h0 "java/lang/String" "COMPACT_STRINGS" "Z" (.int G)) (hG : ¬ G = 0) :
    MetFree l (⟨"com/example/nephila/nephila/usage/RequestEqualsPinLaw", "str", "(JI)Ljava/lang/String;"⟩ : MethodName) (head1 [Jvm.Cond.code (⟨"com/example/nephila/nephila/usage/RequestEqualsPinLaw", "str", "(JI)Ljava/lang/String;"⟩ : MethodName) method_4_code 4 (some (.object "java/lang/String"))] ({ frames := 4, cells := 4, slots := 8, locals := 66 } : Room)) (fun q_ U => q_ = #[(.long q), (.int k)] ∧ Z.Warmed39 U.vm ∧ U.heap = h0 ∧ CHv Z EL U.vm h0) (fun _ _ _ _ _ => True) (fun _ U o U' => ∃ v L, o = .returned v ∧ own_QT Z (own_cs q k) h0 n0 v U'.heap L ∧ CHr Z EL U.vm U.heap U'.vm U'.heap ∧ ReturnedEndW U o U' L ({ frames := 4, cells := 4, slots := 8, locals := 66 } : Room).cells ({ frames := 4, cells := 4, slots := 8, locals := 66 } : Room).slots) := by
  refine MetFree.of_bodySF (plainFor_of_name pn_L) hisR ?_
  intro p e s m args below meth c s₁ Bd hml0 hP hK
  obtain ⟨rfl, hZ, hh, H0⟩ := hP
  have hx := Bd.exec
  have hby := Bd.bytes
  have hml : c.maxLocals = 4 := hml0
  have hown : s.vm.findClass "com/example/nephila/nephila/usage/RequestEqualsPinLaw" = some m.cls := findClass_of_methodNamed Bd.named
  have hnm := (name_of_methodNamed Bd.named Bd.method).1
  have X0 : Stand p l e ({ frames := 4, cells := 4, slots := 8, locals := 66 } : Room) (s.setVm s.vm) m #[(.long q), (.int k)] below meth c s₁ [] 0 0 := Stand.of_body Bd
  have e0 : s₁.heap = h0 := by rw [← hh, Bd.state]; rfl
  have hS0 : s.Since s.vm s.heap.size := (State.WarmedH.refl s).since _
  have hws : ∀ d ∈ StrChars.Road.words, d.before a0 Z = true := fun d hd => hw d (own_hws d hd)
  obtain ⟨n, hn, en⟩ := own_len_n q k
  rw [own_cs_n hn en]
  have sg1 : ∀ target, Steps p.tables e below (s₁.setTop (mkF m 2 #[.val (.long q), .second, .val (.int k), .unset] [(.int k), (.long q)])) target → Steps p.tables e below (s₁.setTop (mkF m 0 #[.val (.long q), .second, .val (.int k), .unset] [])) target := by
    intro target kt
    show Steps p.tables e below (s₁.setTop (mkF m 0 #[.val (.long q), .second, .val (.int k), .unset] [])) _
    refine XS.lloadN X0.here hx rfl (hb hby dT_0) rfl ?_
    show Steps p.tables e below (s₁.setTop (mkF m 1 #[.val (.long q), .second, .val (.int k), .unset] [(.long q)])) _
    refine XS.iloadN X0.here hx rfl (hb hby dT_1) rfl ?_
    show Steps p.tables e below (s₁.setTop (mkF m 2 #[.val (.long q), .second, .val (.int k), .unset] [(.int k), (.long q)])) _
    exact kt
  obtain ⟨_, _, ⟨TA, LA, kA, nA⟩, -, XA, ⟨LcA, hQA, lA, yA, zA⟩, stA⟩ := Jvm.LawKit.callS X0 hx (y := (⟨"com/example/nephila/nephila/usage/RequestEqualsPinLaw", "len", "(JI)I"⟩ : MethodName)) hown (mvT hZ (hw _ (List.mem_of_getElem? (i := 10) rfl))) (mvT hZ (hw _ (List.mem_of_getElem? (i := 11) rfl))) (mvT hZ (hw _ (List.mem_of_getElem? (i := 2) rfl))) (mvT hZ (hw _ (List.mem_of_getElem? (i := 12) rfl))) (by decide) (backOf (W := 0) (rmLen l Z a0 hw q k h0 n0) hZ (hw _ (List.mem_of_getElem? (i := 12) rfl)) (hw _ (List.mem_of_getElem? (i := 2) rfl)) (by decide) (by decide)) (g := (mkF m 2 #[.val (.long q), .second, .val (.int k), .unset] [(.int k), (.long q)])) rfl (by rw [hml]; rfl) (argsL := [(.long q), (.int k)]) (rest := []) (lenOf pdL rfl) rfl (by show 2 * 0 + _ ≤ _; exact Nat.le_of_eq rfl) (hb hby dT_2) (fun _ _ => ⟨rfl, e0, Nat.le_of_ble_eq_true rfl, Nat.le_of_ble_eq_true rfl⟩)
  dsimp only [Pt.U, Pt.locs, Pt.cells, Pt.slots] at XA lA yA zA stA hQA
  subst lA yA zA
  obtain ⟨rfl, NA, eA⟩ := hQA
  have MA := Fr.app (Fr.nil n0) NA
  have sg2 : ∀ target, Steps p.tables e below (TA.setTop (mkF m 6 #[.val (.long q), .second, .val (.int k), .val (.int (Int32.ofNat n))] [])) target → Steps p.tables e below (TA.setTop (mkF m 5 #[.val (.long q), .second, .val (.int k), .unset] [(.int (own_len q k))])) target := by
    intro target kt
    show Steps p.tables e below (TA.setTop (mkF m 5 #[.val (.long q), .second, .val (.int k), .unset] [(.int (own_len q k))])) _
    refine XS.istoreN XA.here hx rfl (hb hby dT_5) rfl (l' := #[.val (.long q), .second, .val (.int k), .val (.int (own_len q k))]) rfl ?_
    show Steps p.tables e below (TA.setTop (mkF m 6 #[.val (.long q), .second, .val (.int k), .val (.int (own_len q k))] [])) _
    rw [en]
    show Steps p.tables e below (TA.setTop (mkF m 6 #[.val (.long q), .second, .val (.int k), .val (.int (Int32.ofNat n))] [])) _
    exact kt
  obtain rfl | rfl | rfl : n = 0 ∨ n = 1 ∨ n = 2 := by omega
  · have sg3 : ∀ target, Steps p.tables e below (TA.setTop (mkF m 10 #[.val (.long q), .second, .val (.int k), .val (.int (Int32.ofNat 0))] [])) target → Steps p.tables e below (TA.setTop (mkF m 6 #[.val (.long q), .second, .val (.int k), .val (.int (Int32.ofNat 0))] [])) target := by
      intro target kt
      show Steps p.tables e below (TA.setTop (mkF m 6 #[.val (.long q), .second, .val (.int k), .val (.int (Int32.ofNat 0))] [])) _
      refine XS.iloadN XA.here hx rfl (hb hby dT_6) rfl ?_
      show Steps p.tables e below (TA.setTop (mkF m 7 #[.val (.long q), .second, .val (.int k), .val (.int (Int32.ofNat 0))] [(.int (Int32.ofNat 0))])) _
      refine XS.ifNo XA.here hx rfl (hb hby dT_7) rfl (by decide) ?_
      show Steps p.tables e below (TA.setTop (mkF m 10 #[.val (.long q), .second, .val (.int k), .val (.int (Int32.ofNat 0))] [])) _
      exact kt
    obtain ⟨T4, h4, X4, e4, E4, A4, D4, -, st4⟩ := newO XA hx hZ hown (hw _ (List.mem_of_getElem? (i := 14) rfl)) (hw _ (List.mem_of_getElem? (i := 15) rfl)) (hw _ (List.mem_of_getElem? (i := 16) rfl)) eA (g := (mkF m 10 #[.val (.long q), .second, .val (.int k), .val (.int (Int32.ofNat 0))] [])) rfl (hb hby dT_10) (by decide) (by decide)
    obtain ⟨a4, g4⟩ : ∃ z, z = h0.size := ⟨_, rfl⟩
    rw [← g4] at A4 D4 st4
    have sg5 : ∀ target, Steps p.tables e below (T4.setTop (mkF m 15 #[.val (.long q), .second, .val (.int k), .val (.int (Int32.ofNat 0))] [(.int (0 : Int32)), (.ref a4), (.ref a4)])) target → Steps p.tables e below (T4.setTop (mkF m 13 #[.val (.long q), .second, .val (.int k), .val (.int (Int32.ofNat 0))] [(.ref a4)])) target := by
      intro target kt
      show Steps p.tables e below (T4.setTop (mkF m 13 #[.val (.long q), .second, .val (.int k), .val (.int (Int32.ofNat 0))] [(.ref a4)])) _
      refine XS.dup X4.here hx rfl (hb hby dT_13) rfl rfl ?_
      show Steps p.tables e below (T4.setTop (mkF m 14 #[.val (.long q), .second, .val (.int k), .val (.int (Int32.ofNat 0))] [(.ref a4), (.ref a4)])) _
      refine XS.iconst X4.here hx rfl (hb hby dT_14) ?_
      show Steps p.tables e below (T4.setTop (mkF m 15 #[.val (.long q), .second, .val (.int k), .val (.int (Int32.ofNat 0))] [(.int (0 : Int32)), (.ref a4), (.ref a4)])) _
      exact kt
    obtain ⟨T6, h6, k6, X6, e6, E6, A6, st6⟩ := newP X4 hx hZ (hw _ (List.mem_of_getElem? (i := 17) rfl)) e4 (g := (mkF m 15 #[.val (.long q), .second, .val (.int k), .val (.int (Int32.ofNat 0))] [(.int (0 : Int32)), (.ref a4), (.ref a4)])) rfl (hb hby dT_15) rfl (by decide) (cap := 0) (by decide) (by decide) (by decide) (by decide)
    obtain ⟨a6, g6⟩ : ∃ z, z = h4.size := ⟨_, rfl⟩
    rw [← g6] at A6 st6
    have E46 : Ext h0 h6 := own_ext_trans E4 E6
    have gx : n0 ≤ a4 := by rw [g4]; exact Z0
    have gb : h0.size ≤ a6 := by rw [g6]; exact E4.1
    have nab : a4 ≠ a6 := Nat.ne_of_lt (by rw [g6]; exact A4.lt)
    have V6 : Arv Z h6 a6 k6 .char (0 : Int32) [] (.int (0 : Int32)) := Arv.new A6 (by decide)
    have En : Ext h0 h6 := E46
    have Fv : Fld Z h6 a4 "java/lang/String" "value" "[B" .null := (D4 (Or.inr (hw _ (List.mem_of_getElem? (i := 30) rfl))) (ty := (.array .byte)) (by decide)).ext E6
    have Fc : Fld Z h6 a4 "java/lang/String" "coder" "B" (.int (0 : Int32)) := (D4 (Or.inr (hw _ (List.mem_of_getElem? (i := 31) rfl))) (ty := .byte) (by decide)).ext E6
    have Ex : Exa Z h6 a4 "java/lang/String" := (A4.ext E6)
    obtain ⟨_, _, ⟨T9, L9, k9, n9⟩, -, X9, hS9, gr9, ⟨Lc9, hQ9, l9, y9, z9, R9⟩, st9⟩ := X6.specialBackS hx (y := (⟨"java/lang/String", "<init>", "([C)V"⟩ : MethodName)) rfl hown (mvT hZ (hw _ (List.mem_of_getElem? (i := 18) rfl))) (mvT hZ (hw _ (List.mem_of_getElem? (i := 19) rfl))) (mvT hZ (hw _ (List.mem_of_getElem? (i := 20) rfl))) (by decide) (backOfSH (vm0 := s.vm) (W := 1) (own_E1 l Z a0 hw EL hEL hmem a4 a6 h6 n0 gx Ex Fv Fc k6 V6) hZ (hw _ (List.mem_of_getElem? (i := 20) rfl)) (hw _ (List.mem_of_getElem? (i := 16) rfl)) (by decide) (by decide) hEL (H0.ext En)) (g := (mkF m 17 #[.val (.long q), .second, .val (.int k), .val (.int (Int32.ofNat 0))] [(.ref a6), (.ref a4), (.ref a4)])) rfl (by rw [hml]; rfl) (Steps.refl _) (a := a4) (argsL := [(.ref a6)]) (rest := [(.ref a4)]) (lenOf pdE1 rfl) rfl (by show 2 * 0 + _ ≤ _; exact Nat.le_of_eq rfl) (hb hby dT_17) (fun _ _ => ⟨rfl, e6, Nat.le_of_ble_eq_true rfl, Nat.le_of_ble_eq_true rfl⟩)
    dsimp only [Pt.U, Pt.locs, Pt.cells, Pt.slots] at X9 hS9 gr9 l9 y9 z9 R9 st9 hQ9
    subst l9 y9 z9
    obtain ⟨rfl, N9, K9, S9⟩ := hQ9
    have E9 : Ext h0 T9.heap := own_ext_keep En K9 (allS (by rw [g4]; exact Nat.le_refl _) all0)
    obtain ⟨fs, hr, hrun, hended, hW⟩ := X9.leaveW hS9 (Nat.le_refl _) (v := some (.ref a4)) (fun h => by rw [Bd.returns] at h; cases h)
    have RR : CHr Z EL s.vm h0 T9.vm T9.heap := (CHr.ext En H0).trans R9
    refine ⟨_, _, castTop (efT m q k) ?_, hrun, hended, _, _, rfl, ⟨a4, rfl, Fr.app (MA) N9, E9, by rw [g4]; exact Nat.le_refl _, S9⟩, ?_, own_w hW (by decide) (by decide)⟩
    · show Steps p.tables e below (s₁.setTop (mkF m 0 #[.val (.long q), .second, .val (.int k), .unset] [])) _
      refine sg1 _ ?_
      show Steps p.tables e below (s₁.setTop (mkF m 2 #[.val (.long q), .second, .val (.int k), .unset] [(.int k), (.long q)])) _
      refine stA _ ?_
      show Steps p.tables e below (TA.setTop (mkF m 5 #[.val (.long q), .second, .val (.int k), .unset] [(.int (own_len q k))])) _
      refine sg2 _ ?_
      show Steps p.tables e below (TA.setTop (mkF m 6 #[.val (.long q), .second, .val (.int k), .val (.int (Int32.ofNat 0))] [])) _
      refine sg3 _ ?_
      show Steps p.tables e below (TA.setTop (mkF m 10 #[.val (.long q), .second, .val (.int k), .val (.int (Int32.ofNat 0))] [])) _
      refine st4 _ ?_
      show Steps p.tables e below (T4.setTop (mkF m 13 #[.val (.long q), .second, .val (.int k), .val (.int (Int32.ofNat 0))] [(.ref a4)])) _
      refine sg5 _ ?_
      show Steps p.tables e below (T4.setTop (mkF m 15 #[.val (.long q), .second, .val (.int k), .val (.int (Int32.ofNat 0))] [(.int (0 : Int32)), (.ref a4), (.ref a4)])) _
      refine st6 _ ?_
      show Steps p.tables e below (T6.setTop (mkF m 17 #[.val (.long q), .second, .val (.int k), .val (.int (Int32.ofNat 0))] [(.ref a6), (.ref a4), (.ref a4)])) _
      refine st9.trans ?_
      show Steps p.tables e below (T9.setTop (mkF m 20 #[.val (.long q), .second, .val (.int k), .val (.int (Int32.ofNat 0))] [(.ref a4)])) _
      exact retOut X9 hx (t := .object "java/lang/String") Bd.returns rfl (Or.inr (Or.inr (Or.inr (Or.inr ⟨rfl, rfl, rfl⟩)))) (hb hby dT_20) hr
    · show CHr Z EL s.vm s.heap T9.vm T9.heap
      rw [hh]; exact RR
  · have sg3 : ∀ target, Steps p.tables e below (TA.setTop (mkF m 26 #[.val (.long q), .second, .val (.int k), .val (.int (Int32.ofNat 1))] [])) target → Steps p.tables e below (TA.setTop (mkF m 6 #[.val (.long q), .second, .val (.int k), .val (.int (Int32.ofNat 1))] [])) target := by
      intro target kt
      show Steps p.tables e below (TA.setTop (mkF m 6 #[.val (.long q), .second, .val (.int k), .val (.int (Int32.ofNat 1))] [])) _
      refine XS.iloadN XA.here hx rfl (hb hby dT_6) rfl ?_
      show Steps p.tables e below (TA.setTop (mkF m 7 #[.val (.long q), .second, .val (.int k), .val (.int (Int32.ofNat 1))] [(.int (Int32.ofNat 1))])) _
      refine XS.ifYes XA.here hx rfl (pc0 := 7) (pc' := 21) rfl (hb hby dT_7) rfl (by decide) (by decide) (by decide) ?_
      show Steps p.tables e below (TA.setTop (mkF m 21 #[.val (.long q), .second, .val (.int k), .val (.int (Int32.ofNat 1))] [])) _
      refine XS.iloadN XA.here hx rfl (hb hby dT_21) rfl ?_
      show Steps p.tables e below (TA.setTop (mkF m 22 #[.val (.long q), .second, .val (.int k), .val (.int (Int32.ofNat 1))] [(.int (Int32.ofNat 1))])) _
      refine XS.iconst XA.here hx rfl (hb hby dT_22) ?_
      show Steps p.tables e below (TA.setTop (mkF m 23 #[.val (.long q), .second, .val (.int k), .val (.int (Int32.ofNat 1))] [(.int (1 : Int32)), (.int (Int32.ofNat 1))])) _
      refine XS.icmpNo XA.here hx rfl (hb hby dT_23) rfl (by decide) ?_
      show Steps p.tables e below (TA.setTop (mkF m 26 #[.val (.long q), .second, .val (.int k), .val (.int (Int32.ofNat 1))] [])) _
      exact kt
    obtain ⟨T4, h4, X4, e4, E4, A4, D4, -, st4⟩ := newO XA hx hZ hown (hw _ (List.mem_of_getElem? (i := 14) rfl)) (hw _ (List.mem_of_getElem? (i := 15) rfl)) (hw _ (List.mem_of_getElem? (i := 16) rfl)) eA (g := (mkF m 26 #[.val (.long q), .second, .val (.int k), .val (.int (Int32.ofNat 1))] [])) rfl (hb hby dT_26) (by decide) (by decide)
    obtain ⟨a4, g4⟩ : ∃ z, z = h0.size := ⟨_, rfl⟩
    rw [← g4] at A4 D4 st4
    have sg5 : ∀ target, Steps p.tables e below (T4.setTop (mkF m 31 #[.val (.long q), .second, .val (.int k), .val (.int (Int32.ofNat 1))] [(.int (1 : Int32)), (.ref a4), (.ref a4)])) target → Steps p.tables e below (T4.setTop (mkF m 29 #[.val (.long q), .second, .val (.int k), .val (.int (Int32.ofNat 1))] [(.ref a4)])) target := by
      intro target kt
      show Steps p.tables e below (T4.setTop (mkF m 29 #[.val (.long q), .second, .val (.int k), .val (.int (Int32.ofNat 1))] [(.ref a4)])) _
      refine XS.dup X4.here hx rfl (hb hby dT_29) rfl rfl ?_
      show Steps p.tables e below (T4.setTop (mkF m 30 #[.val (.long q), .second, .val (.int k), .val (.int (Int32.ofNat 1))] [(.ref a4), (.ref a4)])) _
      refine XS.iconst X4.here hx rfl (hb hby dT_30) ?_
      show Steps p.tables e below (T4.setTop (mkF m 31 #[.val (.long q), .second, .val (.int k), .val (.int (Int32.ofNat 1))] [(.int (1 : Int32)), (.ref a4), (.ref a4)])) _
      exact kt
    obtain ⟨T6, h6, k6, X6, e6, E6, A6, st6⟩ := newP X4 hx hZ (hw _ (List.mem_of_getElem? (i := 17) rfl)) e4 (g := (mkF m 31 #[.val (.long q), .second, .val (.int k), .val (.int (Int32.ofNat 1))] [(.int (1 : Int32)), (.ref a4), (.ref a4)])) rfl (hb hby dT_31) rfl (by decide) (cap := 1) (by decide) (by decide) (by decide) (by decide)
    obtain ⟨a6, g6⟩ : ∃ z, z = h4.size := ⟨_, rfl⟩
    rw [← g6] at A6 st6
    have E46 : Ext h0 h6 := own_ext_trans E4 E6
    have gx : n0 ≤ a4 := by rw [g4]; exact Z0
    have gb : h0.size ≤ a6 := by rw [g6]; exact E4.1
    have nab : a4 ≠ a6 := Nat.ne_of_lt (by rw [g6]; exact A4.lt)
    have V6 : Arv Z h6 a6 k6 .char (1 : Int32) [] (.int (0 : Int32)) := Arv.new A6 (by decide)
    have sg7 : ∀ target, Steps p.tables e below (T6.setTop (mkF m 38 #[.val (.long q), .second, .val (.int k), .val (.int (Int32.ofNat 1))] [(.int (0 : Int32)), (.int k), (.long q), (.int (0 : Int32)), (.ref a6), (.ref a6), (.ref a4), (.ref a4)])) target → Steps p.tables e below (T6.setTop (mkF m 33 #[.val (.long q), .second, .val (.int k), .val (.int (Int32.ofNat 1))] [(.ref a6), (.ref a4), (.ref a4)])) target := by
      intro target kt
      show Steps p.tables e below (T6.setTop (mkF m 33 #[.val (.long q), .second, .val (.int k), .val (.int (Int32.ofNat 1))] [(.ref a6), (.ref a4), (.ref a4)])) _
      refine XS.dup X6.here hx rfl (hb hby dT_33) rfl rfl ?_
      show Steps p.tables e below (T6.setTop (mkF m 34 #[.val (.long q), .second, .val (.int k), .val (.int (Int32.ofNat 1))] [(.ref a6), (.ref a6), (.ref a4), (.ref a4)])) _
      refine XS.iconst X6.here hx rfl (hb hby dT_34) ?_
      show Steps p.tables e below (T6.setTop (mkF m 35 #[.val (.long q), .second, .val (.int k), .val (.int (Int32.ofNat 1))] [(.int (0 : Int32)), (.ref a6), (.ref a6), (.ref a4), (.ref a4)])) _
      refine XS.lloadN X6.here hx rfl (hb hby dT_35) rfl ?_
      show Steps p.tables e below (T6.setTop (mkF m 36 #[.val (.long q), .second, .val (.int k), .val (.int (Int32.ofNat 1))] [(.long q), (.int (0 : Int32)), (.ref a6), (.ref a6), (.ref a4), (.ref a4)])) _
      refine XS.iloadN X6.here hx rfl (hb hby dT_36) rfl ?_
      show Steps p.tables e below (T6.setTop (mkF m 37 #[.val (.long q), .second, .val (.int k), .val (.int (Int32.ofNat 1))] [(.int k), (.long q), (.int (0 : Int32)), (.ref a6), (.ref a6), (.ref a4), (.ref a4)])) _
      refine XS.iconst X6.here hx rfl (hb hby dT_37) ?_
      show Steps p.tables e below (T6.setTop (mkF m 38 #[.val (.long q), .second, .val (.int k), .val (.int (Int32.ofNat 1))] [(.int (0 : Int32)), (.int k), (.long q), (.int (0 : Int32)), (.ref a6), (.ref a6), (.ref a4), (.ref a4)])) _
      exact kt
    obtain ⟨_, _, ⟨TC0, LC0, kC0, nC0⟩, -, XC0, ⟨LcC0, hQC0, lC0, yC0, zC0⟩, stC0⟩ := Jvm.LawKit.callS X6 hx (y := (⟨"com/example/nephila/nephila/usage/RequestEqualsPinLaw", "ch", "(JII)C"⟩ : MethodName)) hown (mvT hZ (hw _ (List.mem_of_getElem? (i := 56) rfl))) (mvT hZ (hw _ (List.mem_of_getElem? (i := 57) rfl))) (mvT hZ (hw _ (List.mem_of_getElem? (i := 2) rfl))) (mvT hZ (hw _ (List.mem_of_getElem? (i := 58) rfl))) (by decide) (backOf (W := 5) (rmCh l Z a0 hw q k (0 : Int32) h6 n0) hZ (hw _ (List.mem_of_getElem? (i := 58) rfl)) (hw _ (List.mem_of_getElem? (i := 2) rfl)) (by decide) (by decide)) (g := (mkF m 38 #[.val (.long q), .second, .val (.int k), .val (.int (Int32.ofNat 1))] [(.int (0 : Int32)), (.int k), (.long q), (.int (0 : Int32)), (.ref a6), (.ref a6), (.ref a4), (.ref a4)])) rfl (by rw [hml]; rfl) (argsL := [(.long q), (.int k), (.int (0 : Int32))]) (rest := [(.int (0 : Int32)), (.ref a6), (.ref a6), (.ref a4), (.ref a4)]) (lenOf pdC rfl) rfl (by show 2 * 0 + _ ≤ _; exact Nat.le_of_eq rfl) (hb hby dT_38) (fun _ _ => ⟨rfl, e6, Nat.le_of_ble_eq_true rfl, Nat.le_of_ble_eq_true rfl⟩)
    dsimp only [Pt.U, Pt.locs, Pt.cells, Pt.slots] at XC0 lC0 yC0 zC0 stC0 hQC0
    subst lC0 yC0 zC0
    obtain ⟨rfl, NC0, eC0⟩ := hQC0
    have MC0 := Fr.app (MA) NC0
    have P8 := V6.pad (pad_rep [] (.int (0 : Int32)) 1)
    obtain ⟨c8, B8, q8, S8, M8, H8, U8⟩ := P8
    obtain ⟨T8, h8, X8, e8, W8, st8⟩ := stC XC0 hx hZ eC0 B8 (j := (0 : Int32)) (inb_of S8 ⟨by decide, by decide⟩) (g := (mkF m 41 #[.val (.long q), .second, .val (.int k), .val (.int (Int32.ofNat 1))] [(.int (own_chr q k (0 : Int32))), (.int (0 : Int32)), (.ref a6), (.ref a6), (.ref a4), (.ref a4)])) rfl rfl (hb hby dT_41)
    rw [own_nar (own_chr_lat q k (0 : Int32))] at W8
    have V8 : Arv Z h8 a6 k6 .char (1 : Int32) [(.int (own_chr q k (0 : Int32)))] (.int (0 : Int32)) := Arv.set B8 q8 S8 M8 H8 U8 (own_fc (own_chr_lat q k (0 : Int32))) W8 0 rfl (Nat.le_of_ble_eq_true rfl)
    have N8 := Fr.snoc X8 (MC0) (Nat.le_trans Z0 gb)
    have En : Ext h0 h8 := (own_ext_wr E46 W8 gb)
    have Fv : Fld Z h8 a4 "java/lang/String" "value" "[B" .null := ((D4 (Or.inr (hw _ (List.mem_of_getElem? (i := 30) rfl))) (ty := (.array .byte)) (by decide)).ext E6).other W8 (Or.inl nab)
    have Fc : Fld Z h8 a4 "java/lang/String" "coder" "B" (.int (0 : Int32)) := ((D4 (Or.inr (hw _ (List.mem_of_getElem? (i := 31) rfl))) (ty := .byte) (by decide)).ext E6).other W8 (Or.inl nab)
    have Ex : Exa Z h8 a4 "java/lang/String" := ((A4.ext E6).wr W8)
    have hp : own_lat [own_chr q k 0] := by
      intro c hc
      simp only [List.mem_cons, List.not_mem_nil, or_false] at hc
      rcases hc with rfl <;> exact own_chr_lat ..
    obtain ⟨_, _, ⟨T9, L9, k9, n9⟩, -, X9, ⟨Lc9, hQ9, l9, y9, z9⟩, st9⟩ := X8.specialBack hx (y := (⟨"java/lang/String", "<init>", "([C)V"⟩ : MethodName)) rfl hown (mvT hZ (hw _ (List.mem_of_getElem? (i := 18) rfl))) (mvT hZ (hw _ (List.mem_of_getElem? (i := 19) rfl))) (mvT hZ (hw _ (List.mem_of_getElem? (i := 20) rfl))) (by decide) (StrChars.Road.backV (W := 1) hZ hws (kI := 4) (hw _ (List.mem_of_getElem? (i := 15) rfl)) (cs := ([own_chr q k 0] : List Int32)) (bs := ([own_chr q k 0] : List Int32).map (fun c => c.toInt8.toInt32)) (n := 1) gx (Nat.le_trans Z0 En.1) Ex Fv Fc V8 (O.ext En) hG rfl rfl (by decide) (by decide) hp rfl (by decide) (by decide)) (g := (mkF m 42 #[.val (.long q), .second, .val (.int k), .val (.int (Int32.ofNat 1))] [(.ref a6), (.ref a4), (.ref a4)])) rfl (by rw [hml]; rfl) (Steps.refl _) (a := a4) (argsL := [(.ref a6)]) (rest := [(.ref a4)]) (lenOf pdE1 rfl) rfl (by show 2 * 0 + _ ≤ _; exact Nat.le_of_eq rfl) (hb hby dT_42) (fun _ _ => ⟨rfl, e8, Nat.le_of_ble_eq_true rfl, Nat.le_of_ble_eq_true rfl⟩)
    dsimp only [Pt.U, Pt.locs, Pt.cells, Pt.slots] at X9 l9 y9 z9 st9 hQ9
    subst l9 y9 z9
    obtain ⟨rfl, N9, K9, g9a, g9c, t9, kb9, u9, v9, w9, g9v, g9b⟩ := hQ9
    have E9 : Ext h0 T9.heap := own_ext_keep En K9 (allS (by rw [g4]; exact Nat.le_refl _) all0)
    obtain ⟨fs, hr, hrun, hended, hW⟩ := X9.leaveW (n := s.heap.size) hS0 (by rw [hh]; exact E9.1) (v := some (.ref a4)) (fun h => by rw [Bd.returns] at h; cases h)
    have RR : CHr Z EL s.vm h0 T9.vm T9.heap := (CHr.ext E9 H0).trans (CHv.at X9 hZ hEL (H0.ext E9))
    refine ⟨_, _, castTop (efT m q k) ?_, hrun, hended, _, _, rfl, ⟨a4, rfl, Fr.app (N8) N9, E9, by rw [g4]; exact Nat.le_refl _, ⟨g9a, g9c, t9, kb9, g9v, g9b⟩⟩, ?_, own_w hW (by decide) (by decide)⟩
    · show Steps p.tables e below (s₁.setTop (mkF m 0 #[.val (.long q), .second, .val (.int k), .unset] [])) _
      refine sg1 _ ?_
      show Steps p.tables e below (s₁.setTop (mkF m 2 #[.val (.long q), .second, .val (.int k), .unset] [(.int k), (.long q)])) _
      refine stA _ ?_
      show Steps p.tables e below (TA.setTop (mkF m 5 #[.val (.long q), .second, .val (.int k), .unset] [(.int (own_len q k))])) _
      refine sg2 _ ?_
      show Steps p.tables e below (TA.setTop (mkF m 6 #[.val (.long q), .second, .val (.int k), .val (.int (Int32.ofNat 1))] [])) _
      refine sg3 _ ?_
      show Steps p.tables e below (TA.setTop (mkF m 26 #[.val (.long q), .second, .val (.int k), .val (.int (Int32.ofNat 1))] [])) _
      refine st4 _ ?_
      show Steps p.tables e below (T4.setTop (mkF m 29 #[.val (.long q), .second, .val (.int k), .val (.int (Int32.ofNat 1))] [(.ref a4)])) _
      refine sg5 _ ?_
      show Steps p.tables e below (T4.setTop (mkF m 31 #[.val (.long q), .second, .val (.int k), .val (.int (Int32.ofNat 1))] [(.int (1 : Int32)), (.ref a4), (.ref a4)])) _
      refine st6 _ ?_
      show Steps p.tables e below (T6.setTop (mkF m 33 #[.val (.long q), .second, .val (.int k), .val (.int (Int32.ofNat 1))] [(.ref a6), (.ref a4), (.ref a4)])) _
      refine sg7 _ ?_
      show Steps p.tables e below (T6.setTop (mkF m 38 #[.val (.long q), .second, .val (.int k), .val (.int (Int32.ofNat 1))] [(.int (0 : Int32)), (.int k), (.long q), (.int (0 : Int32)), (.ref a6), (.ref a6), (.ref a4), (.ref a4)])) _
      refine stC0 _ ?_
      show Steps p.tables e below (TC0.setTop (mkF m 41 #[.val (.long q), .second, .val (.int k), .val (.int (Int32.ofNat 1))] [(.int (own_chr q k (0 : Int32))), (.int (0 : Int32)), (.ref a6), (.ref a6), (.ref a4), (.ref a4)])) _
      refine st8 _ ?_
      show Steps p.tables e below (T8.setTop (mkF m 42 #[.val (.long q), .second, .val (.int k), .val (.int (Int32.ofNat 1))] [(.ref a6), (.ref a4), (.ref a4)])) _
      refine st9.trans ?_
      show Steps p.tables e below (T9.setTop (mkF m 45 #[.val (.long q), .second, .val (.int k), .val (.int (Int32.ofNat 1))] [(.ref a4)])) _
      exact retOut X9 hx (t := .object "java/lang/String") Bd.returns rfl (Or.inr (Or.inr (Or.inr (Or.inr ⟨rfl, rfl, rfl⟩)))) (hb hby dT_45) hr
    · show CHr Z EL s.vm s.heap T9.vm T9.heap
      rw [hh]; exact RR
  · have sg3 : ∀ target, Steps p.tables e below (TA.setTop (mkF m 46 #[.val (.long q), .second, .val (.int k), .val (.int (Int32.ofNat 2))] [])) target → Steps p.tables e below (TA.setTop (mkF m 6 #[.val (.long q), .second, .val (.int k), .val (.int (Int32.ofNat 2))] [])) target := by
      intro target kt
      show Steps p.tables e below (TA.setTop (mkF m 6 #[.val (.long q), .second, .val (.int k), .val (.int (Int32.ofNat 2))] [])) _
      refine XS.iloadN XA.here hx rfl (hb hby dT_6) rfl ?_
      show Steps p.tables e below (TA.setTop (mkF m 7 #[.val (.long q), .second, .val (.int k), .val (.int (Int32.ofNat 2))] [(.int (Int32.ofNat 2))])) _
      refine XS.ifYes XA.here hx rfl (pc0 := 7) (pc' := 21) rfl (hb hby dT_7) rfl (by decide) (by decide) (by decide) ?_
      show Steps p.tables e below (TA.setTop (mkF m 21 #[.val (.long q), .second, .val (.int k), .val (.int (Int32.ofNat 2))] [])) _
      refine XS.iloadN XA.here hx rfl (hb hby dT_21) rfl ?_
      show Steps p.tables e below (TA.setTop (mkF m 22 #[.val (.long q), .second, .val (.int k), .val (.int (Int32.ofNat 2))] [(.int (Int32.ofNat 2))])) _
      refine XS.iconst XA.here hx rfl (hb hby dT_22) ?_
      show Steps p.tables e below (TA.setTop (mkF m 23 #[.val (.long q), .second, .val (.int k), .val (.int (Int32.ofNat 2))] [(.int (1 : Int32)), (.int (Int32.ofNat 2))])) _
      refine XS.icmpYes XA.here hx rfl (pc0 := 23) (pc' := 46) rfl (hb hby dT_23) rfl (by decide) (by decide) (by decide) ?_
      show Steps p.tables e below (TA.setTop (mkF m 46 #[.val (.long q), .second, .val (.int k), .val (.int (Int32.ofNat 2))] [])) _
      exact kt
    obtain ⟨T4, h4, X4, e4, E4, A4, D4, -, st4⟩ := newO XA hx hZ hown (hw _ (List.mem_of_getElem? (i := 14) rfl)) (hw _ (List.mem_of_getElem? (i := 15) rfl)) (hw _ (List.mem_of_getElem? (i := 16) rfl)) eA (g := (mkF m 46 #[.val (.long q), .second, .val (.int k), .val (.int (Int32.ofNat 2))] [])) rfl (hb hby dT_46) (by decide) (by decide)
    obtain ⟨a4, g4⟩ : ∃ z, z = h0.size := ⟨_, rfl⟩
    rw [← g4] at A4 D4 st4
    have sg5 : ∀ target, Steps p.tables e below (T4.setTop (mkF m 51 #[.val (.long q), .second, .val (.int k), .val (.int (Int32.ofNat 2))] [(.int (2 : Int32)), (.ref a4), (.ref a4)])) target → Steps p.tables e below (T4.setTop (mkF m 49 #[.val (.long q), .second, .val (.int k), .val (.int (Int32.ofNat 2))] [(.ref a4)])) target := by
      intro target kt
      show Steps p.tables e below (T4.setTop (mkF m 49 #[.val (.long q), .second, .val (.int k), .val (.int (Int32.ofNat 2))] [(.ref a4)])) _
      refine XS.dup X4.here hx rfl (hb hby dT_49) rfl rfl ?_
      show Steps p.tables e below (T4.setTop (mkF m 50 #[.val (.long q), .second, .val (.int k), .val (.int (Int32.ofNat 2))] [(.ref a4), (.ref a4)])) _
      refine XS.iconst X4.here hx rfl (hb hby dT_50) ?_
      show Steps p.tables e below (T4.setTop (mkF m 51 #[.val (.long q), .second, .val (.int k), .val (.int (Int32.ofNat 2))] [(.int (2 : Int32)), (.ref a4), (.ref a4)])) _
      exact kt
    obtain ⟨T6, h6, k6, X6, e6, E6, A6, st6⟩ := newP X4 hx hZ (hw _ (List.mem_of_getElem? (i := 17) rfl)) e4 (g := (mkF m 51 #[.val (.long q), .second, .val (.int k), .val (.int (Int32.ofNat 2))] [(.int (2 : Int32)), (.ref a4), (.ref a4)])) rfl (hb hby dT_51) rfl (by decide) (cap := 2) (by decide) (by decide) (by decide) (by decide)
    obtain ⟨a6, g6⟩ : ∃ z, z = h4.size := ⟨_, rfl⟩
    rw [← g6] at A6 st6
    have E46 : Ext h0 h6 := own_ext_trans E4 E6
    have gx : n0 ≤ a4 := by rw [g4]; exact Z0
    have gb : h0.size ≤ a6 := by rw [g6]; exact E4.1
    have nab : a4 ≠ a6 := Nat.ne_of_lt (by rw [g6]; exact A4.lt)
    have V6 : Arv Z h6 a6 k6 .char (2 : Int32) [] (.int (0 : Int32)) := Arv.new A6 (by decide)
    have sg7 : ∀ target, Steps p.tables e below (T6.setTop (mkF m 58 #[.val (.long q), .second, .val (.int k), .val (.int (Int32.ofNat 2))] [(.int (0 : Int32)), (.int k), (.long q), (.int (0 : Int32)), (.ref a6), (.ref a6), (.ref a4), (.ref a4)])) target → Steps p.tables e below (T6.setTop (mkF m 53 #[.val (.long q), .second, .val (.int k), .val (.int (Int32.ofNat 2))] [(.ref a6), (.ref a4), (.ref a4)])) target := by
      intro target kt
      show Steps p.tables e below (T6.setTop (mkF m 53 #[.val (.long q), .second, .val (.int k), .val (.int (Int32.ofNat 2))] [(.ref a6), (.ref a4), (.ref a4)])) _
      refine XS.dup X6.here hx rfl (hb hby dT_53) rfl rfl ?_
      show Steps p.tables e below (T6.setTop (mkF m 54 #[.val (.long q), .second, .val (.int k), .val (.int (Int32.ofNat 2))] [(.ref a6), (.ref a6), (.ref a4), (.ref a4)])) _
      refine XS.iconst X6.here hx rfl (hb hby dT_54) ?_
      show Steps p.tables e below (T6.setTop (mkF m 55 #[.val (.long q), .second, .val (.int k), .val (.int (Int32.ofNat 2))] [(.int (0 : Int32)), (.ref a6), (.ref a6), (.ref a4), (.ref a4)])) _
      refine XS.lloadN X6.here hx rfl (hb hby dT_55) rfl ?_
      show Steps p.tables e below (T6.setTop (mkF m 56 #[.val (.long q), .second, .val (.int k), .val (.int (Int32.ofNat 2))] [(.long q), (.int (0 : Int32)), (.ref a6), (.ref a6), (.ref a4), (.ref a4)])) _
      refine XS.iloadN X6.here hx rfl (hb hby dT_56) rfl ?_
      show Steps p.tables e below (T6.setTop (mkF m 57 #[.val (.long q), .second, .val (.int k), .val (.int (Int32.ofNat 2))] [(.int k), (.long q), (.int (0 : Int32)), (.ref a6), (.ref a6), (.ref a4), (.ref a4)])) _
      refine XS.iconst X6.here hx rfl (hb hby dT_57) ?_
      show Steps p.tables e below (T6.setTop (mkF m 58 #[.val (.long q), .second, .val (.int k), .val (.int (Int32.ofNat 2))] [(.int (0 : Int32)), (.int k), (.long q), (.int (0 : Int32)), (.ref a6), (.ref a6), (.ref a4), (.ref a4)])) _
      exact kt
    obtain ⟨_, _, ⟨TC0, LC0, kC0, nC0⟩, -, XC0, ⟨LcC0, hQC0, lC0, yC0, zC0⟩, stC0⟩ := Jvm.LawKit.callS X6 hx (y := (⟨"com/example/nephila/nephila/usage/RequestEqualsPinLaw", "ch", "(JII)C"⟩ : MethodName)) hown (mvT hZ (hw _ (List.mem_of_getElem? (i := 56) rfl))) (mvT hZ (hw _ (List.mem_of_getElem? (i := 57) rfl))) (mvT hZ (hw _ (List.mem_of_getElem? (i := 2) rfl))) (mvT hZ (hw _ (List.mem_of_getElem? (i := 58) rfl))) (by decide) (backOf (W := 5) (rmCh l Z a0 hw q k (0 : Int32) h6 n0) hZ (hw _ (List.mem_of_getElem? (i := 58) rfl)) (hw _ (List.mem_of_getElem? (i := 2) rfl)) (by decide) (by decide)) (g := (mkF m 58 #[.val (.long q), .second, .val (.int k), .val (.int (Int32.ofNat 2))] [(.int (0 : Int32)), (.int k), (.long q), (.int (0 : Int32)), (.ref a6), (.ref a6), (.ref a4), (.ref a4)])) rfl (by rw [hml]; rfl) (argsL := [(.long q), (.int k), (.int (0 : Int32))]) (rest := [(.int (0 : Int32)), (.ref a6), (.ref a6), (.ref a4), (.ref a4)]) (lenOf pdC rfl) rfl (by show 2 * 0 + _ ≤ _; exact Nat.le_of_eq rfl) (hb hby dT_58) (fun _ _ => ⟨rfl, e6, Nat.le_of_ble_eq_true rfl, Nat.le_of_ble_eq_true rfl⟩)
    dsimp only [Pt.U, Pt.locs, Pt.cells, Pt.slots] at XC0 lC0 yC0 zC0 stC0 hQC0
    subst lC0 yC0 zC0
    obtain ⟨rfl, NC0, eC0⟩ := hQC0
    have MC0 := Fr.app (MA) NC0
    have P8 := V6.pad (pad_rep [] (.int (0 : Int32)) 1)
    obtain ⟨c8, B8, q8, S8, M8, H8, U8⟩ := P8
    obtain ⟨T8, h8, X8, e8, W8, st8⟩ := stC XC0 hx hZ eC0 B8 (j := (0 : Int32)) (inb_of S8 ⟨by decide, by decide⟩) (g := (mkF m 61 #[.val (.long q), .second, .val (.int k), .val (.int (Int32.ofNat 2))] [(.int (own_chr q k (0 : Int32))), (.int (0 : Int32)), (.ref a6), (.ref a6), (.ref a4), (.ref a4)])) rfl rfl (hb hby dT_61)
    rw [own_nar (own_chr_lat q k (0 : Int32))] at W8
    have V8 : Arv Z h8 a6 k6 .char (2 : Int32) [(.int (own_chr q k (0 : Int32)))] (.int (0 : Int32)) := Arv.set B8 q8 S8 M8 H8 U8 (own_fc (own_chr_lat q k (0 : Int32))) W8 0 rfl (Nat.le_of_ble_eq_true rfl)
    have N8 := Fr.snoc X8 (MC0) (Nat.le_trans Z0 gb)
    have sg9 : ∀ target, Steps p.tables e below (T8.setTop (mkF m 67 #[.val (.long q), .second, .val (.int k), .val (.int (Int32.ofNat 2))] [(.int (1 : Int32)), (.int k), (.long q), (.int (1 : Int32)), (.ref a6), (.ref a6), (.ref a4), (.ref a4)])) target → Steps p.tables e below (T8.setTop (mkF m 62 #[.val (.long q), .second, .val (.int k), .val (.int (Int32.ofNat 2))] [(.ref a6), (.ref a4), (.ref a4)])) target := by
      intro target kt
      show Steps p.tables e below (T8.setTop (mkF m 62 #[.val (.long q), .second, .val (.int k), .val (.int (Int32.ofNat 2))] [(.ref a6), (.ref a4), (.ref a4)])) _
      refine XS.dup X8.here hx rfl (hb hby dT_62) rfl rfl ?_
      show Steps p.tables e below (T8.setTop (mkF m 63 #[.val (.long q), .second, .val (.int k), .val (.int (Int32.ofNat 2))] [(.ref a6), (.ref a6), (.ref a4), (.ref a4)])) _
      refine XS.iconst X8.here hx rfl (hb hby dT_63) ?_
      show Steps p.tables e below (T8.setTop (mkF m 64 #[.val (.long q), .second, .val (.int k), .val (.int (Int32.ofNat 2))] [(.int (1 : Int32)), (.ref a6), (.ref a6), (.ref a4), (.ref a4)])) _
      refine XS.lloadN X8.here hx rfl (hb hby dT_64) rfl ?_
      show Steps p.tables e below (T8.setTop (mkF m 65 #[.val (.long q), .second, .val (.int k), .val (.int (Int32.ofNat 2))] [(.long q), (.int (1 : Int32)), (.ref a6), (.ref a6), (.ref a4), (.ref a4)])) _
      refine XS.iloadN X8.here hx rfl (hb hby dT_65) rfl ?_
      show Steps p.tables e below (T8.setTop (mkF m 66 #[.val (.long q), .second, .val (.int k), .val (.int (Int32.ofNat 2))] [(.int k), (.long q), (.int (1 : Int32)), (.ref a6), (.ref a6), (.ref a4), (.ref a4)])) _
      refine XS.iconst X8.here hx rfl (hb hby dT_66) ?_
      show Steps p.tables e below (T8.setTop (mkF m 67 #[.val (.long q), .second, .val (.int k), .val (.int (Int32.ofNat 2))] [(.int (1 : Int32)), (.int k), (.long q), (.int (1 : Int32)), (.ref a6), (.ref a6), (.ref a4), (.ref a4)])) _
      exact kt
    obtain ⟨_, _, ⟨TC1, LC1, kC1, nC1⟩, -, XC1, ⟨LcC1, hQC1, lC1, yC1, zC1⟩, stC1⟩ := Jvm.LawKit.callS X8 hx (y := (⟨"com/example/nephila/nephila/usage/RequestEqualsPinLaw", "ch", "(JII)C"⟩ : MethodName)) hown (mvT hZ (hw _ (List.mem_of_getElem? (i := 56) rfl))) (mvT hZ (hw _ (List.mem_of_getElem? (i := 57) rfl))) (mvT hZ (hw _ (List.mem_of_getElem? (i := 2) rfl))) (mvT hZ (hw _ (List.mem_of_getElem? (i := 58) rfl))) (by decide) (backOf (W := 5) (rmCh l Z a0 hw q k (1 : Int32) h8 n0) hZ (hw _ (List.mem_of_getElem? (i := 58) rfl)) (hw _ (List.mem_of_getElem? (i := 2) rfl)) (by decide) (by decide)) (g := (mkF m 67 #[.val (.long q), .second, .val (.int k), .val (.int (Int32.ofNat 2))] [(.int (1 : Int32)), (.int k), (.long q), (.int (1 : Int32)), (.ref a6), (.ref a6), (.ref a4), (.ref a4)])) rfl (by rw [hml]; rfl) (argsL := [(.long q), (.int k), (.int (1 : Int32))]) (rest := [(.int (1 : Int32)), (.ref a6), (.ref a6), (.ref a4), (.ref a4)]) (lenOf pdC rfl) rfl (by show 2 * 0 + _ ≤ _; exact Nat.le_of_eq rfl) (hb hby dT_67) (fun _ _ => ⟨rfl, e8, Nat.le_of_ble_eq_true rfl, Nat.le_of_ble_eq_true rfl⟩)
    dsimp only [Pt.U, Pt.locs, Pt.cells, Pt.slots] at XC1 lC1 yC1 zC1 stC1 hQC1
    subst lC1 yC1 zC1
    obtain ⟨rfl, NC1, eC1⟩ := hQC1
    have MC1 := Fr.app (N8) NC1
    have P10 := V8.pad (pad_rep [(.int (own_chr q k (0 : Int32)))] (.int (0 : Int32)) 1)
    obtain ⟨c10, B10, q10, S10, M10, H10, U10⟩ := P10
    obtain ⟨T10, h10, X10, e10, W10, st10⟩ := stC XC1 hx hZ eC1 B10 (j := (1 : Int32)) (inb_of S10 ⟨by decide, by decide⟩) (g := (mkF m 70 #[.val (.long q), .second, .val (.int k), .val (.int (Int32.ofNat 2))] [(.int (own_chr q k (1 : Int32))), (.int (1 : Int32)), (.ref a6), (.ref a6), (.ref a4), (.ref a4)])) rfl rfl (hb hby dT_70)
    rw [own_nar (own_chr_lat q k (1 : Int32))] at W10
    have V10 : Arv Z h10 a6 k6 .char (2 : Int32) [(.int (own_chr q k (0 : Int32))), (.int (own_chr q k (1 : Int32)))] (.int (0 : Int32)) := Arv.set B10 q10 S10 M10 H10 U10 (own_fc (own_chr_lat q k (1 : Int32))) W10 1 rfl (Nat.le_of_ble_eq_true rfl)
    have N10 := Fr.snoc X10 (MC1) (Nat.le_trans Z0 gb)
    have En : Ext h0 h10 := (own_ext_wr (own_ext_wr E46 W8 gb) W10 gb)
    have Fv : Fld Z h10 a4 "java/lang/String" "value" "[B" .null := (((D4 (Or.inr (hw _ (List.mem_of_getElem? (i := 30) rfl))) (ty := (.array .byte)) (by decide)).ext E6).other W8 (Or.inl nab)).other W10 (Or.inl nab)
    have Fc : Fld Z h10 a4 "java/lang/String" "coder" "B" (.int (0 : Int32)) := (((D4 (Or.inr (hw _ (List.mem_of_getElem? (i := 31) rfl))) (ty := .byte) (by decide)).ext E6).other W8 (Or.inl nab)).other W10 (Or.inl nab)
    have Ex : Exa Z h10 a4 "java/lang/String" := (((A4.ext E6).wr W8).wr W10)
    have hp : own_lat [own_chr q k 0, own_chr q k 1] := by
      intro c hc
      simp only [List.mem_cons, List.not_mem_nil, or_false] at hc
      rcases hc with rfl | rfl <;> exact own_chr_lat ..
    obtain ⟨_, _, ⟨T9, L9, k9, n9⟩, -, X9, ⟨Lc9, hQ9, l9, y9, z9⟩, st9⟩ := X10.specialBack hx (y := (⟨"java/lang/String", "<init>", "([C)V"⟩ : MethodName)) rfl hown (mvT hZ (hw _ (List.mem_of_getElem? (i := 18) rfl))) (mvT hZ (hw _ (List.mem_of_getElem? (i := 19) rfl))) (mvT hZ (hw _ (List.mem_of_getElem? (i := 20) rfl))) (by decide) (StrChars.Road.backV (W := 1) hZ hws (kI := 4) (hw _ (List.mem_of_getElem? (i := 15) rfl)) (cs := ([own_chr q k 0, own_chr q k 1] : List Int32)) (bs := ([own_chr q k 0, own_chr q k 1] : List Int32).map (fun c => c.toInt8.toInt32)) (n := 2) gx (Nat.le_trans Z0 En.1) Ex Fv Fc V10 (O.ext En) hG rfl rfl (by decide) (by decide) hp rfl (by decide) (by decide)) (g := (mkF m 71 #[.val (.long q), .second, .val (.int k), .val (.int (Int32.ofNat 2))] [(.ref a6), (.ref a4), (.ref a4)])) rfl (by rw [hml]; rfl) (Steps.refl _) (a := a4) (argsL := [(.ref a6)]) (rest := [(.ref a4)]) (lenOf pdE1 rfl) rfl (by show 2 * 0 + _ ≤ _; exact Nat.le_of_eq rfl) (hb hby dT_71) (fun _ _ => ⟨rfl, e10, Nat.le_of_ble_eq_true rfl, Nat.le_of_ble_eq_true rfl⟩)
    dsimp only [Pt.U, Pt.locs, Pt.cells, Pt.slots] at X9 l9 y9 z9 st9 hQ9
    subst l9 y9 z9
    obtain ⟨rfl, N9, K9, g9a, g9c, t9, kb9, u9, v9, w9, g9v, g9b⟩ := hQ9
    have E9 : Ext h0 T9.heap := own_ext_keep En K9 (allS (by rw [g4]; exact Nat.le_refl _) all0)
    obtain ⟨fs, hr, hrun, hended, hW⟩ := X9.leaveW (n := s.heap.size) hS0 (by rw [hh]; exact E9.1) (v := some (.ref a4)) (fun h => by rw [Bd.returns] at h; cases h)
    have RR : CHr Z EL s.vm h0 T9.vm T9.heap := (CHr.ext E9 H0).trans (CHv.at X9 hZ hEL (H0.ext E9))
    refine ⟨_, _, castTop (efT m q k) ?_, hrun, hended, _, _, rfl, ⟨a4, rfl, Fr.app (N10) N9, E9, by rw [g4]; exact Nat.le_refl _, ⟨g9a, g9c, t9, kb9, g9v, g9b⟩⟩, ?_, own_w hW (by decide) (by decide)⟩
    · show Steps p.tables e below (s₁.setTop (mkF m 0 #[.val (.long q), .second, .val (.int k), .unset] [])) _
      refine sg1 _ ?_
      show Steps p.tables e below (s₁.setTop (mkF m 2 #[.val (.long q), .second, .val (.int k), .unset] [(.int k), (.long q)])) _
      refine stA _ ?_
      show Steps p.tables e below (TA.setTop (mkF m 5 #[.val (.long q), .second, .val (.int k), .unset] [(.int (own_len q k))])) _
      refine sg2 _ ?_
      show Steps p.tables e below (TA.setTop (mkF m 6 #[.val (.long q), .second, .val (.int k), .val (.int (Int32.ofNat 2))] [])) _
      refine sg3 _ ?_
      show Steps p.tables e below (TA.setTop (mkF m 46 #[.val (.long q), .second, .val (.int k), .val (.int (Int32.ofNat 2))] [])) _
      refine st4 _ ?_
      show Steps p.tables e below (T4.setTop (mkF m 49 #[.val (.long q), .second, .val (.int k), .val (.int (Int32.ofNat 2))] [(.ref a4)])) _
      refine sg5 _ ?_
      show Steps p.tables e below (T4.setTop (mkF m 51 #[.val (.long q), .second, .val (.int k), .val (.int (Int32.ofNat 2))] [(.int (2 : Int32)), (.ref a4), (.ref a4)])) _
      refine st6 _ ?_
      show Steps p.tables e below (T6.setTop (mkF m 53 #[.val (.long q), .second, .val (.int k), .val (.int (Int32.ofNat 2))] [(.ref a6), (.ref a4), (.ref a4)])) _
      refine sg7 _ ?_
      show Steps p.tables e below (T6.setTop (mkF m 58 #[.val (.long q), .second, .val (.int k), .val (.int (Int32.ofNat 2))] [(.int (0 : Int32)), (.int k), (.long q), (.int (0 : Int32)), (.ref a6), (.ref a6), (.ref a4), (.ref a4)])) _
      refine stC0 _ ?_
      show Steps p.tables e below (TC0.setTop (mkF m 61 #[.val (.long q), .second, .val (.int k), .val (.int (Int32.ofNat 2))] [(.int (own_chr q k (0 : Int32))), (.int (0 : Int32)), (.ref a6), (.ref a6), (.ref a4), (.ref a4)])) _
      refine st8 _ ?_
      show Steps p.tables e below (T8.setTop (mkF m 62 #[.val (.long q), .second, .val (.int k), .val (.int (Int32.ofNat 2))] [(.ref a6), (.ref a4), (.ref a4)])) _
      refine sg9 _ ?_
      show Steps p.tables e below (T8.setTop (mkF m 67 #[.val (.long q), .second, .val (.int k), .val (.int (Int32.ofNat 2))] [(.int (1 : Int32)), (.int k), (.long q), (.int (1 : Int32)), (.ref a6), (.ref a6), (.ref a4), (.ref a4)])) _
      refine stC1 _ ?_
      show Steps p.tables e below (TC1.setTop (mkF m 70 #[.val (.long q), .second, .val (.int k), .val (.int (Int32.ofNat 2))] [(.int (own_chr q k (1 : Int32))), (.int (1 : Int32)), (.ref a6), (.ref a6), (.ref a4), (.ref a4)])) _
      refine st10 _ ?_
      show Steps p.tables e below (T10.setTop (mkF m 71 #[.val (.long q), .second, .val (.int k), .val (.int (Int32.ofNat 2))] [(.ref a6), (.ref a4), (.ref a4)])) _
      refine st9.trans ?_
      show Steps p.tables e below (T9.setTop (mkF m 74 #[.val (.long q), .second, .val (.int k), .val (.int (Int32.ofNat 2))] [(.ref a4)])) _
      exact retOut X9 hx (t := .object "java/lang/String") Bd.returns rfl (Or.inr (Or.inr (Or.inr (Or.inr ⟨rfl, rfl, rfl⟩)))) (hb hby dT_74) hr
    · show CHr Z EL s.vm s.heap T9.vm T9.heap
      rw [hh]; exact RR
theorem dS_0 : decode method_5_code 0 = .ok (.lload_n 0, 1) := by decide +kernel
theorem dS_1 : decode method_5_code 1 = .ok (.iload 4, 2) := by decide +kernel
theorem dS_3 : decode method_5_code 3 = .ok (.invokestatic 11, 3) := by decide +kernel
theorem dS_6 : decode method_5_code 6 = .ok (.istore 5, 2) := by decide +kernel
theorem dS_8 : decode method_5_code 8 = .ok (.iload 5, 2) := by decide +kernel
theorem dS_10 : decode method_5_code 10 = .ok (.lload_n 2, 1) := by decide +kernel
theorem dS_11 : decode method_5_code 11 = .ok (.iload 4, 2) := by decide +kernel
theorem dS_13 : decode method_5_code 13 = .ok (.invokestatic 11, 3) := by decide +kernel
theorem dS_16 : decode method_5_code 16 = .ok (.if_icmp .eq 5, 3) := by decide +kernel
theorem dS_19 : decode method_5_code 19 = .ok (.iconst 0, 1) := by decide +kernel
theorem dS_20 : decode method_5_code 20 = .ok (.ireturn, 1) := by decide +kernel
theorem dS_21 : decode method_5_code 21 = .ok (.iload 5, 2) := by decide +kernel
theorem dS_23 : decode method_5_code 23 = .ok (.iconst 1, 1) := by decide +kernel
theorem dS_24 : decode method_5_code 24 = .ok (.if_icmp .lt 22, 3) := by decide +kernel
theorem dS_27 : decode method_5_code 27 = .ok (.lload_n 0, 1) := by decide +kernel
theorem dS_28 : decode method_5_code 28 = .ok (.iload 4, 2) := by decide +kernel
theorem dS_30 : decode method_5_code 30 = .ok (.iconst 0, 1) := by decide +kernel
theorem dS_31 : decode method_5_code 31 = .ok (.invokestatic 22, 3) := by decide +kernel
theorem dS_34 : decode method_5_code 34 = .ok (.lload_n 2, 1) := by decide +kernel
theorem dS_35 : decode method_5_code 35 = .ok (.iload 4, 2) := by decide +kernel
theorem dS_37 : decode method_5_code 37 = .ok (.iconst 0, 1) := by decide +kernel
theorem dS_38 : decode method_5_code 38 = .ok (.invokestatic 22, 3) := by decide +kernel
theorem dS_41 : decode method_5_code 41 = .ok (.if_icmp .eq 5, 3) := by decide +kernel
theorem dS_44 : decode method_5_code 44 = .ok (.iconst 0, 1) := by decide +kernel
theorem dS_45 : decode method_5_code 45 = .ok (.ireturn, 1) := by decide +kernel
theorem dS_46 : decode method_5_code 46 = .ok (.iload 5, 2) := by decide +kernel
theorem dS_48 : decode method_5_code 48 = .ok (.iconst 2, 1) := by decide +kernel
theorem dS_49 : decode method_5_code 49 = .ok (.if_icmp .lt 22, 3) := by decide +kernel
theorem dS_52 : decode method_5_code 52 = .ok (.lload_n 0, 1) := by decide +kernel
theorem dS_53 : decode method_5_code 53 = .ok (.iload 4, 2) := by decide +kernel
theorem dS_55 : decode method_5_code 55 = .ok (.iconst 1, 1) := by decide +kernel
theorem dS_56 : decode method_5_code 56 = .ok (.invokestatic 22, 3) := by decide +kernel
theorem dS_59 : decode method_5_code 59 = .ok (.lload_n 2, 1) := by decide +kernel
theorem dS_60 : decode method_5_code 60 = .ok (.iload 4, 2) := by decide +kernel
theorem dS_62 : decode method_5_code 62 = .ok (.iconst 1, 1) := by decide +kernel
theorem dS_63 : decode method_5_code 63 = .ok (.invokestatic 22, 3) := by decide +kernel
theorem dS_66 : decode method_5_code 66 = .ok (.if_icmp .eq 5, 3) := by decide +kernel
theorem dS_69 : decode method_5_code 69 = .ok (.iconst 0, 1) := by decide +kernel
theorem dS_70 : decode method_5_code 70 = .ok (.ireturn, 1) := by decide +kernel
theorem dS_71 : decode method_5_code 71 = .ok (.iconst 1, 1) := by decide +kernel
theorem dS_72 : decode method_5_code 72 = .ok (.ireturn, 1) := by decide +kernel
theorem efS (m : MethodId) (x0 : Int64) (x1 : Int64) (x2 : Int32) : entryFrame m #[(.long x0), (.long x1), (.int x2)] 6 = mkF m 0 #[.val (.long x0), .second, .val (.long x1), .second, .val (.int x2), .unset] [] := by first | (simp [entryFrame, mkF, argsToLocals, Value.category, maxLocals]; done) | rfl
theorem pdS : parseMethodDescriptor "(JJI)Z" = some ⟨[.long, .long, .int], some .boolean⟩ := by decide +kernel
theorem own_of {n m : Nat} (hn : n ≤ 2) (hm : m ≤ 2) (h : ¬ n = m) : ¬ Int32.ofNat n = Int32.ofNat m := fun q => h (by
  have e := congrArg Int32.toInt q
  rw [Int32.toInt_ofNat_of_lt (by omega), Int32.toInt_ofNat_of_lt (by omega)] at e
  omega)
theorem own_tk (a b : Int32) {n : Nat} (hn : n ≤ 2) : ([a, b].take n).length = n := by simp; omega
set_option maxRecDepth 65536 in
set_option maxHeartbeats 40000000 in
theorem rmS (l : Launch) (Z : State) (a0 : Array Value) (hw : ∀ d ∈ tables_1, d.before a0 Z = true) (q r : Int64) (k : Int32) (h0 : Heap) (n0 : Nat) :
    MetFree l (⟨"com/example/nephila/nephila/usage/RequestEqualsPinLaw", "same", "(JJI)Z"⟩ : MethodName) (head1 [Jvm.Cond.code (⟨"com/example/nephila/nephila/usage/RequestEqualsPinLaw", "same", "(JJI)Z"⟩ : MethodName) method_5_code 6 (some .boolean)] ({ frames := 1, cells := 0, slots := 0, locals := 30 } : Room)) (fun q_ U => q_ = #[(.long q), (.long r), (.int k)] ∧ Z.Warmed39 U.vm ∧ U.heap = h0) (fun _ _ _ _ _ => True) (fun _ U o U' => ∃ v L, o = .returned v ∧ own_QS n0 (.int (own_eq (own_cs q k) (own_cs r k))) h0 v U'.heap L ∧ FrameEnd U o U' L ({ frames := 1, cells := 0, slots := 0, locals := 30 } : Room).cells ({ frames := 1, cells := 0, slots := 0, locals := 30 } : Room).slots) := by
  refine MetFree.of_bodySF (plainFor_of_name pn_L) hisR ?_
  intro p e s m args below meth c s₁ Bd hml0 hP hK
  obtain ⟨rfl, hZ, hh⟩ := hP
  have hx := Bd.exec
  have hby := Bd.bytes
  have hml : c.maxLocals = 6 := hml0
  have hown : s.vm.findClass "com/example/nephila/nephila/usage/RequestEqualsPinLaw" = some m.cls := findClass_of_methodNamed Bd.named
  have hnm := (name_of_methodNamed Bd.named Bd.method).1
  have X0 : Stand p l e ({ frames := 1, cells := 0, slots := 0, locals := 30 } : Room) s m #[(.long q), (.long r), (.int k)] below meth c s₁ [] 0 0 := Stand.of_body Bd
  have e0 : s₁.heap = h0 := by rw [← hh, Bd.state]; rfl
  obtain ⟨n, hn, en⟩ := own_len_n q k
  obtain ⟨n2, hn2, en2⟩ := own_len_n r k
  rw [own_cs_n hn en, own_cs_n hn2 en2]
  have sg1 : ∀ target, Steps p.tables e below (s₁.setTop (mkF m 3 #[.val (.long q), .second, .val (.long r), .second, .val (.int k), .unset] [(.int k), (.long q)])) target → Steps p.tables e below (s₁.setTop (mkF m 0 #[.val (.long q), .second, .val (.long r), .second, .val (.int k), .unset] [])) target := by
    intro target kt
    show Steps p.tables e below (s₁.setTop (mkF m 0 #[.val (.long q), .second, .val (.long r), .second, .val (.int k), .unset] [])) _
    refine XS.lloadN X0.here hx rfl (hb hby dS_0) rfl ?_
    show Steps p.tables e below (s₁.setTop (mkF m 1 #[.val (.long q), .second, .val (.long r), .second, .val (.int k), .unset] [(.long q)])) _
    refine XS.iload X0.here hx rfl (hb hby dS_1) rfl ?_
    show Steps p.tables e below (s₁.setTop (mkF m 3 #[.val (.long q), .second, .val (.long r), .second, .val (.int k), .unset] [(.int k), (.long q)])) _
    exact kt
  obtain ⟨_, _, ⟨TA, LA, kA, nA⟩, -, XA, ⟨LcA, hQA, lA, yA, zA⟩, stA⟩ := Jvm.LawKit.callS X0 hx (y := (⟨"com/example/nephila/nephila/usage/RequestEqualsPinLaw", "len", "(JI)I"⟩ : MethodName)) hown (mvT hZ (hw _ (List.mem_of_getElem? (i := 10) rfl))) (mvT hZ (hw _ (List.mem_of_getElem? (i := 11) rfl))) (mvT hZ (hw _ (List.mem_of_getElem? (i := 2) rfl))) (mvT hZ (hw _ (List.mem_of_getElem? (i := 12) rfl))) (by decide) (backOf (W := 0) (rmLen l Z a0 hw q k h0 n0) hZ (hw _ (List.mem_of_getElem? (i := 12) rfl)) (hw _ (List.mem_of_getElem? (i := 2) rfl)) (by decide) (by decide)) (g := (mkF m 3 #[.val (.long q), .second, .val (.long r), .second, .val (.int k), .unset] [(.int k), (.long q)])) rfl (by rw [hml]; rfl) (argsL := [(.long q), (.int k)]) (rest := []) (lenOf pdL rfl) rfl (by show 2 * 0 + _ ≤ _; exact Nat.le_of_eq rfl) (hb hby dS_3) (fun _ _ => ⟨rfl, e0, Nat.le_of_ble_eq_true rfl, Nat.le_of_ble_eq_true rfl⟩)
  dsimp only [Pt.U, Pt.locs, Pt.cells, Pt.slots] at XA lA yA zA stA hQA
  subst lA yA zA
  obtain ⟨rfl, NA, eA⟩ := hQA
  have MA := Fr.app (Fr.nil n0) NA
  have sg2 : ∀ target, Steps p.tables e below (TA.setTop (mkF m 13 #[.val (.long q), .second, .val (.long r), .second, .val (.int k), .val (.int (Int32.ofNat n))] [(.int k), (.long r), (.int (Int32.ofNat n))])) target → Steps p.tables e below (TA.setTop (mkF m 6 #[.val (.long q), .second, .val (.long r), .second, .val (.int k), .unset] [(.int (own_len q k))])) target := by
    intro target kt
    show Steps p.tables e below (TA.setTop (mkF m 6 #[.val (.long q), .second, .val (.long r), .second, .val (.int k), .unset] [(.int (own_len q k))])) _
    refine XS.istore XA.here hx rfl (hb hby dS_6) rfl (l' := #[.val (.long q), .second, .val (.long r), .second, .val (.int k), .val (.int (own_len q k))]) rfl ?_
    show Steps p.tables e below (TA.setTop (mkF m 8 #[.val (.long q), .second, .val (.long r), .second, .val (.int k), .val (.int (own_len q k))] [])) _
    rw [en]
    show Steps p.tables e below (TA.setTop (mkF m 8 #[.val (.long q), .second, .val (.long r), .second, .val (.int k), .val (.int (Int32.ofNat n))] [])) _
    refine XS.iload XA.here hx rfl (hb hby dS_8) rfl ?_
    show Steps p.tables e below (TA.setTop (mkF m 10 #[.val (.long q), .second, .val (.long r), .second, .val (.int k), .val (.int (Int32.ofNat n))] [(.int (Int32.ofNat n))])) _
    refine XS.lloadN XA.here hx rfl (hb hby dS_10) rfl ?_
    show Steps p.tables e below (TA.setTop (mkF m 11 #[.val (.long q), .second, .val (.long r), .second, .val (.int k), .val (.int (Int32.ofNat n))] [(.long r), (.int (Int32.ofNat n))])) _
    refine XS.iload XA.here hx rfl (hb hby dS_11) rfl ?_
    show Steps p.tables e below (TA.setTop (mkF m 13 #[.val (.long q), .second, .val (.long r), .second, .val (.int k), .val (.int (Int32.ofNat n))] [(.int k), (.long r), (.int (Int32.ofNat n))])) _
    exact kt
  obtain ⟨_, _, ⟨TB, LB, kB, nB⟩, -, XB, ⟨LcB, hQB, lB, yB, zB⟩, stB⟩ := Jvm.LawKit.callS XA hx (y := (⟨"com/example/nephila/nephila/usage/RequestEqualsPinLaw", "len", "(JI)I"⟩ : MethodName)) hown (mvT hZ (hw _ (List.mem_of_getElem? (i := 10) rfl))) (mvT hZ (hw _ (List.mem_of_getElem? (i := 11) rfl))) (mvT hZ (hw _ (List.mem_of_getElem? (i := 2) rfl))) (mvT hZ (hw _ (List.mem_of_getElem? (i := 12) rfl))) (by decide) (backOf (W := 1) (rmLen l Z a0 hw r k h0 n0) hZ (hw _ (List.mem_of_getElem? (i := 12) rfl)) (hw _ (List.mem_of_getElem? (i := 2) rfl)) (by decide) (by decide)) (g := (mkF m 13 #[.val (.long q), .second, .val (.long r), .second, .val (.int k), .val (.int (Int32.ofNat n))] [(.int k), (.long r), (.int (Int32.ofNat n))])) rfl (by rw [hml]; rfl) (argsL := [(.long r), (.int k)]) (rest := [(.int (Int32.ofNat n))]) (lenOf pdL rfl) rfl (by show 2 * 0 + _ ≤ _; exact Nat.le_of_eq rfl) (hb hby dS_13) (fun _ _ => ⟨rfl, eA, Nat.le_of_ble_eq_true rfl, Nat.le_of_ble_eq_true rfl⟩)
  dsimp only [Pt.U, Pt.locs, Pt.cells, Pt.slots] at XB lB yB zB stB hQB
  subst lB yB zB
  obtain ⟨rfl, NB, eB⟩ := hQB
  have MB := Fr.app (MA) NB
  have sg3 : ∀ target, Steps p.tables e below (TB.setTop (mkF m 16 #[.val (.long q), .second, .val (.long r), .second, .val (.int k), .val (.int (Int32.ofNat n))] [(.int (Int32.ofNat n2)), (.int (Int32.ofNat n))])) target → Steps p.tables e below (TB.setTop (mkF m 16 #[.val (.long q), .second, .val (.long r), .second, .val (.int k), .val (.int (Int32.ofNat n))] [(.int (own_len r k)), (.int (Int32.ofNat n))])) target := by
    intro target kt
    show Steps p.tables e below (TB.setTop (mkF m 16 #[.val (.long q), .second, .val (.long r), .second, .val (.int k), .val (.int (Int32.ofNat n))] [(.int (own_len r k)), (.int (Int32.ofNat n))])) _
    rw [en2]
    show Steps p.tables e below (TB.setTop (mkF m 16 #[.val (.long q), .second, .val (.long r), .second, .val (.int k), .val (.int (Int32.ofNat n))] [(.int (Int32.ofNat n2)), (.int (Int32.ofNat n))])) _
    exact kt
  by_cases hnk : n = n2
  · subst hnk
    obtain rfl | rfl | rfl : n = 0 ∨ n = 1 ∨ n = 2 := by omega
    · rw [own_eq_t (by simp)]
      have sg4 : ∀ target, Steps p.tables e below (TB.setTop (mkF m 72 #[.val (.long q), .second, .val (.long r), .second, .val (.int k), .val (.int (Int32.ofNat 0))] [(.int (1 : Int32))])) target → Steps p.tables e below (TB.setTop (mkF m 16 #[.val (.long q), .second, .val (.long r), .second, .val (.int k), .val (.int (Int32.ofNat 0))] [(.int (Int32.ofNat 0)), (.int (Int32.ofNat 0))])) target := by
        intro target kt
        show Steps p.tables e below (TB.setTop (mkF m 16 #[.val (.long q), .second, .val (.long r), .second, .val (.int k), .val (.int (Int32.ofNat 0))] [(.int (Int32.ofNat 0)), (.int (Int32.ofNat 0))])) _
        refine XS.icmpYes XB.here hx rfl (pc0 := 16) (pc' := 21) rfl (hb hby dS_16) rfl (by decide) (by decide) (by decide) ?_
        show Steps p.tables e below (TB.setTop (mkF m 21 #[.val (.long q), .second, .val (.long r), .second, .val (.int k), .val (.int (Int32.ofNat 0))] [])) _
        refine XS.iload XB.here hx rfl (hb hby dS_21) rfl ?_
        show Steps p.tables e below (TB.setTop (mkF m 23 #[.val (.long q), .second, .val (.long r), .second, .val (.int k), .val (.int (Int32.ofNat 0))] [(.int (Int32.ofNat 0))])) _
        refine XS.iconst XB.here hx rfl (hb hby dS_23) ?_
        show Steps p.tables e below (TB.setTop (mkF m 24 #[.val (.long q), .second, .val (.long r), .second, .val (.int k), .val (.int (Int32.ofNat 0))] [(.int (1 : Int32)), (.int (Int32.ofNat 0))])) _
        refine XS.icmpYes XB.here hx rfl (pc0 := 24) (pc' := 46) rfl (hb hby dS_24) rfl (by decide) (by decide) (by decide) ?_
        show Steps p.tables e below (TB.setTop (mkF m 46 #[.val (.long q), .second, .val (.long r), .second, .val (.int k), .val (.int (Int32.ofNat 0))] [])) _
        refine XS.iload XB.here hx rfl (hb hby dS_46) rfl ?_
        show Steps p.tables e below (TB.setTop (mkF m 48 #[.val (.long q), .second, .val (.long r), .second, .val (.int k), .val (.int (Int32.ofNat 0))] [(.int (Int32.ofNat 0))])) _
        refine XS.iconst XB.here hx rfl (hb hby dS_48) ?_
        show Steps p.tables e below (TB.setTop (mkF m 49 #[.val (.long q), .second, .val (.long r), .second, .val (.int k), .val (.int (Int32.ofNat 0))] [(.int (2 : Int32)), (.int (Int32.ofNat 0))])) _
        refine XS.icmpYes XB.here hx rfl (pc0 := 49) (pc' := 71) rfl (hb hby dS_49) rfl (by decide) (by decide) (by decide) ?_
        show Steps p.tables e below (TB.setTop (mkF m 71 #[.val (.long q), .second, .val (.long r), .second, .val (.int k), .val (.int (Int32.ofNat 0))] [])) _
        refine XS.iconst XB.here hx rfl (hb hby dS_71) ?_
        show Steps p.tables e below (TB.setTop (mkF m 72 #[.val (.long q), .second, .val (.long r), .second, .val (.int k), .val (.int (Int32.ofNat 0))] [(.int (1 : Int32))])) _
        exact kt
      obtain ⟨fs, hr, hrun, hended, hW, hsame⟩ := XB.leave (v := some (.int (1 : Int32))) (fun h => by rw [Bd.returns] at h; cases h)
      refine ⟨_, _, castTop (efS m q r k) ?_, hrun, hended, _, _, rfl, ?_, ⟨_, rfl⟩, hW, hsame.mono (by decide) (by decide)⟩
      · show Steps p.tables e below (s₁.setTop (mkF m 0 #[.val (.long q), .second, .val (.long r), .second, .val (.int k), .unset] [])) _
        refine sg1 _ ?_
        show Steps p.tables e below (s₁.setTop (mkF m 3 #[.val (.long q), .second, .val (.long r), .second, .val (.int k), .unset] [(.int k), (.long q)])) _
        refine stA _ ?_
        show Steps p.tables e below (TA.setTop (mkF m 6 #[.val (.long q), .second, .val (.long r), .second, .val (.int k), .unset] [(.int (own_len q k))])) _
        refine sg2 _ ?_
        show Steps p.tables e below (TA.setTop (mkF m 13 #[.val (.long q), .second, .val (.long r), .second, .val (.int k), .val (.int (Int32.ofNat 0))] [(.int k), (.long r), (.int (Int32.ofNat 0))])) _
        refine stB _ ?_
        show Steps p.tables e below (TB.setTop (mkF m 16 #[.val (.long q), .second, .val (.long r), .second, .val (.int k), .val (.int (Int32.ofNat 0))] [(.int (own_len r k)), (.int (Int32.ofNat 0))])) _
        refine sg3 _ ?_
        show Steps p.tables e below (TB.setTop (mkF m 16 #[.val (.long q), .second, .val (.long r), .second, .val (.int k), .val (.int (Int32.ofNat 0))] [(.int (Int32.ofNat 0)), (.int (Int32.ofNat 0))])) _
        refine sg4 _ ?_
        show Steps p.tables e below (TB.setTop (mkF m 72 #[.val (.long q), .second, .val (.long r), .second, .val (.int k), .val (.int (Int32.ofNat 0))] [(.int (1 : Int32))])) _
        exact retN XB hx (t := .boolean) Bd.returns (by simp) (hb hby dS_72) hr
      · show _
        exact ⟨rfl, MB, eB⟩
    · have sg4 : ∀ target, Steps p.tables e below (TB.setTop (mkF m 31 #[.val (.long q), .second, .val (.long r), .second, .val (.int k), .val (.int (Int32.ofNat 1))] [(.int (0 : Int32)), (.int k), (.long q)])) target → Steps p.tables e below (TB.setTop (mkF m 16 #[.val (.long q), .second, .val (.long r), .second, .val (.int k), .val (.int (Int32.ofNat 1))] [(.int (Int32.ofNat 1)), (.int (Int32.ofNat 1))])) target := by
        intro target kt
        show Steps p.tables e below (TB.setTop (mkF m 16 #[.val (.long q), .second, .val (.long r), .second, .val (.int k), .val (.int (Int32.ofNat 1))] [(.int (Int32.ofNat 1)), (.int (Int32.ofNat 1))])) _
        refine XS.icmpYes XB.here hx rfl (pc0 := 16) (pc' := 21) rfl (hb hby dS_16) rfl (by decide) (by decide) (by decide) ?_
        show Steps p.tables e below (TB.setTop (mkF m 21 #[.val (.long q), .second, .val (.long r), .second, .val (.int k), .val (.int (Int32.ofNat 1))] [])) _
        refine XS.iload XB.here hx rfl (hb hby dS_21) rfl ?_
        show Steps p.tables e below (TB.setTop (mkF m 23 #[.val (.long q), .second, .val (.long r), .second, .val (.int k), .val (.int (Int32.ofNat 1))] [(.int (Int32.ofNat 1))])) _
        refine XS.iconst XB.here hx rfl (hb hby dS_23) ?_
        show Steps p.tables e below (TB.setTop (mkF m 24 #[.val (.long q), .second, .val (.long r), .second, .val (.int k), .val (.int (Int32.ofNat 1))] [(.int (1 : Int32)), (.int (Int32.ofNat 1))])) _
        refine XS.icmpNo XB.here hx rfl (hb hby dS_24) rfl (by decide) ?_
        show Steps p.tables e below (TB.setTop (mkF m 27 #[.val (.long q), .second, .val (.long r), .second, .val (.int k), .val (.int (Int32.ofNat 1))] [])) _
        refine XS.lloadN XB.here hx rfl (hb hby dS_27) rfl ?_
        show Steps p.tables e below (TB.setTop (mkF m 28 #[.val (.long q), .second, .val (.long r), .second, .val (.int k), .val (.int (Int32.ofNat 1))] [(.long q)])) _
        refine XS.iload XB.here hx rfl (hb hby dS_28) rfl ?_
        show Steps p.tables e below (TB.setTop (mkF m 30 #[.val (.long q), .second, .val (.long r), .second, .val (.int k), .val (.int (Int32.ofNat 1))] [(.int k), (.long q)])) _
        refine XS.iconst XB.here hx rfl (hb hby dS_30) ?_
        show Steps p.tables e below (TB.setTop (mkF m 31 #[.val (.long q), .second, .val (.long r), .second, .val (.int k), .val (.int (Int32.ofNat 1))] [(.int (0 : Int32)), (.int k), (.long q)])) _
        exact kt
      obtain ⟨_, _, ⟨TU0, LU0, kU0, nU0⟩, -, XU0, ⟨LcU0, hQU0, lU0, yU0, zU0⟩, stU0⟩ := Jvm.LawKit.callS XB hx (y := (⟨"com/example/nephila/nephila/usage/RequestEqualsPinLaw", "ch", "(JII)C"⟩ : MethodName)) hown (mvT hZ (hw _ (List.mem_of_getElem? (i := 56) rfl))) (mvT hZ (hw _ (List.mem_of_getElem? (i := 57) rfl))) (mvT hZ (hw _ (List.mem_of_getElem? (i := 2) rfl))) (mvT hZ (hw _ (List.mem_of_getElem? (i := 58) rfl))) (by decide) (backOf (W := 0) (rmCh l Z a0 hw q k (0 : Int32) h0 n0) hZ (hw _ (List.mem_of_getElem? (i := 58) rfl)) (hw _ (List.mem_of_getElem? (i := 2) rfl)) (by decide) (by decide)) (g := (mkF m 31 #[.val (.long q), .second, .val (.long r), .second, .val (.int k), .val (.int (Int32.ofNat 1))] [(.int (0 : Int32)), (.int k), (.long q)])) rfl (by rw [hml]; rfl) (argsL := [(.long q), (.int k), (.int (0 : Int32))]) (rest := []) (lenOf pdC rfl) rfl (by show 2 * 0 + _ ≤ _; exact Nat.le_of_eq rfl) (hb hby dS_31) (fun _ _ => ⟨rfl, eB, Nat.le_of_ble_eq_true rfl, Nat.le_of_ble_eq_true rfl⟩)
      dsimp only [Pt.U, Pt.locs, Pt.cells, Pt.slots] at XU0 lU0 yU0 zU0 stU0 hQU0
      subst lU0 yU0 zU0
      obtain ⟨rfl, NU0, eU0⟩ := hQU0
      have MU0 := Fr.app (MB) NU0
      have sg5 : ∀ target, Steps p.tables e below (TU0.setTop (mkF m 38 #[.val (.long q), .second, .val (.long r), .second, .val (.int k), .val (.int (Int32.ofNat 1))] [(.int (0 : Int32)), (.int k), (.long r), (.int (own_chr q k (0 : Int32)))])) target → Steps p.tables e below (TU0.setTop (mkF m 34 #[.val (.long q), .second, .val (.long r), .second, .val (.int k), .val (.int (Int32.ofNat 1))] [(.int (own_chr q k (0 : Int32)))])) target := by
        intro target kt
        show Steps p.tables e below (TU0.setTop (mkF m 34 #[.val (.long q), .second, .val (.long r), .second, .val (.int k), .val (.int (Int32.ofNat 1))] [(.int (own_chr q k (0 : Int32)))])) _
        refine XS.lloadN XU0.here hx rfl (hb hby dS_34) rfl ?_
        show Steps p.tables e below (TU0.setTop (mkF m 35 #[.val (.long q), .second, .val (.long r), .second, .val (.int k), .val (.int (Int32.ofNat 1))] [(.long r), (.int (own_chr q k (0 : Int32)))])) _
        refine XS.iload XU0.here hx rfl (hb hby dS_35) rfl ?_
        show Steps p.tables e below (TU0.setTop (mkF m 37 #[.val (.long q), .second, .val (.long r), .second, .val (.int k), .val (.int (Int32.ofNat 1))] [(.int k), (.long r), (.int (own_chr q k (0 : Int32)))])) _
        refine XS.iconst XU0.here hx rfl (hb hby dS_37) ?_
        show Steps p.tables e below (TU0.setTop (mkF m 38 #[.val (.long q), .second, .val (.long r), .second, .val (.int k), .val (.int (Int32.ofNat 1))] [(.int (0 : Int32)), (.int k), (.long r), (.int (own_chr q k (0 : Int32)))])) _
        exact kt
      obtain ⟨_, _, ⟨TV0, LV0, kV0, nV0⟩, -, XV0, ⟨LcV0, hQV0, lV0, yV0, zV0⟩, stV0⟩ := Jvm.LawKit.callS XU0 hx (y := (⟨"com/example/nephila/nephila/usage/RequestEqualsPinLaw", "ch", "(JII)C"⟩ : MethodName)) hown (mvT hZ (hw _ (List.mem_of_getElem? (i := 56) rfl))) (mvT hZ (hw _ (List.mem_of_getElem? (i := 57) rfl))) (mvT hZ (hw _ (List.mem_of_getElem? (i := 2) rfl))) (mvT hZ (hw _ (List.mem_of_getElem? (i := 58) rfl))) (by decide) (backOf (W := 1) (rmCh l Z a0 hw r k (0 : Int32) h0 n0) hZ (hw _ (List.mem_of_getElem? (i := 58) rfl)) (hw _ (List.mem_of_getElem? (i := 2) rfl)) (by decide) (by decide)) (g := (mkF m 38 #[.val (.long q), .second, .val (.long r), .second, .val (.int k), .val (.int (Int32.ofNat 1))] [(.int (0 : Int32)), (.int k), (.long r), (.int (own_chr q k (0 : Int32)))])) rfl (by rw [hml]; rfl) (argsL := [(.long r), (.int k), (.int (0 : Int32))]) (rest := [(.int (own_chr q k (0 : Int32)))]) (lenOf pdC rfl) rfl (by show 2 * 0 + _ ≤ _; exact Nat.le_of_eq rfl) (hb hby dS_38) (fun _ _ => ⟨rfl, eU0, Nat.le_of_ble_eq_true rfl, Nat.le_of_ble_eq_true rfl⟩)
      dsimp only [Pt.U, Pt.locs, Pt.cells, Pt.slots] at XV0 lV0 yV0 zV0 stV0 hQV0
      subst lV0 yV0 zV0
      obtain ⟨rfl, NV0, eV0⟩ := hQV0
      have MV0 := Fr.app (MU0) NV0
      by_cases q0 : own_chr q k 0 = own_chr r k 0
      rotate_left
      · rw [own_eq_f (by simp; intros; first | assumption | contradiction)]
        have sg6 : ∀ target, Steps p.tables e below (TV0.setTop (mkF m 45 #[.val (.long q), .second, .val (.long r), .second, .val (.int k), .val (.int (Int32.ofNat 1))] [(.int (0 : Int32))])) target → Steps p.tables e below (TV0.setTop (mkF m 41 #[.val (.long q), .second, .val (.long r), .second, .val (.int k), .val (.int (Int32.ofNat 1))] [(.int (own_chr r k (0 : Int32))), (.int (own_chr q k (0 : Int32)))])) target := by
          intro target kt
          show Steps p.tables e below (TV0.setTop (mkF m 41 #[.val (.long q), .second, .val (.long r), .second, .val (.int k), .val (.int (Int32.ofNat 1))] [(.int (own_chr r k (0 : Int32))), (.int (own_chr q k (0 : Int32)))])) _
          refine XS.icmpNo XV0.here hx rfl (hb hby dS_41) rfl (feq q0).1 ?_
          show Steps p.tables e below (TV0.setTop (mkF m 44 #[.val (.long q), .second, .val (.long r), .second, .val (.int k), .val (.int (Int32.ofNat 1))] [])) _
          refine XS.iconst XV0.here hx rfl (hb hby dS_44) ?_
          show Steps p.tables e below (TV0.setTop (mkF m 45 #[.val (.long q), .second, .val (.long r), .second, .val (.int k), .val (.int (Int32.ofNat 1))] [(.int (0 : Int32))])) _
          exact kt
        obtain ⟨fs, hr, hrun, hended, hW, hsame⟩ := XV0.leave (v := some (.int (0 : Int32))) (fun h => by rw [Bd.returns] at h; cases h)
        refine ⟨_, _, castTop (efS m q r k) ?_, hrun, hended, _, _, rfl, ?_, ⟨_, rfl⟩, hW, hsame.mono (by decide) (by decide)⟩
        · show Steps p.tables e below (s₁.setTop (mkF m 0 #[.val (.long q), .second, .val (.long r), .second, .val (.int k), .unset] [])) _
          refine sg1 _ ?_
          show Steps p.tables e below (s₁.setTop (mkF m 3 #[.val (.long q), .second, .val (.long r), .second, .val (.int k), .unset] [(.int k), (.long q)])) _
          refine stA _ ?_
          show Steps p.tables e below (TA.setTop (mkF m 6 #[.val (.long q), .second, .val (.long r), .second, .val (.int k), .unset] [(.int (own_len q k))])) _
          refine sg2 _ ?_
          show Steps p.tables e below (TA.setTop (mkF m 13 #[.val (.long q), .second, .val (.long r), .second, .val (.int k), .val (.int (Int32.ofNat 1))] [(.int k), (.long r), (.int (Int32.ofNat 1))])) _
          refine stB _ ?_
          show Steps p.tables e below (TB.setTop (mkF m 16 #[.val (.long q), .second, .val (.long r), .second, .val (.int k), .val (.int (Int32.ofNat 1))] [(.int (own_len r k)), (.int (Int32.ofNat 1))])) _
          refine sg3 _ ?_
          show Steps p.tables e below (TB.setTop (mkF m 16 #[.val (.long q), .second, .val (.long r), .second, .val (.int k), .val (.int (Int32.ofNat 1))] [(.int (Int32.ofNat 1)), (.int (Int32.ofNat 1))])) _
          refine sg4 _ ?_
          show Steps p.tables e below (TB.setTop (mkF m 31 #[.val (.long q), .second, .val (.long r), .second, .val (.int k), .val (.int (Int32.ofNat 1))] [(.int (0 : Int32)), (.int k), (.long q)])) _
          refine stU0 _ ?_
          show Steps p.tables e below (TU0.setTop (mkF m 34 #[.val (.long q), .second, .val (.long r), .second, .val (.int k), .val (.int (Int32.ofNat 1))] [(.int (own_chr q k (0 : Int32)))])) _
          refine sg5 _ ?_
          show Steps p.tables e below (TU0.setTop (mkF m 38 #[.val (.long q), .second, .val (.long r), .second, .val (.int k), .val (.int (Int32.ofNat 1))] [(.int (0 : Int32)), (.int k), (.long r), (.int (own_chr q k (0 : Int32)))])) _
          refine stV0 _ ?_
          show Steps p.tables e below (TV0.setTop (mkF m 41 #[.val (.long q), .second, .val (.long r), .second, .val (.int k), .val (.int (Int32.ofNat 1))] [(.int (own_chr r k (0 : Int32))), (.int (own_chr q k (0 : Int32)))])) _
          refine sg6 _ ?_
          show Steps p.tables e below (TV0.setTop (mkF m 45 #[.val (.long q), .second, .val (.long r), .second, .val (.int k), .val (.int (Int32.ofNat 1))] [(.int (0 : Int32))])) _
          exact retN XV0 hx (t := .boolean) Bd.returns (by simp) (hb hby dS_45) hr
        · show _
          exact ⟨rfl, MV0, eV0⟩
      rw [own_eq_t (by simp [q0])]
      have sg6 : ∀ target, Steps p.tables e below (TV0.setTop (mkF m 72 #[.val (.long q), .second, .val (.long r), .second, .val (.int k), .val (.int (Int32.ofNat 1))] [(.int (1 : Int32))])) target → Steps p.tables e below (TV0.setTop (mkF m 41 #[.val (.long q), .second, .val (.long r), .second, .val (.int k), .val (.int (Int32.ofNat 1))] [(.int (own_chr r k (0 : Int32))), (.int (own_chr q k (0 : Int32)))])) target := by
        intro target kt
        show Steps p.tables e below (TV0.setTop (mkF m 41 #[.val (.long q), .second, .val (.long r), .second, .val (.int k), .val (.int (Int32.ofNat 1))] [(.int (own_chr r k (0 : Int32))), (.int (own_chr q k (0 : Int32)))])) _
        refine XS.icmpYes XV0.here hx rfl (pc0 := 41) (pc' := 46) rfl (hb hby dS_41) rfl (teq q0).1 (by decide) (by decide) ?_
        show Steps p.tables e below (TV0.setTop (mkF m 46 #[.val (.long q), .second, .val (.long r), .second, .val (.int k), .val (.int (Int32.ofNat 1))] [])) _
        refine XS.iload XV0.here hx rfl (hb hby dS_46) rfl ?_
        show Steps p.tables e below (TV0.setTop (mkF m 48 #[.val (.long q), .second, .val (.long r), .second, .val (.int k), .val (.int (Int32.ofNat 1))] [(.int (Int32.ofNat 1))])) _
        refine XS.iconst XV0.here hx rfl (hb hby dS_48) ?_
        show Steps p.tables e below (TV0.setTop (mkF m 49 #[.val (.long q), .second, .val (.long r), .second, .val (.int k), .val (.int (Int32.ofNat 1))] [(.int (2 : Int32)), (.int (Int32.ofNat 1))])) _
        refine XS.icmpYes XV0.here hx rfl (pc0 := 49) (pc' := 71) rfl (hb hby dS_49) rfl (by decide) (by decide) (by decide) ?_
        show Steps p.tables e below (TV0.setTop (mkF m 71 #[.val (.long q), .second, .val (.long r), .second, .val (.int k), .val (.int (Int32.ofNat 1))] [])) _
        refine XS.iconst XV0.here hx rfl (hb hby dS_71) ?_
        show Steps p.tables e below (TV0.setTop (mkF m 72 #[.val (.long q), .second, .val (.long r), .second, .val (.int k), .val (.int (Int32.ofNat 1))] [(.int (1 : Int32))])) _
        exact kt
      obtain ⟨fs, hr, hrun, hended, hW, hsame⟩ := XV0.leave (v := some (.int (1 : Int32))) (fun h => by rw [Bd.returns] at h; cases h)
      refine ⟨_, _, castTop (efS m q r k) ?_, hrun, hended, _, _, rfl, ?_, ⟨_, rfl⟩, hW, hsame.mono (by decide) (by decide)⟩
      · show Steps p.tables e below (s₁.setTop (mkF m 0 #[.val (.long q), .second, .val (.long r), .second, .val (.int k), .unset] [])) _
        refine sg1 _ ?_
        show Steps p.tables e below (s₁.setTop (mkF m 3 #[.val (.long q), .second, .val (.long r), .second, .val (.int k), .unset] [(.int k), (.long q)])) _
        refine stA _ ?_
        show Steps p.tables e below (TA.setTop (mkF m 6 #[.val (.long q), .second, .val (.long r), .second, .val (.int k), .unset] [(.int (own_len q k))])) _
        refine sg2 _ ?_
        show Steps p.tables e below (TA.setTop (mkF m 13 #[.val (.long q), .second, .val (.long r), .second, .val (.int k), .val (.int (Int32.ofNat 1))] [(.int k), (.long r), (.int (Int32.ofNat 1))])) _
        refine stB _ ?_
        show Steps p.tables e below (TB.setTop (mkF m 16 #[.val (.long q), .second, .val (.long r), .second, .val (.int k), .val (.int (Int32.ofNat 1))] [(.int (own_len r k)), (.int (Int32.ofNat 1))])) _
        refine sg3 _ ?_
        show Steps p.tables e below (TB.setTop (mkF m 16 #[.val (.long q), .second, .val (.long r), .second, .val (.int k), .val (.int (Int32.ofNat 1))] [(.int (Int32.ofNat 1)), (.int (Int32.ofNat 1))])) _
        refine sg4 _ ?_
        show Steps p.tables e below (TB.setTop (mkF m 31 #[.val (.long q), .second, .val (.long r), .second, .val (.int k), .val (.int (Int32.ofNat 1))] [(.int (0 : Int32)), (.int k), (.long q)])) _
        refine stU0 _ ?_
        show Steps p.tables e below (TU0.setTop (mkF m 34 #[.val (.long q), .second, .val (.long r), .second, .val (.int k), .val (.int (Int32.ofNat 1))] [(.int (own_chr q k (0 : Int32)))])) _
        refine sg5 _ ?_
        show Steps p.tables e below (TU0.setTop (mkF m 38 #[.val (.long q), .second, .val (.long r), .second, .val (.int k), .val (.int (Int32.ofNat 1))] [(.int (0 : Int32)), (.int k), (.long r), (.int (own_chr q k (0 : Int32)))])) _
        refine stV0 _ ?_
        show Steps p.tables e below (TV0.setTop (mkF m 41 #[.val (.long q), .second, .val (.long r), .second, .val (.int k), .val (.int (Int32.ofNat 1))] [(.int (own_chr r k (0 : Int32))), (.int (own_chr q k (0 : Int32)))])) _
        refine sg6 _ ?_
        show Steps p.tables e below (TV0.setTop (mkF m 72 #[.val (.long q), .second, .val (.long r), .second, .val (.int k), .val (.int (Int32.ofNat 1))] [(.int (1 : Int32))])) _
        exact retN XV0 hx (t := .boolean) Bd.returns (by simp) (hb hby dS_72) hr
      · show _
        exact ⟨rfl, MV0, eV0⟩
    · have sg4 : ∀ target, Steps p.tables e below (TB.setTop (mkF m 31 #[.val (.long q), .second, .val (.long r), .second, .val (.int k), .val (.int (Int32.ofNat 2))] [(.int (0 : Int32)), (.int k), (.long q)])) target → Steps p.tables e below (TB.setTop (mkF m 16 #[.val (.long q), .second, .val (.long r), .second, .val (.int k), .val (.int (Int32.ofNat 2))] [(.int (Int32.ofNat 2)), (.int (Int32.ofNat 2))])) target := by
        intro target kt
        show Steps p.tables e below (TB.setTop (mkF m 16 #[.val (.long q), .second, .val (.long r), .second, .val (.int k), .val (.int (Int32.ofNat 2))] [(.int (Int32.ofNat 2)), (.int (Int32.ofNat 2))])) _
        refine XS.icmpYes XB.here hx rfl (pc0 := 16) (pc' := 21) rfl (hb hby dS_16) rfl (by decide) (by decide) (by decide) ?_
        show Steps p.tables e below (TB.setTop (mkF m 21 #[.val (.long q), .second, .val (.long r), .second, .val (.int k), .val (.int (Int32.ofNat 2))] [])) _
        refine XS.iload XB.here hx rfl (hb hby dS_21) rfl ?_
        show Steps p.tables e below (TB.setTop (mkF m 23 #[.val (.long q), .second, .val (.long r), .second, .val (.int k), .val (.int (Int32.ofNat 2))] [(.int (Int32.ofNat 2))])) _
        refine XS.iconst XB.here hx rfl (hb hby dS_23) ?_
        show Steps p.tables e below (TB.setTop (mkF m 24 #[.val (.long q), .second, .val (.long r), .second, .val (.int k), .val (.int (Int32.ofNat 2))] [(.int (1 : Int32)), (.int (Int32.ofNat 2))])) _
        refine XS.icmpNo XB.here hx rfl (hb hby dS_24) rfl (by decide) ?_
        show Steps p.tables e below (TB.setTop (mkF m 27 #[.val (.long q), .second, .val (.long r), .second, .val (.int k), .val (.int (Int32.ofNat 2))] [])) _
        refine XS.lloadN XB.here hx rfl (hb hby dS_27) rfl ?_
        show Steps p.tables e below (TB.setTop (mkF m 28 #[.val (.long q), .second, .val (.long r), .second, .val (.int k), .val (.int (Int32.ofNat 2))] [(.long q)])) _
        refine XS.iload XB.here hx rfl (hb hby dS_28) rfl ?_
        show Steps p.tables e below (TB.setTop (mkF m 30 #[.val (.long q), .second, .val (.long r), .second, .val (.int k), .val (.int (Int32.ofNat 2))] [(.int k), (.long q)])) _
        refine XS.iconst XB.here hx rfl (hb hby dS_30) ?_
        show Steps p.tables e below (TB.setTop (mkF m 31 #[.val (.long q), .second, .val (.long r), .second, .val (.int k), .val (.int (Int32.ofNat 2))] [(.int (0 : Int32)), (.int k), (.long q)])) _
        exact kt
      obtain ⟨_, _, ⟨TU0, LU0, kU0, nU0⟩, -, XU0, ⟨LcU0, hQU0, lU0, yU0, zU0⟩, stU0⟩ := Jvm.LawKit.callS XB hx (y := (⟨"com/example/nephila/nephila/usage/RequestEqualsPinLaw", "ch", "(JII)C"⟩ : MethodName)) hown (mvT hZ (hw _ (List.mem_of_getElem? (i := 56) rfl))) (mvT hZ (hw _ (List.mem_of_getElem? (i := 57) rfl))) (mvT hZ (hw _ (List.mem_of_getElem? (i := 2) rfl))) (mvT hZ (hw _ (List.mem_of_getElem? (i := 58) rfl))) (by decide) (backOf (W := 0) (rmCh l Z a0 hw q k (0 : Int32) h0 n0) hZ (hw _ (List.mem_of_getElem? (i := 58) rfl)) (hw _ (List.mem_of_getElem? (i := 2) rfl)) (by decide) (by decide)) (g := (mkF m 31 #[.val (.long q), .second, .val (.long r), .second, .val (.int k), .val (.int (Int32.ofNat 2))] [(.int (0 : Int32)), (.int k), (.long q)])) rfl (by rw [hml]; rfl) (argsL := [(.long q), (.int k), (.int (0 : Int32))]) (rest := []) (lenOf pdC rfl) rfl (by show 2 * 0 + _ ≤ _; exact Nat.le_of_eq rfl) (hb hby dS_31) (fun _ _ => ⟨rfl, eB, Nat.le_of_ble_eq_true rfl, Nat.le_of_ble_eq_true rfl⟩)
      dsimp only [Pt.U, Pt.locs, Pt.cells, Pt.slots] at XU0 lU0 yU0 zU0 stU0 hQU0
      subst lU0 yU0 zU0
      obtain ⟨rfl, NU0, eU0⟩ := hQU0
      have MU0 := Fr.app (MB) NU0
      have sg5 : ∀ target, Steps p.tables e below (TU0.setTop (mkF m 38 #[.val (.long q), .second, .val (.long r), .second, .val (.int k), .val (.int (Int32.ofNat 2))] [(.int (0 : Int32)), (.int k), (.long r), (.int (own_chr q k (0 : Int32)))])) target → Steps p.tables e below (TU0.setTop (mkF m 34 #[.val (.long q), .second, .val (.long r), .second, .val (.int k), .val (.int (Int32.ofNat 2))] [(.int (own_chr q k (0 : Int32)))])) target := by
        intro target kt
        show Steps p.tables e below (TU0.setTop (mkF m 34 #[.val (.long q), .second, .val (.long r), .second, .val (.int k), .val (.int (Int32.ofNat 2))] [(.int (own_chr q k (0 : Int32)))])) _
        refine XS.lloadN XU0.here hx rfl (hb hby dS_34) rfl ?_
        show Steps p.tables e below (TU0.setTop (mkF m 35 #[.val (.long q), .second, .val (.long r), .second, .val (.int k), .val (.int (Int32.ofNat 2))] [(.long r), (.int (own_chr q k (0 : Int32)))])) _
        refine XS.iload XU0.here hx rfl (hb hby dS_35) rfl ?_
        show Steps p.tables e below (TU0.setTop (mkF m 37 #[.val (.long q), .second, .val (.long r), .second, .val (.int k), .val (.int (Int32.ofNat 2))] [(.int k), (.long r), (.int (own_chr q k (0 : Int32)))])) _
        refine XS.iconst XU0.here hx rfl (hb hby dS_37) ?_
        show Steps p.tables e below (TU0.setTop (mkF m 38 #[.val (.long q), .second, .val (.long r), .second, .val (.int k), .val (.int (Int32.ofNat 2))] [(.int (0 : Int32)), (.int k), (.long r), (.int (own_chr q k (0 : Int32)))])) _
        exact kt
      obtain ⟨_, _, ⟨TV0, LV0, kV0, nV0⟩, -, XV0, ⟨LcV0, hQV0, lV0, yV0, zV0⟩, stV0⟩ := Jvm.LawKit.callS XU0 hx (y := (⟨"com/example/nephila/nephila/usage/RequestEqualsPinLaw", "ch", "(JII)C"⟩ : MethodName)) hown (mvT hZ (hw _ (List.mem_of_getElem? (i := 56) rfl))) (mvT hZ (hw _ (List.mem_of_getElem? (i := 57) rfl))) (mvT hZ (hw _ (List.mem_of_getElem? (i := 2) rfl))) (mvT hZ (hw _ (List.mem_of_getElem? (i := 58) rfl))) (by decide) (backOf (W := 1) (rmCh l Z a0 hw r k (0 : Int32) h0 n0) hZ (hw _ (List.mem_of_getElem? (i := 58) rfl)) (hw _ (List.mem_of_getElem? (i := 2) rfl)) (by decide) (by decide)) (g := (mkF m 38 #[.val (.long q), .second, .val (.long r), .second, .val (.int k), .val (.int (Int32.ofNat 2))] [(.int (0 : Int32)), (.int k), (.long r), (.int (own_chr q k (0 : Int32)))])) rfl (by rw [hml]; rfl) (argsL := [(.long r), (.int k), (.int (0 : Int32))]) (rest := [(.int (own_chr q k (0 : Int32)))]) (lenOf pdC rfl) rfl (by show 2 * 0 + _ ≤ _; exact Nat.le_of_eq rfl) (hb hby dS_38) (fun _ _ => ⟨rfl, eU0, Nat.le_of_ble_eq_true rfl, Nat.le_of_ble_eq_true rfl⟩)
      dsimp only [Pt.U, Pt.locs, Pt.cells, Pt.slots] at XV0 lV0 yV0 zV0 stV0 hQV0
      subst lV0 yV0 zV0
      obtain ⟨rfl, NV0, eV0⟩ := hQV0
      have MV0 := Fr.app (MU0) NV0
      by_cases q0 : own_chr q k 0 = own_chr r k 0
      rotate_left
      · rw [own_eq_f (by simp; intros; first | assumption | contradiction)]
        have sg6 : ∀ target, Steps p.tables e below (TV0.setTop (mkF m 45 #[.val (.long q), .second, .val (.long r), .second, .val (.int k), .val (.int (Int32.ofNat 2))] [(.int (0 : Int32))])) target → Steps p.tables e below (TV0.setTop (mkF m 41 #[.val (.long q), .second, .val (.long r), .second, .val (.int k), .val (.int (Int32.ofNat 2))] [(.int (own_chr r k (0 : Int32))), (.int (own_chr q k (0 : Int32)))])) target := by
          intro target kt
          show Steps p.tables e below (TV0.setTop (mkF m 41 #[.val (.long q), .second, .val (.long r), .second, .val (.int k), .val (.int (Int32.ofNat 2))] [(.int (own_chr r k (0 : Int32))), (.int (own_chr q k (0 : Int32)))])) _
          refine XS.icmpNo XV0.here hx rfl (hb hby dS_41) rfl (feq q0).1 ?_
          show Steps p.tables e below (TV0.setTop (mkF m 44 #[.val (.long q), .second, .val (.long r), .second, .val (.int k), .val (.int (Int32.ofNat 2))] [])) _
          refine XS.iconst XV0.here hx rfl (hb hby dS_44) ?_
          show Steps p.tables e below (TV0.setTop (mkF m 45 #[.val (.long q), .second, .val (.long r), .second, .val (.int k), .val (.int (Int32.ofNat 2))] [(.int (0 : Int32))])) _
          exact kt
        obtain ⟨fs, hr, hrun, hended, hW, hsame⟩ := XV0.leave (v := some (.int (0 : Int32))) (fun h => by rw [Bd.returns] at h; cases h)
        refine ⟨_, _, castTop (efS m q r k) ?_, hrun, hended, _, _, rfl, ?_, ⟨_, rfl⟩, hW, hsame.mono (by decide) (by decide)⟩
        · show Steps p.tables e below (s₁.setTop (mkF m 0 #[.val (.long q), .second, .val (.long r), .second, .val (.int k), .unset] [])) _
          refine sg1 _ ?_
          show Steps p.tables e below (s₁.setTop (mkF m 3 #[.val (.long q), .second, .val (.long r), .second, .val (.int k), .unset] [(.int k), (.long q)])) _
          refine stA _ ?_
          show Steps p.tables e below (TA.setTop (mkF m 6 #[.val (.long q), .second, .val (.long r), .second, .val (.int k), .unset] [(.int (own_len q k))])) _
          refine sg2 _ ?_
          show Steps p.tables e below (TA.setTop (mkF m 13 #[.val (.long q), .second, .val (.long r), .second, .val (.int k), .val (.int (Int32.ofNat 2))] [(.int k), (.long r), (.int (Int32.ofNat 2))])) _
          refine stB _ ?_
          show Steps p.tables e below (TB.setTop (mkF m 16 #[.val (.long q), .second, .val (.long r), .second, .val (.int k), .val (.int (Int32.ofNat 2))] [(.int (own_len r k)), (.int (Int32.ofNat 2))])) _
          refine sg3 _ ?_
          show Steps p.tables e below (TB.setTop (mkF m 16 #[.val (.long q), .second, .val (.long r), .second, .val (.int k), .val (.int (Int32.ofNat 2))] [(.int (Int32.ofNat 2)), (.int (Int32.ofNat 2))])) _
          refine sg4 _ ?_
          show Steps p.tables e below (TB.setTop (mkF m 31 #[.val (.long q), .second, .val (.long r), .second, .val (.int k), .val (.int (Int32.ofNat 2))] [(.int (0 : Int32)), (.int k), (.long q)])) _
          refine stU0 _ ?_
          show Steps p.tables e below (TU0.setTop (mkF m 34 #[.val (.long q), .second, .val (.long r), .second, .val (.int k), .val (.int (Int32.ofNat 2))] [(.int (own_chr q k (0 : Int32)))])) _
          refine sg5 _ ?_
          show Steps p.tables e below (TU0.setTop (mkF m 38 #[.val (.long q), .second, .val (.long r), .second, .val (.int k), .val (.int (Int32.ofNat 2))] [(.int (0 : Int32)), (.int k), (.long r), (.int (own_chr q k (0 : Int32)))])) _
          refine stV0 _ ?_
          show Steps p.tables e below (TV0.setTop (mkF m 41 #[.val (.long q), .second, .val (.long r), .second, .val (.int k), .val (.int (Int32.ofNat 2))] [(.int (own_chr r k (0 : Int32))), (.int (own_chr q k (0 : Int32)))])) _
          refine sg6 _ ?_
          show Steps p.tables e below (TV0.setTop (mkF m 45 #[.val (.long q), .second, .val (.long r), .second, .val (.int k), .val (.int (Int32.ofNat 2))] [(.int (0 : Int32))])) _
          exact retN XV0 hx (t := .boolean) Bd.returns (by simp) (hb hby dS_45) hr
        · show _
          exact ⟨rfl, MV0, eV0⟩
      have sg6 : ∀ target, Steps p.tables e below (TV0.setTop (mkF m 56 #[.val (.long q), .second, .val (.long r), .second, .val (.int k), .val (.int (Int32.ofNat 2))] [(.int (1 : Int32)), (.int k), (.long q)])) target → Steps p.tables e below (TV0.setTop (mkF m 41 #[.val (.long q), .second, .val (.long r), .second, .val (.int k), .val (.int (Int32.ofNat 2))] [(.int (own_chr r k (0 : Int32))), (.int (own_chr q k (0 : Int32)))])) target := by
        intro target kt
        show Steps p.tables e below (TV0.setTop (mkF m 41 #[.val (.long q), .second, .val (.long r), .second, .val (.int k), .val (.int (Int32.ofNat 2))] [(.int (own_chr r k (0 : Int32))), (.int (own_chr q k (0 : Int32)))])) _
        refine XS.icmpYes XV0.here hx rfl (pc0 := 41) (pc' := 46) rfl (hb hby dS_41) rfl (teq q0).1 (by decide) (by decide) ?_
        show Steps p.tables e below (TV0.setTop (mkF m 46 #[.val (.long q), .second, .val (.long r), .second, .val (.int k), .val (.int (Int32.ofNat 2))] [])) _
        refine XS.iload XV0.here hx rfl (hb hby dS_46) rfl ?_
        show Steps p.tables e below (TV0.setTop (mkF m 48 #[.val (.long q), .second, .val (.long r), .second, .val (.int k), .val (.int (Int32.ofNat 2))] [(.int (Int32.ofNat 2))])) _
        refine XS.iconst XV0.here hx rfl (hb hby dS_48) ?_
        show Steps p.tables e below (TV0.setTop (mkF m 49 #[.val (.long q), .second, .val (.long r), .second, .val (.int k), .val (.int (Int32.ofNat 2))] [(.int (2 : Int32)), (.int (Int32.ofNat 2))])) _
        refine XS.icmpNo XV0.here hx rfl (hb hby dS_49) rfl (by decide) ?_
        show Steps p.tables e below (TV0.setTop (mkF m 52 #[.val (.long q), .second, .val (.long r), .second, .val (.int k), .val (.int (Int32.ofNat 2))] [])) _
        refine XS.lloadN XV0.here hx rfl (hb hby dS_52) rfl ?_
        show Steps p.tables e below (TV0.setTop (mkF m 53 #[.val (.long q), .second, .val (.long r), .second, .val (.int k), .val (.int (Int32.ofNat 2))] [(.long q)])) _
        refine XS.iload XV0.here hx rfl (hb hby dS_53) rfl ?_
        show Steps p.tables e below (TV0.setTop (mkF m 55 #[.val (.long q), .second, .val (.long r), .second, .val (.int k), .val (.int (Int32.ofNat 2))] [(.int k), (.long q)])) _
        refine XS.iconst XV0.here hx rfl (hb hby dS_55) ?_
        show Steps p.tables e below (TV0.setTop (mkF m 56 #[.val (.long q), .second, .val (.long r), .second, .val (.int k), .val (.int (Int32.ofNat 2))] [(.int (1 : Int32)), (.int k), (.long q)])) _
        exact kt
      obtain ⟨_, _, ⟨TU1, LU1, kU1, nU1⟩, -, XU1, ⟨LcU1, hQU1, lU1, yU1, zU1⟩, stU1⟩ := Jvm.LawKit.callS XV0 hx (y := (⟨"com/example/nephila/nephila/usage/RequestEqualsPinLaw", "ch", "(JII)C"⟩ : MethodName)) hown (mvT hZ (hw _ (List.mem_of_getElem? (i := 56) rfl))) (mvT hZ (hw _ (List.mem_of_getElem? (i := 57) rfl))) (mvT hZ (hw _ (List.mem_of_getElem? (i := 2) rfl))) (mvT hZ (hw _ (List.mem_of_getElem? (i := 58) rfl))) (by decide) (backOf (W := 0) (rmCh l Z a0 hw q k (1 : Int32) h0 n0) hZ (hw _ (List.mem_of_getElem? (i := 58) rfl)) (hw _ (List.mem_of_getElem? (i := 2) rfl)) (by decide) (by decide)) (g := (mkF m 56 #[.val (.long q), .second, .val (.long r), .second, .val (.int k), .val (.int (Int32.ofNat 2))] [(.int (1 : Int32)), (.int k), (.long q)])) rfl (by rw [hml]; rfl) (argsL := [(.long q), (.int k), (.int (1 : Int32))]) (rest := []) (lenOf pdC rfl) rfl (by show 2 * 0 + _ ≤ _; exact Nat.le_of_eq rfl) (hb hby dS_56) (fun _ _ => ⟨rfl, eV0, Nat.le_of_ble_eq_true rfl, Nat.le_of_ble_eq_true rfl⟩)
      dsimp only [Pt.U, Pt.locs, Pt.cells, Pt.slots] at XU1 lU1 yU1 zU1 stU1 hQU1
      subst lU1 yU1 zU1
      obtain ⟨rfl, NU1, eU1⟩ := hQU1
      have MU1 := Fr.app (MV0) NU1
      have sg7 : ∀ target, Steps p.tables e below (TU1.setTop (mkF m 63 #[.val (.long q), .second, .val (.long r), .second, .val (.int k), .val (.int (Int32.ofNat 2))] [(.int (1 : Int32)), (.int k), (.long r), (.int (own_chr q k (1 : Int32)))])) target → Steps p.tables e below (TU1.setTop (mkF m 59 #[.val (.long q), .second, .val (.long r), .second, .val (.int k), .val (.int (Int32.ofNat 2))] [(.int (own_chr q k (1 : Int32)))])) target := by
        intro target kt
        show Steps p.tables e below (TU1.setTop (mkF m 59 #[.val (.long q), .second, .val (.long r), .second, .val (.int k), .val (.int (Int32.ofNat 2))] [(.int (own_chr q k (1 : Int32)))])) _
        refine XS.lloadN XU1.here hx rfl (hb hby dS_59) rfl ?_
        show Steps p.tables e below (TU1.setTop (mkF m 60 #[.val (.long q), .second, .val (.long r), .second, .val (.int k), .val (.int (Int32.ofNat 2))] [(.long r), (.int (own_chr q k (1 : Int32)))])) _
        refine XS.iload XU1.here hx rfl (hb hby dS_60) rfl ?_
        show Steps p.tables e below (TU1.setTop (mkF m 62 #[.val (.long q), .second, .val (.long r), .second, .val (.int k), .val (.int (Int32.ofNat 2))] [(.int k), (.long r), (.int (own_chr q k (1 : Int32)))])) _
        refine XS.iconst XU1.here hx rfl (hb hby dS_62) ?_
        show Steps p.tables e below (TU1.setTop (mkF m 63 #[.val (.long q), .second, .val (.long r), .second, .val (.int k), .val (.int (Int32.ofNat 2))] [(.int (1 : Int32)), (.int k), (.long r), (.int (own_chr q k (1 : Int32)))])) _
        exact kt
      obtain ⟨_, _, ⟨TV1, LV1, kV1, nV1⟩, -, XV1, ⟨LcV1, hQV1, lV1, yV1, zV1⟩, stV1⟩ := Jvm.LawKit.callS XU1 hx (y := (⟨"com/example/nephila/nephila/usage/RequestEqualsPinLaw", "ch", "(JII)C"⟩ : MethodName)) hown (mvT hZ (hw _ (List.mem_of_getElem? (i := 56) rfl))) (mvT hZ (hw _ (List.mem_of_getElem? (i := 57) rfl))) (mvT hZ (hw _ (List.mem_of_getElem? (i := 2) rfl))) (mvT hZ (hw _ (List.mem_of_getElem? (i := 58) rfl))) (by decide) (backOf (W := 1) (rmCh l Z a0 hw r k (1 : Int32) h0 n0) hZ (hw _ (List.mem_of_getElem? (i := 58) rfl)) (hw _ (List.mem_of_getElem? (i := 2) rfl)) (by decide) (by decide)) (g := (mkF m 63 #[.val (.long q), .second, .val (.long r), .second, .val (.int k), .val (.int (Int32.ofNat 2))] [(.int (1 : Int32)), (.int k), (.long r), (.int (own_chr q k (1 : Int32)))])) rfl (by rw [hml]; rfl) (argsL := [(.long r), (.int k), (.int (1 : Int32))]) (rest := [(.int (own_chr q k (1 : Int32)))]) (lenOf pdC rfl) rfl (by show 2 * 0 + _ ≤ _; exact Nat.le_of_eq rfl) (hb hby dS_63) (fun _ _ => ⟨rfl, eU1, Nat.le_of_ble_eq_true rfl, Nat.le_of_ble_eq_true rfl⟩)
      dsimp only [Pt.U, Pt.locs, Pt.cells, Pt.slots] at XV1 lV1 yV1 zV1 stV1 hQV1
      subst lV1 yV1 zV1
      obtain ⟨rfl, NV1, eV1⟩ := hQV1
      have MV1 := Fr.app (MU1) NV1
      by_cases q1 : own_chr q k 1 = own_chr r k 1
      rotate_left
      · rw [own_eq_f (by simp; intros; first | assumption | contradiction)]
        have sg8 : ∀ target, Steps p.tables e below (TV1.setTop (mkF m 70 #[.val (.long q), .second, .val (.long r), .second, .val (.int k), .val (.int (Int32.ofNat 2))] [(.int (0 : Int32))])) target → Steps p.tables e below (TV1.setTop (mkF m 66 #[.val (.long q), .second, .val (.long r), .second, .val (.int k), .val (.int (Int32.ofNat 2))] [(.int (own_chr r k (1 : Int32))), (.int (own_chr q k (1 : Int32)))])) target := by
          intro target kt
          show Steps p.tables e below (TV1.setTop (mkF m 66 #[.val (.long q), .second, .val (.long r), .second, .val (.int k), .val (.int (Int32.ofNat 2))] [(.int (own_chr r k (1 : Int32))), (.int (own_chr q k (1 : Int32)))])) _
          refine XS.icmpNo XV1.here hx rfl (hb hby dS_66) rfl (feq q1).1 ?_
          show Steps p.tables e below (TV1.setTop (mkF m 69 #[.val (.long q), .second, .val (.long r), .second, .val (.int k), .val (.int (Int32.ofNat 2))] [])) _
          refine XS.iconst XV1.here hx rfl (hb hby dS_69) ?_
          show Steps p.tables e below (TV1.setTop (mkF m 70 #[.val (.long q), .second, .val (.long r), .second, .val (.int k), .val (.int (Int32.ofNat 2))] [(.int (0 : Int32))])) _
          exact kt
        obtain ⟨fs, hr, hrun, hended, hW, hsame⟩ := XV1.leave (v := some (.int (0 : Int32))) (fun h => by rw [Bd.returns] at h; cases h)
        refine ⟨_, _, castTop (efS m q r k) ?_, hrun, hended, _, _, rfl, ?_, ⟨_, rfl⟩, hW, hsame.mono (by decide) (by decide)⟩
        · show Steps p.tables e below (s₁.setTop (mkF m 0 #[.val (.long q), .second, .val (.long r), .second, .val (.int k), .unset] [])) _
          refine sg1 _ ?_
          show Steps p.tables e below (s₁.setTop (mkF m 3 #[.val (.long q), .second, .val (.long r), .second, .val (.int k), .unset] [(.int k), (.long q)])) _
          refine stA _ ?_
          show Steps p.tables e below (TA.setTop (mkF m 6 #[.val (.long q), .second, .val (.long r), .second, .val (.int k), .unset] [(.int (own_len q k))])) _
          refine sg2 _ ?_
          show Steps p.tables e below (TA.setTop (mkF m 13 #[.val (.long q), .second, .val (.long r), .second, .val (.int k), .val (.int (Int32.ofNat 2))] [(.int k), (.long r), (.int (Int32.ofNat 2))])) _
          refine stB _ ?_
          show Steps p.tables e below (TB.setTop (mkF m 16 #[.val (.long q), .second, .val (.long r), .second, .val (.int k), .val (.int (Int32.ofNat 2))] [(.int (own_len r k)), (.int (Int32.ofNat 2))])) _
          refine sg3 _ ?_
          show Steps p.tables e below (TB.setTop (mkF m 16 #[.val (.long q), .second, .val (.long r), .second, .val (.int k), .val (.int (Int32.ofNat 2))] [(.int (Int32.ofNat 2)), (.int (Int32.ofNat 2))])) _
          refine sg4 _ ?_
          show Steps p.tables e below (TB.setTop (mkF m 31 #[.val (.long q), .second, .val (.long r), .second, .val (.int k), .val (.int (Int32.ofNat 2))] [(.int (0 : Int32)), (.int k), (.long q)])) _
          refine stU0 _ ?_
          show Steps p.tables e below (TU0.setTop (mkF m 34 #[.val (.long q), .second, .val (.long r), .second, .val (.int k), .val (.int (Int32.ofNat 2))] [(.int (own_chr q k (0 : Int32)))])) _
          refine sg5 _ ?_
          show Steps p.tables e below (TU0.setTop (mkF m 38 #[.val (.long q), .second, .val (.long r), .second, .val (.int k), .val (.int (Int32.ofNat 2))] [(.int (0 : Int32)), (.int k), (.long r), (.int (own_chr q k (0 : Int32)))])) _
          refine stV0 _ ?_
          show Steps p.tables e below (TV0.setTop (mkF m 41 #[.val (.long q), .second, .val (.long r), .second, .val (.int k), .val (.int (Int32.ofNat 2))] [(.int (own_chr r k (0 : Int32))), (.int (own_chr q k (0 : Int32)))])) _
          refine sg6 _ ?_
          show Steps p.tables e below (TV0.setTop (mkF m 56 #[.val (.long q), .second, .val (.long r), .second, .val (.int k), .val (.int (Int32.ofNat 2))] [(.int (1 : Int32)), (.int k), (.long q)])) _
          refine stU1 _ ?_
          show Steps p.tables e below (TU1.setTop (mkF m 59 #[.val (.long q), .second, .val (.long r), .second, .val (.int k), .val (.int (Int32.ofNat 2))] [(.int (own_chr q k (1 : Int32)))])) _
          refine sg7 _ ?_
          show Steps p.tables e below (TU1.setTop (mkF m 63 #[.val (.long q), .second, .val (.long r), .second, .val (.int k), .val (.int (Int32.ofNat 2))] [(.int (1 : Int32)), (.int k), (.long r), (.int (own_chr q k (1 : Int32)))])) _
          refine stV1 _ ?_
          show Steps p.tables e below (TV1.setTop (mkF m 66 #[.val (.long q), .second, .val (.long r), .second, .val (.int k), .val (.int (Int32.ofNat 2))] [(.int (own_chr r k (1 : Int32))), (.int (own_chr q k (1 : Int32)))])) _
          refine sg8 _ ?_
          show Steps p.tables e below (TV1.setTop (mkF m 70 #[.val (.long q), .second, .val (.long r), .second, .val (.int k), .val (.int (Int32.ofNat 2))] [(.int (0 : Int32))])) _
          exact retN XV1 hx (t := .boolean) Bd.returns (by simp) (hb hby dS_70) hr
        · show _
          exact ⟨rfl, MV1, eV1⟩
      rw [own_eq_t (by simp [q0, q1])]
      have sg8 : ∀ target, Steps p.tables e below (TV1.setTop (mkF m 72 #[.val (.long q), .second, .val (.long r), .second, .val (.int k), .val (.int (Int32.ofNat 2))] [(.int (1 : Int32))])) target → Steps p.tables e below (TV1.setTop (mkF m 66 #[.val (.long q), .second, .val (.long r), .second, .val (.int k), .val (.int (Int32.ofNat 2))] [(.int (own_chr r k (1 : Int32))), (.int (own_chr q k (1 : Int32)))])) target := by
        intro target kt
        show Steps p.tables e below (TV1.setTop (mkF m 66 #[.val (.long q), .second, .val (.long r), .second, .val (.int k), .val (.int (Int32.ofNat 2))] [(.int (own_chr r k (1 : Int32))), (.int (own_chr q k (1 : Int32)))])) _
        refine XS.icmpYes XV1.here hx rfl (pc0 := 66) (pc' := 71) rfl (hb hby dS_66) rfl (teq q1).1 (by decide) (by decide) ?_
        show Steps p.tables e below (TV1.setTop (mkF m 71 #[.val (.long q), .second, .val (.long r), .second, .val (.int k), .val (.int (Int32.ofNat 2))] [])) _
        refine XS.iconst XV1.here hx rfl (hb hby dS_71) ?_
        show Steps p.tables e below (TV1.setTop (mkF m 72 #[.val (.long q), .second, .val (.long r), .second, .val (.int k), .val (.int (Int32.ofNat 2))] [(.int (1 : Int32))])) _
        exact kt
      obtain ⟨fs, hr, hrun, hended, hW, hsame⟩ := XV1.leave (v := some (.int (1 : Int32))) (fun h => by rw [Bd.returns] at h; cases h)
      refine ⟨_, _, castTop (efS m q r k) ?_, hrun, hended, _, _, rfl, ?_, ⟨_, rfl⟩, hW, hsame.mono (by decide) (by decide)⟩
      · show Steps p.tables e below (s₁.setTop (mkF m 0 #[.val (.long q), .second, .val (.long r), .second, .val (.int k), .unset] [])) _
        refine sg1 _ ?_
        show Steps p.tables e below (s₁.setTop (mkF m 3 #[.val (.long q), .second, .val (.long r), .second, .val (.int k), .unset] [(.int k), (.long q)])) _
        refine stA _ ?_
        show Steps p.tables e below (TA.setTop (mkF m 6 #[.val (.long q), .second, .val (.long r), .second, .val (.int k), .unset] [(.int (own_len q k))])) _
        refine sg2 _ ?_
        show Steps p.tables e below (TA.setTop (mkF m 13 #[.val (.long q), .second, .val (.long r), .second, .val (.int k), .val (.int (Int32.ofNat 2))] [(.int k), (.long r), (.int (Int32.ofNat 2))])) _
        refine stB _ ?_
        show Steps p.tables e below (TB.setTop (mkF m 16 #[.val (.long q), .second, .val (.long r), .second, .val (.int k), .val (.int (Int32.ofNat 2))] [(.int (own_len r k)), (.int (Int32.ofNat 2))])) _
        refine sg3 _ ?_
        show Steps p.tables e below (TB.setTop (mkF m 16 #[.val (.long q), .second, .val (.long r), .second, .val (.int k), .val (.int (Int32.ofNat 2))] [(.int (Int32.ofNat 2)), (.int (Int32.ofNat 2))])) _
        refine sg4 _ ?_
        show Steps p.tables e below (TB.setTop (mkF m 31 #[.val (.long q), .second, .val (.long r), .second, .val (.int k), .val (.int (Int32.ofNat 2))] [(.int (0 : Int32)), (.int k), (.long q)])) _
        refine stU0 _ ?_
        show Steps p.tables e below (TU0.setTop (mkF m 34 #[.val (.long q), .second, .val (.long r), .second, .val (.int k), .val (.int (Int32.ofNat 2))] [(.int (own_chr q k (0 : Int32)))])) _
        refine sg5 _ ?_
        show Steps p.tables e below (TU0.setTop (mkF m 38 #[.val (.long q), .second, .val (.long r), .second, .val (.int k), .val (.int (Int32.ofNat 2))] [(.int (0 : Int32)), (.int k), (.long r), (.int (own_chr q k (0 : Int32)))])) _
        refine stV0 _ ?_
        show Steps p.tables e below (TV0.setTop (mkF m 41 #[.val (.long q), .second, .val (.long r), .second, .val (.int k), .val (.int (Int32.ofNat 2))] [(.int (own_chr r k (0 : Int32))), (.int (own_chr q k (0 : Int32)))])) _
        refine sg6 _ ?_
        show Steps p.tables e below (TV0.setTop (mkF m 56 #[.val (.long q), .second, .val (.long r), .second, .val (.int k), .val (.int (Int32.ofNat 2))] [(.int (1 : Int32)), (.int k), (.long q)])) _
        refine stU1 _ ?_
        show Steps p.tables e below (TU1.setTop (mkF m 59 #[.val (.long q), .second, .val (.long r), .second, .val (.int k), .val (.int (Int32.ofNat 2))] [(.int (own_chr q k (1 : Int32)))])) _
        refine sg7 _ ?_
        show Steps p.tables e below (TU1.setTop (mkF m 63 #[.val (.long q), .second, .val (.long r), .second, .val (.int k), .val (.int (Int32.ofNat 2))] [(.int (1 : Int32)), (.int k), (.long r), (.int (own_chr q k (1 : Int32)))])) _
        refine stV1 _ ?_
        show Steps p.tables e below (TV1.setTop (mkF m 66 #[.val (.long q), .second, .val (.long r), .second, .val (.int k), .val (.int (Int32.ofNat 2))] [(.int (own_chr r k (1 : Int32))), (.int (own_chr q k (1 : Int32)))])) _
        refine sg8 _ ?_
        show Steps p.tables e below (TV1.setTop (mkF m 72 #[.val (.long q), .second, .val (.long r), .second, .val (.int k), .val (.int (Int32.ofNat 2))] [(.int (1 : Int32))])) _
        exact retN XV1 hx (t := .boolean) Bd.returns (by simp) (hb hby dS_72) hr
      · show _
        exact ⟨rfl, MV1, eV1⟩
  · rw [own_eq_f (fun q => hnk (by have q := congrArg List.length q; rwa [own_tk _ _ hn, own_tk _ _ hn2] at q))]
    have sg4 : ∀ target, Steps p.tables e below (TB.setTop (mkF m 20 #[.val (.long q), .second, .val (.long r), .second, .val (.int k), .val (.int (Int32.ofNat n))] [(.int (0 : Int32))])) target → Steps p.tables e below (TB.setTop (mkF m 16 #[.val (.long q), .second, .val (.long r), .second, .val (.int k), .val (.int (Int32.ofNat n))] [(.int (Int32.ofNat n2)), (.int (Int32.ofNat n))])) target := by
      intro target kt
      show Steps p.tables e below (TB.setTop (mkF m 16 #[.val (.long q), .second, .val (.long r), .second, .val (.int k), .val (.int (Int32.ofNat n))] [(.int (Int32.ofNat n2)), (.int (Int32.ofNat n))])) _
      refine XS.icmpNo XB.here hx rfl (hb hby dS_16) rfl (feq (own_of hn hn2 hnk)).1 ?_
      show Steps p.tables e below (TB.setTop (mkF m 19 #[.val (.long q), .second, .val (.long r), .second, .val (.int k), .val (.int (Int32.ofNat n))] [])) _
      refine XS.iconst XB.here hx rfl (hb hby dS_19) ?_
      show Steps p.tables e below (TB.setTop (mkF m 20 #[.val (.long q), .second, .val (.long r), .second, .val (.int k), .val (.int (Int32.ofNat n))] [(.int (0 : Int32))])) _
      exact kt
    obtain ⟨fs, hr, hrun, hended, hW, hsame⟩ := XB.leave (v := some (.int (0 : Int32))) (fun h => by rw [Bd.returns] at h; cases h)
    refine ⟨_, _, castTop (efS m q r k) ?_, hrun, hended, _, _, rfl, ?_, ⟨_, rfl⟩, hW, hsame.mono (by decide) (by decide)⟩
    · show Steps p.tables e below (s₁.setTop (mkF m 0 #[.val (.long q), .second, .val (.long r), .second, .val (.int k), .unset] [])) _
      refine sg1 _ ?_
      show Steps p.tables e below (s₁.setTop (mkF m 3 #[.val (.long q), .second, .val (.long r), .second, .val (.int k), .unset] [(.int k), (.long q)])) _
      refine stA _ ?_
      show Steps p.tables e below (TA.setTop (mkF m 6 #[.val (.long q), .second, .val (.long r), .second, .val (.int k), .unset] [(.int (own_len q k))])) _
      refine sg2 _ ?_
      show Steps p.tables e below (TA.setTop (mkF m 13 #[.val (.long q), .second, .val (.long r), .second, .val (.int k), .val (.int (Int32.ofNat n))] [(.int k), (.long r), (.int (Int32.ofNat n))])) _
      refine stB _ ?_
      show Steps p.tables e below (TB.setTop (mkF m 16 #[.val (.long q), .second, .val (.long r), .second, .val (.int k), .val (.int (Int32.ofNat n))] [(.int (own_len r k)), (.int (Int32.ofNat n))])) _
      refine sg3 _ ?_
      show Steps p.tables e below (TB.setTop (mkF m 16 #[.val (.long q), .second, .val (.long r), .second, .val (.int k), .val (.int (Int32.ofNat n))] [(.int (Int32.ofNat n2)), (.int (Int32.ofNat n))])) _
      refine sg4 _ ?_
      show Steps p.tables e below (TB.setTop (mkF m 20 #[.val (.long q), .second, .val (.long r), .second, .val (.int k), .val (.int (Int32.ofNat n))] [(.int (0 : Int32))])) _
      exact retN XB hx (t := .boolean) Bd.returns (by simp) (hb hby dS_20) hr
    · show _
      exact ⟨rfl, MB, eB⟩
theorem dN_0 : decode jdk_31_method_11_code 0 = .ok (.aload_n 0, 1) := by decide +kernel
theorem dN_1 : decode jdk_31_method_11_code 1 = .ok (.ifnonnull 12, 3) := by decide +kernel
theorem dN_13 : decode jdk_31_method_11_code 13 = .ok (.aload_n 0, 1) := by decide +kernel
theorem dN_14 : decode jdk_31_method_11_code 14 = .ok (.areturn, 1) := by decide +kernel
theorem efN (m : MethodId) (x0 : Addr) (x1 : Addr) : entryFrame m #[(.ref x0), (.ref x1)] 2 = mkF m 0 #[.val (.ref x0), .val (.ref x1)] [] := by first | (simp [entryFrame, mkF, argsToLocals, Value.category, maxLocals]; done) | rfl
theorem pdN : parseMethodDescriptor "(Ljava/lang/Object;Ljava/lang/String;)Ljava/lang/Object;" = some ⟨[(.object "java/lang/Object"), (.object "java/lang/String")], some (.object "java/lang/Object")⟩ := by decide +kernel
set_option maxRecDepth 65536 in
set_option maxHeartbeats 40000000 in
theorem rmN (l : Launch) (Z : State) (a0 : Array Value) (hw : ∀ d ∈ tables_1, d.before a0 Z = true) (t u : Addr) (h0 : Heap) (n0 : Nat) :
    MetFree l (⟨"java/util/Objects", "requireNonNull", "(Ljava/lang/Object;Ljava/lang/String;)Ljava/lang/Object;"⟩ : MethodName) (head1 [Jvm.Cond.code (⟨"java/util/Objects", "requireNonNull", "(Ljava/lang/Object;Ljava/lang/String;)Ljava/lang/Object;"⟩ : MethodName) jdk_31_method_11_code 2 (some (.object "java/lang/Object"))] ({ frames := 0, cells := 0, slots := 0, locals := 0 } : Room)) (fun q_ U => q_ = #[(.ref t), (.ref u)] ∧ Z.Warmed39 U.vm ∧ U.heap = h0) (fun _ _ _ _ _ => True) (fun _ U o U' => ∃ v L, o = .returned v ∧ own_QS n0 (.ref t) h0 v U'.heap L ∧ FrameEnd U o U' L ({ frames := 0, cells := 0, slots := 0, locals := 0 } : Room).cells ({ frames := 0, cells := 0, slots := 0, locals := 0 } : Room).slots) := by
  refine MetFree.of_bodySF (plainFor_of_name pn_O) hisR ?_
  intro p e s m args below meth c s₁ Bd hml0 hP hK
  obtain ⟨rfl, hZ, hh⟩ := hP
  have hx := Bd.exec
  have hby := Bd.bytes
  have hml : c.maxLocals = 2 := hml0
  have hown : s.vm.findClass "java/util/Objects" = some m.cls := findClass_of_methodNamed Bd.named
  have hnm := (name_of_methodNamed Bd.named Bd.method).1
  have X0 : Stand p l e ({ frames := 0, cells := 0, slots := 0, locals := 0 } : Room) s m #[(.ref t), (.ref u)] below meth c s₁ [] 0 0 := Stand.of_body Bd
  have e0 : s₁.heap = h0 := by rw [← hh, Bd.state]; rfl
  have sg1 : ∀ target, Steps p.tables e below (s₁.setTop (mkF m 14 #[.val (.ref t), .val (.ref u)] [(.ref t)])) target → Steps p.tables e below (s₁.setTop (mkF m 0 #[.val (.ref t), .val (.ref u)] [])) target := by
    intro target kt
    show Steps p.tables e below (s₁.setTop (mkF m 0 #[.val (.ref t), .val (.ref u)] [])) _
    refine XS.aloadN X0.here hx rfl (hb hby dN_0) rfl rfl ?_
    show Steps p.tables e below (s₁.setTop (mkF m 1 #[.val (.ref t), .val (.ref u)] [(.ref t)])) _
    refine XS.ifnonnullYes X0.here hx rfl (pc0 := 1) (pc' := 13) rfl (hb hby dN_1) rfl (by decide) (by decide) ?_
    show Steps p.tables e below (s₁.setTop (mkF m 13 #[.val (.ref t), .val (.ref u)] [])) _
    refine XS.aloadN X0.here hx rfl (hb hby dN_13) rfl rfl ?_
    show Steps p.tables e below (s₁.setTop (mkF m 14 #[.val (.ref t), .val (.ref u)] [(.ref t)])) _
    exact kt
  obtain ⟨fs, hr, hrun, hended, hW, hsame⟩ := X0.leave (v := some (.ref t)) (fun h => by rw [Bd.returns] at h; cases h)
  refine ⟨_, _, castTop (efN m t u) ?_, hrun, hended, _, _, rfl, ?_, ⟨_, rfl⟩, hW, hsame.mono (by decide) (by decide)⟩
  · show Steps p.tables e below (s₁.setTop (mkF m 0 #[.val (.ref t), .val (.ref u)] [])) _
    refine sg1 _ ?_
    show Steps p.tables e below (s₁.setTop (mkF m 14 #[.val (.ref t), .val (.ref u)] [(.ref t)])) _
    exact retOut X0 hx (t := .object "java/lang/Object") Bd.returns rfl (Or.inr (Or.inr (Or.inr (Or.inr ⟨rfl, rfl, rfl⟩)))) (hb hby dN_14) hr
  · show _
    exact ⟨rfl, Fr.nil n0, e0⟩
theorem dI_0 : decode prog_65_method_1_code 0 = .ok (.aload_n 0, 1) := by decide +kernel
theorem dI_1 : decode prog_65_method_1_code 1 = .ok (.invokespecial 1, 3) := by decide +kernel
theorem dI_4 : decode prog_65_method_1_code 4 = .ok (.aload_n 0, 1) := by decide +kernel
theorem dI_5 : decode prog_65_method_1_code 5 = .ok (.aload_n 1, 1) := by decide +kernel
theorem dI_6 : decode prog_65_method_1_code 6 = .ok (.ldc 7, 2) := by decide +kernel
theorem dI_8 : decode prog_65_method_1_code 8 = .ok (.invokestatic 9, 3) := by decide +kernel
theorem dI_11 : decode prog_65_method_1_code 11 = .ok (.checkcast 15, 3) := by decide +kernel
theorem dI_14 : decode prog_65_method_1_code 14 = .ok (.putfield 17, 3) := by decide +kernel
theorem dI_17 : decode prog_65_method_1_code 17 = .ok (.aload_n 0, 1) := by decide +kernel
theorem dI_18 : decode prog_65_method_1_code 18 = .ok (.aload_n 2, 1) := by decide +kernel
theorem dI_19 : decode prog_65_method_1_code 19 = .ok (.ldc 22, 2) := by decide +kernel
theorem dI_21 : decode prog_65_method_1_code 21 = .ok (.invokestatic 9, 3) := by decide +kernel
theorem dI_24 : decode prog_65_method_1_code 24 = .ok (.checkcast 15, 3) := by decide +kernel
theorem dI_27 : decode prog_65_method_1_code 27 = .ok (.putfield 24, 3) := by decide +kernel
theorem dI_30 : decode prog_65_method_1_code 30 = .ok (.aload_n 0, 1) := by decide +kernel
theorem dI_31 : decode prog_65_method_1_code 31 = .ok (.iload_n 3, 1) := by decide +kernel
theorem dI_32 : decode prog_65_method_1_code 32 = .ok (.putfield 26, 3) := by decide +kernel
theorem dI_35 : decode prog_65_method_1_code 35 = .ok (.aload_n 0, 1) := by decide +kernel
theorem dI_36 : decode prog_65_method_1_code 36 = .ok (.aload 4, 2) := by decide +kernel
theorem dI_38 : decode prog_65_method_1_code 38 = .ok (.ldc 30, 2) := by decide +kernel
theorem dI_40 : decode prog_65_method_1_code 40 = .ok (.invokestatic 9, 3) := by decide +kernel
theorem dI_43 : decode prog_65_method_1_code 43 = .ok (.checkcast 15, 3) := by decide +kernel
theorem dI_46 : decode prog_65_method_1_code 46 = .ok (.putfield 32, 3) := by decide +kernel
theorem dI_49 : decode prog_65_method_1_code 49 = .ok (.return_, 1) := by decide +kernel
theorem efI (m : MethodId) (x0 : Addr) (x1 : Addr) (x2 : Addr) (x3 : Int32) (x4 : Addr) : entryFrame m #[(.ref x0), (.ref x1), (.ref x2), (.int x3), (.ref x4)] 5 = mkF m 0 #[.val (.ref x0), .val (.ref x1), .val (.ref x2), .val (.int x3), .val (.ref x4)] [] := by first | (simp [entryFrame, mkF, argsToLocals, Value.category, maxLocals]; done) | rfl
theorem pdI : parseMethodDescriptor "(Ljava/lang/String;Ljava/lang/String;ILjava/lang/String;)V" = some ⟨[(.object "java/lang/String"), (.object "java/lang/String"), .int, (.object "java/lang/String")], none⟩ := by decide +kernel
/-- a Request of three texts and a status -/
def own_Req (Z : State) (h : Heap) (a t1 t2 t3 : Addr) (st : Int32) : Prop := Exa Z h a "com/example/nephila/nephila/usage/Request" ∧ Fld Z h a "com/example/nephila/nephila/usage/Request" "method" "Ljava/lang/String;" (.ref t1) ∧ Fld Z h a "com/example/nephila/nephila/usage/Request" "target" "Ljava/lang/String;" (.ref t2) ∧ Fld Z h a "com/example/nephila/nephila/usage/Request" "status" "I" (.int st) ∧ Fld Z h a "com/example/nephila/nephila/usage/Request" "referer" "Ljava/lang/String;" (.ref t3)
theorem own_Req.ext {Z : State} {h h' : Heap} {a t1 t2 t3 : Addr} {st : Int32} (F : own_Req Z h a t1 t2 t3 st) (E : Ext h h') : own_Req Z h' a t1 t2 t3 st := ⟨F.1.ext E, F.2.1.ext E, F.2.2.1.ext E, F.2.2.2.1.ext E, F.2.2.2.2.ext E⟩
def own_QI (Z : State) (a t1 t2 t3 : Addr) (st : Int32) (h0 : Heap) (n0 : Nat) (v : Option Value) (h : Heap) (L : List Loc) : Prop := v = none ∧ Fr n0 L ∧ Keep h0 h [a] ∧ own_Req Z h a t1 t2 t3 st
set_option maxRecDepth 65536 in
set_option maxHeartbeats 40000000 in
theorem rmI (l : Launch) (Z : State) (a0 : Array Value) (hw : ∀ d ∈ tables_1, d.before a0 Z = true) (EL : List (String × Nat)) (hEL : EW Z a0 EL) (a t1 t2 t3 : Addr) (st : Int32) (h0 : Heap) (n0 : Nat) (ge : n0 ≤ a) (S1 : Exa Z h0 t1 "java/lang/String") (S2 : Exa Z h0 t2 "java/lang/String") (S3 : Exa Z h0 t3 "java/lang/String") (Ea : Exa Z h0 a "com/example/nephila/nephila/usage/Request") (F1 : Fld Z h0 a "com/example/nephila/nephila/usage/Request" "method" "Ljava/lang/String;" .null) (F2 : Fld Z h0 a "com/example/nephila/nephila/usage/Request" "target" "Ljava/lang/String;" .null) (F3 : Fld Z h0 a "com/example/nephila/nephila/usage/Request" "status" "I" (.int (0 : Int32))) (F4 : Fld Z h0 a "com/example/nephila/nephila/usage/Request" "referer" "Ljava/lang/String;" .null) :
    MetFree l (⟨"com/example/nephila/nephila/usage/Request", "<init>", "(Ljava/lang/String;Ljava/lang/String;ILjava/lang/String;)V"⟩ : MethodName) (head1 [Jvm.Cond.code (⟨"com/example/nephila/nephila/usage/Request", "<init>", "(Ljava/lang/String;Ljava/lang/String;ILjava/lang/String;)V"⟩ : MethodName) prog_65_method_1_code 5 none] ({ frames := 1, cells := 6, slots := 100, locals := 30 } : Room)) (fun q_ U => q_ = #[(.ref a), (.ref t1), (.ref t2), (.int st), (.ref t3)] ∧ Z.Warmed39 U.vm ∧ U.heap = h0 ∧ CHv Z EL U.vm h0) (fun _ _ _ _ _ => True) (fun _ U o U' => ∃ v L, o = .returned v ∧ own_QI Z a t1 t2 t3 st h0 n0 v U'.heap L ∧ CHr Z EL U.vm U.heap U'.vm U'.heap ∧ ReturnedEndW U o U' L ({ frames := 1, cells := 6, slots := 100, locals := 30 } : Room).cells ({ frames := 1, cells := 6, slots := 100, locals := 30 } : Room).slots) := by
  refine MetFree.of_bodySF (plainFor_of_name pn_R) hisR ?_
  intro p e s m args below meth c s₁ Bd hml0 hP hK
  obtain ⟨rfl, hZ, hh, H0⟩ := hP
  have hx := Bd.exec
  have hby := Bd.bytes
  have hml : c.maxLocals = 5 := hml0
  have hown : s.vm.findClass "com/example/nephila/nephila/usage/Request" = some m.cls := findClass_of_methodNamed Bd.named
  have hnm := (name_of_methodNamed Bd.named Bd.method).1
  have X0 : Stand p l e ({ frames := 1, cells := 6, slots := 100, locals := 30 } : Room) (s.setVm s.vm) m #[(.ref a), (.ref t1), (.ref t2), (.int st), (.ref t3)] below meth c s₁ [] 0 0 := Stand.of_body Bd
  have e0 : s₁.heap = h0 := by rw [← hh, Bd.state]; rfl
  have hS0 : s.Since s.vm s.heap.size := (State.WarmedH.refl s).since _
  have hwS : ∀ a ∈ Bundle.stringAtoms, a.before a0 Z = true := fun d hd => hw d ((by decide +kernel : ∀ d ∈ Bundle.stringAtoms, d ∈ tables_1) d hd)
  have s12 : RoadKit.slotOf Z "com/example/nephila/nephila/usage/Request" "method" "Ljava/lang/String;" ≠ RoadKit.slotOf Z "com/example/nephila/nephila/usage/Request" "target" "Ljava/lang/String;" := slot_ne (Or.inr (hw _ (List.mem_of_getElem? (i := 47) rfl))) (Or.inr (hw _ (List.mem_of_getElem? (i := 50) rfl))) (by decide) (t := (.object "java/lang/String")) (t' := (.object "java/lang/String")) (by decide) (by decide)
  have s13 : RoadKit.slotOf Z "com/example/nephila/nephila/usage/Request" "method" "Ljava/lang/String;" ≠ RoadKit.slotOf Z "com/example/nephila/nephila/usage/Request" "status" "I" := slot_ne (Or.inr (hw _ (List.mem_of_getElem? (i := 47) rfl))) (Or.inr (hw _ (List.mem_of_getElem? (i := 52) rfl))) (by decide) (t := (.object "java/lang/String")) (t' := .int) (by decide) (by decide)
  have s14 : RoadKit.slotOf Z "com/example/nephila/nephila/usage/Request" "method" "Ljava/lang/String;" ≠ RoadKit.slotOf Z "com/example/nephila/nephila/usage/Request" "referer" "Ljava/lang/String;" := slot_ne (Or.inr (hw _ (List.mem_of_getElem? (i := 47) rfl))) (Or.inr (hw _ (List.mem_of_getElem? (i := 55) rfl))) (by decide) (t := (.object "java/lang/String")) (t' := (.object "java/lang/String")) (by decide) (by decide)
  have s21 : RoadKit.slotOf Z "com/example/nephila/nephila/usage/Request" "target" "Ljava/lang/String;" ≠ RoadKit.slotOf Z "com/example/nephila/nephila/usage/Request" "method" "Ljava/lang/String;" := slot_ne (Or.inr (hw _ (List.mem_of_getElem? (i := 50) rfl))) (Or.inr (hw _ (List.mem_of_getElem? (i := 47) rfl))) (by decide) (t := (.object "java/lang/String")) (t' := (.object "java/lang/String")) (by decide) (by decide)
  have s23 : RoadKit.slotOf Z "com/example/nephila/nephila/usage/Request" "target" "Ljava/lang/String;" ≠ RoadKit.slotOf Z "com/example/nephila/nephila/usage/Request" "status" "I" := slot_ne (Or.inr (hw _ (List.mem_of_getElem? (i := 50) rfl))) (Or.inr (hw _ (List.mem_of_getElem? (i := 52) rfl))) (by decide) (t := (.object "java/lang/String")) (t' := .int) (by decide) (by decide)
  have s24 : RoadKit.slotOf Z "com/example/nephila/nephila/usage/Request" "target" "Ljava/lang/String;" ≠ RoadKit.slotOf Z "com/example/nephila/nephila/usage/Request" "referer" "Ljava/lang/String;" := slot_ne (Or.inr (hw _ (List.mem_of_getElem? (i := 50) rfl))) (Or.inr (hw _ (List.mem_of_getElem? (i := 55) rfl))) (by decide) (t := (.object "java/lang/String")) (t' := (.object "java/lang/String")) (by decide) (by decide)
  have s31 : RoadKit.slotOf Z "com/example/nephila/nephila/usage/Request" "status" "I" ≠ RoadKit.slotOf Z "com/example/nephila/nephila/usage/Request" "method" "Ljava/lang/String;" := slot_ne (Or.inr (hw _ (List.mem_of_getElem? (i := 52) rfl))) (Or.inr (hw _ (List.mem_of_getElem? (i := 47) rfl))) (by decide) (t := .int) (t' := (.object "java/lang/String")) (by decide) (by decide)
  have s32 : RoadKit.slotOf Z "com/example/nephila/nephila/usage/Request" "status" "I" ≠ RoadKit.slotOf Z "com/example/nephila/nephila/usage/Request" "target" "Ljava/lang/String;" := slot_ne (Or.inr (hw _ (List.mem_of_getElem? (i := 52) rfl))) (Or.inr (hw _ (List.mem_of_getElem? (i := 50) rfl))) (by decide) (t := .int) (t' := (.object "java/lang/String")) (by decide) (by decide)
  have s34 : RoadKit.slotOf Z "com/example/nephila/nephila/usage/Request" "status" "I" ≠ RoadKit.slotOf Z "com/example/nephila/nephila/usage/Request" "referer" "Ljava/lang/String;" := slot_ne (Or.inr (hw _ (List.mem_of_getElem? (i := 52) rfl))) (Or.inr (hw _ (List.mem_of_getElem? (i := 55) rfl))) (by decide) (t := .int) (t' := (.object "java/lang/String")) (by decide) (by decide)
  have s41 : RoadKit.slotOf Z "com/example/nephila/nephila/usage/Request" "referer" "Ljava/lang/String;" ≠ RoadKit.slotOf Z "com/example/nephila/nephila/usage/Request" "method" "Ljava/lang/String;" := slot_ne (Or.inr (hw _ (List.mem_of_getElem? (i := 55) rfl))) (Or.inr (hw _ (List.mem_of_getElem? (i := 47) rfl))) (by decide) (t := (.object "java/lang/String")) (t' := (.object "java/lang/String")) (by decide) (by decide)
  have s42 : RoadKit.slotOf Z "com/example/nephila/nephila/usage/Request" "referer" "Ljava/lang/String;" ≠ RoadKit.slotOf Z "com/example/nephila/nephila/usage/Request" "target" "Ljava/lang/String;" := slot_ne (Or.inr (hw _ (List.mem_of_getElem? (i := 55) rfl))) (Or.inr (hw _ (List.mem_of_getElem? (i := 50) rfl))) (by decide) (t := (.object "java/lang/String")) (t' := (.object "java/lang/String")) (by decide) (by decide)
  have s43 : RoadKit.slotOf Z "com/example/nephila/nephila/usage/Request" "referer" "Ljava/lang/String;" ≠ RoadKit.slotOf Z "com/example/nephila/nephila/usage/Request" "status" "I" := slot_ne (Or.inr (hw _ (List.mem_of_getElem? (i := 55) rfl))) (Or.inr (hw _ (List.mem_of_getElem? (i := 52) rfl))) (by decide) (t := (.object "java/lang/String")) (t' := .int) (by decide) (by decide)
  have sg1 : ∀ target, Steps p.tables e below (s₁.setTop (mkF m 1 #[.val (.ref a), .val (.ref t1), .val (.ref t2), .val (.int st), .val (.ref t3)] [(.ref a)])) target → Steps p.tables e below (s₁.setTop (mkF m 0 #[.val (.ref a), .val (.ref t1), .val (.ref t2), .val (.int st), .val (.ref t3)] [])) target := by
    intro target kt
    show Steps p.tables e below (s₁.setTop (mkF m 0 #[.val (.ref a), .val (.ref t1), .val (.ref t2), .val (.int st), .val (.ref t3)] [])) _
    refine XS.aloadN X0.here hx rfl (hb hby dI_0) rfl rfl ?_
    show Steps p.tables e below (s₁.setTop (mkF m 1 #[.val (.ref a), .val (.ref t1), .val (.ref t2), .val (.int st), .val (.ref t3)] [(.ref a)])) _
    exact kt
  obtain ⟨T0, X00, e00, st0⟩ := initO X0 hx hZ hown (hw _ (List.mem_of_getElem? (i := 39) rfl)) (hw _ (List.mem_of_getElem? (i := 26) rfl)) (hw _ (List.mem_of_getElem? (i := 27) rfl)) e0 (g := (mkF m 1 #[.val (.ref a), .val (.ref t1), .val (.ref t2), .val (.int st), .val (.ref t3)] [(.ref a)])) rfl (by rw [hml]; rfl) rfl (hb hby dI_1) (by decide) (W := 0) (by show 2 * 0 + _ ≤ _; exact Nat.le_of_eq rfl) (by decide)
  have sg2 : ∀ target, Steps p.tables e below (T0.setTop (mkF m 6 #[.val (.ref a), .val (.ref t1), .val (.ref t2), .val (.int st), .val (.ref t3)] [(.ref t1), (.ref a)])) target → Steps p.tables e below (T0.setTop (mkF m 4 #[.val (.ref a), .val (.ref t1), .val (.ref t2), .val (.int st), .val (.ref t3)] [])) target := by
    intro target kt
    show Steps p.tables e below (T0.setTop (mkF m 4 #[.val (.ref a), .val (.ref t1), .val (.ref t2), .val (.int st), .val (.ref t3)] [])) _
    refine XS.aloadN X00.here hx rfl (hb hby dI_4) rfl rfl ?_
    show Steps p.tables e below (T0.setTop (mkF m 5 #[.val (.ref a), .val (.ref t1), .val (.ref t2), .val (.int st), .val (.ref t3)] [(.ref a)])) _
    refine XS.aloadN X00.here hx rfl (hb hby dI_5) rfl rfl ?_
    show Steps p.tables e below (T0.setTop (mkF m 6 #[.val (.ref a), .val (.ref t1), .val (.ref t2), .val (.int st), .val (.ref t3)] [(.ref t1), (.ref a)])) _
    exact kt
  obtain ⟨uL6, TL6, hL6, kL6, XL6, eL6, EL6, hSL6, hkL6, hZL6, hownL6, R0L6, -, stL6⟩ := ldcOH (vm0 := s.vm) (text := "method") X00 hx hZ hown (hw _ (List.mem_of_getElem? (i := 40) rfl)) hwS e00 hS0 (Nat.le_of_eq (by rw [hh])) hEL (CHr.refl H0).1 (g := (mkF m 6 #[.val (.ref a), .val (.ref t1), .val (.ref t2), .val (.int st), .val (.ref t3)] [(.ref t1), (.ref a)])) rfl (hb hby dI_6) (n := 28) (by decide) (by decide) (by decide) (by decide)
  have RL6 := (CHr.refl H0).trans R0L6
  have F1_L6 := F1.ext EL6
  have F2_L6 := F2.ext EL6
  have F3_L6 := F3.ext EL6
  have F4_L6 := F4.ext EL6
  have E_L6 := Ea.ext EL6
  have S1_L6 := S1.ext EL6
  have S2_L6 := S2.ext EL6
  have S3_L6 := S3.ext EL6
  have KL6 := (Keep.refl h0 [a]).ext EL6
  obtain ⟨_, _, ⟨TQ6, LQ6, kQ6, nQ6⟩, -, XQ6, ⟨LcQ6, hQQ6, lQ6, yQ6, zQ6⟩, stQ6⟩ := Jvm.LawKit.callS XL6 hx (y := (⟨"java/util/Objects", "requireNonNull", "(Ljava/lang/Object;Ljava/lang/String;)Ljava/lang/Object;"⟩ : MethodName)) hownL6 (mvT hZL6 (hw _ (List.mem_of_getElem? (i := 41) rfl))) (mvT hZL6 (hw _ (List.mem_of_getElem? (i := 42) rfl))) (mvT hZL6 (hw _ (List.mem_of_getElem? (i := 43) rfl))) (mvT hZL6 (hw _ (List.mem_of_getElem? (i := 44) rfl))) (by decide) (backOf (W := 1) (rmN l Z a0 hw t1 uL6 hL6 n0) hZL6 (hw _ (List.mem_of_getElem? (i := 44) rfl)) (hw _ (List.mem_of_getElem? (i := 43) rfl)) (by decide) (by decide)) (g := (mkF m 8 #[.val (.ref a), .val (.ref t1), .val (.ref t2), .val (.int st), .val (.ref t3)] [(.ref uL6), (.ref t1), (.ref a)])) rfl (by rw [hml]; rfl) (argsL := [(.ref t1), (.ref uL6)]) (rest := [(.ref a)]) (lenOf pdN rfl) rfl (by show 2 * 0 + _ ≤ _; exact Nat.le_of_eq rfl) (hb hby dI_8) (fun _ _ => ⟨rfl, eL6, Nat.le_of_ble_eq_true rfl, Nat.le_of_ble_eq_true rfl⟩)
  dsimp only [Pt.U, Pt.locs, Pt.cells, Pt.slots] at XQ6 lQ6 yQ6 zQ6 stQ6 hQQ6
  subst lQ6 yQ6 zQ6
  obtain ⟨rfl, NQ6, eQ6⟩ := hQQ6
  have MQ6 := Fr.app (Fr.nil n0) NQ6
  obtain ⟨TY6, XY6, eY6, stY6⟩ := castY XQ6 hx hZL6 hownL6 (hw _ (List.mem_of_getElem? (i := 45) rfl)) eQ6 (Ins.self S1_L6) (g := (mkF m 11 #[.val (.ref a), .val (.ref t1), .val (.ref t2), .val (.int st), .val (.ref t3)] [(.ref t1), (.ref a)])) rfl rfl (hb hby dI_11)
  obtain ⟨T3, h3, X3, e3, W3, st3⟩ := putF XY6 hx hZL6 hownL6 (host := "") (Or.inl (hw _ (List.mem_of_getElem? (i := 46) rfl))) Via.refl eY6 F1_L6 E_L6 (Or.inr ⟨(hw _ (List.mem_of_getElem? (i := 47) rfl)), rfl, hnm⟩) (hw _ (List.mem_of_getElem? (i := 5) rfl)) (ty := (.object "java/lang/String")) (by decide) rfl rfl (g := (mkF m 14 #[.val (.ref a), .val (.ref t1), .val (.ref t2), .val (.int st), .val (.ref t3)] [(.ref t1), (.ref a)])) rfl rfl (hb hby dI_14)
  have Sf3 : Safe Z EL TL6.vm hL6 a := Safe.exa hZL6.alike E_L6 (by decide) (by decide)
  have R3 := RL6.trans (CHr.wr W3 Sf3 RL6.1)
  have F1_3 := Fld.same W3 F1_L6
  have F2_3 := (F2_L6).other W3 (Or.inr s21)
  have F3_3 := (F3_L6).other W3 (Or.inr s31)
  have F4_3 := (F4_L6).other W3 (Or.inr s41)
  have E_3 := E_L6.wr W3
  have S1_3 := S1_L6.wr W3
  have S2_3 := S2_L6.wr W3
  have S3_3 := S3_L6.wr W3
  have N3 := Fr.snoc X3 (MQ6) ge
  have K3 := KL6.wr W3 (Or.inl (List.mem_cons_self ..))
  have hk3 : kL6 ≤ h3.size := by rw [W3.size]; exact hkL6
  have sg4 : ∀ target, Steps p.tables e below (T3.setTop (mkF m 19 #[.val (.ref a), .val (.ref t1), .val (.ref t2), .val (.int st), .val (.ref t3)] [(.ref t2), (.ref a)])) target → Steps p.tables e below (T3.setTop (mkF m 17 #[.val (.ref a), .val (.ref t1), .val (.ref t2), .val (.int st), .val (.ref t3)] [])) target := by
    intro target kt
    show Steps p.tables e below (T3.setTop (mkF m 17 #[.val (.ref a), .val (.ref t1), .val (.ref t2), .val (.int st), .val (.ref t3)] [])) _
    refine XS.aloadN X3.here hx rfl (hb hby dI_17) rfl rfl ?_
    show Steps p.tables e below (T3.setTop (mkF m 18 #[.val (.ref a), .val (.ref t1), .val (.ref t2), .val (.int st), .val (.ref t3)] [(.ref a)])) _
    refine XS.aloadN X3.here hx rfl (hb hby dI_18) rfl rfl ?_
    show Steps p.tables e below (T3.setTop (mkF m 19 #[.val (.ref a), .val (.ref t1), .val (.ref t2), .val (.int st), .val (.ref t3)] [(.ref t2), (.ref a)])) _
    exact kt
  obtain ⟨uL19, TL19, hL19, kL19, XL19, eL19, EL19, hSL19, hkL19, hZL19, hownL19, R0L19, -, stL19⟩ := ldcOH (vm0 := TL6.vm) (text := "target") X3 hx hZL6 hownL6 (hw _ (List.mem_of_getElem? (i := 48) rfl)) hwS e3 hSL6 hk3 hEL R3.1 (g := (mkF m 19 #[.val (.ref a), .val (.ref t1), .val (.ref t2), .val (.int st), .val (.ref t3)] [(.ref t2), (.ref a)])) rfl (hb hby dI_19) (n := 28) (by decide) (by decide) (by decide) (by decide)
  have RL19 := R3.trans R0L19
  have F1_L19 := F1_3.ext EL19
  have F2_L19 := F2_3.ext EL19
  have F3_L19 := F3_3.ext EL19
  have F4_L19 := F4_3.ext EL19
  have E_L19 := E_3.ext EL19
  have S1_L19 := S1_3.ext EL19
  have S2_L19 := S2_3.ext EL19
  have S3_L19 := S3_3.ext EL19
  have KL19 := K3.ext EL19
  obtain ⟨_, _, ⟨TQ19, LQ19, kQ19, nQ19⟩, -, XQ19, ⟨LcQ19, hQQ19, lQ19, yQ19, zQ19⟩, stQ19⟩ := Jvm.LawKit.callS XL19 hx (y := (⟨"java/util/Objects", "requireNonNull", "(Ljava/lang/Object;Ljava/lang/String;)Ljava/lang/Object;"⟩ : MethodName)) hownL19 (mvT hZL19 (hw _ (List.mem_of_getElem? (i := 41) rfl))) (mvT hZL19 (hw _ (List.mem_of_getElem? (i := 42) rfl))) (mvT hZL19 (hw _ (List.mem_of_getElem? (i := 43) rfl))) (mvT hZL19 (hw _ (List.mem_of_getElem? (i := 44) rfl))) (by decide) (backOf (W := 1) (rmN l Z a0 hw t2 uL19 hL19 n0) hZL19 (hw _ (List.mem_of_getElem? (i := 44) rfl)) (hw _ (List.mem_of_getElem? (i := 43) rfl)) (by decide) (by decide)) (g := (mkF m 21 #[.val (.ref a), .val (.ref t1), .val (.ref t2), .val (.int st), .val (.ref t3)] [(.ref uL19), (.ref t2), (.ref a)])) rfl (by rw [hml]; rfl) (argsL := [(.ref t2), (.ref uL19)]) (rest := [(.ref a)]) (lenOf pdN rfl) rfl (by show 2 * 0 + _ ≤ _; exact Nat.le_of_eq rfl) (hb hby dI_21) (fun _ _ => ⟨rfl, eL19, Nat.le_of_ble_eq_true rfl, Nat.le_of_ble_eq_true rfl⟩)
  dsimp only [Pt.U, Pt.locs, Pt.cells, Pt.slots] at XQ19 lQ19 yQ19 zQ19 stQ19 hQQ19
  subst lQ19 yQ19 zQ19
  obtain ⟨rfl, NQ19, eQ19⟩ := hQQ19
  have MQ19 := Fr.app (N3) NQ19
  obtain ⟨TY19, XY19, eY19, stY19⟩ := castY XQ19 hx hZL19 hownL19 (hw _ (List.mem_of_getElem? (i := 45) rfl)) eQ19 (Ins.self S2_L19) (g := (mkF m 24 #[.val (.ref a), .val (.ref t1), .val (.ref t2), .val (.int st), .val (.ref t3)] [(.ref t2), (.ref a)])) rfl rfl (hb hby dI_24)
  obtain ⟨T5, h5, X5, e5, W5, st5⟩ := putF XY19 hx hZL19 hownL19 (host := "") (Or.inl (hw _ (List.mem_of_getElem? (i := 49) rfl))) Via.refl eY19 F2_L19 E_L19 (Or.inr ⟨(hw _ (List.mem_of_getElem? (i := 50) rfl)), rfl, hnm⟩) (hw _ (List.mem_of_getElem? (i := 5) rfl)) (ty := (.object "java/lang/String")) (by decide) rfl rfl (g := (mkF m 27 #[.val (.ref a), .val (.ref t1), .val (.ref t2), .val (.int st), .val (.ref t3)] [(.ref t2), (.ref a)])) rfl rfl (hb hby dI_27)
  have Sf5 : Safe Z EL TL19.vm hL19 a := Safe.exa hZL19.alike E_L19 (by decide) (by decide)
  have R5 := RL19.trans (CHr.wr W5 Sf5 RL19.1)
  have F1_5 := (F1_L19).other W5 (Or.inr s12)
  have F2_5 := Fld.same W5 F2_L19
  have F3_5 := (F3_L19).other W5 (Or.inr s32)
  have F4_5 := (F4_L19).other W5 (Or.inr s42)
  have E_5 := E_L19.wr W5
  have S1_5 := S1_L19.wr W5
  have S2_5 := S2_L19.wr W5
  have S3_5 := S3_L19.wr W5
  have N5 := Fr.snoc X5 (MQ19) ge
  have K5 := KL19.wr W5 (Or.inl (List.mem_cons_self ..))
  have hk5 : kL19 ≤ h5.size := by rw [W5.size]; exact hkL19
  have sg6 : ∀ target, Steps p.tables e below (T5.setTop (mkF m 32 #[.val (.ref a), .val (.ref t1), .val (.ref t2), .val (.int st), .val (.ref t3)] [(.int st), (.ref a)])) target → Steps p.tables e below (T5.setTop (mkF m 30 #[.val (.ref a), .val (.ref t1), .val (.ref t2), .val (.int st), .val (.ref t3)] [])) target := by
    intro target kt
    show Steps p.tables e below (T5.setTop (mkF m 30 #[.val (.ref a), .val (.ref t1), .val (.ref t2), .val (.int st), .val (.ref t3)] [])) _
    refine XS.aloadN X5.here hx rfl (hb hby dI_30) rfl rfl ?_
    show Steps p.tables e below (T5.setTop (mkF m 31 #[.val (.ref a), .val (.ref t1), .val (.ref t2), .val (.int st), .val (.ref t3)] [(.ref a)])) _
    refine XS.iloadN X5.here hx rfl (hb hby dI_31) rfl ?_
    show Steps p.tables e below (T5.setTop (mkF m 32 #[.val (.ref a), .val (.ref t1), .val (.ref t2), .val (.int st), .val (.ref t3)] [(.int st), (.ref a)])) _
    exact kt
  obtain ⟨T7, h7, X7, e7, W7, st7⟩ := putF X5 hx hZL19 hownL19 (host := "") (Or.inl (hw _ (List.mem_of_getElem? (i := 51) rfl))) Via.refl e5 F3_5 E_5 (Or.inr ⟨(hw _ (List.mem_of_getElem? (i := 52) rfl)), rfl, hnm⟩) (hw _ (List.mem_of_getElem? (i := 5) rfl)) (ty := .int) (by decide) rfl rfl (g := (mkF m 32 #[.val (.ref a), .val (.ref t1), .val (.ref t2), .val (.int st), .val (.ref t3)] [(.int st), (.ref a)])) rfl rfl (hb hby dI_32)
  have Sf7 : Safe Z EL TL19.vm h5 a := Safe.exa hZL19.alike E_5 (by decide) (by decide)
  have R7 := R5.trans (CHr.wr W7 Sf7 R5.1)
  have F1_7 := (F1_5).other W7 (Or.inr s13)
  have F2_7 := (F2_5).other W7 (Or.inr s23)
  have F3_7 := Fld.same W7 F3_5
  have F4_7 := (F4_5).other W7 (Or.inr s43)
  have E_7 := E_5.wr W7
  have S1_7 := S1_5.wr W7
  have S2_7 := S2_5.wr W7
  have S3_7 := S3_5.wr W7
  have N7 := Fr.snoc X7 (N5) ge
  have K7 := K5.wr W7 (Or.inl (List.mem_cons_self ..))
  have hk7 : kL19 ≤ h7.size := by rw [W7.size]; exact hk5
  have sg8 : ∀ target, Steps p.tables e below (T7.setTop (mkF m 38 #[.val (.ref a), .val (.ref t1), .val (.ref t2), .val (.int st), .val (.ref t3)] [(.ref t3), (.ref a)])) target → Steps p.tables e below (T7.setTop (mkF m 35 #[.val (.ref a), .val (.ref t1), .val (.ref t2), .val (.int st), .val (.ref t3)] [])) target := by
    intro target kt
    show Steps p.tables e below (T7.setTop (mkF m 35 #[.val (.ref a), .val (.ref t1), .val (.ref t2), .val (.int st), .val (.ref t3)] [])) _
    refine XS.aloadN X7.here hx rfl (hb hby dI_35) rfl rfl ?_
    show Steps p.tables e below (T7.setTop (mkF m 36 #[.val (.ref a), .val (.ref t1), .val (.ref t2), .val (.int st), .val (.ref t3)] [(.ref a)])) _
    refine XS.aload X7.here hx rfl (hb hby dI_36) rfl rfl ?_
    show Steps p.tables e below (T7.setTop (mkF m 38 #[.val (.ref a), .val (.ref t1), .val (.ref t2), .val (.int st), .val (.ref t3)] [(.ref t3), (.ref a)])) _
    exact kt
  obtain ⟨uL38, TL38, hL38, kL38, XL38, eL38, EL38, hSL38, hkL38, hZL38, hownL38, R0L38, -, stL38⟩ := ldcOH (vm0 := TL19.vm) (text := "referer") X7 hx hZL19 hownL19 (hw _ (List.mem_of_getElem? (i := 53) rfl)) hwS e7 hSL19 hk7 hEL R7.1 (g := (mkF m 38 #[.val (.ref a), .val (.ref t1), .val (.ref t2), .val (.int st), .val (.ref t3)] [(.ref t3), (.ref a)])) rfl (hb hby dI_38) (n := 28) (by decide) (by decide) (by decide) (by decide)
  have RL38 := R7.trans R0L38
  have F1_L38 := F1_7.ext EL38
  have F2_L38 := F2_7.ext EL38
  have F3_L38 := F3_7.ext EL38
  have F4_L38 := F4_7.ext EL38
  have E_L38 := E_7.ext EL38
  have S1_L38 := S1_7.ext EL38
  have S2_L38 := S2_7.ext EL38
  have S3_L38 := S3_7.ext EL38
  have KL38 := K7.ext EL38
  obtain ⟨_, _, ⟨TQ38, LQ38, kQ38, nQ38⟩, -, XQ38, ⟨LcQ38, hQQ38, lQ38, yQ38, zQ38⟩, stQ38⟩ := Jvm.LawKit.callS XL38 hx (y := (⟨"java/util/Objects", "requireNonNull", "(Ljava/lang/Object;Ljava/lang/String;)Ljava/lang/Object;"⟩ : MethodName)) hownL38 (mvT hZL38 (hw _ (List.mem_of_getElem? (i := 41) rfl))) (mvT hZL38 (hw _ (List.mem_of_getElem? (i := 42) rfl))) (mvT hZL38 (hw _ (List.mem_of_getElem? (i := 43) rfl))) (mvT hZL38 (hw _ (List.mem_of_getElem? (i := 44) rfl))) (by decide) (backOf (W := 1) (rmN l Z a0 hw t3 uL38 hL38 n0) hZL38 (hw _ (List.mem_of_getElem? (i := 44) rfl)) (hw _ (List.mem_of_getElem? (i := 43) rfl)) (by decide) (by decide)) (g := (mkF m 40 #[.val (.ref a), .val (.ref t1), .val (.ref t2), .val (.int st), .val (.ref t3)] [(.ref uL38), (.ref t3), (.ref a)])) rfl (by rw [hml]; rfl) (argsL := [(.ref t3), (.ref uL38)]) (rest := [(.ref a)]) (lenOf pdN rfl) rfl (by show 2 * 0 + _ ≤ _; exact Nat.le_of_eq rfl) (hb hby dI_40) (fun _ _ => ⟨rfl, eL38, Nat.le_of_ble_eq_true rfl, Nat.le_of_ble_eq_true rfl⟩)
  dsimp only [Pt.U, Pt.locs, Pt.cells, Pt.slots] at XQ38 lQ38 yQ38 zQ38 stQ38 hQQ38
  subst lQ38 yQ38 zQ38
  obtain ⟨rfl, NQ38, eQ38⟩ := hQQ38
  have MQ38 := Fr.app (N7) NQ38
  obtain ⟨TY38, XY38, eY38, stY38⟩ := castY XQ38 hx hZL38 hownL38 (hw _ (List.mem_of_getElem? (i := 45) rfl)) eQ38 (Ins.self S3_L38) (g := (mkF m 43 #[.val (.ref a), .val (.ref t1), .val (.ref t2), .val (.int st), .val (.ref t3)] [(.ref t3), (.ref a)])) rfl rfl (hb hby dI_43)
  obtain ⟨T9, h9, X9, e9, W9, st9⟩ := putF XY38 hx hZL38 hownL38 (host := "") (Or.inl (hw _ (List.mem_of_getElem? (i := 54) rfl))) Via.refl eY38 F4_L38 E_L38 (Or.inr ⟨(hw _ (List.mem_of_getElem? (i := 55) rfl)), rfl, hnm⟩) (hw _ (List.mem_of_getElem? (i := 5) rfl)) (ty := (.object "java/lang/String")) (by decide) rfl rfl (g := (mkF m 46 #[.val (.ref a), .val (.ref t1), .val (.ref t2), .val (.int st), .val (.ref t3)] [(.ref t3), (.ref a)])) rfl rfl (hb hby dI_46)
  have Sf9 : Safe Z EL TL38.vm hL38 a := Safe.exa hZL38.alike E_L38 (by decide) (by decide)
  have R9 := RL38.trans (CHr.wr W9 Sf9 RL38.1)
  have F1_9 := (F1_L38).other W9 (Or.inr s14)
  have F2_9 := (F2_L38).other W9 (Or.inr s24)
  have F3_9 := (F3_L38).other W9 (Or.inr s34)
  have F4_9 := Fld.same W9 F4_L38
  have E_9 := E_L38.wr W9
  have S1_9 := S1_L38.wr W9
  have S2_9 := S2_L38.wr W9
  have S3_9 := S3_L38.wr W9
  have N9 := Fr.snoc X9 (MQ38) ge
  have K9 := KL38.wr W9 (Or.inl (List.mem_cons_self ..))
  have hk9 : kL38 ≤ h9.size := by rw [W9.size]; exact hkL38
  have RE := R9.trans (CHv.at X9 hZL38 hEL R9.1)
  obtain ⟨fs, hr, hrun, hended, hW⟩ := X9.leaveW hSL38 (by rw [e9]; exact hk9) (v := none) (fun _ => rfl)
  refine ⟨_, _, castTop (efI m a t1 t2 st t3) ?_, hrun, hended, _, _, rfl, ?_, ?_, own_w hW (by decide) (by decide)⟩
  · show Steps p.tables e below (s₁.setTop (mkF m 0 #[.val (.ref a), .val (.ref t1), .val (.ref t2), .val (.int st), .val (.ref t3)] [])) _
    refine sg1 _ ?_
    show Steps p.tables e below (s₁.setTop (mkF m 1 #[.val (.ref a), .val (.ref t1), .val (.ref t2), .val (.int st), .val (.ref t3)] [(.ref a)])) _
    refine st0 _ ?_
    show Steps p.tables e below (T0.setTop (mkF m 4 #[.val (.ref a), .val (.ref t1), .val (.ref t2), .val (.int st), .val (.ref t3)] [])) _
    refine sg2 _ ?_
    show Steps p.tables e below (T0.setTop (mkF m 6 #[.val (.ref a), .val (.ref t1), .val (.ref t2), .val (.int st), .val (.ref t3)] [(.ref t1), (.ref a)])) _
    refine stL6 _ ?_
    show Steps p.tables e below (TL6.setTop (mkF m 8 #[.val (.ref a), .val (.ref t1), .val (.ref t2), .val (.int st), .val (.ref t3)] [(.ref uL6), (.ref t1), (.ref a)])) _
    refine stQ6 _ ?_
    show Steps p.tables e below (TQ6.setTop (mkF m 11 #[.val (.ref a), .val (.ref t1), .val (.ref t2), .val (.int st), .val (.ref t3)] [(.ref t1), (.ref a)])) _
    refine stY6 _ ?_
    show Steps p.tables e below (TY6.setTop (mkF m 14 #[.val (.ref a), .val (.ref t1), .val (.ref t2), .val (.int st), .val (.ref t3)] [(.ref t1), (.ref a)])) _
    refine st3 _ ?_
    show Steps p.tables e below (T3.setTop (mkF m 17 #[.val (.ref a), .val (.ref t1), .val (.ref t2), .val (.int st), .val (.ref t3)] [])) _
    refine sg4 _ ?_
    show Steps p.tables e below (T3.setTop (mkF m 19 #[.val (.ref a), .val (.ref t1), .val (.ref t2), .val (.int st), .val (.ref t3)] [(.ref t2), (.ref a)])) _
    refine stL19 _ ?_
    show Steps p.tables e below (TL19.setTop (mkF m 21 #[.val (.ref a), .val (.ref t1), .val (.ref t2), .val (.int st), .val (.ref t3)] [(.ref uL19), (.ref t2), (.ref a)])) _
    refine stQ19 _ ?_
    show Steps p.tables e below (TQ19.setTop (mkF m 24 #[.val (.ref a), .val (.ref t1), .val (.ref t2), .val (.int st), .val (.ref t3)] [(.ref t2), (.ref a)])) _
    refine stY19 _ ?_
    show Steps p.tables e below (TY19.setTop (mkF m 27 #[.val (.ref a), .val (.ref t1), .val (.ref t2), .val (.int st), .val (.ref t3)] [(.ref t2), (.ref a)])) _
    refine st5 _ ?_
    show Steps p.tables e below (T5.setTop (mkF m 30 #[.val (.ref a), .val (.ref t1), .val (.ref t2), .val (.int st), .val (.ref t3)] [])) _
    refine sg6 _ ?_
    show Steps p.tables e below (T5.setTop (mkF m 32 #[.val (.ref a), .val (.ref t1), .val (.ref t2), .val (.int st), .val (.ref t3)] [(.int st), (.ref a)])) _
    refine st7 _ ?_
    show Steps p.tables e below (T7.setTop (mkF m 35 #[.val (.ref a), .val (.ref t1), .val (.ref t2), .val (.int st), .val (.ref t3)] [])) _
    refine sg8 _ ?_
    show Steps p.tables e below (T7.setTop (mkF m 38 #[.val (.ref a), .val (.ref t1), .val (.ref t2), .val (.int st), .val (.ref t3)] [(.ref t3), (.ref a)])) _
    refine stL38 _ ?_
    show Steps p.tables e below (TL38.setTop (mkF m 40 #[.val (.ref a), .val (.ref t1), .val (.ref t2), .val (.int st), .val (.ref t3)] [(.ref uL38), (.ref t3), (.ref a)])) _
    refine stQ38 _ ?_
    show Steps p.tables e below (TQ38.setTop (mkF m 43 #[.val (.ref a), .val (.ref t1), .val (.ref t2), .val (.int st), .val (.ref t3)] [(.ref t3), (.ref a)])) _
    refine stY38 _ ?_
    show Steps p.tables e below (TY38.setTop (mkF m 46 #[.val (.ref a), .val (.ref t1), .val (.ref t2), .val (.int st), .val (.ref t3)] [(.ref t3), (.ref a)])) _
    refine st9 _ ?_
    show Steps p.tables e below (T9.setTop (mkF m 49 #[.val (.ref a), .val (.ref t1), .val (.ref t2), .val (.int st), .val (.ref t3)] [])) _
    exact X9.returnOut hx Bd.returns (hb hby dI_49) hr
  · show own_QI Z a t1 t2 t3 st h0 n0 none T9.heap _
    rw [e9]
    exact ⟨rfl, N9, K9, E_9, F1_9, F2_9, F3_9, F4_9⟩
  · show CHr Z EL s.vm s.heap T9.vm T9.heap
    rw [hh, e9]; exact RE
theorem dQ_0 : decode prog_65_method_6_code 0 = .ok (.aload_n 1, 1) := by decide +kernel
theorem dQ_1 : decode prog_65_method_6_code 1 = .ok (.instanceof 18, 3) := by decide +kernel
theorem dQ_4 : decode prog_65_method_6_code 4 = .ok (.ifCond .eq 65, 3) := by decide +kernel
theorem dQ_7 : decode prog_65_method_6_code 7 = .ok (.aload_n 1, 1) := by decide +kernel
theorem dQ_8 : decode prog_65_method_6_code 8 = .ok (.checkcast 18, 3) := by decide +kernel
theorem dQ_11 : decode prog_65_method_6_code 11 = .ok (.astore_n 2, 1) := by decide +kernel
theorem dQ_12 : decode prog_65_method_6_code 12 = .ok (.aload_n 0, 1) := by decide +kernel
theorem dQ_13 : decode prog_65_method_6_code 13 = .ok (.getfield 17, 3) := by decide +kernel
theorem dQ_16 : decode prog_65_method_6_code 16 = .ok (.aload_n 2, 1) := by decide +kernel
theorem dQ_17 : decode prog_65_method_6_code 17 = .ok (.getfield 17, 3) := by decide +kernel
theorem dQ_20 : decode prog_65_method_6_code 20 = .ok (.invokevirtual 34, 3) := by decide +kernel
theorem dQ_23 : decode prog_65_method_6_code 23 = .ok (.ifCond .eq 46, 3) := by decide +kernel
theorem dQ_26 : decode prog_65_method_6_code 26 = .ok (.aload_n 0, 1) := by decide +kernel
theorem dQ_27 : decode prog_65_method_6_code 27 = .ok (.getfield 24, 3) := by decide +kernel
theorem dQ_30 : decode prog_65_method_6_code 30 = .ok (.aload_n 2, 1) := by decide +kernel
theorem dQ_31 : decode prog_65_method_6_code 31 = .ok (.getfield 24, 3) := by decide +kernel
theorem dQ_34 : decode prog_65_method_6_code 34 = .ok (.invokevirtual 34, 3) := by decide +kernel
theorem dQ_37 : decode prog_65_method_6_code 37 = .ok (.ifCond .eq 32, 3) := by decide +kernel
theorem dQ_40 : decode prog_65_method_6_code 40 = .ok (.aload_n 0, 1) := by decide +kernel
theorem dQ_41 : decode prog_65_method_6_code 41 = .ok (.getfield 26, 3) := by decide +kernel
theorem dQ_44 : decode prog_65_method_6_code 44 = .ok (.aload_n 2, 1) := by decide +kernel
theorem dQ_45 : decode prog_65_method_6_code 45 = .ok (.getfield 26, 3) := by decide +kernel
theorem dQ_48 : decode prog_65_method_6_code 48 = .ok (.if_icmp .ne 21, 3) := by decide +kernel
theorem dQ_51 : decode prog_65_method_6_code 51 = .ok (.aload_n 0, 1) := by decide +kernel
theorem dQ_52 : decode prog_65_method_6_code 52 = .ok (.getfield 32, 3) := by decide +kernel
theorem dQ_55 : decode prog_65_method_6_code 55 = .ok (.aload_n 2, 1) := by decide +kernel
theorem dQ_56 : decode prog_65_method_6_code 56 = .ok (.getfield 32, 3) := by decide +kernel
theorem dQ_59 : decode prog_65_method_6_code 59 = .ok (.invokevirtual 34, 3) := by decide +kernel
theorem dQ_62 : decode prog_65_method_6_code 62 = .ok (.ifCond .eq 7, 3) := by decide +kernel
theorem dQ_65 : decode prog_65_method_6_code 65 = .ok (.iconst 1, 1) := by decide +kernel
theorem dQ_66 : decode prog_65_method_6_code 66 = .ok (.goto 4, 3) := by decide +kernel
theorem dQ_69 : decode prog_65_method_6_code 69 = .ok (.iconst 0, 1) := by decide +kernel
theorem dQ_70 : decode prog_65_method_6_code 70 = .ok (.ireturn, 1) := by decide +kernel
theorem efQ (m : MethodId) (x0 : Addr) (x1 : Addr) : entryFrame m #[(.ref x0), (.ref x1)] 3 = mkF m 0 #[.val (.ref x0), .val (.ref x1), .unset] [] := by first | (simp [entryFrame, mkF, argsToLocals, Value.category, maxLocals]; done) | rfl
theorem efQn (m : MethodId) (x0 : Addr) : entryFrame m #[(.ref x0), .null] 3 = mkF m 0 #[.val (.ref x0), .val .null, .unset] [] := by first | (simp [entryFrame, mkF, argsToLocals, Value.category]; done) | rfl
theorem pdQ : parseMethodDescriptor "(Ljava/lang/Object;)Z" = some ⟨[(.object "java/lang/Object")], some .boolean⟩ := by decide +kernel
set_option maxRecDepth 65536 in
set_option maxHeartbeats 40000000 in
theorem rmQn (l : Launch) (Z : State) (a0 : Array Value) (hw : ∀ d ∈ tables_1, d.before a0 Z = true) (a : Addr) (h0 : Heap) (n0 : Nat) :
    MetFree l (⟨"com/example/nephila/nephila/usage/Request", "equals", "(Ljava/lang/Object;)Z"⟩ : MethodName) (head1 [Jvm.Cond.code (⟨"com/example/nephila/nephila/usage/Request", "equals", "(Ljava/lang/Object;)Z"⟩ : MethodName) prog_65_method_6_code 3 (some .boolean)] ({ frames := 3, cells := 0, slots := 0, locals := 60 } : Room)) (fun q_ U => q_ = #[(.ref a), .null] ∧ Z.Warmed39 U.vm ∧ U.heap = h0) (fun _ _ _ _ _ => True) (fun _ U o U' => ∃ v L, o = .returned v ∧ own_QS n0 (.int 0) h0 v U'.heap L ∧ FrameEnd U o U' L ({ frames := 3, cells := 0, slots := 0, locals := 60 } : Room).cells ({ frames := 3, cells := 0, slots := 0, locals := 60 } : Room).slots) := by
  refine MetFree.of_bodySF (plainFor_of_name pn_R) hisR ?_
  intro p e s m args below meth c s₁ Bd hml0 hP hK
  obtain ⟨rfl, hZ, hh⟩ := hP
  have hx := Bd.exec
  have hby := Bd.bytes
  have hml : c.maxLocals = 3 := hml0
  have hown : s.vm.findClass "com/example/nephila/nephila/usage/Request" = some m.cls := findClass_of_methodNamed Bd.named
  have hnm := (name_of_methodNamed Bd.named Bd.method).1
  have X0 : Stand p l e ({ frames := 3, cells := 0, slots := 0, locals := 60 } : Room) s m #[(.ref a), .null] below meth c s₁ [] 0 0 := Stand.of_body Bd
  have e0 : s₁.heap = h0 := by rw [← hh, Bd.state]; rfl
  have sg1 : ∀ target, Steps p.tables e below (s₁.setTop (mkF m 1 #[.val (.ref a), .val .null, .unset] [.null])) target → Steps p.tables e below (s₁.setTop (mkF m 0 #[.val (.ref a), .val .null, .unset] [])) target := by
    intro target kt
    show Steps p.tables e below (s₁.setTop (mkF m 0 #[.val (.ref a), .val .null, .unset] [])) _
    refine XS.aloadN X0.here hx rfl (hb hby dQ_0) rfl rfl ?_
    show Steps p.tables e below (s₁.setTop (mkF m 1 #[.val (.ref a), .val .null, .unset] [.null])) _
    exact kt
  have st1 := X0.instanceofNull hx (g := (mkF m 1 #[.val (.ref a), .val .null, .unset] [.null])) rfl rfl (hb hby dQ_1)
  have sg2 : ∀ target, Steps p.tables e below (s₁.setTop (mkF m 70 #[.val (.ref a), .val .null, .unset] [(.int (0 : Int32))])) target → Steps p.tables e below (s₁.setTop (mkF m 4 #[.val (.ref a), .val .null, .unset] [(.int (0 : Int32))])) target := by
    intro target kt
    show Steps p.tables e below (s₁.setTop (mkF m 4 #[.val (.ref a), .val .null, .unset] [(.int (0 : Int32))])) _
    refine XS.ifYes X0.here hx rfl (pc0 := 4) (pc' := 69) rfl (hb hby dQ_4) rfl (by decide) (by decide) (by decide) ?_
    show Steps p.tables e below (s₁.setTop (mkF m 69 #[.val (.ref a), .val .null, .unset] [])) _
    refine XS.iconst X0.here hx rfl (hb hby dQ_69) ?_
    show Steps p.tables e below (s₁.setTop (mkF m 70 #[.val (.ref a), .val .null, .unset] [(.int (0 : Int32))])) _
    exact kt
  obtain ⟨fs, hr, hrun, hended, hW, hsame⟩ := X0.leave (v := some (.int (0 : Int32))) (fun h => by rw [Bd.returns] at h; cases h)
  refine ⟨_, _, castTop (efQn m a) ?_, hrun, hended, _, _, rfl, ?_, ⟨_, rfl⟩, hW, hsame.mono (by decide) (by decide)⟩
  · show Steps p.tables e below (s₁.setTop (mkF m 0 #[.val (.ref a), .val .null, .unset] [])) _
    refine sg1 _ ?_
    show Steps p.tables e below (s₁.setTop (mkF m 1 #[.val (.ref a), .val .null, .unset] [.null])) _
    refine st1 _ ?_
    show Steps p.tables e below (s₁.setTop (mkF m 4 #[.val (.ref a), .val .null, .unset] [(.int (0 : Int32))])) _
    refine sg2 _ ?_
    show Steps p.tables e below (s₁.setTop (mkF m 70 #[.val (.ref a), .val .null, .unset] [(.int (0 : Int32))])) _
    exact retN X0 hx (t := .boolean) Bd.returns (by simp) (hb hby dQ_70) hr
  · show _
    exact ⟨rfl, Fr.nil n0, e0⟩
theorem own_noReq {Z : State} {a0 : Array Value} (hw : ∀ d ∈ tables_1, d.before a0 Z = true) : ∃ c t, Z.vm.findClass "java/lang/Integer" = some c ∧ Z.vm.findClass "com/example/nephila/nephila/usage/Request" = some t ∧ Z.vm.assignable c t = false := by
  have w := (hw _ (List.mem_of_getElem? (i := 112) rfl))
  have wn := (hw _ (List.mem_of_getElem? (i := 113) rfl))
  have wo := (hw _ (List.mem_of_getElem? (i := 114) rfl))
  have wk := (hw _ (List.mem_of_getElem? (i := 5) rfl))
  obtain ⟨c0, k0, i1, i2, i3, -, -⟩ := Cond.noSuperclass_spec wo
  obtain ⟨t, kt, g1, g2, g3, g4, g5, g6⟩ := Cond.instantiable_spec wk
  have n0 : NS Z "java/lang/Object" "com/example/nephila/nephila/usage/Request" := ⟨c0, t, i1, g1, fun fuel => by
    have ne := ids_ne i1 g1 (by decide)
    cases fuel with
    | zero => rfl
    | succ f => simp [Vm.isSubclassAux, ne, i2, i3]⟩
  obtain ⟨c, t', h0, g0, n3⟩ := NS.step w (NS.step wn n0 (by decide)) (by decide)
  cases g0.symm.trans g1
  obtain ⟨p, k, kp, h1, h2, h3, h4, h5, -, h7⟩ := Cond.superclass_spec h0 w
  have ne := ids_ne h0 g0 (by decide)
  refine ⟨c, t, h0, g0, ?_⟩
  show Z.vm.assignableAux (255 + 1) c t = false
  have gi := (Bool.or_eq_false_iff.mp g4).1
  simp [Vm.assignableAux, ne, h2, g2, h5, g3, gi, Vm.isSubclass, n3]
set_option maxRecDepth 65536 in
set_option maxHeartbeats 40000000 in
theorem rmQi (l : Launch) (Z : State) (a0 : Array Value) (hw : ∀ d ∈ tables_1, d.before a0 Z = true) (a t : Addr) (h0 : Heap) (n0 : Nat) (Et : Exa Z h0 t "java/lang/Integer") :
    MetFree l (⟨"com/example/nephila/nephila/usage/Request", "equals", "(Ljava/lang/Object;)Z"⟩ : MethodName) (head1 [Jvm.Cond.code (⟨"com/example/nephila/nephila/usage/Request", "equals", "(Ljava/lang/Object;)Z"⟩ : MethodName) prog_65_method_6_code 3 (some .boolean)] ({ frames := 3, cells := 0, slots := 0, locals := 60 } : Room)) (fun q_ U => q_ = #[(.ref a), (.ref t)] ∧ Z.Warmed39 U.vm ∧ U.heap = h0) (fun _ _ _ _ _ => True) (fun _ U o U' => ∃ v L, o = .returned v ∧ own_QS n0 (.int 0) h0 v U'.heap L ∧ FrameEnd U o U' L ({ frames := 3, cells := 0, slots := 0, locals := 60 } : Room).cells ({ frames := 3, cells := 0, slots := 0, locals := 60 } : Room).slots) := by
  refine MetFree.of_bodySF (plainFor_of_name pn_R) hisR ?_
  intro p e s m args below meth c s₁ Bd hml0 hP hK
  obtain ⟨rfl, hZ, hh⟩ := hP
  have hx := Bd.exec
  have hby := Bd.bytes
  have hml : c.maxLocals = 3 := hml0
  have hown : s.vm.findClass "com/example/nephila/nephila/usage/Request" = some m.cls := findClass_of_methodNamed Bd.named
  have hnm := (name_of_methodNamed Bd.named Bd.method).1
  have X0 : Stand p l e ({ frames := 3, cells := 0, slots := 0, locals := 60 } : Room) s m #[(.ref a), (.ref t)] below meth c s₁ [] 0 0 := Stand.of_body Bd
  have e0 : s₁.heap = h0 := by rw [← hh, Bd.state]; rfl
  have sg1 : ∀ target, Steps p.tables e below (s₁.setTop (mkF m 1 #[.val (.ref a), .val (.ref t), .unset] [(.ref t)])) target → Steps p.tables e below (s₁.setTop (mkF m 0 #[.val (.ref a), .val (.ref t), .unset] [])) target := by
    intro target kt
    show Steps p.tables e below (s₁.setTop (mkF m 0 #[.val (.ref a), .val (.ref t), .unset] [])) _
    refine XS.aloadN X0.here hx rfl (hb hby dQ_0) rfl rfl ?_
    show Steps p.tables e below (s₁.setTop (mkF m 1 #[.val (.ref a), .val (.ref t), .unset] [(.ref t)])) _
    exact kt
  obtain ⟨T1, X1, e1, st1⟩ := instNo X0 hx hZ hown (hw _ (List.mem_of_getElem? (i := 79) rfl)) e0 Et (own_noReq hw) (g := (mkF m 1 #[.val (.ref a), .val (.ref t), .unset] [(.ref t)])) rfl rfl (hb hby dQ_1)
  have sg2 : ∀ target, Steps p.tables e below (T1.setTop (mkF m 70 #[.val (.ref a), .val (.ref t), .unset] [(.int (0 : Int32))])) target → Steps p.tables e below (T1.setTop (mkF m 4 #[.val (.ref a), .val (.ref t), .unset] [(.int (0 : Int32))])) target := by
    intro target kt
    show Steps p.tables e below (T1.setTop (mkF m 4 #[.val (.ref a), .val (.ref t), .unset] [(.int (0 : Int32))])) _
    refine XS.ifYes X1.here hx rfl (pc0 := 4) (pc' := 69) rfl (hb hby dQ_4) rfl (by decide) (by decide) (by decide) ?_
    show Steps p.tables e below (T1.setTop (mkF m 69 #[.val (.ref a), .val (.ref t), .unset] [])) _
    refine XS.iconst X1.here hx rfl (hb hby dQ_69) ?_
    show Steps p.tables e below (T1.setTop (mkF m 70 #[.val (.ref a), .val (.ref t), .unset] [(.int (0 : Int32))])) _
    exact kt
  obtain ⟨fs, hr, hrun, hended, hW, hsame⟩ := X1.leave (v := some (.int (0 : Int32))) (fun h => by rw [Bd.returns] at h; cases h)
  refine ⟨_, _, castTop (efQ m a t) ?_, hrun, hended, _, _, rfl, ?_, ⟨_, rfl⟩, hW, hsame.mono (by decide) (by decide)⟩
  · show Steps p.tables e below (s₁.setTop (mkF m 0 #[.val (.ref a), .val (.ref t), .unset] [])) _
    refine sg1 _ ?_
    show Steps p.tables e below (s₁.setTop (mkF m 1 #[.val (.ref a), .val (.ref t), .unset] [(.ref t)])) _
    refine st1 _ ?_
    show Steps p.tables e below (T1.setTop (mkF m 4 #[.val (.ref a), .val (.ref t), .unset] [(.int (0 : Int32))])) _
    refine sg2 _ ?_
    show Steps p.tables e below (T1.setTop (mkF m 70 #[.val (.ref a), .val (.ref t), .unset] [(.int (0 : Int32))])) _
    exact retN X1 hx (t := .boolean) Bd.returns (by simp) (hb hby dQ_70) hr
  · show _
    exact ⟨rfl, Fr.nil n0, e1⟩
/-- what Request.equals answers -/
def own_req (A1 A2 A3 B1 B2 B3 : List Int32) (s t : Int32) : Int32 := if A1 = B1 ∧ A2 = B2 ∧ s = t ∧ A3 = B3 then 1 else 0
theorem own_req_c (A1 A2 A3 B1 B2 B3 : List Int32) (s t : Int32) : own_req A1 A2 A3 B1 B2 B3 s t = own_req B1 B2 B3 A1 A2 A3 t s := by
  unfold own_req
  by_cases h : A1 = B1 ∧ A2 = B2 ∧ s = t ∧ A3 = B3
  · rw [if_pos h, if_pos ⟨h.1.symm, h.2.1.symm, h.2.2.1.symm, h.2.2.2.symm⟩]
  · rw [if_neg h, if_neg (fun q => h ⟨q.1.symm, q.2.1.symm, q.2.2.1.symm, q.2.2.2.symm⟩)]
set_option maxRecDepth 65536 in
set_option maxHeartbeats 40000000 in
theorem rmQ (l : Launch) (Z : State) (a0 : Array Value) (hw : ∀ d ∈ tables_1, d.before a0 Z = true) (a b : Addr) (x1 x2 x3 y1 y2 y3 : Addr) (sa sb : Int32) (A1 A2 A3 B1 B2 B3 : List Int32) (h0 : Heap) (n0 : Nat) (G : Int32) (O : Sta Z h0 "java/lang/String" "COMPACT_STRINGS" "Z" (.int G)) (hG : ¬ G = 0) (Ra : own_Req Z h0 a x1 x2 x3 sa) (Rb : own_Req Z h0 b y1 y2 y3 sb) (lx1 : own_lat A1) (ly1 : own_lat B1) (hx1 : A1.length ≤ 4000) (hy1 : B1.length ≤ 4000) (Sx1 : own_Str Z h0 x1 A1) (Sy1 : own_Str Z h0 y1 B1) (lx2 : own_lat A2) (ly2 : own_lat B2) (hx2 : A2.length ≤ 4000) (hy2 : B2.length ≤ 4000) (Sx2 : own_Str Z h0 x2 A2) (Sy2 : own_Str Z h0 y2 B2) (lx3 : own_lat A3) (ly3 : own_lat B3) (hx3 : A3.length ≤ 4000) (hy3 : B3.length ≤ 4000) (Sx3 : own_Str Z h0 x3 A3) (Sy3 : own_Str Z h0 y3 B3) :
    MetFree l (⟨"com/example/nephila/nephila/usage/Request", "equals", "(Ljava/lang/Object;)Z"⟩ : MethodName) (head1 [Jvm.Cond.code (⟨"com/example/nephila/nephila/usage/Request", "equals", "(Ljava/lang/Object;)Z"⟩ : MethodName) prog_65_method_6_code 3 (some .boolean)] ({ frames := 3, cells := 0, slots := 0, locals := 60 } : Room)) (fun q_ U => q_ = #[(.ref a), (.ref b)] ∧ Z.Warmed39 U.vm ∧ U.heap = h0) (fun _ _ _ _ _ => True) (fun _ U o U' => ∃ v L, o = .returned v ∧ own_QS n0 (.int (own_req A1 A2 A3 B1 B2 B3 sa sb)) h0 v U'.heap L ∧ FrameEnd U o U' L ({ frames := 3, cells := 0, slots := 0, locals := 60 } : Room).cells ({ frames := 3, cells := 0, slots := 0, locals := 60 } : Room).slots) := by
  refine MetFree.of_bodySF (plainFor_of_name pn_R) hisR ?_
  intro p e s m args below meth c s₁ Bd hml0 hP hK
  obtain ⟨rfl, hZ, hh⟩ := hP
  have hx := Bd.exec
  have hby := Bd.bytes
  have hml : c.maxLocals = 3 := hml0
  have hown : s.vm.findClass "com/example/nephila/nephila/usage/Request" = some m.cls := findClass_of_methodNamed Bd.named
  have hnm := (name_of_methodNamed Bd.named Bd.method).1
  have X0 : Stand p l e ({ frames := 3, cells := 0, slots := 0, locals := 60 } : Room) s m #[(.ref a), (.ref b)] below meth c s₁ [] 0 0 := Stand.of_body Bd
  have e0 : s₁.heap = h0 := by rw [← hh, Bd.state]; rfl
  obtain ⟨Ea, Fa1, Fa2, Fas, Fa3⟩ := Ra
  obtain ⟨Eb, Fb1, Fb2, Fbs, Fb3⟩ := Rb
  have heq : ∀ d ∈ StrChars.Road.wordsEq, d.before a0 Z = true := fun d hd => hw d (own_heq d hd)
  have sg1 : ∀ target, Steps p.tables e below (s₁.setTop (mkF m 1 #[.val (.ref a), .val (.ref b), .unset] [(.ref b)])) target → Steps p.tables e below (s₁.setTop (mkF m 0 #[.val (.ref a), .val (.ref b), .unset] [])) target := by
    intro target kt
    show Steps p.tables e below (s₁.setTop (mkF m 0 #[.val (.ref a), .val (.ref b), .unset] [])) _
    refine XS.aloadN X0.here hx rfl (hb hby dQ_0) rfl rfl ?_
    show Steps p.tables e below (s₁.setTop (mkF m 1 #[.val (.ref a), .val (.ref b), .unset] [(.ref b)])) _
    exact kt
  obtain ⟨T1, X1, e1, st1⟩ := instY X0 hx hZ hown (hw _ (List.mem_of_getElem? (i := 79) rfl)) e0 (Ins.self Eb) (g := (mkF m 1 #[.val (.ref a), .val (.ref b), .unset] [(.ref b)])) rfl rfl (hb hby dQ_1)
  have sg2 : ∀ target, Steps p.tables e below (T1.setTop (mkF m 8 #[.val (.ref a), .val (.ref b), .unset] [(.ref b)])) target → Steps p.tables e below (T1.setTop (mkF m 4 #[.val (.ref a), .val (.ref b), .unset] [(.int (1 : Int32))])) target := by
    intro target kt
    show Steps p.tables e below (T1.setTop (mkF m 4 #[.val (.ref a), .val (.ref b), .unset] [(.int (1 : Int32))])) _
    refine XS.ifNo X1.here hx rfl (hb hby dQ_4) rfl (by decide) ?_
    show Steps p.tables e below (T1.setTop (mkF m 7 #[.val (.ref a), .val (.ref b), .unset] [])) _
    refine XS.aloadN X1.here hx rfl (hb hby dQ_7) rfl rfl ?_
    show Steps p.tables e below (T1.setTop (mkF m 8 #[.val (.ref a), .val (.ref b), .unset] [(.ref b)])) _
    exact kt
  obtain ⟨T2, X2, e2, st2⟩ := castY X1 hx hZ hown (hw _ (List.mem_of_getElem? (i := 79) rfl)) e1 (Ins.self Eb) (g := (mkF m 8 #[.val (.ref a), .val (.ref b), .unset] [(.ref b)])) rfl rfl (hb hby dQ_8)
  have sg3 : ∀ target, Steps p.tables e below (T2.setTop (mkF m 13 #[.val (.ref a), .val (.ref b), .val (.ref b)] [(.ref a)])) target → Steps p.tables e below (T2.setTop (mkF m 11 #[.val (.ref a), .val (.ref b), .unset] [(.ref b)])) target := by
    intro target kt
    show Steps p.tables e below (T2.setTop (mkF m 11 #[.val (.ref a), .val (.ref b), .unset] [(.ref b)])) _
    refine XS.astoreN X2.here hx rfl (hb hby dQ_11) rfl rfl (l' := #[.val (.ref a), .val (.ref b), .val (.ref b)]) rfl ?_
    show Steps p.tables e below (T2.setTop (mkF m 12 #[.val (.ref a), .val (.ref b), .val (.ref b)] [])) _
    refine XS.aloadN X2.here hx rfl (hb hby dQ_12) rfl rfl ?_
    show Steps p.tables e below (T2.setTop (mkF m 13 #[.val (.ref a), .val (.ref b), .val (.ref b)] [(.ref a)])) _
    exact kt
  obtain ⟨T4, X4, e4, st4⟩ := getF X2 hx hZ hown (host := "") (Or.inl (hw _ (List.mem_of_getElem? (i := 46) rfl))) Via.refl e2 Fa1 (g := (mkF m 13 #[.val (.ref a), .val (.ref b), .val (.ref b)] [(.ref a)])) rfl rfl (hb hby dQ_13)
  have sg5 : ∀ target, Steps p.tables e below (T4.setTop (mkF m 17 #[.val (.ref a), .val (.ref b), .val (.ref b)] [(.ref b), (.ref x1)])) target → Steps p.tables e below (T4.setTop (mkF m 16 #[.val (.ref a), .val (.ref b), .val (.ref b)] [(.ref x1)])) target := by
    intro target kt
    show Steps p.tables e below (T4.setTop (mkF m 16 #[.val (.ref a), .val (.ref b), .val (.ref b)] [(.ref x1)])) _
    refine XS.aloadN X4.here hx rfl (hb hby dQ_16) rfl rfl ?_
    show Steps p.tables e below (T4.setTop (mkF m 17 #[.val (.ref a), .val (.ref b), .val (.ref b)] [(.ref b), (.ref x1)])) _
    exact kt
  obtain ⟨T6, X6, e6, st6⟩ := getF X4 hx hZ hown (host := "") (Or.inl (hw _ (List.mem_of_getElem? (i := 46) rfl))) Via.refl e4 Fb1 (g := (mkF m 17 #[.val (.ref a), .val (.ref b), .val (.ref b)] [(.ref b), (.ref x1)])) rfl rfl (hb hby dQ_17)
  obtain ⟨Ex1, Cx1, tx1, kx1, Vx1, Kx1⟩ := Sx1
  obtain ⟨Ey1, Cy1, ty1, ky1, Vy1, Ky1⟩ := Sy1
  obtain ⟨cqS1, kqS1, qaS1, qbS1, qcS1⟩ := isOf hZ e6 Ex1
  obtain ⟨_, _, ⟨TS1, LS1, kS1, nS1⟩, -, XS1, ⟨LcS1, hQS1, lS1, yS1, zS1⟩, stS1⟩ := X6.virtualBack hx (y := (⟨"java/lang/String", "equals", "(Ljava/lang/Object;)Z"⟩ : MethodName)) (z := (⟨"java/lang/String", "equals", "(Ljava/lang/Object;)Z"⟩ : MethodName)) hown (mvT hZ (hw _ (List.mem_of_getElem? (i := 81) rfl))) (mvT hZ (hw _ (List.mem_of_getElem? (i := 82) rfl))) (notFace_of_selects (args := #[]) (mvT hZ (hw _ (List.mem_of_getElem? (i := 84) rfl)))) (mvT hZ (hw _ (List.mem_of_getElem? (i := 84) rfl))) (mvT hZ (hw _ (List.mem_of_getElem? (i := 83) rfl))) (by decide) (StrChars.Road.eqW (W := 0) hZ heq (kI := 4) (hw _ (List.mem_of_getElem? (i := 15) rfl)) Ex1 Vx1 Cx1 Kx1 (own_cod lx1) (own_up lx1) hx1 Ey1 Vy1 Cy1 Ky1 (own_cod ly1) (own_up ly1) hy1 O hG (by decide) (by decide)) qaS1 qcS1 (g := (mkF m 20 #[.val (.ref a), .val (.ref b), .val (.ref b)] [(.ref y1), (.ref x1)])) rfl (by rw [hml]; rfl) (Steps.refl _) (argsL := [(.ref y1)]) (rest := []) (lenOf pdQ rfl) rfl (by show 2 * 0 + _ ≤ _; exact Nat.le_of_eq rfl) (hb hby dQ_20) (fun _ _ => ⟨rfl, e6, Nat.le_of_ble_eq_true rfl, Nat.le_of_ble_eq_true rfl⟩)
  dsimp only [Pt.U, Pt.locs, Pt.cells, Pt.slots] at XS1 lS1 yS1 zS1 stS1 hQS1
  subst lS1 yS1 zS1
  obtain ⟨hvS1, rfl, eS1⟩ := hQS1
  rcases hvS1 with ⟨rfl, q1⟩ | ⟨rfl, q1⟩
  rotate_left
  · rw [show own_req A1 A2 A3 B1 B2 B3 sa sb = 0 from if_neg (fun z => q1 z.1)]
    have sg7 : ∀ target, Steps p.tables e below (TS1.setTop (mkF m 70 #[.val (.ref a), .val (.ref b), .val (.ref b)] [(.int (0 : Int32))])) target → Steps p.tables e below (TS1.setTop (mkF m 23 #[.val (.ref a), .val (.ref b), .val (.ref b)] [(.int (0 : Int32))])) target := by
      intro target kt
      show Steps p.tables e below (TS1.setTop (mkF m 23 #[.val (.ref a), .val (.ref b), .val (.ref b)] [(.int (0 : Int32))])) _
      refine XS.ifYes XS1.here hx rfl (pc0 := 23) (pc' := 69) rfl (hb hby dQ_23) rfl (by decide) (by decide) (by decide) ?_
      show Steps p.tables e below (TS1.setTop (mkF m 69 #[.val (.ref a), .val (.ref b), .val (.ref b)] [])) _
      refine XS.iconst XS1.here hx rfl (hb hby dQ_69) ?_
      show Steps p.tables e below (TS1.setTop (mkF m 70 #[.val (.ref a), .val (.ref b), .val (.ref b)] [(.int (0 : Int32))])) _
      exact kt
    obtain ⟨fs, hr, hrun, hended, hW, hsame⟩ := XS1.leave (v := some (.int (0 : Int32))) (fun h => by rw [Bd.returns] at h; cases h)
    refine ⟨_, _, castTop (efQ m a b) ?_, hrun, hended, _, _, rfl, ?_, ⟨_, rfl⟩, hW, hsame.mono (by decide) (by decide)⟩
    · show Steps p.tables e below (s₁.setTop (mkF m 0 #[.val (.ref a), .val (.ref b), .unset] [])) _
      refine sg1 _ ?_
      show Steps p.tables e below (s₁.setTop (mkF m 1 #[.val (.ref a), .val (.ref b), .unset] [(.ref b)])) _
      refine st1 _ ?_
      show Steps p.tables e below (T1.setTop (mkF m 4 #[.val (.ref a), .val (.ref b), .unset] [(.int (1 : Int32))])) _
      refine sg2 _ ?_
      show Steps p.tables e below (T1.setTop (mkF m 8 #[.val (.ref a), .val (.ref b), .unset] [(.ref b)])) _
      refine st2 _ ?_
      show Steps p.tables e below (T2.setTop (mkF m 11 #[.val (.ref a), .val (.ref b), .unset] [(.ref b)])) _
      refine sg3 _ ?_
      show Steps p.tables e below (T2.setTop (mkF m 13 #[.val (.ref a), .val (.ref b), .val (.ref b)] [(.ref a)])) _
      refine st4 _ ?_
      show Steps p.tables e below (T4.setTop (mkF m 16 #[.val (.ref a), .val (.ref b), .val (.ref b)] [(.ref x1)])) _
      refine sg5 _ ?_
      show Steps p.tables e below (T4.setTop (mkF m 17 #[.val (.ref a), .val (.ref b), .val (.ref b)] [(.ref b), (.ref x1)])) _
      refine st6 _ ?_
      show Steps p.tables e below (T6.setTop (mkF m 20 #[.val (.ref a), .val (.ref b), .val (.ref b)] [(.ref y1), (.ref x1)])) _
      refine stS1.trans ?_
      show Steps p.tables e below (TS1.setTop (mkF m 23 #[.val (.ref a), .val (.ref b), .val (.ref b)] [(.int (0 : Int32))])) _
      refine sg7 _ ?_
      show Steps p.tables e below (TS1.setTop (mkF m 70 #[.val (.ref a), .val (.ref b), .val (.ref b)] [(.int (0 : Int32))])) _
      exact retN XS1 hx (t := .boolean) Bd.returns (by simp) (hb hby dQ_70) hr
    · show _
      exact ⟨rfl, Fr.nil n0, eS1⟩
  have sg7 : ∀ target, Steps p.tables e below (TS1.setTop (mkF m 27 #[.val (.ref a), .val (.ref b), .val (.ref b)] [(.ref a)])) target → Steps p.tables e below (TS1.setTop (mkF m 23 #[.val (.ref a), .val (.ref b), .val (.ref b)] [(.int (1 : Int32))])) target := by
    intro target kt
    show Steps p.tables e below (TS1.setTop (mkF m 23 #[.val (.ref a), .val (.ref b), .val (.ref b)] [(.int (1 : Int32))])) _
    refine XS.ifNo XS1.here hx rfl (hb hby dQ_23) rfl (by decide) ?_
    show Steps p.tables e below (TS1.setTop (mkF m 26 #[.val (.ref a), .val (.ref b), .val (.ref b)] [])) _
    refine XS.aloadN XS1.here hx rfl (hb hby dQ_26) rfl rfl ?_
    show Steps p.tables e below (TS1.setTop (mkF m 27 #[.val (.ref a), .val (.ref b), .val (.ref b)] [(.ref a)])) _
    exact kt
  obtain ⟨T8, X8, e8, st8⟩ := getF XS1 hx hZ hown (host := "") (Or.inl (hw _ (List.mem_of_getElem? (i := 49) rfl))) Via.refl eS1 Fa2 (g := (mkF m 27 #[.val (.ref a), .val (.ref b), .val (.ref b)] [(.ref a)])) rfl rfl (hb hby dQ_27)
  have sg9 : ∀ target, Steps p.tables e below (T8.setTop (mkF m 31 #[.val (.ref a), .val (.ref b), .val (.ref b)] [(.ref b), (.ref x2)])) target → Steps p.tables e below (T8.setTop (mkF m 30 #[.val (.ref a), .val (.ref b), .val (.ref b)] [(.ref x2)])) target := by
    intro target kt
    show Steps p.tables e below (T8.setTop (mkF m 30 #[.val (.ref a), .val (.ref b), .val (.ref b)] [(.ref x2)])) _
    refine XS.aloadN X8.here hx rfl (hb hby dQ_30) rfl rfl ?_
    show Steps p.tables e below (T8.setTop (mkF m 31 #[.val (.ref a), .val (.ref b), .val (.ref b)] [(.ref b), (.ref x2)])) _
    exact kt
  obtain ⟨T10, X10, e10, st10⟩ := getF X8 hx hZ hown (host := "") (Or.inl (hw _ (List.mem_of_getElem? (i := 49) rfl))) Via.refl e8 Fb2 (g := (mkF m 31 #[.val (.ref a), .val (.ref b), .val (.ref b)] [(.ref b), (.ref x2)])) rfl rfl (hb hby dQ_31)
  obtain ⟨Ex2, Cx2, tx2, kx2, Vx2, Kx2⟩ := Sx2
  obtain ⟨Ey2, Cy2, ty2, ky2, Vy2, Ky2⟩ := Sy2
  obtain ⟨cqS2, kqS2, qaS2, qbS2, qcS2⟩ := isOf hZ e10 Ex2
  obtain ⟨_, _, ⟨TS2, LS2, kS2, nS2⟩, -, XS2, ⟨LcS2, hQS2, lS2, yS2, zS2⟩, stS2⟩ := X10.virtualBack hx (y := (⟨"java/lang/String", "equals", "(Ljava/lang/Object;)Z"⟩ : MethodName)) (z := (⟨"java/lang/String", "equals", "(Ljava/lang/Object;)Z"⟩ : MethodName)) hown (mvT hZ (hw _ (List.mem_of_getElem? (i := 81) rfl))) (mvT hZ (hw _ (List.mem_of_getElem? (i := 82) rfl))) (notFace_of_selects (args := #[]) (mvT hZ (hw _ (List.mem_of_getElem? (i := 84) rfl)))) (mvT hZ (hw _ (List.mem_of_getElem? (i := 84) rfl))) (mvT hZ (hw _ (List.mem_of_getElem? (i := 83) rfl))) (by decide) (StrChars.Road.eqW (W := 0) hZ heq (kI := 4) (hw _ (List.mem_of_getElem? (i := 15) rfl)) Ex2 Vx2 Cx2 Kx2 (own_cod lx2) (own_up lx2) hx2 Ey2 Vy2 Cy2 Ky2 (own_cod ly2) (own_up ly2) hy2 O hG (by decide) (by decide)) qaS2 qcS2 (g := (mkF m 34 #[.val (.ref a), .val (.ref b), .val (.ref b)] [(.ref y2), (.ref x2)])) rfl (by rw [hml]; rfl) (Steps.refl _) (argsL := [(.ref y2)]) (rest := []) (lenOf pdQ rfl) rfl (by show 2 * 0 + _ ≤ _; exact Nat.le_of_eq rfl) (hb hby dQ_34) (fun _ _ => ⟨rfl, e10, Nat.le_of_ble_eq_true rfl, Nat.le_of_ble_eq_true rfl⟩)
  dsimp only [Pt.U, Pt.locs, Pt.cells, Pt.slots] at XS2 lS2 yS2 zS2 stS2 hQS2
  subst lS2 yS2 zS2
  obtain ⟨hvS2, rfl, eS2⟩ := hQS2
  rcases hvS2 with ⟨rfl, q2⟩ | ⟨rfl, q2⟩
  rotate_left
  · rw [show own_req A1 A2 A3 B1 B2 B3 sa sb = 0 from if_neg (fun z => q2 z.2.1)]
    have sg11 : ∀ target, Steps p.tables e below (TS2.setTop (mkF m 70 #[.val (.ref a), .val (.ref b), .val (.ref b)] [(.int (0 : Int32))])) target → Steps p.tables e below (TS2.setTop (mkF m 37 #[.val (.ref a), .val (.ref b), .val (.ref b)] [(.int (0 : Int32))])) target := by
      intro target kt
      show Steps p.tables e below (TS2.setTop (mkF m 37 #[.val (.ref a), .val (.ref b), .val (.ref b)] [(.int (0 : Int32))])) _
      refine XS.ifYes XS2.here hx rfl (pc0 := 37) (pc' := 69) rfl (hb hby dQ_37) rfl (by decide) (by decide) (by decide) ?_
      show Steps p.tables e below (TS2.setTop (mkF m 69 #[.val (.ref a), .val (.ref b), .val (.ref b)] [])) _
      refine XS.iconst XS2.here hx rfl (hb hby dQ_69) ?_
      show Steps p.tables e below (TS2.setTop (mkF m 70 #[.val (.ref a), .val (.ref b), .val (.ref b)] [(.int (0 : Int32))])) _
      exact kt
    obtain ⟨fs, hr, hrun, hended, hW, hsame⟩ := XS2.leave (v := some (.int (0 : Int32))) (fun h => by rw [Bd.returns] at h; cases h)
    refine ⟨_, _, castTop (efQ m a b) ?_, hrun, hended, _, _, rfl, ?_, ⟨_, rfl⟩, hW, hsame.mono (by decide) (by decide)⟩
    · show Steps p.tables e below (s₁.setTop (mkF m 0 #[.val (.ref a), .val (.ref b), .unset] [])) _
      refine sg1 _ ?_
      show Steps p.tables e below (s₁.setTop (mkF m 1 #[.val (.ref a), .val (.ref b), .unset] [(.ref b)])) _
      refine st1 _ ?_
      show Steps p.tables e below (T1.setTop (mkF m 4 #[.val (.ref a), .val (.ref b), .unset] [(.int (1 : Int32))])) _
      refine sg2 _ ?_
      show Steps p.tables e below (T1.setTop (mkF m 8 #[.val (.ref a), .val (.ref b), .unset] [(.ref b)])) _
      refine st2 _ ?_
      show Steps p.tables e below (T2.setTop (mkF m 11 #[.val (.ref a), .val (.ref b), .unset] [(.ref b)])) _
      refine sg3 _ ?_
      show Steps p.tables e below (T2.setTop (mkF m 13 #[.val (.ref a), .val (.ref b), .val (.ref b)] [(.ref a)])) _
      refine st4 _ ?_
      show Steps p.tables e below (T4.setTop (mkF m 16 #[.val (.ref a), .val (.ref b), .val (.ref b)] [(.ref x1)])) _
      refine sg5 _ ?_
      show Steps p.tables e below (T4.setTop (mkF m 17 #[.val (.ref a), .val (.ref b), .val (.ref b)] [(.ref b), (.ref x1)])) _
      refine st6 _ ?_
      show Steps p.tables e below (T6.setTop (mkF m 20 #[.val (.ref a), .val (.ref b), .val (.ref b)] [(.ref y1), (.ref x1)])) _
      refine stS1.trans ?_
      show Steps p.tables e below (TS1.setTop (mkF m 23 #[.val (.ref a), .val (.ref b), .val (.ref b)] [(.int (1 : Int32))])) _
      refine sg7 _ ?_
      show Steps p.tables e below (TS1.setTop (mkF m 27 #[.val (.ref a), .val (.ref b), .val (.ref b)] [(.ref a)])) _
      refine st8 _ ?_
      show Steps p.tables e below (T8.setTop (mkF m 30 #[.val (.ref a), .val (.ref b), .val (.ref b)] [(.ref x2)])) _
      refine sg9 _ ?_
      show Steps p.tables e below (T8.setTop (mkF m 31 #[.val (.ref a), .val (.ref b), .val (.ref b)] [(.ref b), (.ref x2)])) _
      refine st10 _ ?_
      show Steps p.tables e below (T10.setTop (mkF m 34 #[.val (.ref a), .val (.ref b), .val (.ref b)] [(.ref y2), (.ref x2)])) _
      refine stS2.trans ?_
      show Steps p.tables e below (TS2.setTop (mkF m 37 #[.val (.ref a), .val (.ref b), .val (.ref b)] [(.int (0 : Int32))])) _
      refine sg11 _ ?_
      show Steps p.tables e below (TS2.setTop (mkF m 70 #[.val (.ref a), .val (.ref b), .val (.ref b)] [(.int (0 : Int32))])) _
      exact retN XS2 hx (t := .boolean) Bd.returns (by simp) (hb hby dQ_70) hr
    · show _
      exact ⟨rfl, Fr.nil n0, eS2⟩
  have sg11 : ∀ target, Steps p.tables e below (TS2.setTop (mkF m 41 #[.val (.ref a), .val (.ref b), .val (.ref b)] [(.ref a)])) target → Steps p.tables e below (TS2.setTop (mkF m 37 #[.val (.ref a), .val (.ref b), .val (.ref b)] [(.int (1 : Int32))])) target := by
    intro target kt
    show Steps p.tables e below (TS2.setTop (mkF m 37 #[.val (.ref a), .val (.ref b), .val (.ref b)] [(.int (1 : Int32))])) _
    refine XS.ifNo XS2.here hx rfl (hb hby dQ_37) rfl (by decide) ?_
    show Steps p.tables e below (TS2.setTop (mkF m 40 #[.val (.ref a), .val (.ref b), .val (.ref b)] [])) _
    refine XS.aloadN XS2.here hx rfl (hb hby dQ_40) rfl rfl ?_
    show Steps p.tables e below (TS2.setTop (mkF m 41 #[.val (.ref a), .val (.ref b), .val (.ref b)] [(.ref a)])) _
    exact kt
  obtain ⟨T12, X12, e12, st12⟩ := getF XS2 hx hZ hown (host := "") (Or.inl (hw _ (List.mem_of_getElem? (i := 51) rfl))) Via.refl eS2 Fas (g := (mkF m 41 #[.val (.ref a), .val (.ref b), .val (.ref b)] [(.ref a)])) rfl rfl (hb hby dQ_41)
  have sg13 : ∀ target, Steps p.tables e below (T12.setTop (mkF m 45 #[.val (.ref a), .val (.ref b), .val (.ref b)] [(.ref b), (.int sa)])) target → Steps p.tables e below (T12.setTop (mkF m 44 #[.val (.ref a), .val (.ref b), .val (.ref b)] [(.int sa)])) target := by
    intro target kt
    show Steps p.tables e below (T12.setTop (mkF m 44 #[.val (.ref a), .val (.ref b), .val (.ref b)] [(.int sa)])) _
    refine XS.aloadN X12.here hx rfl (hb hby dQ_44) rfl rfl ?_
    show Steps p.tables e below (T12.setTop (mkF m 45 #[.val (.ref a), .val (.ref b), .val (.ref b)] [(.ref b), (.int sa)])) _
    exact kt
  obtain ⟨T14, X14, e14, st14⟩ := getF X12 hx hZ hown (host := "") (Or.inl (hw _ (List.mem_of_getElem? (i := 51) rfl))) Via.refl e12 Fbs (g := (mkF m 45 #[.val (.ref a), .val (.ref b), .val (.ref b)] [(.ref b), (.int sa)])) rfl rfl (hb hby dQ_45)
  by_cases qs : sa = sb
  rotate_left
  · rw [show own_req A1 A2 A3 B1 B2 B3 sa sb = 0 from if_neg (fun z => qs z.2.2.1)]
    have sg15 : ∀ target, Steps p.tables e below (T14.setTop (mkF m 70 #[.val (.ref a), .val (.ref b), .val (.ref b)] [(.int (0 : Int32))])) target → Steps p.tables e below (T14.setTop (mkF m 48 #[.val (.ref a), .val (.ref b), .val (.ref b)] [(.int sb), (.int sa)])) target := by
      intro target kt
      show Steps p.tables e below (T14.setTop (mkF m 48 #[.val (.ref a), .val (.ref b), .val (.ref b)] [(.int sb), (.int sa)])) _
      refine XS.icmpYes X14.here hx rfl (pc0 := 48) (pc' := 69) rfl (hb hby dQ_48) rfl (feq qs).2 (by decide) (by decide) ?_
      show Steps p.tables e below (T14.setTop (mkF m 69 #[.val (.ref a), .val (.ref b), .val (.ref b)] [])) _
      refine XS.iconst X14.here hx rfl (hb hby dQ_69) ?_
      show Steps p.tables e below (T14.setTop (mkF m 70 #[.val (.ref a), .val (.ref b), .val (.ref b)] [(.int (0 : Int32))])) _
      exact kt
    obtain ⟨fs, hr, hrun, hended, hW, hsame⟩ := X14.leave (v := some (.int (0 : Int32))) (fun h => by rw [Bd.returns] at h; cases h)
    refine ⟨_, _, castTop (efQ m a b) ?_, hrun, hended, _, _, rfl, ?_, ⟨_, rfl⟩, hW, hsame.mono (by decide) (by decide)⟩
    · show Steps p.tables e below (s₁.setTop (mkF m 0 #[.val (.ref a), .val (.ref b), .unset] [])) _
      refine sg1 _ ?_
      show Steps p.tables e below (s₁.setTop (mkF m 1 #[.val (.ref a), .val (.ref b), .unset] [(.ref b)])) _
      refine st1 _ ?_
      show Steps p.tables e below (T1.setTop (mkF m 4 #[.val (.ref a), .val (.ref b), .unset] [(.int (1 : Int32))])) _
      refine sg2 _ ?_
      show Steps p.tables e below (T1.setTop (mkF m 8 #[.val (.ref a), .val (.ref b), .unset] [(.ref b)])) _
      refine st2 _ ?_
      show Steps p.tables e below (T2.setTop (mkF m 11 #[.val (.ref a), .val (.ref b), .unset] [(.ref b)])) _
      refine sg3 _ ?_
      show Steps p.tables e below (T2.setTop (mkF m 13 #[.val (.ref a), .val (.ref b), .val (.ref b)] [(.ref a)])) _
      refine st4 _ ?_
      show Steps p.tables e below (T4.setTop (mkF m 16 #[.val (.ref a), .val (.ref b), .val (.ref b)] [(.ref x1)])) _
      refine sg5 _ ?_
      show Steps p.tables e below (T4.setTop (mkF m 17 #[.val (.ref a), .val (.ref b), .val (.ref b)] [(.ref b), (.ref x1)])) _
      refine st6 _ ?_
      show Steps p.tables e below (T6.setTop (mkF m 20 #[.val (.ref a), .val (.ref b), .val (.ref b)] [(.ref y1), (.ref x1)])) _
      refine stS1.trans ?_
      show Steps p.tables e below (TS1.setTop (mkF m 23 #[.val (.ref a), .val (.ref b), .val (.ref b)] [(.int (1 : Int32))])) _
      refine sg7 _ ?_
      show Steps p.tables e below (TS1.setTop (mkF m 27 #[.val (.ref a), .val (.ref b), .val (.ref b)] [(.ref a)])) _
      refine st8 _ ?_
      show Steps p.tables e below (T8.setTop (mkF m 30 #[.val (.ref a), .val (.ref b), .val (.ref b)] [(.ref x2)])) _
      refine sg9 _ ?_
      show Steps p.tables e below (T8.setTop (mkF m 31 #[.val (.ref a), .val (.ref b), .val (.ref b)] [(.ref b), (.ref x2)])) _
      refine st10 _ ?_
      show Steps p.tables e below (T10.setTop (mkF m 34 #[.val (.ref a), .val (.ref b), .val (.ref b)] [(.ref y2), (.ref x2)])) _
      refine stS2.trans ?_
      show Steps p.tables e below (TS2.setTop (mkF m 37 #[.val (.ref a), .val (.ref b), .val (.ref b)] [(.int (1 : Int32))])) _
      refine sg11 _ ?_
      show Steps p.tables e below (TS2.setTop (mkF m 41 #[.val (.ref a), .val (.ref b), .val (.ref b)] [(.ref a)])) _
      refine st12 _ ?_
      show Steps p.tables e below (T12.setTop (mkF m 44 #[.val (.ref a), .val (.ref b), .val (.ref b)] [(.int sa)])) _
      refine sg13 _ ?_
      show Steps p.tables e below (T12.setTop (mkF m 45 #[.val (.ref a), .val (.ref b), .val (.ref b)] [(.ref b), (.int sa)])) _
      refine st14 _ ?_
      show Steps p.tables e below (T14.setTop (mkF m 48 #[.val (.ref a), .val (.ref b), .val (.ref b)] [(.int sb), (.int sa)])) _
      refine sg15 _ ?_
      show Steps p.tables e below (T14.setTop (mkF m 70 #[.val (.ref a), .val (.ref b), .val (.ref b)] [(.int (0 : Int32))])) _
      exact retN X14 hx (t := .boolean) Bd.returns (by simp) (hb hby dQ_70) hr
    · show _
      exact ⟨rfl, Fr.nil n0, e14⟩
  have sg15 : ∀ target, Steps p.tables e below (T14.setTop (mkF m 52 #[.val (.ref a), .val (.ref b), .val (.ref b)] [(.ref a)])) target → Steps p.tables e below (T14.setTop (mkF m 48 #[.val (.ref a), .val (.ref b), .val (.ref b)] [(.int sb), (.int sa)])) target := by
    intro target kt
    show Steps p.tables e below (T14.setTop (mkF m 48 #[.val (.ref a), .val (.ref b), .val (.ref b)] [(.int sb), (.int sa)])) _
    refine XS.icmpNo X14.here hx rfl (hb hby dQ_48) rfl (teq qs).2 ?_
    show Steps p.tables e below (T14.setTop (mkF m 51 #[.val (.ref a), .val (.ref b), .val (.ref b)] [])) _
    refine XS.aloadN X14.here hx rfl (hb hby dQ_51) rfl rfl ?_
    show Steps p.tables e below (T14.setTop (mkF m 52 #[.val (.ref a), .val (.ref b), .val (.ref b)] [(.ref a)])) _
    exact kt
  obtain ⟨T16, X16, e16, st16⟩ := getF X14 hx hZ hown (host := "") (Or.inl (hw _ (List.mem_of_getElem? (i := 54) rfl))) Via.refl e14 Fa3 (g := (mkF m 52 #[.val (.ref a), .val (.ref b), .val (.ref b)] [(.ref a)])) rfl rfl (hb hby dQ_52)
  have sg17 : ∀ target, Steps p.tables e below (T16.setTop (mkF m 56 #[.val (.ref a), .val (.ref b), .val (.ref b)] [(.ref b), (.ref x3)])) target → Steps p.tables e below (T16.setTop (mkF m 55 #[.val (.ref a), .val (.ref b), .val (.ref b)] [(.ref x3)])) target := by
    intro target kt
    show Steps p.tables e below (T16.setTop (mkF m 55 #[.val (.ref a), .val (.ref b), .val (.ref b)] [(.ref x3)])) _
    refine XS.aloadN X16.here hx rfl (hb hby dQ_55) rfl rfl ?_
    show Steps p.tables e below (T16.setTop (mkF m 56 #[.val (.ref a), .val (.ref b), .val (.ref b)] [(.ref b), (.ref x3)])) _
    exact kt
  obtain ⟨T18, X18, e18, st18⟩ := getF X16 hx hZ hown (host := "") (Or.inl (hw _ (List.mem_of_getElem? (i := 54) rfl))) Via.refl e16 Fb3 (g := (mkF m 56 #[.val (.ref a), .val (.ref b), .val (.ref b)] [(.ref b), (.ref x3)])) rfl rfl (hb hby dQ_56)
  obtain ⟨Ex3, Cx3, tx3, kx3, Vx3, Kx3⟩ := Sx3
  obtain ⟨Ey3, Cy3, ty3, ky3, Vy3, Ky3⟩ := Sy3
  obtain ⟨cqS3, kqS3, qaS3, qbS3, qcS3⟩ := isOf hZ e18 Ex3
  obtain ⟨_, _, ⟨TS3, LS3, kS3, nS3⟩, -, XS3, ⟨LcS3, hQS3, lS3, yS3, zS3⟩, stS3⟩ := X18.virtualBack hx (y := (⟨"java/lang/String", "equals", "(Ljava/lang/Object;)Z"⟩ : MethodName)) (z := (⟨"java/lang/String", "equals", "(Ljava/lang/Object;)Z"⟩ : MethodName)) hown (mvT hZ (hw _ (List.mem_of_getElem? (i := 81) rfl))) (mvT hZ (hw _ (List.mem_of_getElem? (i := 82) rfl))) (notFace_of_selects (args := #[]) (mvT hZ (hw _ (List.mem_of_getElem? (i := 84) rfl)))) (mvT hZ (hw _ (List.mem_of_getElem? (i := 84) rfl))) (mvT hZ (hw _ (List.mem_of_getElem? (i := 83) rfl))) (by decide) (StrChars.Road.eqW (W := 0) hZ heq (kI := 4) (hw _ (List.mem_of_getElem? (i := 15) rfl)) Ex3 Vx3 Cx3 Kx3 (own_cod lx3) (own_up lx3) hx3 Ey3 Vy3 Cy3 Ky3 (own_cod ly3) (own_up ly3) hy3 O hG (by decide) (by decide)) qaS3 qcS3 (g := (mkF m 59 #[.val (.ref a), .val (.ref b), .val (.ref b)] [(.ref y3), (.ref x3)])) rfl (by rw [hml]; rfl) (Steps.refl _) (argsL := [(.ref y3)]) (rest := []) (lenOf pdQ rfl) rfl (by show 2 * 0 + _ ≤ _; exact Nat.le_of_eq rfl) (hb hby dQ_59) (fun _ _ => ⟨rfl, e18, Nat.le_of_ble_eq_true rfl, Nat.le_of_ble_eq_true rfl⟩)
  dsimp only [Pt.U, Pt.locs, Pt.cells, Pt.slots] at XS3 lS3 yS3 zS3 stS3 hQS3
  subst lS3 yS3 zS3
  obtain ⟨hvS3, rfl, eS3⟩ := hQS3
  rcases hvS3 with ⟨rfl, q3⟩ | ⟨rfl, q3⟩
  rotate_left
  · rw [show own_req A1 A2 A3 B1 B2 B3 sa sb = 0 from if_neg (fun z => q3 z.2.2.2)]
    have sg19 : ∀ target, Steps p.tables e below (TS3.setTop (mkF m 70 #[.val (.ref a), .val (.ref b), .val (.ref b)] [(.int (0 : Int32))])) target → Steps p.tables e below (TS3.setTop (mkF m 62 #[.val (.ref a), .val (.ref b), .val (.ref b)] [(.int (0 : Int32))])) target := by
      intro target kt
      show Steps p.tables e below (TS3.setTop (mkF m 62 #[.val (.ref a), .val (.ref b), .val (.ref b)] [(.int (0 : Int32))])) _
      refine XS.ifYes XS3.here hx rfl (pc0 := 62) (pc' := 69) rfl (hb hby dQ_62) rfl (by decide) (by decide) (by decide) ?_
      show Steps p.tables e below (TS3.setTop (mkF m 69 #[.val (.ref a), .val (.ref b), .val (.ref b)] [])) _
      refine XS.iconst XS3.here hx rfl (hb hby dQ_69) ?_
      show Steps p.tables e below (TS3.setTop (mkF m 70 #[.val (.ref a), .val (.ref b), .val (.ref b)] [(.int (0 : Int32))])) _
      exact kt
    obtain ⟨fs, hr, hrun, hended, hW, hsame⟩ := XS3.leave (v := some (.int (0 : Int32))) (fun h => by rw [Bd.returns] at h; cases h)
    refine ⟨_, _, castTop (efQ m a b) ?_, hrun, hended, _, _, rfl, ?_, ⟨_, rfl⟩, hW, hsame.mono (by decide) (by decide)⟩
    · show Steps p.tables e below (s₁.setTop (mkF m 0 #[.val (.ref a), .val (.ref b), .unset] [])) _
      refine sg1 _ ?_
      show Steps p.tables e below (s₁.setTop (mkF m 1 #[.val (.ref a), .val (.ref b), .unset] [(.ref b)])) _
      refine st1 _ ?_
      show Steps p.tables e below (T1.setTop (mkF m 4 #[.val (.ref a), .val (.ref b), .unset] [(.int (1 : Int32))])) _
      refine sg2 _ ?_
      show Steps p.tables e below (T1.setTop (mkF m 8 #[.val (.ref a), .val (.ref b), .unset] [(.ref b)])) _
      refine st2 _ ?_
      show Steps p.tables e below (T2.setTop (mkF m 11 #[.val (.ref a), .val (.ref b), .unset] [(.ref b)])) _
      refine sg3 _ ?_
      show Steps p.tables e below (T2.setTop (mkF m 13 #[.val (.ref a), .val (.ref b), .val (.ref b)] [(.ref a)])) _
      refine st4 _ ?_
      show Steps p.tables e below (T4.setTop (mkF m 16 #[.val (.ref a), .val (.ref b), .val (.ref b)] [(.ref x1)])) _
      refine sg5 _ ?_
      show Steps p.tables e below (T4.setTop (mkF m 17 #[.val (.ref a), .val (.ref b), .val (.ref b)] [(.ref b), (.ref x1)])) _
      refine st6 _ ?_
      show Steps p.tables e below (T6.setTop (mkF m 20 #[.val (.ref a), .val (.ref b), .val (.ref b)] [(.ref y1), (.ref x1)])) _
      refine stS1.trans ?_
      show Steps p.tables e below (TS1.setTop (mkF m 23 #[.val (.ref a), .val (.ref b), .val (.ref b)] [(.int (1 : Int32))])) _
      refine sg7 _ ?_
      show Steps p.tables e below (TS1.setTop (mkF m 27 #[.val (.ref a), .val (.ref b), .val (.ref b)] [(.ref a)])) _
      refine st8 _ ?_
      show Steps p.tables e below (T8.setTop (mkF m 30 #[.val (.ref a), .val (.ref b), .val (.ref b)] [(.ref x2)])) _
      refine sg9 _ ?_
      show Steps p.tables e below (T8.setTop (mkF m 31 #[.val (.ref a), .val (.ref b), .val (.ref b)] [(.ref b), (.ref x2)])) _
      refine st10 _ ?_
      show Steps p.tables e below (T10.setTop (mkF m 34 #[.val (.ref a), .val (.ref b), .val (.ref b)] [(.ref y2), (.ref x2)])) _
      refine stS2.trans ?_
      show Steps p.tables e below (TS2.setTop (mkF m 37 #[.val (.ref a), .val (.ref b), .val (.ref b)] [(.int (1 : Int32))])) _
      refine sg11 _ ?_
      show Steps p.tables e below (TS2.setTop (mkF m 41 #[.val (.ref a), .val (.ref b), .val (.ref b)] [(.ref a)])) _
      refine st12 _ ?_
      show Steps p.tables e below (T12.setTop (mkF m 44 #[.val (.ref a), .val (.ref b), .val (.ref b)] [(.int sa)])) _
      refine sg13 _ ?_
      show Steps p.tables e below (T12.setTop (mkF m 45 #[.val (.ref a), .val (.ref b), .val (.ref b)] [(.ref b), (.int sa)])) _
      refine st14 _ ?_
      show Steps p.tables e below (T14.setTop (mkF m 48 #[.val (.ref a), .val (.ref b), .val (.ref b)] [(.int sb), (.int sa)])) _
      refine sg15 _ ?_
      show Steps p.tables e below (T14.setTop (mkF m 52 #[.val (.ref a), .val (.ref b), .val (.ref b)] [(.ref a)])) _
      refine st16 _ ?_
      show Steps p.tables e below (T16.setTop (mkF m 55 #[.val (.ref a), .val (.ref b), .val (.ref b)] [(.ref x3)])) _
      refine sg17 _ ?_
      show Steps p.tables e below (T16.setTop (mkF m 56 #[.val (.ref a), .val (.ref b), .val (.ref b)] [(.ref b), (.ref x3)])) _
      refine st18 _ ?_
      show Steps p.tables e below (T18.setTop (mkF m 59 #[.val (.ref a), .val (.ref b), .val (.ref b)] [(.ref y3), (.ref x3)])) _
      refine stS3.trans ?_
      show Steps p.tables e below (TS3.setTop (mkF m 62 #[.val (.ref a), .val (.ref b), .val (.ref b)] [(.int (0 : Int32))])) _
      refine sg19 _ ?_
      show Steps p.tables e below (TS3.setTop (mkF m 70 #[.val (.ref a), .val (.ref b), .val (.ref b)] [(.int (0 : Int32))])) _
      exact retN XS3 hx (t := .boolean) Bd.returns (by simp) (hb hby dQ_70) hr
    · show _
      exact ⟨rfl, Fr.nil n0, eS3⟩
  rw [show own_req A1 A2 A3 B1 B2 B3 sa sb = 1 from if_pos ⟨q1, q2, qs, q3⟩]
  have sg19 : ∀ target, Steps p.tables e below (TS3.setTop (mkF m 70 #[.val (.ref a), .val (.ref b), .val (.ref b)] [(.int (1 : Int32))])) target → Steps p.tables e below (TS3.setTop (mkF m 62 #[.val (.ref a), .val (.ref b), .val (.ref b)] [(.int (1 : Int32))])) target := by
    intro target kt
    show Steps p.tables e below (TS3.setTop (mkF m 62 #[.val (.ref a), .val (.ref b), .val (.ref b)] [(.int (1 : Int32))])) _
    refine XS.ifNo XS3.here hx rfl (hb hby dQ_62) rfl (by decide) ?_
    show Steps p.tables e below (TS3.setTop (mkF m 65 #[.val (.ref a), .val (.ref b), .val (.ref b)] [])) _
    refine XS.iconst XS3.here hx rfl (hb hby dQ_65) ?_
    show Steps p.tables e below (TS3.setTop (mkF m 66 #[.val (.ref a), .val (.ref b), .val (.ref b)] [(.int (1 : Int32))])) _
    refine XS.goto XS3.here hx rfl (pc0 := 66) (pc' := 70) rfl (hb hby dQ_66) (by decide) (by decide) ?_
    show Steps p.tables e below (TS3.setTop (mkF m 70 #[.val (.ref a), .val (.ref b), .val (.ref b)] [(.int (1 : Int32))])) _
    exact kt
  obtain ⟨fs, hr, hrun, hended, hW, hsame⟩ := XS3.leave (v := some (.int (1 : Int32))) (fun h => by rw [Bd.returns] at h; cases h)
  refine ⟨_, _, castTop (efQ m a b) ?_, hrun, hended, _, _, rfl, ?_, ⟨_, rfl⟩, hW, hsame.mono (by decide) (by decide)⟩
  · show Steps p.tables e below (s₁.setTop (mkF m 0 #[.val (.ref a), .val (.ref b), .unset] [])) _
    refine sg1 _ ?_
    show Steps p.tables e below (s₁.setTop (mkF m 1 #[.val (.ref a), .val (.ref b), .unset] [(.ref b)])) _
    refine st1 _ ?_
    show Steps p.tables e below (T1.setTop (mkF m 4 #[.val (.ref a), .val (.ref b), .unset] [(.int (1 : Int32))])) _
    refine sg2 _ ?_
    show Steps p.tables e below (T1.setTop (mkF m 8 #[.val (.ref a), .val (.ref b), .unset] [(.ref b)])) _
    refine st2 _ ?_
    show Steps p.tables e below (T2.setTop (mkF m 11 #[.val (.ref a), .val (.ref b), .unset] [(.ref b)])) _
    refine sg3 _ ?_
    show Steps p.tables e below (T2.setTop (mkF m 13 #[.val (.ref a), .val (.ref b), .val (.ref b)] [(.ref a)])) _
    refine st4 _ ?_
    show Steps p.tables e below (T4.setTop (mkF m 16 #[.val (.ref a), .val (.ref b), .val (.ref b)] [(.ref x1)])) _
    refine sg5 _ ?_
    show Steps p.tables e below (T4.setTop (mkF m 17 #[.val (.ref a), .val (.ref b), .val (.ref b)] [(.ref b), (.ref x1)])) _
    refine st6 _ ?_
    show Steps p.tables e below (T6.setTop (mkF m 20 #[.val (.ref a), .val (.ref b), .val (.ref b)] [(.ref y1), (.ref x1)])) _
    refine stS1.trans ?_
    show Steps p.tables e below (TS1.setTop (mkF m 23 #[.val (.ref a), .val (.ref b), .val (.ref b)] [(.int (1 : Int32))])) _
    refine sg7 _ ?_
    show Steps p.tables e below (TS1.setTop (mkF m 27 #[.val (.ref a), .val (.ref b), .val (.ref b)] [(.ref a)])) _
    refine st8 _ ?_
    show Steps p.tables e below (T8.setTop (mkF m 30 #[.val (.ref a), .val (.ref b), .val (.ref b)] [(.ref x2)])) _
    refine sg9 _ ?_
    show Steps p.tables e below (T8.setTop (mkF m 31 #[.val (.ref a), .val (.ref b), .val (.ref b)] [(.ref b), (.ref x2)])) _
    refine st10 _ ?_
    show Steps p.tables e below (T10.setTop (mkF m 34 #[.val (.ref a), .val (.ref b), .val (.ref b)] [(.ref y2), (.ref x2)])) _
    refine stS2.trans ?_
    show Steps p.tables e below (TS2.setTop (mkF m 37 #[.val (.ref a), .val (.ref b), .val (.ref b)] [(.int (1 : Int32))])) _
    refine sg11 _ ?_
    show Steps p.tables e below (TS2.setTop (mkF m 41 #[.val (.ref a), .val (.ref b), .val (.ref b)] [(.ref a)])) _
    refine st12 _ ?_
    show Steps p.tables e below (T12.setTop (mkF m 44 #[.val (.ref a), .val (.ref b), .val (.ref b)] [(.int sa)])) _
    refine sg13 _ ?_
    show Steps p.tables e below (T12.setTop (mkF m 45 #[.val (.ref a), .val (.ref b), .val (.ref b)] [(.ref b), (.int sa)])) _
    refine st14 _ ?_
    show Steps p.tables e below (T14.setTop (mkF m 48 #[.val (.ref a), .val (.ref b), .val (.ref b)] [(.int sb), (.int sa)])) _
    refine sg15 _ ?_
    show Steps p.tables e below (T14.setTop (mkF m 52 #[.val (.ref a), .val (.ref b), .val (.ref b)] [(.ref a)])) _
    refine st16 _ ?_
    show Steps p.tables e below (T16.setTop (mkF m 55 #[.val (.ref a), .val (.ref b), .val (.ref b)] [(.ref x3)])) _
    refine sg17 _ ?_
    show Steps p.tables e below (T16.setTop (mkF m 56 #[.val (.ref a), .val (.ref b), .val (.ref b)] [(.ref b), (.ref x3)])) _
    refine st18 _ ?_
    show Steps p.tables e below (T18.setTop (mkF m 59 #[.val (.ref a), .val (.ref b), .val (.ref b)] [(.ref y3), (.ref x3)])) _
    refine stS3.trans ?_
    show Steps p.tables e below (TS3.setTop (mkF m 62 #[.val (.ref a), .val (.ref b), .val (.ref b)] [(.int (1 : Int32))])) _
    refine sg19 _ ?_
    show Steps p.tables e below (TS3.setTop (mkF m 70 #[.val (.ref a), .val (.ref b), .val (.ref b)] [(.int (1 : Int32))])) _
    exact retN XS3 hx (t := .boolean) Bd.returns (by simp) (hb hby dQ_70) hr
  · show _
    exact ⟨rfl, Fr.nil n0, eS3⟩
theorem dM_0 : decode jdk_18_method_1_code 0 = .ok (.aload_n 0, 1) := by decide +kernel
theorem dM_1 : decode jdk_18_method_1_code 1 = .ok (.invokespecial 1, 3) := by decide +kernel
theorem dM_4 : decode jdk_18_method_1_code 4 = .ok (.return_, 1) := by decide +kernel
theorem efM (m : MethodId) (x0 : Addr) : entryFrame m #[(.ref x0)] 1 = mkF m 0 #[.val (.ref x0)] [] := by first | (simp [entryFrame, mkF, argsToLocals, Value.category, maxLocals]; done) | rfl
theorem pdM : parseMethodDescriptor "()V" = some ⟨[], none⟩ := by decide +kernel
def own_QM (n0 : Nat) (h0 : Heap) (v : Option Value) (h : Heap) (L : List Loc) : Prop := v = none ∧ Fr n0 L ∧ h = h0
set_option maxRecDepth 65536 in
set_option maxHeartbeats 40000000 in
theorem rmM (l : Launch) (Z : State) (a0 : Array Value) (hw : ∀ d ∈ tables_1, d.before a0 Z = true) (a : Addr) (h0 : Heap) (n0 : Nat) :
    MetFree l (⟨"java/lang/Number", "<init>", "()V"⟩ : MethodName) (head1 [Jvm.Cond.code (⟨"java/lang/Number", "<init>", "()V"⟩ : MethodName) jdk_18_method_1_code 1 none] ({ frames := 1, cells := 0, slots := 0, locals := 12 } : Room)) (fun q_ U => q_ = #[(.ref a)] ∧ Z.Warmed39 U.vm ∧ U.heap = h0) (fun _ _ _ _ _ => True) (fun _ U o U' => ∃ v L, o = .returned v ∧ own_QM n0 h0 v U'.heap L ∧ FrameEnd U o U' L ({ frames := 1, cells := 0, slots := 0, locals := 12 } : Room).cells ({ frames := 1, cells := 0, slots := 0, locals := 12 } : Room).slots) := by
  refine MetFree.of_bodySF (plainFor_of_name pn_N) hisR ?_
  intro p e s m args below meth c s₁ Bd hml0 hP hK
  obtain ⟨rfl, hZ, hh⟩ := hP
  have hx := Bd.exec
  have hby := Bd.bytes
  have hml : c.maxLocals = 1 := hml0
  have hown : s.vm.findClass "java/lang/Number" = some m.cls := findClass_of_methodNamed Bd.named
  have hnm := (name_of_methodNamed Bd.named Bd.method).1
  have X0 : Stand p l e ({ frames := 1, cells := 0, slots := 0, locals := 12 } : Room) s m #[(.ref a)] below meth c s₁ [] 0 0 := Stand.of_body Bd
  have e0 : s₁.heap = h0 := by rw [← hh, Bd.state]; rfl
  have sg1 : ∀ target, Steps p.tables e below (s₁.setTop (mkF m 1 #[.val (.ref a)] [(.ref a)])) target → Steps p.tables e below (s₁.setTop (mkF m 0 #[.val (.ref a)] [])) target := by
    intro target kt
    show Steps p.tables e below (s₁.setTop (mkF m 0 #[.val (.ref a)] [])) _
    refine XS.aloadN X0.here hx rfl (hb hby dM_0) rfl rfl ?_
    show Steps p.tables e below (s₁.setTop (mkF m 1 #[.val (.ref a)] [(.ref a)])) _
    exact kt
  obtain ⟨Ti2, Xi2, ei2, sti2⟩ := initO X0 hx hZ hown (hw _ (List.mem_of_getElem? (i := 109) rfl)) (hw _ (List.mem_of_getElem? (i := 26) rfl)) (hw _ (List.mem_of_getElem? (i := 27) rfl)) e0 (g := (mkF m 1 #[.val (.ref a)] [(.ref a)])) rfl (by rw [hml]; rfl) rfl (hb hby dM_1) (by decide) (W := 0) (by show 2 * 0 + _ ≤ _; exact Nat.le_of_eq rfl) (by decide)
  obtain ⟨fs, hr, hrun, hended, hW, hsame⟩ := Xi2.leave (v := none) (fun _ => rfl)
  refine ⟨_, _, castTop (efM m a) ?_, hrun, hended, _, _, rfl, ?_, ⟨_, rfl⟩, hW, hsame.mono (by decide) (by decide)⟩
  · show Steps p.tables e below (s₁.setTop (mkF m 0 #[.val (.ref a)] [])) _
    refine sg1 _ ?_
    show Steps p.tables e below (s₁.setTop (mkF m 1 #[.val (.ref a)] [(.ref a)])) _
    refine sti2 _ ?_
    show Steps p.tables e below (Ti2.setTop (mkF m 4 #[.val (.ref a)] [])) _
    exact Xi2.returnOut hx Bd.returns (hb hby dM_4) hr
  · show _
    exact ⟨rfl, Fr.nil n0, ei2⟩
theorem dJ_0 : decode jdk_33_method_23_code 0 = .ok (.aload_n 0, 1) := by decide +kernel
theorem dJ_1 : decode jdk_33_method_23_code 1 = .ok (.invokespecial 202, 3) := by decide +kernel
theorem dJ_4 : decode jdk_33_method_23_code 4 = .ok (.aload_n 0, 1) := by decide +kernel
theorem dJ_5 : decode jdk_33_method_23_code 5 = .ok (.iload_n 1, 1) := by decide +kernel
theorem dJ_6 : decode jdk_33_method_23_code 6 = .ok (.putfield 205, 3) := by decide +kernel
theorem dJ_9 : decode jdk_33_method_23_code 9 = .ok (.return_, 1) := by decide +kernel
theorem efJ (m : MethodId) (x0 : Addr) (x1 : Int32) : entryFrame m #[(.ref x0), (.int x1)] 2 = mkF m 0 #[.val (.ref x0), .val (.int x1)] [] := by first | (simp [entryFrame, mkF, argsToLocals, Value.category, maxLocals]; done) | rfl
theorem pdJ : parseMethodDescriptor "(I)V" = some ⟨[.int], none⟩ := by decide +kernel
def own_QJ (Z : State) (a : Addr) (n0 : Nat) (h0 : Heap) (v : Option Value) (h : Heap) (L : List Loc) : Prop := v = none ∧ Fr n0 L ∧ Keep h0 h [a] ∧ Exa Z h a "java/lang/Integer"
set_option maxRecDepth 65536 in
set_option maxHeartbeats 40000000 in
theorem rmJ (l : Launch) (Z : State) (a0 : Array Value) (hw : ∀ d ∈ tables_1, d.before a0 Z = true) (a : Addr) (i : Int32) (h0 : Heap) (n0 : Nat) (ge : n0 ≤ a) (Ea : Exa Z h0 a "java/lang/Integer") (Fa : Fld Z h0 a "java/lang/Integer" "value" "I" (.int (0 : Int32))) :
    MetFree l (⟨"java/lang/Integer", "<init>", "(I)V"⟩ : MethodName) (head1 [Jvm.Cond.code (⟨"java/lang/Integer", "<init>", "(I)V"⟩ : MethodName) jdk_33_method_23_code 2 none] ({ frames := 2, cells := 0, slots := 0, locals := 30 } : Room)) (fun q_ U => q_ = #[(.ref a), (.int i)] ∧ Z.Warmed39 U.vm ∧ U.heap = h0) (fun _ _ _ _ _ => True) (fun _ U o U' => ∃ v L, o = .returned v ∧ own_QJ Z a n0 h0 v U'.heap L ∧ FrameEnd U o U' L ({ frames := 2, cells := 0, slots := 0, locals := 30 } : Room).cells ({ frames := 2, cells := 0, slots := 0, locals := 30 } : Room).slots) := by
  refine MetFree.of_bodySF (plainFor_of_name pn_I) hisR ?_
  intro p e s m args below meth c s₁ Bd hml0 hP hK
  obtain ⟨rfl, hZ, hh⟩ := hP
  have hx := Bd.exec
  have hby := Bd.bytes
  have hml : c.maxLocals = 2 := hml0
  have hown : s.vm.findClass "java/lang/Integer" = some m.cls := findClass_of_methodNamed Bd.named
  have hnm := (name_of_methodNamed Bd.named Bd.method).1
  have X0 : Stand p l e ({ frames := 2, cells := 0, slots := 0, locals := 30 } : Room) s m #[(.ref a), (.int i)] below meth c s₁ [] 0 0 := Stand.of_body Bd
  have e0 : s₁.heap = h0 := by rw [← hh, Bd.state]; rfl
  have sg1 : ∀ target, Steps p.tables e below (s₁.setTop (mkF m 1 #[.val (.ref a), .val (.int i)] [(.ref a)])) target → Steps p.tables e below (s₁.setTop (mkF m 0 #[.val (.ref a), .val (.int i)] [])) target := by
    intro target kt
    show Steps p.tables e below (s₁.setTop (mkF m 0 #[.val (.ref a), .val (.int i)] [])) _
    refine XS.aloadN X0.here hx rfl (hb hby dJ_0) rfl rfl ?_
    show Steps p.tables e below (s₁.setTop (mkF m 1 #[.val (.ref a), .val (.int i)] [(.ref a)])) _
    exact kt
  obtain ⟨_, _, ⟨TA, LA, kA, nA⟩, -, XA, ⟨LcA, hQA, lA, yA, zA⟩, stA⟩ := X0.specialBack hx (y := (⟨"java/lang/Number", "<init>", "()V"⟩ : MethodName)) rfl hown (mvT hZ (hw _ (List.mem_of_getElem? (i := 103) rfl))) (mvT hZ (hw _ (List.mem_of_getElem? (i := 104) rfl))) (mvT hZ (hw _ (List.mem_of_getElem? (i := 108) rfl))) (by decide) (backOf (W := 0) (rmM l Z a0 hw a h0 n0) hZ (hw _ (List.mem_of_getElem? (i := 108) rfl)) (hw _ (List.mem_of_getElem? (i := 107) rfl)) (by decide) (by decide)) (g := (mkF m 1 #[.val (.ref a), .val (.int i)] [(.ref a)])) rfl (by rw [hml]; rfl) (Steps.refl _) (a := a) (argsL := []) (rest := []) (lenOf pdM rfl) rfl (by show 2 * 0 + _ ≤ _; exact Nat.le_of_eq rfl) (hb hby dJ_1) (fun _ _ => ⟨rfl, e0, Nat.le_of_ble_eq_true rfl, Nat.le_of_ble_eq_true rfl⟩)
  dsimp only [Pt.U, Pt.locs, Pt.cells, Pt.slots] at XA lA yA zA stA hQA
  subst lA yA zA
  obtain ⟨rfl, NA, eA⟩ := hQA
  have MA := Fr.app (Fr.nil n0) NA
  have sg2 : ∀ target, Steps p.tables e below (TA.setTop (mkF m 6 #[.val (.ref a), .val (.int i)] [(.int i), (.ref a)])) target → Steps p.tables e below (TA.setTop (mkF m 4 #[.val (.ref a), .val (.int i)] [])) target := by
    intro target kt
    show Steps p.tables e below (TA.setTop (mkF m 4 #[.val (.ref a), .val (.int i)] [])) _
    refine XS.aloadN XA.here hx rfl (hb hby dJ_4) rfl rfl ?_
    show Steps p.tables e below (TA.setTop (mkF m 5 #[.val (.ref a), .val (.int i)] [(.ref a)])) _
    refine XS.iloadN XA.here hx rfl (hb hby dJ_5) rfl ?_
    show Steps p.tables e below (TA.setTop (mkF m 6 #[.val (.ref a), .val (.int i)] [(.int i), (.ref a)])) _
    exact kt
  obtain ⟨T3, h3, X3, e3, W3, st3⟩ := putF XA hx hZ hown (host := "") (Or.inl (hw _ (List.mem_of_getElem? (i := 110) rfl))) Via.refl eA Fa Ea (Or.inr ⟨(hw _ (List.mem_of_getElem? (i := 111) rfl)), rfl, hnm⟩) (hw _ (List.mem_of_getElem? (i := 98) rfl)) (ty := .int) (by decide) rfl rfl (g := (mkF m 6 #[.val (.ref a), .val (.int i)] [(.int i), (.ref a)])) rfl rfl (hb hby dJ_6)
  have NW := Fr.snoc X3 (MA) ge
  obtain ⟨fs, hr, hrun, hended, hW, hsame⟩ := X3.leave (v := none) (fun _ => rfl)
  refine ⟨_, _, castTop (efJ m a i) ?_, hrun, hended, _, _, rfl, ?_, ⟨_, rfl⟩, hW, hsame.mono (by decide) (by decide)⟩
  · show Steps p.tables e below (s₁.setTop (mkF m 0 #[.val (.ref a), .val (.int i)] [])) _
    refine sg1 _ ?_
    show Steps p.tables e below (s₁.setTop (mkF m 1 #[.val (.ref a), .val (.int i)] [(.ref a)])) _
    refine stA.trans ?_
    show Steps p.tables e below (TA.setTop (mkF m 4 #[.val (.ref a), .val (.int i)] [])) _
    refine sg2 _ ?_
    show Steps p.tables e below (TA.setTop (mkF m 6 #[.val (.ref a), .val (.int i)] [(.int i), (.ref a)])) _
    refine st3 _ ?_
    show Steps p.tables e below (T3.setTop (mkF m 9 #[.val (.ref a), .val (.int i)] [])) _
    exact X3.returnOut hx Bd.returns (hb hby dJ_9) hr
  · show _
    exact by show own_QJ Z a n0 h0 none T3.heap _; rw [e3]; exact ⟨rfl, NW, (Keep.refl _ _).wr W3 (Or.inl (List.mem_cons_self ..)), Ea.wr W3⟩
theorem dV_0 : decode jdk_33_method_22_code 0 = .ok (.iload_n 0, 1) := by decide +kernel
theorem dV_1 : decode jdk_33_method_22_code 1 = .ok (.bipush (-128), 2) := by decide +kernel
theorem dV_3 : decode jdk_33_method_22_code 3 = .ok (.if_icmp .lt 20, 3) := by decide +kernel
theorem dV_6 : decode jdk_33_method_22_code 6 = .ok (.iload_n 0, 1) := by decide +kernel
theorem dV_7 : decode jdk_33_method_22_code 7 = .ok (.getstatic 191, 3) := by decide +kernel
theorem dV_10 : decode jdk_33_method_22_code 10 = .ok (.if_icmp .gt 13, 3) := by decide +kernel
theorem dV_13 : decode jdk_33_method_22_code 13 = .ok (.getstatic 195, 3) := by decide +kernel
theorem dV_16 : decode jdk_33_method_22_code 16 = .ok (.iload_n 0, 1) := by decide +kernel
theorem dV_17 : decode jdk_33_method_22_code 17 = .ok (.sipush 128, 3) := by decide +kernel
theorem dV_20 : decode jdk_33_method_22_code 20 = .ok (.iadd, 1) := by decide +kernel
theorem dV_21 : decode jdk_33_method_22_code 21 = .ok (.aaload, 1) := by decide +kernel
theorem dV_22 : decode jdk_33_method_22_code 22 = .ok (.areturn, 1) := by decide +kernel
theorem dV_23 : decode jdk_33_method_22_code 23 = .ok (.new 1, 3) := by decide +kernel
theorem dV_26 : decode jdk_33_method_22_code 26 = .ok (.dup, 1) := by decide +kernel
theorem dV_27 : decode jdk_33_method_22_code 27 = .ok (.iload_n 0, 1) := by decide +kernel
theorem dV_28 : decode jdk_33_method_22_code 28 = .ok (.invokespecial 199, 3) := by decide +kernel
theorem dV_31 : decode jdk_33_method_22_code 31 = .ok (.areturn, 1) := by decide +kernel
theorem efV (m : MethodId) (x0 : Int32) : entryFrame m #[(.int x0)] 1 = mkF m 0 #[.val (.int x0)] [] := by first | (simp [entryFrame, mkF, argsToLocals, Value.category, maxLocals]; done) | rfl
theorem pdV : parseMethodDescriptor "(I)Ljava/lang/Integer;" = some ⟨[.int], some (.object "java/lang/Integer")⟩ := by decide +kernel
def own_QV (Z : State) (n0 : Nat) (h0 : Heap) (v : Option Value) (h : Heap) (L : List Loc) : Prop := ∃ r, v = some (.ref r) ∧ Fr n0 L ∧ Ext h0 h ∧ Exa Z h r "java/lang/Integer"
set_option maxRecDepth 65536 in
set_option maxHeartbeats 40000000 in
theorem rmV (l : Launch) (Z : State) (a0 : Array Value) (hw : ∀ d ∈ tables_1, d.before a0 Z = true) (i : Int32) (h0 : Heap) (n0 : Nat) (Z0 : n0 ≤ h0.size) (ez : Ext Z.heap h0) (Sh : Sta Z Z.heap "java/lang/Integer$IntegerCache" "high" "I" (.int (127 : Int32))) (ca : Addr) (cc : Cell) (Sc : Sta Z Z.heap "java/lang/Integer$IntegerCache" "cache" "[Ljava/lang/Integer;" (.ref ca)) (val : Int32 → Value) (Bx : Bxs Z ca cc "java/lang/Integer" "I" (256 : Int32) val) :
    MetFree l (⟨"java/lang/Integer", "valueOf", "(I)Ljava/lang/Integer;"⟩ : MethodName) (head1 [Jvm.Cond.code (⟨"java/lang/Integer", "valueOf", "(I)Ljava/lang/Integer;"⟩ : MethodName) jdk_33_method_22_code 1 (some (.object "java/lang/Integer"))] ({ frames := 3, cells := 1, slots := 1, locals := 50 } : Room)) (fun q_ U => q_ = #[(.int i)] ∧ Z.Warmed39 U.vm ∧ U.heap = h0) (fun _ _ _ _ _ => True) (fun _ U o U' => ∃ v L, o = .returned v ∧ own_QV Z n0 h0 v U'.heap L ∧ FrameEnd U o U' L ({ frames := 3, cells := 1, slots := 1, locals := 50 } : Room).cells ({ frames := 3, cells := 1, slots := 1, locals := 50 } : Room).slots) := by
  refine MetFree.of_bodySF (plainFor_of_name pn_I) hisR ?_
  intro p e s m args below meth c s₁ Bd hml0 hP hK
  obtain ⟨rfl, hZ, hh⟩ := hP
  have hx := Bd.exec
  have hby := Bd.bytes
  have hml : c.maxLocals = 1 := hml0
  have hown : s.vm.findClass "java/lang/Integer" = some m.cls := findClass_of_methodNamed Bd.named
  have hnm := (name_of_methodNamed Bd.named Bd.method).1
  have X0 : Stand p l e ({ frames := 3, cells := 1, slots := 1, locals := 50 } : Room) s m #[(.int i)] below meth c s₁ [] 0 0 := Stand.of_body Bd
  have e0 : s₁.heap = h0 := by rw [← hh, Bd.state]; rfl
  by_cases h1 : i < -128
  · have sg1 : ∀ target, Steps p.tables e below (s₁.setTop (mkF m 23 #[.val (.int i)] [])) target → Steps p.tables e below (s₁.setTop (mkF m 0 #[.val (.int i)] [])) target := by
      intro target kt
      show Steps p.tables e below (s₁.setTop (mkF m 0 #[.val (.int i)] [])) _
      refine XS.iloadN X0.here hx rfl (hb hby dV_0) rfl ?_
      show Steps p.tables e below (s₁.setTop (mkF m 1 #[.val (.int i)] [(.int i)])) _
      refine XS.bipush X0.here hx rfl (hb hby dV_1) ?_
      show Steps p.tables e below (s₁.setTop (mkF m 3 #[.val (.int i)] [(.int (-128 : Int32)), (.int i)])) _
      refine XS.icmpYes X0.here hx rfl (pc0 := 3) (pc' := 23) rfl (hb hby dV_3) rfl (tlt h1).1 (by decide) (by decide) ?_
      show Steps p.tables e below (s₁.setTop (mkF m 23 #[.val (.int i)] [])) _
      exact kt
    obtain ⟨T2, h2, X2, e2, E2, A2, D2, -, st2⟩ := newO X0 hx hZ hown (hw _ (List.mem_of_getElem? (i := 97) rfl)) (hw _ (List.mem_of_getElem? (i := 98) rfl)) (hw _ (List.mem_of_getElem? (i := 95) rfl)) e0 (g := (mkF m 23 #[.val (.int i)] [])) rfl (hb hby dV_23) (by decide) (by decide)
    obtain ⟨a2, g2⟩ : ∃ z, z = h0.size := ⟨_, rfl⟩
    rw [← g2] at A2 D2 st2
    have sg3 : ∀ target, Steps p.tables e below (T2.setTop (mkF m 28 #[.val (.int i)] [(.int i), (.ref a2), (.ref a2)])) target → Steps p.tables e below (T2.setTop (mkF m 26 #[.val (.int i)] [(.ref a2)])) target := by
      intro target kt
      show Steps p.tables e below (T2.setTop (mkF m 26 #[.val (.int i)] [(.ref a2)])) _
      refine XS.dup X2.here hx rfl (hb hby dV_26) rfl rfl ?_
      show Steps p.tables e below (T2.setTop (mkF m 27 #[.val (.int i)] [(.ref a2), (.ref a2)])) _
      refine XS.iloadN X2.here hx rfl (hb hby dV_27) rfl ?_
      show Steps p.tables e below (T2.setTop (mkF m 28 #[.val (.int i)] [(.int i), (.ref a2), (.ref a2)])) _
      exact kt
    obtain ⟨_, _, ⟨TB, LB, kB, nB⟩, -, XB, ⟨LcB, hQB, lB, yB, zB⟩, stB⟩ := X2.specialBack hx (y := (⟨"java/lang/Integer", "<init>", "(I)V"⟩ : MethodName)) rfl hown (mvT hZ (hw _ (List.mem_of_getElem? (i := 99) rfl))) (mvT hZ (hw _ (List.mem_of_getElem? (i := 100) rfl))) (mvT hZ (hw _ (List.mem_of_getElem? (i := 102) rfl))) (by decide) (backOf (W := 1) (rmJ l Z a0 hw a2 i h2 n0 (by rw [g2]; exact Z0) A2 (D2 (Or.inr (hw _ (List.mem_of_getElem? (i := 111) rfl))) (ty := .int) (by decide))) hZ (hw _ (List.mem_of_getElem? (i := 102) rfl)) (hw _ (List.mem_of_getElem? (i := 95) rfl)) (by decide) (by decide)) (g := (mkF m 28 #[.val (.int i)] [(.int i), (.ref a2), (.ref a2)])) rfl (by rw [hml]; rfl) (Steps.refl _) (a := a2) (argsL := [(.int i)]) (rest := [(.ref a2)]) (lenOf pdJ rfl) rfl (by show 2 * 0 + _ ≤ _; exact Nat.le_of_eq rfl) (hb hby dV_28) (fun _ _ => ⟨rfl, e2, Nat.le_of_ble_eq_true rfl, Nat.le_of_ble_eq_true rfl⟩)
    dsimp only [Pt.U, Pt.locs, Pt.cells, Pt.slots] at XB lB yB zB stB hQB
    subst lB yB zB
    obtain ⟨rfl, NB, KB, EB⟩ := hQB
    have MB := Fr.app (Fr.nil n0) NB
    obtain ⟨fs, hr, hrun, hended, hW, hsame⟩ := XB.leave (v := some (.ref a2)) (fun h => by rw [Bd.returns] at h; cases h)
    refine ⟨_, _, castTop (efV m i) ?_, hrun, hended, _, _, rfl, ?_, ⟨_, rfl⟩, hW, hsame.mono (by decide) (by decide)⟩
    · show Steps p.tables e below (s₁.setTop (mkF m 0 #[.val (.int i)] [])) _
      refine sg1 _ ?_
      show Steps p.tables e below (s₁.setTop (mkF m 23 #[.val (.int i)] [])) _
      refine st2 _ ?_
      show Steps p.tables e below (T2.setTop (mkF m 26 #[.val (.int i)] [(.ref a2)])) _
      refine sg3 _ ?_
      show Steps p.tables e below (T2.setTop (mkF m 28 #[.val (.int i)] [(.int i), (.ref a2), (.ref a2)])) _
      refine stB.trans ?_
      show Steps p.tables e below (TB.setTop (mkF m 31 #[.val (.int i)] [(.ref a2)])) _
      exact retOut XB hx (t := .object "java/lang/Integer") Bd.returns rfl (Or.inr (Or.inr (Or.inr (Or.inr ⟨rfl, rfl, rfl⟩)))) (hb hby dV_31) hr
    · show _
      exact ⟨_, rfl, MB, own_ext_keep E2 KB (allS (by rw [g2]; exact Nat.le_refl _) all0), EB⟩
  by_cases h2 : (127 : Int32) < i
  · have sg1 : ∀ target, Steps p.tables e below (s₁.setTop (mkF m 7 #[.val (.int i)] [(.int i)])) target → Steps p.tables e below (s₁.setTop (mkF m 0 #[.val (.int i)] [])) target := by
      intro target kt
      show Steps p.tables e below (s₁.setTop (mkF m 0 #[.val (.int i)] [])) _
      refine XS.iloadN X0.here hx rfl (hb hby dV_0) rfl ?_
      show Steps p.tables e below (s₁.setTop (mkF m 1 #[.val (.int i)] [(.int i)])) _
      refine XS.bipush X0.here hx rfl (hb hby dV_1) ?_
      show Steps p.tables e below (s₁.setTop (mkF m 3 #[.val (.int i)] [(.int (-128 : Int32)), (.int i)])) _
      refine XS.icmpNo X0.here hx rfl (hb hby dV_3) rfl (flt h1).1 ?_
      show Steps p.tables e below (s₁.setTop (mkF m 6 #[.val (.int i)] [])) _
      refine XS.iloadN X0.here hx rfl (hb hby dV_6) rfl ?_
      show Steps p.tables e below (s₁.setTop (mkF m 7 #[.val (.int i)] [(.int i)])) _
      exact kt
    obtain ⟨T2, X2, e2, st2⟩ := getS X0 hx hZ hown (host := "") (hw _ (List.mem_of_getElem? (i := 115) rfl)) Via.refl e0 (Sh.ext ez) (g := (mkF m 7 #[.val (.int i)] [(.int i)])) rfl (hb hby dV_7)
    have sg3 : ∀ target, Steps p.tables e below (T2.setTop (mkF m 23 #[.val (.int i)] [])) target → Steps p.tables e below (T2.setTop (mkF m 10 #[.val (.int i)] [(.int (127 : Int32)), (.int i)])) target := by
      intro target kt
      show Steps p.tables e below (T2.setTop (mkF m 10 #[.val (.int i)] [(.int (127 : Int32)), (.int i)])) _
      refine XS.icmpYes X2.here hx rfl (pc0 := 10) (pc' := 23) rfl (hb hby dV_10) rfl (tlt h2).2.2.1 (by decide) (by decide) ?_
      show Steps p.tables e below (T2.setTop (mkF m 23 #[.val (.int i)] [])) _
      exact kt
    obtain ⟨T4, h4, X4, e4, E4, A4, D4, -, st4⟩ := newO X2 hx hZ hown (hw _ (List.mem_of_getElem? (i := 97) rfl)) (hw _ (List.mem_of_getElem? (i := 98) rfl)) (hw _ (List.mem_of_getElem? (i := 95) rfl)) e2 (g := (mkF m 23 #[.val (.int i)] [])) rfl (hb hby dV_23) (by decide) (by decide)
    obtain ⟨a4, g4⟩ : ∃ z, z = h0.size := ⟨_, rfl⟩
    rw [← g4] at A4 D4 st4
    have sg5 : ∀ target, Steps p.tables e below (T4.setTop (mkF m 28 #[.val (.int i)] [(.int i), (.ref a4), (.ref a4)])) target → Steps p.tables e below (T4.setTop (mkF m 26 #[.val (.int i)] [(.ref a4)])) target := by
      intro target kt
      show Steps p.tables e below (T4.setTop (mkF m 26 #[.val (.int i)] [(.ref a4)])) _
      refine XS.dup X4.here hx rfl (hb hby dV_26) rfl rfl ?_
      show Steps p.tables e below (T4.setTop (mkF m 27 #[.val (.int i)] [(.ref a4), (.ref a4)])) _
      refine XS.iloadN X4.here hx rfl (hb hby dV_27) rfl ?_
      show Steps p.tables e below (T4.setTop (mkF m 28 #[.val (.int i)] [(.int i), (.ref a4), (.ref a4)])) _
      exact kt
    obtain ⟨_, _, ⟨TB, LB, kB, nB⟩, -, XB, ⟨LcB, hQB, lB, yB, zB⟩, stB⟩ := X4.specialBack hx (y := (⟨"java/lang/Integer", "<init>", "(I)V"⟩ : MethodName)) rfl hown (mvT hZ (hw _ (List.mem_of_getElem? (i := 99) rfl))) (mvT hZ (hw _ (List.mem_of_getElem? (i := 100) rfl))) (mvT hZ (hw _ (List.mem_of_getElem? (i := 102) rfl))) (by decide) (backOf (W := 1) (rmJ l Z a0 hw a4 i h4 n0 (by rw [g4]; exact Z0) A4 (D4 (Or.inr (hw _ (List.mem_of_getElem? (i := 111) rfl))) (ty := .int) (by decide))) hZ (hw _ (List.mem_of_getElem? (i := 102) rfl)) (hw _ (List.mem_of_getElem? (i := 95) rfl)) (by decide) (by decide)) (g := (mkF m 28 #[.val (.int i)] [(.int i), (.ref a4), (.ref a4)])) rfl (by rw [hml]; rfl) (Steps.refl _) (a := a4) (argsL := [(.int i)]) (rest := [(.ref a4)]) (lenOf pdJ rfl) rfl (by show 2 * 0 + _ ≤ _; exact Nat.le_of_eq rfl) (hb hby dV_28) (fun _ _ => ⟨rfl, e4, Nat.le_of_ble_eq_true rfl, Nat.le_of_ble_eq_true rfl⟩)
    dsimp only [Pt.U, Pt.locs, Pt.cells, Pt.slots] at XB lB yB zB stB hQB
    subst lB yB zB
    obtain ⟨rfl, NB, KB, EB⟩ := hQB
    have MB := Fr.app (Fr.nil n0) NB
    obtain ⟨fs, hr, hrun, hended, hW, hsame⟩ := XB.leave (v := some (.ref a4)) (fun h => by rw [Bd.returns] at h; cases h)
    refine ⟨_, _, castTop (efV m i) ?_, hrun, hended, _, _, rfl, ?_, ⟨_, rfl⟩, hW, hsame.mono (by decide) (by decide)⟩
    · show Steps p.tables e below (s₁.setTop (mkF m 0 #[.val (.int i)] [])) _
      refine sg1 _ ?_
      show Steps p.tables e below (s₁.setTop (mkF m 7 #[.val (.int i)] [(.int i)])) _
      refine st2 _ ?_
      show Steps p.tables e below (T2.setTop (mkF m 10 #[.val (.int i)] [(.int (127 : Int32)), (.int i)])) _
      refine sg3 _ ?_
      show Steps p.tables e below (T2.setTop (mkF m 23 #[.val (.int i)] [])) _
      refine st4 _ ?_
      show Steps p.tables e below (T4.setTop (mkF m 26 #[.val (.int i)] [(.ref a4)])) _
      refine sg5 _ ?_
      show Steps p.tables e below (T4.setTop (mkF m 28 #[.val (.int i)] [(.int i), (.ref a4), (.ref a4)])) _
      refine stB.trans ?_
      show Steps p.tables e below (TB.setTop (mkF m 31 #[.val (.int i)] [(.ref a4)])) _
      exact retOut XB hx (t := .object "java/lang/Integer") Bd.returns rfl (Or.inr (Or.inr (Or.inr (Or.inr ⟨rfl, rfl, rfl⟩)))) (hb hby dV_31) hr
    · show _
      exact ⟨_, rfl, MB, own_ext_keep E4 KB (allS (by rw [g4]; exact Nat.le_refl _) all0), EB⟩
  have sg1 : ∀ target, Steps p.tables e below (s₁.setTop (mkF m 7 #[.val (.int i)] [(.int i)])) target → Steps p.tables e below (s₁.setTop (mkF m 0 #[.val (.int i)] [])) target := by
    intro target kt
    show Steps p.tables e below (s₁.setTop (mkF m 0 #[.val (.int i)] [])) _
    refine XS.iloadN X0.here hx rfl (hb hby dV_0) rfl ?_
    show Steps p.tables e below (s₁.setTop (mkF m 1 #[.val (.int i)] [(.int i)])) _
    refine XS.bipush X0.here hx rfl (hb hby dV_1) ?_
    show Steps p.tables e below (s₁.setTop (mkF m 3 #[.val (.int i)] [(.int (-128 : Int32)), (.int i)])) _
    refine XS.icmpNo X0.here hx rfl (hb hby dV_3) rfl (flt h1).1 ?_
    show Steps p.tables e below (s₁.setTop (mkF m 6 #[.val (.int i)] [])) _
    refine XS.iloadN X0.here hx rfl (hb hby dV_6) rfl ?_
    show Steps p.tables e below (s₁.setTop (mkF m 7 #[.val (.int i)] [(.int i)])) _
    exact kt
  obtain ⟨T2, X2, e2, st2⟩ := getS X0 hx hZ hown (host := "") (hw _ (List.mem_of_getElem? (i := 115) rfl)) Via.refl e0 (Sh.ext ez) (g := (mkF m 7 #[.val (.int i)] [(.int i)])) rfl (hb hby dV_7)
  have sg3 : ∀ target, Steps p.tables e below (T2.setTop (mkF m 13 #[.val (.int i)] [])) target → Steps p.tables e below (T2.setTop (mkF m 10 #[.val (.int i)] [(.int (127 : Int32)), (.int i)])) target := by
    intro target kt
    show Steps p.tables e below (T2.setTop (mkF m 10 #[.val (.int i)] [(.int (127 : Int32)), (.int i)])) _
    refine XS.icmpNo X2.here hx rfl (hb hby dV_10) rfl (flt h2).2.2.1 ?_
    show Steps p.tables e below (T2.setTop (mkF m 13 #[.val (.int i)] [])) _
    exact kt
  obtain ⟨T4, X4, e4, st4⟩ := getS X2 hx hZ hown (host := "") (hw _ (List.mem_of_getElem? (i := 117) rfl)) Via.refl e2 (Sc.ext ez) (g := (mkF m 13 #[.val (.int i)] [])) rfl (hb hby dV_13)
  have sg5 : ∀ target, Steps p.tables e below (T4.setTop (mkF m 21 #[.val (.int i)] [(.int (i + (128 : Int32))), (.ref ca)])) target → Steps p.tables e below (T4.setTop (mkF m 16 #[.val (.int i)] [(.ref ca)])) target := by
    intro target kt
    show Steps p.tables e below (T4.setTop (mkF m 16 #[.val (.int i)] [(.ref ca)])) _
    refine XS.iloadN X4.here hx rfl (hb hby dV_16) rfl ?_
    show Steps p.tables e below (T4.setTop (mkF m 17 #[.val (.int i)] [(.int i), (.ref ca)])) _
    refine XS.sipush X4.here hx rfl (hb hby dV_17) ?_
    show Steps p.tables e below (T4.setTop (mkF m 20 #[.val (.int i)] [(.int (128 : Int32)), (.int i), (.ref ca)])) _
    refine XS.iadd X4.here hx rfl (hb hby dV_20) rfl ?_
    show Steps p.tables e below (T4.setTop (mkF m 21 #[.val (.int i)] [(.int (i + (128 : Int32))), (.ref ca)])) _
    exact kt
  obtain ⟨Ac, Sz, Mz⟩ := Bx.ext ez
  have hin : ¬ ((i + (128 : Int32)) < 0 ∨ cc.slots.size ≤ (i + (128 : Int32)).toNatClampNeg) := by rw [Sz]; exact (Jvm.Free.IntBox.place_ok i h1 h2).1
  obtain ⟨r, hr1, Er, -⟩ := Bx.2.2.2 _ hin
  have sg6 : ∀ target, Steps p.tables e below (T4.setTop (mkF m 22 #[.val (.int i)] [(.ref r)])) target → Steps p.tables e below (T4.setTop (mkF m 21 #[.val (.int i)] [(.int (i + (128 : Int32))), (.ref ca)])) target := by
    intro target kt
    show Steps p.tables e below (T4.setTop (mkF m 21 #[.val (.int i)] [(.int (i + (128 : Int32))), (.ref ca)])) _
    refine X4.aaload hx (j := (i + (128 : Int32))) (v := (.ref r)) (ty := .object "java/lang/Integer") (by rw [e4]; exact Ac.1) (State.isArrayOf_alike hZ.alike Ac.2.1) rfl Ac.2.2 hin hr1 (g := (mkF m 21 #[.val (.int i)] [(.int (i + (128 : Int32))), (.ref ca)])) rfl rfl (hb hby dV_21) _ ?_
    show Steps p.tables e below (T4.setTop (mkF m 22 #[.val (.int i)] [(.ref r)])) _
    exact kt
  obtain ⟨fs, hr, hrun, hended, hW, hsame⟩ := X4.leave (v := some (.ref r)) (fun h => by rw [Bd.returns] at h; cases h)
  refine ⟨_, _, castTop (efV m i) ?_, hrun, hended, _, _, rfl, ?_, ⟨_, rfl⟩, hW, hsame.mono (by decide) (by decide)⟩
  · show Steps p.tables e below (s₁.setTop (mkF m 0 #[.val (.int i)] [])) _
    refine sg1 _ ?_
    show Steps p.tables e below (s₁.setTop (mkF m 7 #[.val (.int i)] [(.int i)])) _
    refine st2 _ ?_
    show Steps p.tables e below (T2.setTop (mkF m 10 #[.val (.int i)] [(.int (127 : Int32)), (.int i)])) _
    refine sg3 _ ?_
    show Steps p.tables e below (T2.setTop (mkF m 13 #[.val (.int i)] [])) _
    refine st4 _ ?_
    show Steps p.tables e below (T4.setTop (mkF m 16 #[.val (.int i)] [(.ref ca)])) _
    refine sg5 _ ?_
    show Steps p.tables e below (T4.setTop (mkF m 21 #[.val (.int i)] [(.int (i + (128 : Int32))), (.ref ca)])) _
    refine sg6 _ ?_
    show Steps p.tables e below (T4.setTop (mkF m 22 #[.val (.int i)] [(.ref r)])) _
    exact retOut X4 hx (t := .object "java/lang/Integer") Bd.returns rfl (Or.inr (Or.inr (Or.inr (Or.inr ⟨rfl, rfl, rfl⟩)))) (hb hby dV_22) hr
  · show _
    exact by show own_QV Z n0 h0 _ T4.heap _; rw [e4]; exact ⟨_, rfl, Fr.nil n0, own_ext_refl _, Er.ext ez⟩
theorem own_Str.keep {Z : State} {a0 : Array Value} {h h' : Heap} {x a : Addr} {cs : List Int32} {C : String} {n : Nat} (F : own_Str Z h x cs) (Ea : Exa Z h a C) (hC : C ≠ "java/lang/String") (wi : (Cond.instantiable C n).before a0 Z = true) (K : Keep h h' [a]) : own_Str Z h' x cs := by
  obtain ⟨A, B, t, kb, V, D⟩ := F
  have nx : x ≠ a := ne_exa A Ea (Ne.symm hC)
  have nt : t ≠ a := by obtain ⟨c, Ar, -⟩ := D; exact (ne_arr Ea wi Ar).symm
  exact ⟨A.keep K, B.keep K (ninS nx nin0), t, kb, V.keep K (ninS nx nin0), D.keep K (ninS nt nin0)⟩
theorem ef_0 (m : MethodId) (x0 : Int64) (x1 : Int64) (x2 : Int32) (x3 : Int32) (x4 : Int32) : entryFrame m #[(.long x0), (.long x1), (.int x2), (.int x3), (.int x4)] maxLocals = mkF m 0 #[.val (.long x0), .second, .val (.long x1), .second, .val (.int x2), .val (.int x3), .val (.int x4), .unset, .unset, .unset, .unset, .unset, .unset, .unset] [] := by first | (simp [entryFrame, mkF, argsToLocals, Value.category, maxLocals]; done) | rfl
def Q0 (n0 : Nat) (v : Option Value) (L : List Loc) : Prop := v = some (.int 1) ∧ Fr n0 L
set_option maxRecDepth 65536 in
set_option maxHeartbeats 40000000 in
theorem rm0 (l : Launch) (Z : State) (a0 : Array Value) (hw : ∀ d ∈ tables_1, d.before a0 Z = true) (ws : List Jvm.Cond) (EL : List (String × Nat)) (hEL : EW Z a0 EL) (hmem : ("java/lang/String", 7) ∈ EL) (p1 p2 : Int64) (p3 p4 p5 : Int32) (G : Int32) (h0 : Heap) (n0 : Nat) (Z0 : n0 ≤ h0.size) (O : Sta Z h0 "java/lang/String" "COMPACT_STRINGS" "Z" (.int G)) (hG : ¬ G = 0) (ez : Ext Z.heap h0) (Sh : Sta Z Z.heap "java/lang/Integer$IntegerCache" "high" "I" (.int (127 : Int32))) (ca : Addr) (cc : Cell) (Sc : Sta Z Z.heap "java/lang/Integer$IntegerCache" "cache" "[Ljava/lang/Integer;" (.ref ca)) (val : Int32 → Value) (Bx : Bxs Z ca cc "java/lang/Integer" "I" (256 : Int32) val) :
    MetFree l x (head1 (Jvm.Cond.code x code maxLocals ret :: ws) room_1) (fun a U => a = #[(.long p1), (.long p2), (.int p3), (.int p4), (.int p5)] ∧ Z.Warmed39 U.vm ∧ U.heap = h0 ∧ CHv Z EL U.vm h0) (fun _ _ _ _ _ => True) (fun _ U o U' => ∃ v L, o = .returned v ∧ Q0 n0 v L ∧ ReturnedEndW U o U' L 56 4288) := by
  refine MetFree.of_bodySF (plainFor_of_name pn_L) hisR ?_
  intro p e s m args below meth c s₁ Bd hml0 hP hK
  obtain ⟨rfl, hZ, hh, H0⟩ := hP
  have hx := Bd.exec
  have hby := Bd.bytes
  have hml : c.maxLocals = 14 := hml0
  have hown : s.vm.findClass "com/example/nephila/nephila/usage/RequestEqualsPinLaw" = some m.cls := findClass_of_methodNamed Bd.named
  have X0 : Stand p l e room_1 (s.setVm s.vm) m #[(.long p1), (.long p2), (.int p3), (.int p4), (.int p5)] below meth c s₁ [] 0 0 := Stand.of_body Bd
  have e0 : s₁.heap = h0 := by rw [← hh, Bd.state]; rfl
  have hS0 : s.Since s.vm s.heap.size := (State.WarmedH.refl s).since _
  have sg1 : ∀ target, Steps p.tables e below (s₁.setTop (mkF m 7 #[.val (.long p1), .second, .val (.long p2), .second, .val (.int p3), .val (.int p4), .val (.int p5), .unset, .unset, .unset, .unset, .unset, .unset, .unset] [(.int (p5 &&& (1 : Int32))), (.int (0 : Int32)), (.long p2), (.long p1)])) target → Steps p.tables e below (s₁.setTop (mkF m 0 #[.val (.long p1), .second, .val (.long p2), .second, .val (.int p3), .val (.int p4), .val (.int p5), .unset, .unset, .unset, .unset, .unset, .unset, .unset] [])) target := by
    intro target kt
    show Steps p.tables e below (s₁.setTop (mkF m 0 #[.val (.long p1), .second, .val (.long p2), .second, .val (.int p3), .val (.int p4), .val (.int p5), .unset, .unset, .unset, .unset, .unset, .unset, .unset] [])) _
    refine XS.lloadN X0.here hx rfl (hb hby at_0) rfl ?_
    show Steps p.tables e below (s₁.setTop (mkF m 1 #[.val (.long p1), .second, .val (.long p2), .second, .val (.int p3), .val (.int p4), .val (.int p5), .unset, .unset, .unset, .unset, .unset, .unset, .unset] [(.long p1)])) _
    refine XS.lloadN X0.here hx rfl (hb hby at_1) rfl ?_
    show Steps p.tables e below (s₁.setTop (mkF m 2 #[.val (.long p1), .second, .val (.long p2), .second, .val (.int p3), .val (.int p4), .val (.int p5), .unset, .unset, .unset, .unset, .unset, .unset, .unset] [(.long p2), (.long p1)])) _
    refine XS.iconst X0.here hx rfl (hb hby at_2) ?_
    show Steps p.tables e below (s₁.setTop (mkF m 3 #[.val (.long p1), .second, .val (.long p2), .second, .val (.int p3), .val (.int p4), .val (.int p5), .unset, .unset, .unset, .unset, .unset, .unset, .unset] [(.int (0 : Int32)), (.long p2), (.long p1)])) _
    refine XS.iload X0.here hx rfl (hb hby at_3) rfl ?_
    show Steps p.tables e below (s₁.setTop (mkF m 5 #[.val (.long p1), .second, .val (.long p2), .second, .val (.int p3), .val (.int p4), .val (.int p5), .unset, .unset, .unset, .unset, .unset, .unset, .unset] [(.int p5), (.int (0 : Int32)), (.long p2), (.long p1)])) _
    refine XS.iconst X0.here hx rfl (hb hby at_5) ?_
    show Steps p.tables e below (s₁.setTop (mkF m 6 #[.val (.long p1), .second, .val (.long p2), .second, .val (.int p3), .val (.int p4), .val (.int p5), .unset, .unset, .unset, .unset, .unset, .unset, .unset] [(.int (1 : Int32)), (.int p5), (.int (0 : Int32)), (.long p2), (.long p1)])) _
    refine XS.iand X0.here hx rfl (hb hby at_6) rfl ?_
    show Steps p.tables e below (s₁.setTop (mkF m 7 #[.val (.long p1), .second, .val (.long p2), .second, .val (.int p3), .val (.int p4), .val (.int p5), .unset, .unset, .unset, .unset, .unset, .unset, .unset] [(.int (p5 &&& (1 : Int32))), (.int (0 : Int32)), (.long p2), (.long p1)])) _
    exact kt
  obtain ⟨b0, sb0⟩ : ∃ b0 : Int32, ∀ target, Steps p.tables e below (s₁.setTop (mkF m 15 #[.val (.long p1), .second, .val (.long p2), .second, .val (.int p3), .val (.int p4), .val (.int p5), .unset, .unset, .unset, .unset, .unset, .unset, .unset] [(.int b0), (.int (0 : Int32)), (.long p2), (.long p1)])) target → Steps p.tables e below (s₁.setTop (mkF m 7 #[.val (.long p1), .second, .val (.long p2), .second, .val (.int p3), .val (.int p4), .val (.int p5), .unset, .unset, .unset, .unset, .unset, .unset, .unset] [(.int (p5 &&& (1 : Int32))), (.int (0 : Int32)), (.long p2), (.long p1)])) target := by
    by_cases hf : (p5 &&& (1 : Int32)) = 0
    · refine ⟨(0 : Int32), fun target kt => ?_⟩
      show Steps p.tables e below (s₁.setTop (mkF m 7 #[.val (.long p1), .second, .val (.long p2), .second, .val (.int p3), .val (.int p4), .val (.int p5), .unset, .unset, .unset, .unset, .unset, .unset, .unset] [(.int (p5 &&& (1 : Int32))), (.int (0 : Int32)), (.long p2), (.long p1)])) _
      refine XS.ifYes X0.here hx rfl (pc0 := 7) (pc' := 14) rfl (hb hby at_7) rfl (by rw [if0]; exact (teq hf).1) (by decide) (by decide) ?_
      show Steps p.tables e below (s₁.setTop (mkF m 14 #[.val (.long p1), .second, .val (.long p2), .second, .val (.int p3), .val (.int p4), .val (.int p5), .unset, .unset, .unset, .unset, .unset, .unset, .unset] [(.int (0 : Int32)), (.long p2), (.long p1)])) _
      refine XS.iconst X0.here hx rfl (hb hby at_14) ?_
      exact kt
    · refine ⟨(1 : Int32), fun target kt => ?_⟩
      show Steps p.tables e below (s₁.setTop (mkF m 7 #[.val (.long p1), .second, .val (.long p2), .second, .val (.int p3), .val (.int p4), .val (.int p5), .unset, .unset, .unset, .unset, .unset, .unset, .unset] [(.int (p5 &&& (1 : Int32))), (.int (0 : Int32)), (.long p2), (.long p1)])) _
      refine XS.ifNo X0.here hx rfl (hb hby at_7) rfl (by rw [if0]; exact (feq hf).1) ?_
      show Steps p.tables e below (s₁.setTop (mkF m 10 #[.val (.long p1), .second, .val (.long p2), .second, .val (.int p3), .val (.int p4), .val (.int p5), .unset, .unset, .unset, .unset, .unset, .unset, .unset] [(.int (0 : Int32)), (.long p2), (.long p1)])) _
      refine XS.iconst X0.here hx rfl (hb hby at_10) ?_
      show Steps p.tables e below (s₁.setTop (mkF m 11 #[.val (.long p1), .second, .val (.long p2), .second, .val (.int p3), .val (.int p4), .val (.int p5), .unset, .unset, .unset, .unset, .unset, .unset, .unset] [(.int (1 : Int32)), (.int (0 : Int32)), (.long p2), (.long p1)])) _
      refine XS.goto X0.here hx rfl (pc0 := 11) (pc' := 15) rfl (hb hby at_11) (by decide) (by decide) ?_
      exact kt
  obtain ⟨_, _, ⟨TF0, LF0, kF0, nF0⟩, -, XF0, ⟨LcF0, hQF0, lF0, yF0, zF0⟩, stF0⟩ := Jvm.LawKit.callS X0 hx (y := (⟨"com/example/nephila/nephila/usage/RequestEqualsPinLaw", "copyField", "(JJIZ)J"⟩ : MethodName)) hown (mvT hZ (hw _ (List.mem_of_getElem? (i := 0) rfl))) (mvT hZ (hw _ (List.mem_of_getElem? (i := 1) rfl))) (mvT hZ (hw _ (List.mem_of_getElem? (i := 2) rfl))) (mvT hZ (hw _ (List.mem_of_getElem? (i := 3) rfl))) (by decide) (backOf (W := 0) (rmCf l Z a0 hw p1 p2 (0 : Int32) b0 h0 n0) hZ (hw _ (List.mem_of_getElem? (i := 3) rfl)) (hw _ (List.mem_of_getElem? (i := 2) rfl)) (by decide) (by decide)) (g := (mkF m 15 #[.val (.long p1), .second, .val (.long p2), .second, .val (.int p3), .val (.int p4), .val (.int p5), .unset, .unset, .unset, .unset, .unset, .unset, .unset] [(.int b0), (.int (0 : Int32)), (.long p2), (.long p1)])) rfl (by rw [hml]; rfl) (argsL := [(.long p1), (.long p2), (.int (0 : Int32)), (.int b0)]) (rest := []) (lenOf pdF rfl) rfl (by show 2 * 0 + _ ≤ _; exact Nat.le_of_eq rfl) (hb hby at_15) (fun _ _ => ⟨rfl, e0, Nat.le_of_ble_eq_true rfl, Nat.le_of_ble_eq_true rfl⟩)
  dsimp only [Pt.U, Pt.locs, Pt.cells, Pt.slots] at XF0 lF0 yF0 zF0 stF0 hQF0
  subst lF0 yF0 zF0
  obtain ⟨q0, rfl, NF0, eF0⟩ := hQF0
  have MF0 := Fr.app (Fr.nil n0) NF0
  have sg2 : ∀ target, Steps p.tables e below (TF0.setTop (mkF m 28 #[.val (.long p1), .second, .val (.long p2), .second, .val (.int p3), .val (.int p4), .val (.int p5), .val (.long q0), .second, .unset, .unset, .unset, .unset, .unset] [(.int (p5 &&& (2 : Int32))), (.int (1 : Int32)), (.long q0), (.long p1)])) target → Steps p.tables e below (TF0.setTop (mkF m 18 #[.val (.long p1), .second, .val (.long p2), .second, .val (.int p3), .val (.int p4), .val (.int p5), .unset, .unset, .unset, .unset, .unset, .unset, .unset] [(.long q0)])) target := by
    intro target kt
    show Steps p.tables e below (TF0.setTop (mkF m 18 #[.val (.long p1), .second, .val (.long p2), .second, .val (.int p3), .val (.int p4), .val (.int p5), .unset, .unset, .unset, .unset, .unset, .unset, .unset] [(.long q0)])) _
    refine XS.lstore XF0.here hx rfl (hb hby at_18) rfl (l' := #[.val (.long p1), .second, .val (.long p2), .second, .val (.int p3), .val (.int p4), .val (.int p5), .val (.long q0), .second, .unset, .unset, .unset, .unset, .unset]) rfl ?_
    show Steps p.tables e below (TF0.setTop (mkF m 20 #[.val (.long p1), .second, .val (.long p2), .second, .val (.int p3), .val (.int p4), .val (.int p5), .val (.long q0), .second, .unset, .unset, .unset, .unset, .unset] [])) _
    refine XS.lloadN XF0.here hx rfl (hb hby at_20) rfl ?_
    show Steps p.tables e below (TF0.setTop (mkF m 21 #[.val (.long p1), .second, .val (.long p2), .second, .val (.int p3), .val (.int p4), .val (.int p5), .val (.long q0), .second, .unset, .unset, .unset, .unset, .unset] [(.long p1)])) _
    refine XS.lload XF0.here hx rfl (hb hby at_21) rfl ?_
    show Steps p.tables e below (TF0.setTop (mkF m 23 #[.val (.long p1), .second, .val (.long p2), .second, .val (.int p3), .val (.int p4), .val (.int p5), .val (.long q0), .second, .unset, .unset, .unset, .unset, .unset] [(.long q0), (.long p1)])) _
    refine XS.iconst XF0.here hx rfl (hb hby at_23) ?_
    show Steps p.tables e below (TF0.setTop (mkF m 24 #[.val (.long p1), .second, .val (.long p2), .second, .val (.int p3), .val (.int p4), .val (.int p5), .val (.long q0), .second, .unset, .unset, .unset, .unset, .unset] [(.int (1 : Int32)), (.long q0), (.long p1)])) _
    refine XS.iload XF0.here hx rfl (hb hby at_24) rfl ?_
    show Steps p.tables e below (TF0.setTop (mkF m 26 #[.val (.long p1), .second, .val (.long p2), .second, .val (.int p3), .val (.int p4), .val (.int p5), .val (.long q0), .second, .unset, .unset, .unset, .unset, .unset] [(.int p5), (.int (1 : Int32)), (.long q0), (.long p1)])) _
    refine XS.iconst XF0.here hx rfl (hb hby at_26) ?_
    show Steps p.tables e below (TF0.setTop (mkF m 27 #[.val (.long p1), .second, .val (.long p2), .second, .val (.int p3), .val (.int p4), .val (.int p5), .val (.long q0), .second, .unset, .unset, .unset, .unset, .unset] [(.int (2 : Int32)), (.int p5), (.int (1 : Int32)), (.long q0), (.long p1)])) _
    refine XS.iand XF0.here hx rfl (hb hby at_27) rfl ?_
    show Steps p.tables e below (TF0.setTop (mkF m 28 #[.val (.long p1), .second, .val (.long p2), .second, .val (.int p3), .val (.int p4), .val (.int p5), .val (.long q0), .second, .unset, .unset, .unset, .unset, .unset] [(.int (p5 &&& (2 : Int32))), (.int (1 : Int32)), (.long q0), (.long p1)])) _
    exact kt
  obtain ⟨b1, sb1⟩ : ∃ b1 : Int32, ∀ target, Steps p.tables e below (TF0.setTop (mkF m 36 #[.val (.long p1), .second, .val (.long p2), .second, .val (.int p3), .val (.int p4), .val (.int p5), .val (.long q0), .second, .unset, .unset, .unset, .unset, .unset] [(.int b1), (.int (1 : Int32)), (.long q0), (.long p1)])) target → Steps p.tables e below (TF0.setTop (mkF m 28 #[.val (.long p1), .second, .val (.long p2), .second, .val (.int p3), .val (.int p4), .val (.int p5), .val (.long q0), .second, .unset, .unset, .unset, .unset, .unset] [(.int (p5 &&& (2 : Int32))), (.int (1 : Int32)), (.long q0), (.long p1)])) target := by
    by_cases hf : (p5 &&& (2 : Int32)) = 0
    · refine ⟨(0 : Int32), fun target kt => ?_⟩
      show Steps p.tables e below (TF0.setTop (mkF m 28 #[.val (.long p1), .second, .val (.long p2), .second, .val (.int p3), .val (.int p4), .val (.int p5), .val (.long q0), .second, .unset, .unset, .unset, .unset, .unset] [(.int (p5 &&& (2 : Int32))), (.int (1 : Int32)), (.long q0), (.long p1)])) _
      refine XS.ifYes XF0.here hx rfl (pc0 := 28) (pc' := 35) rfl (hb hby at_28) rfl (by rw [if0]; exact (teq hf).1) (by decide) (by decide) ?_
      show Steps p.tables e below (TF0.setTop (mkF m 35 #[.val (.long p1), .second, .val (.long p2), .second, .val (.int p3), .val (.int p4), .val (.int p5), .val (.long q0), .second, .unset, .unset, .unset, .unset, .unset] [(.int (1 : Int32)), (.long q0), (.long p1)])) _
      refine XS.iconst XF0.here hx rfl (hb hby at_35) ?_
      exact kt
    · refine ⟨(1 : Int32), fun target kt => ?_⟩
      show Steps p.tables e below (TF0.setTop (mkF m 28 #[.val (.long p1), .second, .val (.long p2), .second, .val (.int p3), .val (.int p4), .val (.int p5), .val (.long q0), .second, .unset, .unset, .unset, .unset, .unset] [(.int (p5 &&& (2 : Int32))), (.int (1 : Int32)), (.long q0), (.long p1)])) _
      refine XS.ifNo XF0.here hx rfl (hb hby at_28) rfl (by rw [if0]; exact (feq hf).1) ?_
      show Steps p.tables e below (TF0.setTop (mkF m 31 #[.val (.long p1), .second, .val (.long p2), .second, .val (.int p3), .val (.int p4), .val (.int p5), .val (.long q0), .second, .unset, .unset, .unset, .unset, .unset] [(.int (1 : Int32)), (.long q0), (.long p1)])) _
      refine XS.iconst XF0.here hx rfl (hb hby at_31) ?_
      show Steps p.tables e below (TF0.setTop (mkF m 32 #[.val (.long p1), .second, .val (.long p2), .second, .val (.int p3), .val (.int p4), .val (.int p5), .val (.long q0), .second, .unset, .unset, .unset, .unset, .unset] [(.int (1 : Int32)), (.int (1 : Int32)), (.long q0), (.long p1)])) _
      refine XS.goto XF0.here hx rfl (pc0 := 32) (pc' := 36) rfl (hb hby at_32) (by decide) (by decide) ?_
      exact kt
  obtain ⟨_, _, ⟨TF1, LF1, kF1, nF1⟩, -, XF1, ⟨LcF1, hQF1, lF1, yF1, zF1⟩, stF1⟩ := Jvm.LawKit.callS XF0 hx (y := (⟨"com/example/nephila/nephila/usage/RequestEqualsPinLaw", "copyField", "(JJIZ)J"⟩ : MethodName)) hown (mvT hZ (hw _ (List.mem_of_getElem? (i := 0) rfl))) (mvT hZ (hw _ (List.mem_of_getElem? (i := 1) rfl))) (mvT hZ (hw _ (List.mem_of_getElem? (i := 2) rfl))) (mvT hZ (hw _ (List.mem_of_getElem? (i := 3) rfl))) (by decide) (backOf (W := 0) (rmCf l Z a0 hw p1 q0 (1 : Int32) b1 h0 n0) hZ (hw _ (List.mem_of_getElem? (i := 3) rfl)) (hw _ (List.mem_of_getElem? (i := 2) rfl)) (by decide) (by decide)) (g := (mkF m 36 #[.val (.long p1), .second, .val (.long p2), .second, .val (.int p3), .val (.int p4), .val (.int p5), .val (.long q0), .second, .unset, .unset, .unset, .unset, .unset] [(.int b1), (.int (1 : Int32)), (.long q0), (.long p1)])) rfl (by rw [hml]; rfl) (argsL := [(.long p1), (.long q0), (.int (1 : Int32)), (.int b1)]) (rest := []) (lenOf pdF rfl) rfl (by show 2 * 0 + _ ≤ _; exact Nat.le_of_eq rfl) (hb hby at_36) (fun _ _ => ⟨rfl, eF0, Nat.le_of_ble_eq_true rfl, Nat.le_of_ble_eq_true rfl⟩)
  dsimp only [Pt.U, Pt.locs, Pt.cells, Pt.slots] at XF1 lF1 yF1 zF1 stF1 hQF1
  subst lF1 yF1 zF1
  obtain ⟨q1, rfl, NF1, eF1⟩ := hQF1
  have MF1 := Fr.app (MF0) NF1
  have sg3 : ∀ target, Steps p.tables e below (TF1.setTop (mkF m 49 #[.val (.long p1), .second, .val (.long p2), .second, .val (.int p3), .val (.int p4), .val (.int p5), .val (.long q1), .second, .unset, .unset, .unset, .unset, .unset] [(.int (p5 &&& (4 : Int32))), (.int (2 : Int32)), (.long q1), (.long p1)])) target → Steps p.tables e below (TF1.setTop (mkF m 39 #[.val (.long p1), .second, .val (.long p2), .second, .val (.int p3), .val (.int p4), .val (.int p5), .val (.long q0), .second, .unset, .unset, .unset, .unset, .unset] [(.long q1)])) target := by
    intro target kt
    show Steps p.tables e below (TF1.setTop (mkF m 39 #[.val (.long p1), .second, .val (.long p2), .second, .val (.int p3), .val (.int p4), .val (.int p5), .val (.long q0), .second, .unset, .unset, .unset, .unset, .unset] [(.long q1)])) _
    refine XS.lstore XF1.here hx rfl (hb hby at_39) rfl (l' := #[.val (.long p1), .second, .val (.long p2), .second, .val (.int p3), .val (.int p4), .val (.int p5), .val (.long q1), .second, .unset, .unset, .unset, .unset, .unset]) rfl ?_
    show Steps p.tables e below (TF1.setTop (mkF m 41 #[.val (.long p1), .second, .val (.long p2), .second, .val (.int p3), .val (.int p4), .val (.int p5), .val (.long q1), .second, .unset, .unset, .unset, .unset, .unset] [])) _
    refine XS.lloadN XF1.here hx rfl (hb hby at_41) rfl ?_
    show Steps p.tables e below (TF1.setTop (mkF m 42 #[.val (.long p1), .second, .val (.long p2), .second, .val (.int p3), .val (.int p4), .val (.int p5), .val (.long q1), .second, .unset, .unset, .unset, .unset, .unset] [(.long p1)])) _
    refine XS.lload XF1.here hx rfl (hb hby at_42) rfl ?_
    show Steps p.tables e below (TF1.setTop (mkF m 44 #[.val (.long p1), .second, .val (.long p2), .second, .val (.int p3), .val (.int p4), .val (.int p5), .val (.long q1), .second, .unset, .unset, .unset, .unset, .unset] [(.long q1), (.long p1)])) _
    refine XS.iconst XF1.here hx rfl (hb hby at_44) ?_
    show Steps p.tables e below (TF1.setTop (mkF m 45 #[.val (.long p1), .second, .val (.long p2), .second, .val (.int p3), .val (.int p4), .val (.int p5), .val (.long q1), .second, .unset, .unset, .unset, .unset, .unset] [(.int (2 : Int32)), (.long q1), (.long p1)])) _
    refine XS.iload XF1.here hx rfl (hb hby at_45) rfl ?_
    show Steps p.tables e below (TF1.setTop (mkF m 47 #[.val (.long p1), .second, .val (.long p2), .second, .val (.int p3), .val (.int p4), .val (.int p5), .val (.long q1), .second, .unset, .unset, .unset, .unset, .unset] [(.int p5), (.int (2 : Int32)), (.long q1), (.long p1)])) _
    refine XS.iconst XF1.here hx rfl (hb hby at_47) ?_
    show Steps p.tables e below (TF1.setTop (mkF m 48 #[.val (.long p1), .second, .val (.long p2), .second, .val (.int p3), .val (.int p4), .val (.int p5), .val (.long q1), .second, .unset, .unset, .unset, .unset, .unset] [(.int (4 : Int32)), (.int p5), (.int (2 : Int32)), (.long q1), (.long p1)])) _
    refine XS.iand XF1.here hx rfl (hb hby at_48) rfl ?_
    show Steps p.tables e below (TF1.setTop (mkF m 49 #[.val (.long p1), .second, .val (.long p2), .second, .val (.int p3), .val (.int p4), .val (.int p5), .val (.long q1), .second, .unset, .unset, .unset, .unset, .unset] [(.int (p5 &&& (4 : Int32))), (.int (2 : Int32)), (.long q1), (.long p1)])) _
    exact kt
  obtain ⟨b2, sb2⟩ : ∃ b2 : Int32, ∀ target, Steps p.tables e below (TF1.setTop (mkF m 57 #[.val (.long p1), .second, .val (.long p2), .second, .val (.int p3), .val (.int p4), .val (.int p5), .val (.long q1), .second, .unset, .unset, .unset, .unset, .unset] [(.int b2), (.int (2 : Int32)), (.long q1), (.long p1)])) target → Steps p.tables e below (TF1.setTop (mkF m 49 #[.val (.long p1), .second, .val (.long p2), .second, .val (.int p3), .val (.int p4), .val (.int p5), .val (.long q1), .second, .unset, .unset, .unset, .unset, .unset] [(.int (p5 &&& (4 : Int32))), (.int (2 : Int32)), (.long q1), (.long p1)])) target := by
    by_cases hf : (p5 &&& (4 : Int32)) = 0
    · refine ⟨(0 : Int32), fun target kt => ?_⟩
      show Steps p.tables e below (TF1.setTop (mkF m 49 #[.val (.long p1), .second, .val (.long p2), .second, .val (.int p3), .val (.int p4), .val (.int p5), .val (.long q1), .second, .unset, .unset, .unset, .unset, .unset] [(.int (p5 &&& (4 : Int32))), (.int (2 : Int32)), (.long q1), (.long p1)])) _
      refine XS.ifYes XF1.here hx rfl (pc0 := 49) (pc' := 56) rfl (hb hby at_49) rfl (by rw [if0]; exact (teq hf).1) (by decide) (by decide) ?_
      show Steps p.tables e below (TF1.setTop (mkF m 56 #[.val (.long p1), .second, .val (.long p2), .second, .val (.int p3), .val (.int p4), .val (.int p5), .val (.long q1), .second, .unset, .unset, .unset, .unset, .unset] [(.int (2 : Int32)), (.long q1), (.long p1)])) _
      refine XS.iconst XF1.here hx rfl (hb hby at_56) ?_
      exact kt
    · refine ⟨(1 : Int32), fun target kt => ?_⟩
      show Steps p.tables e below (TF1.setTop (mkF m 49 #[.val (.long p1), .second, .val (.long p2), .second, .val (.int p3), .val (.int p4), .val (.int p5), .val (.long q1), .second, .unset, .unset, .unset, .unset, .unset] [(.int (p5 &&& (4 : Int32))), (.int (2 : Int32)), (.long q1), (.long p1)])) _
      refine XS.ifNo XF1.here hx rfl (hb hby at_49) rfl (by rw [if0]; exact (feq hf).1) ?_
      show Steps p.tables e below (TF1.setTop (mkF m 52 #[.val (.long p1), .second, .val (.long p2), .second, .val (.int p3), .val (.int p4), .val (.int p5), .val (.long q1), .second, .unset, .unset, .unset, .unset, .unset] [(.int (2 : Int32)), (.long q1), (.long p1)])) _
      refine XS.iconst XF1.here hx rfl (hb hby at_52) ?_
      show Steps p.tables e below (TF1.setTop (mkF m 53 #[.val (.long p1), .second, .val (.long p2), .second, .val (.int p3), .val (.int p4), .val (.int p5), .val (.long q1), .second, .unset, .unset, .unset, .unset, .unset] [(.int (1 : Int32)), (.int (2 : Int32)), (.long q1), (.long p1)])) _
      refine XS.goto XF1.here hx rfl (pc0 := 53) (pc' := 57) rfl (hb hby at_53) (by decide) (by decide) ?_
      exact kt
  obtain ⟨_, _, ⟨TF2, LF2, kF2, nF2⟩, -, XF2, ⟨LcF2, hQF2, lF2, yF2, zF2⟩, stF2⟩ := Jvm.LawKit.callS XF1 hx (y := (⟨"com/example/nephila/nephila/usage/RequestEqualsPinLaw", "copyField", "(JJIZ)J"⟩ : MethodName)) hown (mvT hZ (hw _ (List.mem_of_getElem? (i := 0) rfl))) (mvT hZ (hw _ (List.mem_of_getElem? (i := 1) rfl))) (mvT hZ (hw _ (List.mem_of_getElem? (i := 2) rfl))) (mvT hZ (hw _ (List.mem_of_getElem? (i := 3) rfl))) (by decide) (backOf (W := 0) (rmCf l Z a0 hw p1 q1 (2 : Int32) b2 h0 n0) hZ (hw _ (List.mem_of_getElem? (i := 3) rfl)) (hw _ (List.mem_of_getElem? (i := 2) rfl)) (by decide) (by decide)) (g := (mkF m 57 #[.val (.long p1), .second, .val (.long p2), .second, .val (.int p3), .val (.int p4), .val (.int p5), .val (.long q1), .second, .unset, .unset, .unset, .unset, .unset] [(.int b2), (.int (2 : Int32)), (.long q1), (.long p1)])) rfl (by rw [hml]; rfl) (argsL := [(.long p1), (.long q1), (.int (2 : Int32)), (.int b2)]) (rest := []) (lenOf pdF rfl) rfl (by show 2 * 0 + _ ≤ _; exact Nat.le_of_eq rfl) (hb hby at_57) (fun _ _ => ⟨rfl, eF1, Nat.le_of_ble_eq_true rfl, Nat.le_of_ble_eq_true rfl⟩)
  dsimp only [Pt.U, Pt.locs, Pt.cells, Pt.slots] at XF2 lF2 yF2 zF2 stF2 hQF2
  subst lF2 yF2 zF2
  obtain ⟨q2, rfl, NF2, eF2⟩ := hQF2
  have MF2 := Fr.app (MF1) NF2
  have sg4 : ∀ target, Steps p.tables e below (TF2.setTop (mkF m 67 #[.val (.long p1), .second, .val (.long p2), .second, .val (.int p3), .val (.int p4), .val (.int p5), .val (.long q2), .second, .unset, .unset, .unset, .unset, .unset] [(.int (p5 &&& (8 : Int32)))])) target → Steps p.tables e below (TF2.setTop (mkF m 60 #[.val (.long p1), .second, .val (.long p2), .second, .val (.int p3), .val (.int p4), .val (.int p5), .val (.long q1), .second, .unset, .unset, .unset, .unset, .unset] [(.long q2)])) target := by
    intro target kt
    show Steps p.tables e below (TF2.setTop (mkF m 60 #[.val (.long p1), .second, .val (.long p2), .second, .val (.int p3), .val (.int p4), .val (.int p5), .val (.long q1), .second, .unset, .unset, .unset, .unset, .unset] [(.long q2)])) _
    refine XS.lstore XF2.here hx rfl (hb hby at_60) rfl (l' := #[.val (.long p1), .second, .val (.long p2), .second, .val (.int p3), .val (.int p4), .val (.int p5), .val (.long q2), .second, .unset, .unset, .unset, .unset, .unset]) rfl ?_
    show Steps p.tables e below (TF2.setTop (mkF m 62 #[.val (.long p1), .second, .val (.long p2), .second, .val (.int p3), .val (.int p4), .val (.int p5), .val (.long q2), .second, .unset, .unset, .unset, .unset, .unset] [])) _
    refine XS.iload XF2.here hx rfl (hb hby at_62) rfl ?_
    show Steps p.tables e below (TF2.setTop (mkF m 64 #[.val (.long p1), .second, .val (.long p2), .second, .val (.int p3), .val (.int p4), .val (.int p5), .val (.long q2), .second, .unset, .unset, .unset, .unset, .unset] [(.int p5)])) _
    refine XS.bipush XF2.here hx rfl (hb hby at_64) ?_
    show Steps p.tables e below (TF2.setTop (mkF m 66 #[.val (.long p1), .second, .val (.long p2), .second, .val (.int p3), .val (.int p4), .val (.int p5), .val (.long q2), .second, .unset, .unset, .unset, .unset, .unset] [(.int (8 : Int32)), (.int p5)])) _
    refine XS.iand XF2.here hx rfl (hb hby at_66) rfl ?_
    show Steps p.tables e below (TF2.setTop (mkF m 67 #[.val (.long p1), .second, .val (.long p2), .second, .val (.int p3), .val (.int p4), .val (.int p5), .val (.long q2), .second, .unset, .unset, .unset, .unset, .unset] [(.int (p5 &&& (8 : Int32)))])) _
    exact kt
  obtain ⟨t2, sbt⟩ : ∃ t2 : Int32, ∀ target, Steps p.tables e below (TF2.setTop (mkF m 79 #[.val (.long p1), .second, .val (.long p2), .second, .val (.int p3), .val (.int p4), .val (.int p5), .val (.long q2), .second, .val (.int t2), .unset, .unset, .unset, .unset] [])) target → Steps p.tables e below (TF2.setTop (mkF m 67 #[.val (.long p1), .second, .val (.long p2), .second, .val (.int p3), .val (.int p4), .val (.int p5), .val (.long q2), .second, .unset, .unset, .unset, .unset, .unset] [(.int (p5 &&& (8 : Int32)))])) target := by
    by_cases hf : (p5 &&& (8 : Int32)) = 0
    · refine ⟨p4, fun target kt => ?_⟩
      show Steps p.tables e below (TF2.setTop (mkF m 67 #[.val (.long p1), .second, .val (.long p2), .second, .val (.int p3), .val (.int p4), .val (.int p5), .val (.long q2), .second, .unset, .unset, .unset, .unset, .unset] [(.int (p5 &&& (8 : Int32)))])) _
      refine XS.ifYes XF2.here hx rfl (pc0 := 67) (pc' := 75) rfl (hb hby at_67) rfl (by rw [if0]; exact (teq hf).1) (by decide) (by decide) ?_
      show Steps p.tables e below (TF2.setTop (mkF m 75 #[.val (.long p1), .second, .val (.long p2), .second, .val (.int p3), .val (.int p4), .val (.int p5), .val (.long q2), .second, .unset, .unset, .unset, .unset, .unset] [])) _
      refine XS.iload XF2.here hx rfl (hb hby at_75) rfl ?_
      show Steps p.tables e below (TF2.setTop (mkF m 77 #[.val (.long p1), .second, .val (.long p2), .second, .val (.int p3), .val (.int p4), .val (.int p5), .val (.long q2), .second, .unset, .unset, .unset, .unset, .unset] [(.int p4)])) _
      refine XS.istore XF2.here hx rfl (hb hby at_77) rfl (l' := #[.val (.long p1), .second, .val (.long p2), .second, .val (.int p3), .val (.int p4), .val (.int p5), .val (.long q2), .second, .val (.int p4), .unset, .unset, .unset, .unset]) rfl ?_
      exact kt
    · refine ⟨p3, fun target kt => ?_⟩
      show Steps p.tables e below (TF2.setTop (mkF m 67 #[.val (.long p1), .second, .val (.long p2), .second, .val (.int p3), .val (.int p4), .val (.int p5), .val (.long q2), .second, .unset, .unset, .unset, .unset, .unset] [(.int (p5 &&& (8 : Int32)))])) _
      refine XS.ifNo XF2.here hx rfl (hb hby at_67) rfl (by rw [if0]; exact (feq hf).1) ?_
      show Steps p.tables e below (TF2.setTop (mkF m 70 #[.val (.long p1), .second, .val (.long p2), .second, .val (.int p3), .val (.int p4), .val (.int p5), .val (.long q2), .second, .unset, .unset, .unset, .unset, .unset] [])) _
      refine XS.iload XF2.here hx rfl (hb hby at_70) rfl ?_
      show Steps p.tables e below (TF2.setTop (mkF m 72 #[.val (.long p1), .second, .val (.long p2), .second, .val (.int p3), .val (.int p4), .val (.int p5), .val (.long q2), .second, .unset, .unset, .unset, .unset, .unset] [(.int p3)])) _
      refine XS.goto XF2.here hx rfl (pc0 := 72) (pc' := 77) rfl (hb hby at_72) (by decide) (by decide) ?_
      show Steps p.tables e below (TF2.setTop (mkF m 77 #[.val (.long p1), .second, .val (.long p2), .second, .val (.int p3), .val (.int p4), .val (.int p5), .val (.long q2), .second, .unset, .unset, .unset, .unset, .unset] [(.int p3)])) _
      refine XS.istore XF2.here hx rfl (hb hby at_77) rfl (l' := #[.val (.long p1), .second, .val (.long p2), .second, .val (.int p3), .val (.int p4), .val (.int p5), .val (.long q2), .second, .val (.int p3), .unset, .unset, .unset, .unset]) rfl ?_
      exact kt
  obtain ⟨T5, h5, X5, e5, E5, A5, D5, -, st5⟩ := newO XF2 hx hZ hown (hw _ (List.mem_of_getElem? (i := 4) rfl)) (hw _ (List.mem_of_getElem? (i := 5) rfl)) (hw _ (List.mem_of_getElem? (i := 6) rfl)) eF2 (g := (mkF m 79 #[.val (.long p1), .second, .val (.long p2), .second, .val (.int p3), .val (.int p4), .val (.int p5), .val (.long q2), .second, .val (.int t2), .unset, .unset, .unset, .unset] [])) rfl (hb hby at_79) (by decide) (by decide)
  obtain ⟨a5, g5⟩ : ∃ z, z = h0.size := ⟨_, rfl⟩
  rw [← g5] at A5 D5 st5
  have O_An := O.ext E5
  have En_An := own_ext_trans (own_ext_refl h0) E5
  have RAn := (CHr.refl H0).trans (CHr.ext E5 (CHr.refl H0).1)
  have hkAn : s.heap.size ≤ h5.size := Nat.le_trans (Nat.le_of_eq (by rw [hh])) E5.1
  have DA1 := D5 (Or.inr (hw _ (List.mem_of_getElem? (i := 47) rfl))) (ty := (.object "java/lang/String")) (by decide)
  have DA2 := D5 (Or.inr (hw _ (List.mem_of_getElem? (i := 50) rfl))) (ty := (.object "java/lang/String")) (by decide)
  have DA3 := D5 (Or.inr (hw _ (List.mem_of_getElem? (i := 52) rfl))) (ty := .int) (by decide)
  have DA4 := D5 (Or.inr (hw _ (List.mem_of_getElem? (i := 55) rfl))) (ty := (.object "java/lang/String")) (by decide)
  have AA := A5
  have geaA : n0 ≤ a5 := by rw [g5]; exact Nat.le_trans Z0 (own_ext_refl h0).1
  have sg6 : ∀ target, Steps p.tables e below (T5.setTop (mkF m 85 #[.val (.long p1), .second, .val (.long p2), .second, .val (.int p3), .val (.int p4), .val (.int p5), .val (.long q2), .second, .val (.int t2), .unset, .unset, .unset, .unset] [(.int (0 : Int32)), (.long p1), (.ref a5), (.ref a5)])) target → Steps p.tables e below (T5.setTop (mkF m 82 #[.val (.long p1), .second, .val (.long p2), .second, .val (.int p3), .val (.int p4), .val (.int p5), .val (.long q2), .second, .val (.int t2), .unset, .unset, .unset, .unset] [(.ref a5)])) target := by
    intro target kt
    show Steps p.tables e below (T5.setTop (mkF m 82 #[.val (.long p1), .second, .val (.long p2), .second, .val (.int p3), .val (.int p4), .val (.int p5), .val (.long q2), .second, .val (.int t2), .unset, .unset, .unset, .unset] [(.ref a5)])) _
    refine XS.dup X5.here hx rfl (hb hby at_82) rfl rfl ?_
    show Steps p.tables e below (T5.setTop (mkF m 83 #[.val (.long p1), .second, .val (.long p2), .second, .val (.int p3), .val (.int p4), .val (.int p5), .val (.long q2), .second, .val (.int t2), .unset, .unset, .unset, .unset] [(.ref a5), (.ref a5)])) _
    refine XS.lloadN X5.here hx rfl (hb hby at_83) rfl ?_
    show Steps p.tables e below (T5.setTop (mkF m 84 #[.val (.long p1), .second, .val (.long p2), .second, .val (.int p3), .val (.int p4), .val (.int p5), .val (.long q2), .second, .val (.int t2), .unset, .unset, .unset, .unset] [(.long p1), (.ref a5), (.ref a5)])) _
    refine XS.iconst X5.here hx rfl (hb hby at_84) ?_
    show Steps p.tables e below (T5.setTop (mkF m 85 #[.val (.long p1), .second, .val (.long p2), .second, .val (.int p3), .val (.int p4), .val (.int p5), .val (.long q2), .second, .val (.int t2), .unset, .unset, .unset, .unset] [(.int (0 : Int32)), (.long p1), (.ref a5), (.ref a5)])) _
    exact kt
  obtain ⟨_, _, ⟨TA0, LA0, kA0, nA0⟩, -, YA0, hsA0, grA0, ⟨LcA0, hQA0, lA0, yA0, zA0, R0A0⟩, stA0⟩ := callSS X5 hx (y := (⟨"com/example/nephila/nephila/usage/RequestEqualsPinLaw", "str", "(JI)Ljava/lang/String;"⟩ : MethodName)) hown (mvT hZ (hw _ (List.mem_of_getElem? (i := 7) rfl))) (mvT hZ (hw _ (List.mem_of_getElem? (i := 8) rfl))) (mvT hZ (hw _ (List.mem_of_getElem? (i := 2) rfl))) (mvT hZ (hw _ (List.mem_of_getElem? (i := 9) rfl))) (by decide) (backOfSH (vm0 := s.vm) (W := 2) (rmT l Z a0 hw EL hEL hmem p1 (0 : Int32) G h5 n0 (Nat.le_trans Z0 En_An.1) O_An hG) hZ (hw _ (List.mem_of_getElem? (i := 9) rfl)) (hw _ (List.mem_of_getElem? (i := 2) rfl)) (by decide) (by decide) hEL RAn.1) (g := (mkF m 85 #[.val (.long p1), .second, .val (.long p2), .second, .val (.int p3), .val (.int p4), .val (.int p5), .val (.long q2), .second, .val (.int t2), .unset, .unset, .unset, .unset] [(.int (0 : Int32)), (.long p1), (.ref a5), (.ref a5)])) rfl (by rw [hml]; rfl) (argsL := [(.long p1), (.int (0 : Int32))]) (rest := [(.ref a5), (.ref a5)]) (lenOf pdT rfl) rfl (by show 2 * 0 + _ ≤ _; exact Nat.le_of_eq rfl) (hb hby at_85) (fun _ _ => ⟨rfl, e5, Nat.le_of_ble_eq_true rfl, Nat.le_of_ble_eq_true rfl⟩)
  dsimp only [Pt.U, Pt.locs, Pt.cells, Pt.slots] at YA0 hsA0 grA0 lA0 yA0 zA0 R0A0 stA0 hQA0
  subst lA0 yA0 zA0
  obtain ⟨XA0, hSA0, hZA0, hownA0⟩ := rebS hS0 (n1 := T5.heap.size) (by rw [e5]; exact hkAn) YA0 hsA0 grA0 hZ hown
  have RA0 := RAn.trans R0A0
  obtain ⟨tA0, rfl, NA0, EA0, geA0, SA0⟩ := hQA0
  have MA0 := Fr.app (MF2) NA0
  have O_A0 := O_An.ext EA0
  have DA1_A0 := DA1.ext EA0
  have DA2_A0 := DA2.ext EA0
  have DA3_A0 := DA3.ext EA0
  have DA4_A0 := DA4.ext EA0
  have AA_A0 := AA.ext EA0
  have En_A0 := own_ext_trans En_An EA0
  have sg7 : ∀ target, Steps p.tables e below (TA0.setTop (mkF m 90 #[.val (.long p1), .second, .val (.long p2), .second, .val (.int p3), .val (.int p4), .val (.int p5), .val (.long q2), .second, .val (.int t2), .unset, .unset, .unset, .unset] [(.int (1 : Int32)), (.long p1), (.ref tA0), (.ref a5), (.ref a5)])) target → Steps p.tables e below (TA0.setTop (mkF m 88 #[.val (.long p1), .second, .val (.long p2), .second, .val (.int p3), .val (.int p4), .val (.int p5), .val (.long q2), .second, .val (.int t2), .unset, .unset, .unset, .unset] [(.ref tA0), (.ref a5), (.ref a5)])) target := by
    intro target kt
    show Steps p.tables e below (TA0.setTop (mkF m 88 #[.val (.long p1), .second, .val (.long p2), .second, .val (.int p3), .val (.int p4), .val (.int p5), .val (.long q2), .second, .val (.int t2), .unset, .unset, .unset, .unset] [(.ref tA0), (.ref a5), (.ref a5)])) _
    refine XS.lloadN XA0.here hx rfl (hb hby at_88) rfl ?_
    show Steps p.tables e below (TA0.setTop (mkF m 89 #[.val (.long p1), .second, .val (.long p2), .second, .val (.int p3), .val (.int p4), .val (.int p5), .val (.long q2), .second, .val (.int t2), .unset, .unset, .unset, .unset] [(.long p1), (.ref tA0), (.ref a5), (.ref a5)])) _
    refine XS.iconst XA0.here hx rfl (hb hby at_89) ?_
    show Steps p.tables e below (TA0.setTop (mkF m 90 #[.val (.long p1), .second, .val (.long p2), .second, .val (.int p3), .val (.int p4), .val (.int p5), .val (.long q2), .second, .val (.int t2), .unset, .unset, .unset, .unset] [(.int (1 : Int32)), (.long p1), (.ref tA0), (.ref a5), (.ref a5)])) _
    exact kt
  obtain ⟨_, _, ⟨TA1, LA1, kA1, nA1⟩, -, YA1, hsA1, grA1, ⟨LcA1, hQA1, lA1, yA1, zA1, R0A1⟩, stA1⟩ := callSS XA0 hx (y := (⟨"com/example/nephila/nephila/usage/RequestEqualsPinLaw", "str", "(JI)Ljava/lang/String;"⟩ : MethodName)) hownA0 (mvT hZA0 (hw _ (List.mem_of_getElem? (i := 7) rfl))) (mvT hZA0 (hw _ (List.mem_of_getElem? (i := 8) rfl))) (mvT hZA0 (hw _ (List.mem_of_getElem? (i := 2) rfl))) (mvT hZA0 (hw _ (List.mem_of_getElem? (i := 9) rfl))) (by decide) (backOfSH (vm0 := TA0.vm) (W := 3) (rmT l Z a0 hw EL hEL hmem p1 (1 : Int32) G TA0.heap n0 (Nat.le_trans Z0 En_A0.1) O_A0 hG) hZA0 (hw _ (List.mem_of_getElem? (i := 9) rfl)) (hw _ (List.mem_of_getElem? (i := 2) rfl)) (by decide) (by decide) hEL RA0.1) (g := (mkF m 90 #[.val (.long p1), .second, .val (.long p2), .second, .val (.int p3), .val (.int p4), .val (.int p5), .val (.long q2), .second, .val (.int t2), .unset, .unset, .unset, .unset] [(.int (1 : Int32)), (.long p1), (.ref tA0), (.ref a5), (.ref a5)])) rfl (by rw [hml]; rfl) (argsL := [(.long p1), (.int (1 : Int32))]) (rest := [(.ref tA0), (.ref a5), (.ref a5)]) (lenOf pdT rfl) rfl (by show 2 * 0 + _ ≤ _; exact Nat.le_of_eq rfl) (hb hby at_90) (fun _ _ => ⟨rfl, rfl, Nat.le_of_ble_eq_true rfl, Nat.le_of_ble_eq_true rfl⟩)
  dsimp only [Pt.U, Pt.locs, Pt.cells, Pt.slots] at YA1 hsA1 grA1 lA1 yA1 zA1 R0A1 stA1 hQA1
  subst lA1 yA1 zA1
  obtain ⟨XA1, hSA1, hZA1, hownA1⟩ := rebS hSA0 (n1 := TA0.heap.size) (Nat.le_refl _) YA1 hsA1 grA1 hZA0 hownA0
  have RA1 := RA0.trans R0A1
  obtain ⟨tA1, rfl, NA1, EA1, geA1, SA1⟩ := hQA1
  have MA1 := Fr.app (MA0) NA1
  have O_A1 := O_A0.ext EA1
  have DA1_A1 := DA1_A0.ext EA1
  have DA2_A1 := DA2_A0.ext EA1
  have DA3_A1 := DA3_A0.ext EA1
  have DA4_A1 := DA4_A0.ext EA1
  have AA_A1 := AA_A0.ext EA1
  have SA0_A1 := SA0.ext EA1
  have En_A1 := own_ext_trans En_A0 EA1
  have sg8 : ∀ target, Steps p.tables e below (TA1.setTop (mkF m 97 #[.val (.long p1), .second, .val (.long p2), .second, .val (.int p3), .val (.int p4), .val (.int p5), .val (.long q2), .second, .val (.int t2), .unset, .unset, .unset, .unset] [(.int (2 : Int32)), (.long p1), (.int p3), (.ref tA1), (.ref tA0), (.ref a5), (.ref a5)])) target → Steps p.tables e below (TA1.setTop (mkF m 93 #[.val (.long p1), .second, .val (.long p2), .second, .val (.int p3), .val (.int p4), .val (.int p5), .val (.long q2), .second, .val (.int t2), .unset, .unset, .unset, .unset] [(.ref tA1), (.ref tA0), (.ref a5), (.ref a5)])) target := by
    intro target kt
    show Steps p.tables e below (TA1.setTop (mkF m 93 #[.val (.long p1), .second, .val (.long p2), .second, .val (.int p3), .val (.int p4), .val (.int p5), .val (.long q2), .second, .val (.int t2), .unset, .unset, .unset, .unset] [(.ref tA1), (.ref tA0), (.ref a5), (.ref a5)])) _
    refine XS.iload XA1.here hx rfl (hb hby at_93) rfl ?_
    show Steps p.tables e below (TA1.setTop (mkF m 95 #[.val (.long p1), .second, .val (.long p2), .second, .val (.int p3), .val (.int p4), .val (.int p5), .val (.long q2), .second, .val (.int t2), .unset, .unset, .unset, .unset] [(.int p3), (.ref tA1), (.ref tA0), (.ref a5), (.ref a5)])) _
    refine XS.lloadN XA1.here hx rfl (hb hby at_95) rfl ?_
    show Steps p.tables e below (TA1.setTop (mkF m 96 #[.val (.long p1), .second, .val (.long p2), .second, .val (.int p3), .val (.int p4), .val (.int p5), .val (.long q2), .second, .val (.int t2), .unset, .unset, .unset, .unset] [(.long p1), (.int p3), (.ref tA1), (.ref tA0), (.ref a5), (.ref a5)])) _
    refine XS.iconst XA1.here hx rfl (hb hby at_96) ?_
    show Steps p.tables e below (TA1.setTop (mkF m 97 #[.val (.long p1), .second, .val (.long p2), .second, .val (.int p3), .val (.int p4), .val (.int p5), .val (.long q2), .second, .val (.int t2), .unset, .unset, .unset, .unset] [(.int (2 : Int32)), (.long p1), (.int p3), (.ref tA1), (.ref tA0), (.ref a5), (.ref a5)])) _
    exact kt
  obtain ⟨_, _, ⟨TA2, LA2, kA2, nA2⟩, -, YA2, hsA2, grA2, ⟨LcA2, hQA2, lA2, yA2, zA2, R0A2⟩, stA2⟩ := callSS XA1 hx (y := (⟨"com/example/nephila/nephila/usage/RequestEqualsPinLaw", "str", "(JI)Ljava/lang/String;"⟩ : MethodName)) hownA1 (mvT hZA1 (hw _ (List.mem_of_getElem? (i := 7) rfl))) (mvT hZA1 (hw _ (List.mem_of_getElem? (i := 8) rfl))) (mvT hZA1 (hw _ (List.mem_of_getElem? (i := 2) rfl))) (mvT hZA1 (hw _ (List.mem_of_getElem? (i := 9) rfl))) (by decide) (backOfSH (vm0 := TA1.vm) (W := 5) (rmT l Z a0 hw EL hEL hmem p1 (2 : Int32) G TA1.heap n0 (Nat.le_trans Z0 En_A1.1) O_A1 hG) hZA1 (hw _ (List.mem_of_getElem? (i := 9) rfl)) (hw _ (List.mem_of_getElem? (i := 2) rfl)) (by decide) (by decide) hEL RA1.1) (g := (mkF m 97 #[.val (.long p1), .second, .val (.long p2), .second, .val (.int p3), .val (.int p4), .val (.int p5), .val (.long q2), .second, .val (.int t2), .unset, .unset, .unset, .unset] [(.int (2 : Int32)), (.long p1), (.int p3), (.ref tA1), (.ref tA0), (.ref a5), (.ref a5)])) rfl (by rw [hml]; rfl) (argsL := [(.long p1), (.int (2 : Int32))]) (rest := [(.int p3), (.ref tA1), (.ref tA0), (.ref a5), (.ref a5)]) (lenOf pdT rfl) rfl (by show 2 * 0 + _ ≤ _; exact Nat.le_of_eq rfl) (hb hby at_97) (fun _ _ => ⟨rfl, rfl, Nat.le_of_ble_eq_true rfl, Nat.le_of_ble_eq_true rfl⟩)
  dsimp only [Pt.U, Pt.locs, Pt.cells, Pt.slots] at YA2 hsA2 grA2 lA2 yA2 zA2 R0A2 stA2 hQA2
  subst lA2 yA2 zA2
  obtain ⟨XA2, hSA2, hZA2, hownA2⟩ := rebS hSA1 (n1 := TA1.heap.size) (Nat.le_refl _) YA2 hsA2 grA2 hZA1 hownA1
  have RA2 := RA1.trans R0A2
  obtain ⟨tA2, rfl, NA2, EA2, geA2, SA2⟩ := hQA2
  have MA2 := Fr.app (MA1) NA2
  have O_A2 := O_A1.ext EA2
  have DA1_A2 := DA1_A1.ext EA2
  have DA2_A2 := DA2_A1.ext EA2
  have DA3_A2 := DA3_A1.ext EA2
  have DA4_A2 := DA4_A1.ext EA2
  have AA_A2 := AA_A1.ext EA2
  have SA0_A2 := SA0_A1.ext EA2
  have SA1_A2 := SA1.ext EA2
  have En_A2 := own_ext_trans En_A1 EA2
  obtain ⟨_, _, ⟨TAI, LAI, kAI, nAI⟩, -, YAI, hsAI, grAI, ⟨LcAI, hQAI, lAI, yAI, zAI, R0AI⟩, stAI⟩ := XA2.specialBackS hx (y := (⟨"com/example/nephila/nephila/usage/Request", "<init>", "(Ljava/lang/String;Ljava/lang/String;ILjava/lang/String;)V"⟩ : MethodName)) rfl hownA2 (mvT hZA2 (hw _ (List.mem_of_getElem? (i := 36) rfl))) (mvT hZA2 (hw _ (List.mem_of_getElem? (i := 37) rfl))) (mvT hZA2 (hw _ (List.mem_of_getElem? (i := 38) rfl))) (by decide) (backOfSH (vm0 := TA2.vm) (W := 1) (rmI l Z a0 hw EL hEL a5 tA0 tA1 tA2 p3 TA2.heap n0 geaA SA0_A2.1 SA1_A2.1 SA2.1 AA_A2 DA1_A2 DA2_A2 DA3_A2 DA4_A2) hZA2 (hw _ (List.mem_of_getElem? (i := 38) rfl)) (hw _ (List.mem_of_getElem? (i := 6) rfl)) (by decide) (by decide) hEL RA2.1) (g := (mkF m 100 #[.val (.long p1), .second, .val (.long p2), .second, .val (.int p3), .val (.int p4), .val (.int p5), .val (.long q2), .second, .val (.int t2), .unset, .unset, .unset, .unset] [(.ref tA2), (.int p3), (.ref tA1), (.ref tA0), (.ref a5), (.ref a5)])) rfl (by rw [hml]; rfl) (Steps.refl _) (a := a5) (argsL := [(.ref tA0), (.ref tA1), (.int p3), (.ref tA2)]) (rest := [(.ref a5)]) (lenOf pdI rfl) rfl (by show 2 * 0 + _ ≤ _; exact Nat.le_of_eq rfl) (hb hby at_100) (fun _ _ => ⟨rfl, rfl, Nat.le_of_ble_eq_true rfl, Nat.le_of_ble_eq_true rfl⟩)
  dsimp only [Pt.U, Pt.locs, Pt.cells, Pt.slots] at YAI hsAI grAI lAI yAI zAI R0AI stAI hQAI
  subst lAI yAI zAI
  obtain ⟨XAI, hSAI, hZAI, hownAI⟩ := rebS hSA2 (n1 := TA2.heap.size) (Nat.le_refl _) YAI hsAI grAI hZA2 hownA2
  have RAI := RA2.trans R0AI
  obtain ⟨rfl, NAI, KAI, QA⟩ := hQAI
  have MAI := Fr.app (MA2) NAI
  have EcA := own_ext_keep (own_ext_trans (own_ext_trans (own_ext_trans E5 EA0) EA1) EA2) KAI (allS (by rw [g5]; exact Nat.le_refl _) all0)
  have EnAI := own_ext_trans (own_ext_refl h0) EcA
  have O_AI := O.ext EcA
  have SA0_AI := SA0_A2.keep AA_A2 (by decide) (hw _ (List.mem_of_getElem? (i := 5) rfl)) KAI
  have SA1_AI := SA1_A2.keep AA_A2 (by decide) (hw _ (List.mem_of_getElem? (i := 5) rfl)) KAI
  have SA2_AI := SA2.keep AA_A2 (by decide) (hw _ (List.mem_of_getElem? (i := 5) rfl)) KAI
  have sg9 : ∀ target, Steps p.tables e below (TAI.setTop (mkF m 105 #[.val (.long p1), .second, .val (.long p2), .second, .val (.int p3), .val (.int p4), .val (.int p5), .val (.long q2), .second, .val (.int t2), .val (.ref a5), .unset, .unset, .unset] [])) target → Steps p.tables e below (TAI.setTop (mkF m 103 #[.val (.long p1), .second, .val (.long p2), .second, .val (.int p3), .val (.int p4), .val (.int p5), .val (.long q2), .second, .val (.int t2), .unset, .unset, .unset, .unset] [(.ref a5)])) target := by
    intro target kt
    show Steps p.tables e below (TAI.setTop (mkF m 103 #[.val (.long p1), .second, .val (.long p2), .second, .val (.int p3), .val (.int p4), .val (.int p5), .val (.long q2), .second, .val (.int t2), .unset, .unset, .unset, .unset] [(.ref a5)])) _
    refine XS.astore XAI.here hx rfl (hb hby at_103) rfl rfl (l' := #[.val (.long p1), .second, .val (.long p2), .second, .val (.int p3), .val (.int p4), .val (.int p5), .val (.long q2), .second, .val (.int t2), .val (.ref a5), .unset, .unset, .unset]) rfl ?_
    show Steps p.tables e below (TAI.setTop (mkF m 105 #[.val (.long p1), .second, .val (.long p2), .second, .val (.int p3), .val (.int p4), .val (.int p5), .val (.long q2), .second, .val (.int t2), .val (.ref a5), .unset, .unset, .unset] [])) _
    exact kt
  obtain ⟨T10, h10, X10, e10, E10, A10, D10, -, st10⟩ := newO XAI hx hZAI hownAI (hw _ (List.mem_of_getElem? (i := 4) rfl)) (hw _ (List.mem_of_getElem? (i := 5) rfl)) (hw _ (List.mem_of_getElem? (i := 6) rfl)) rfl (g := (mkF m 105 #[.val (.long p1), .second, .val (.long p2), .second, .val (.int p3), .val (.int p4), .val (.int p5), .val (.long q2), .second, .val (.int t2), .val (.ref a5), .unset, .unset, .unset] [])) rfl (hb hby at_105) (by decide) (by decide)
  obtain ⟨a10, g10⟩ : ∃ z, z = TAI.heap.size := ⟨_, rfl⟩
  rw [← g10] at A10 D10 st10
  have O_Bn := O_AI.ext E10
  have SA0_Bn := SA0_AI.ext E10
  have SA1_Bn := SA1_AI.ext E10
  have SA2_Bn := SA2_AI.ext E10
  have QA_Bn := QA.ext E10
  have En_Bn := own_ext_trans EnAI E10
  have RBn := RAI.trans (CHr.ext E10 RAI.1)
  have hkBn : TAI.heap.size ≤ h10.size := Nat.le_trans (Nat.le_refl _) E10.1
  have DB1 := D10 (Or.inr (hw _ (List.mem_of_getElem? (i := 47) rfl))) (ty := (.object "java/lang/String")) (by decide)
  have DB2 := D10 (Or.inr (hw _ (List.mem_of_getElem? (i := 50) rfl))) (ty := (.object "java/lang/String")) (by decide)
  have DB3 := D10 (Or.inr (hw _ (List.mem_of_getElem? (i := 52) rfl))) (ty := .int) (by decide)
  have DB4 := D10 (Or.inr (hw _ (List.mem_of_getElem? (i := 55) rfl))) (ty := (.object "java/lang/String")) (by decide)
  have AB := A10
  have geaB : n0 ≤ a10 := by rw [g10]; exact Nat.le_trans Z0 EnAI.1
  have sg11 : ∀ target, Steps p.tables e below (T10.setTop (mkF m 112 #[.val (.long p1), .second, .val (.long p2), .second, .val (.int p3), .val (.int p4), .val (.int p5), .val (.long q2), .second, .val (.int t2), .val (.ref a5), .unset, .unset, .unset] [(.int (0 : Int32)), (.long q2), (.ref a10), (.ref a10)])) target → Steps p.tables e below (T10.setTop (mkF m 108 #[.val (.long p1), .second, .val (.long p2), .second, .val (.int p3), .val (.int p4), .val (.int p5), .val (.long q2), .second, .val (.int t2), .val (.ref a5), .unset, .unset, .unset] [(.ref a10)])) target := by
    intro target kt
    show Steps p.tables e below (T10.setTop (mkF m 108 #[.val (.long p1), .second, .val (.long p2), .second, .val (.int p3), .val (.int p4), .val (.int p5), .val (.long q2), .second, .val (.int t2), .val (.ref a5), .unset, .unset, .unset] [(.ref a10)])) _
    refine XS.dup X10.here hx rfl (hb hby at_108) rfl rfl ?_
    show Steps p.tables e below (T10.setTop (mkF m 109 #[.val (.long p1), .second, .val (.long p2), .second, .val (.int p3), .val (.int p4), .val (.int p5), .val (.long q2), .second, .val (.int t2), .val (.ref a5), .unset, .unset, .unset] [(.ref a10), (.ref a10)])) _
    refine XS.lload X10.here hx rfl (hb hby at_109) rfl ?_
    show Steps p.tables e below (T10.setTop (mkF m 111 #[.val (.long p1), .second, .val (.long p2), .second, .val (.int p3), .val (.int p4), .val (.int p5), .val (.long q2), .second, .val (.int t2), .val (.ref a5), .unset, .unset, .unset] [(.long q2), (.ref a10), (.ref a10)])) _
    refine XS.iconst X10.here hx rfl (hb hby at_111) ?_
    show Steps p.tables e below (T10.setTop (mkF m 112 #[.val (.long p1), .second, .val (.long p2), .second, .val (.int p3), .val (.int p4), .val (.int p5), .val (.long q2), .second, .val (.int t2), .val (.ref a5), .unset, .unset, .unset] [(.int (0 : Int32)), (.long q2), (.ref a10), (.ref a10)])) _
    exact kt
  obtain ⟨_, _, ⟨TB0, LB0, kB0, nB0⟩, -, YB0, hsB0, grB0, ⟨LcB0, hQB0, lB0, yB0, zB0, R0B0⟩, stB0⟩ := callSS X10 hx (y := (⟨"com/example/nephila/nephila/usage/RequestEqualsPinLaw", "str", "(JI)Ljava/lang/String;"⟩ : MethodName)) hownAI (mvT hZAI (hw _ (List.mem_of_getElem? (i := 7) rfl))) (mvT hZAI (hw _ (List.mem_of_getElem? (i := 8) rfl))) (mvT hZAI (hw _ (List.mem_of_getElem? (i := 2) rfl))) (mvT hZAI (hw _ (List.mem_of_getElem? (i := 9) rfl))) (by decide) (backOfSH (vm0 := TAI.vm) (W := 2) (rmT l Z a0 hw EL hEL hmem q2 (0 : Int32) G h10 n0 (Nat.le_trans Z0 En_Bn.1) O_Bn hG) hZAI (hw _ (List.mem_of_getElem? (i := 9) rfl)) (hw _ (List.mem_of_getElem? (i := 2) rfl)) (by decide) (by decide) hEL RBn.1) (g := (mkF m 112 #[.val (.long p1), .second, .val (.long p2), .second, .val (.int p3), .val (.int p4), .val (.int p5), .val (.long q2), .second, .val (.int t2), .val (.ref a5), .unset, .unset, .unset] [(.int (0 : Int32)), (.long q2), (.ref a10), (.ref a10)])) rfl (by rw [hml]; rfl) (argsL := [(.long q2), (.int (0 : Int32))]) (rest := [(.ref a10), (.ref a10)]) (lenOf pdT rfl) rfl (by show 2 * 0 + _ ≤ _; exact Nat.le_of_eq rfl) (hb hby at_112) (fun _ _ => ⟨rfl, e10, Nat.le_of_ble_eq_true rfl, Nat.le_of_ble_eq_true rfl⟩)
  dsimp only [Pt.U, Pt.locs, Pt.cells, Pt.slots] at YB0 hsB0 grB0 lB0 yB0 zB0 R0B0 stB0 hQB0
  subst lB0 yB0 zB0
  obtain ⟨XB0, hSB0, hZB0, hownB0⟩ := rebS hSAI (n1 := T10.heap.size) (by rw [e10]; exact hkBn) YB0 hsB0 grB0 hZAI hownAI
  have RB0 := RBn.trans R0B0
  obtain ⟨tB0, rfl, NB0, EB0, geB0, SB0⟩ := hQB0
  have MB0 := Fr.app (MAI) NB0
  have O_B0 := O_Bn.ext EB0
  have SA0_B0 := SA0_Bn.ext EB0
  have SA1_B0 := SA1_Bn.ext EB0
  have SA2_B0 := SA2_Bn.ext EB0
  have QA_B0 := QA_Bn.ext EB0
  have DB1_B0 := DB1.ext EB0
  have DB2_B0 := DB2.ext EB0
  have DB3_B0 := DB3.ext EB0
  have DB4_B0 := DB4.ext EB0
  have AB_B0 := AB.ext EB0
  have En_B0 := own_ext_trans En_Bn EB0
  have sg12 : ∀ target, Steps p.tables e below (TB0.setTop (mkF m 118 #[.val (.long p1), .second, .val (.long p2), .second, .val (.int p3), .val (.int p4), .val (.int p5), .val (.long q2), .second, .val (.int t2), .val (.ref a5), .unset, .unset, .unset] [(.int (1 : Int32)), (.long q2), (.ref tB0), (.ref a10), (.ref a10)])) target → Steps p.tables e below (TB0.setTop (mkF m 115 #[.val (.long p1), .second, .val (.long p2), .second, .val (.int p3), .val (.int p4), .val (.int p5), .val (.long q2), .second, .val (.int t2), .val (.ref a5), .unset, .unset, .unset] [(.ref tB0), (.ref a10), (.ref a10)])) target := by
    intro target kt
    show Steps p.tables e below (TB0.setTop (mkF m 115 #[.val (.long p1), .second, .val (.long p2), .second, .val (.int p3), .val (.int p4), .val (.int p5), .val (.long q2), .second, .val (.int t2), .val (.ref a5), .unset, .unset, .unset] [(.ref tB0), (.ref a10), (.ref a10)])) _
    refine XS.lload XB0.here hx rfl (hb hby at_115) rfl ?_
    show Steps p.tables e below (TB0.setTop (mkF m 117 #[.val (.long p1), .second, .val (.long p2), .second, .val (.int p3), .val (.int p4), .val (.int p5), .val (.long q2), .second, .val (.int t2), .val (.ref a5), .unset, .unset, .unset] [(.long q2), (.ref tB0), (.ref a10), (.ref a10)])) _
    refine XS.iconst XB0.here hx rfl (hb hby at_117) ?_
    show Steps p.tables e below (TB0.setTop (mkF m 118 #[.val (.long p1), .second, .val (.long p2), .second, .val (.int p3), .val (.int p4), .val (.int p5), .val (.long q2), .second, .val (.int t2), .val (.ref a5), .unset, .unset, .unset] [(.int (1 : Int32)), (.long q2), (.ref tB0), (.ref a10), (.ref a10)])) _
    exact kt
  obtain ⟨_, _, ⟨TB1, LB1, kB1, nB1⟩, -, YB1, hsB1, grB1, ⟨LcB1, hQB1, lB1, yB1, zB1, R0B1⟩, stB1⟩ := callSS XB0 hx (y := (⟨"com/example/nephila/nephila/usage/RequestEqualsPinLaw", "str", "(JI)Ljava/lang/String;"⟩ : MethodName)) hownB0 (mvT hZB0 (hw _ (List.mem_of_getElem? (i := 7) rfl))) (mvT hZB0 (hw _ (List.mem_of_getElem? (i := 8) rfl))) (mvT hZB0 (hw _ (List.mem_of_getElem? (i := 2) rfl))) (mvT hZB0 (hw _ (List.mem_of_getElem? (i := 9) rfl))) (by decide) (backOfSH (vm0 := TB0.vm) (W := 3) (rmT l Z a0 hw EL hEL hmem q2 (1 : Int32) G TB0.heap n0 (Nat.le_trans Z0 En_B0.1) O_B0 hG) hZB0 (hw _ (List.mem_of_getElem? (i := 9) rfl)) (hw _ (List.mem_of_getElem? (i := 2) rfl)) (by decide) (by decide) hEL RB0.1) (g := (mkF m 118 #[.val (.long p1), .second, .val (.long p2), .second, .val (.int p3), .val (.int p4), .val (.int p5), .val (.long q2), .second, .val (.int t2), .val (.ref a5), .unset, .unset, .unset] [(.int (1 : Int32)), (.long q2), (.ref tB0), (.ref a10), (.ref a10)])) rfl (by rw [hml]; rfl) (argsL := [(.long q2), (.int (1 : Int32))]) (rest := [(.ref tB0), (.ref a10), (.ref a10)]) (lenOf pdT rfl) rfl (by show 2 * 0 + _ ≤ _; exact Nat.le_of_eq rfl) (hb hby at_118) (fun _ _ => ⟨rfl, rfl, Nat.le_of_ble_eq_true rfl, Nat.le_of_ble_eq_true rfl⟩)
  dsimp only [Pt.U, Pt.locs, Pt.cells, Pt.slots] at YB1 hsB1 grB1 lB1 yB1 zB1 R0B1 stB1 hQB1
  subst lB1 yB1 zB1
  obtain ⟨XB1, hSB1, hZB1, hownB1⟩ := rebS hSB0 (n1 := TB0.heap.size) (Nat.le_refl _) YB1 hsB1 grB1 hZB0 hownB0
  have RB1 := RB0.trans R0B1
  obtain ⟨tB1, rfl, NB1, EB1, geB1, SB1⟩ := hQB1
  have MB1 := Fr.app (MB0) NB1
  have O_B1 := O_B0.ext EB1
  have SA0_B1 := SA0_B0.ext EB1
  have SA1_B1 := SA1_B0.ext EB1
  have SA2_B1 := SA2_B0.ext EB1
  have QA_B1 := QA_B0.ext EB1
  have DB1_B1 := DB1_B0.ext EB1
  have DB2_B1 := DB2_B0.ext EB1
  have DB3_B1 := DB3_B0.ext EB1
  have DB4_B1 := DB4_B0.ext EB1
  have AB_B1 := AB_B0.ext EB1
  have SB0_B1 := SB0.ext EB1
  have En_B1 := own_ext_trans En_B0 EB1
  have sg13 : ∀ target, Steps p.tables e below (TB1.setTop (mkF m 126 #[.val (.long p1), .second, .val (.long p2), .second, .val (.int p3), .val (.int p4), .val (.int p5), .val (.long q2), .second, .val (.int t2), .val (.ref a5), .unset, .unset, .unset] [(.int (2 : Int32)), (.long q2), (.int t2), (.ref tB1), (.ref tB0), (.ref a10), (.ref a10)])) target → Steps p.tables e below (TB1.setTop (mkF m 121 #[.val (.long p1), .second, .val (.long p2), .second, .val (.int p3), .val (.int p4), .val (.int p5), .val (.long q2), .second, .val (.int t2), .val (.ref a5), .unset, .unset, .unset] [(.ref tB1), (.ref tB0), (.ref a10), (.ref a10)])) target := by
    intro target kt
    show Steps p.tables e below (TB1.setTop (mkF m 121 #[.val (.long p1), .second, .val (.long p2), .second, .val (.int p3), .val (.int p4), .val (.int p5), .val (.long q2), .second, .val (.int t2), .val (.ref a5), .unset, .unset, .unset] [(.ref tB1), (.ref tB0), (.ref a10), (.ref a10)])) _
    refine XS.iload XB1.here hx rfl (hb hby at_121) rfl ?_
    show Steps p.tables e below (TB1.setTop (mkF m 123 #[.val (.long p1), .second, .val (.long p2), .second, .val (.int p3), .val (.int p4), .val (.int p5), .val (.long q2), .second, .val (.int t2), .val (.ref a5), .unset, .unset, .unset] [(.int t2), (.ref tB1), (.ref tB0), (.ref a10), (.ref a10)])) _
    refine XS.lload XB1.here hx rfl (hb hby at_123) rfl ?_
    show Steps p.tables e below (TB1.setTop (mkF m 125 #[.val (.long p1), .second, .val (.long p2), .second, .val (.int p3), .val (.int p4), .val (.int p5), .val (.long q2), .second, .val (.int t2), .val (.ref a5), .unset, .unset, .unset] [(.long q2), (.int t2), (.ref tB1), (.ref tB0), (.ref a10), (.ref a10)])) _
    refine XS.iconst XB1.here hx rfl (hb hby at_125) ?_
    show Steps p.tables e below (TB1.setTop (mkF m 126 #[.val (.long p1), .second, .val (.long p2), .second, .val (.int p3), .val (.int p4), .val (.int p5), .val (.long q2), .second, .val (.int t2), .val (.ref a5), .unset, .unset, .unset] [(.int (2 : Int32)), (.long q2), (.int t2), (.ref tB1), (.ref tB0), (.ref a10), (.ref a10)])) _
    exact kt
  obtain ⟨_, _, ⟨TB2, LB2, kB2, nB2⟩, -, YB2, hsB2, grB2, ⟨LcB2, hQB2, lB2, yB2, zB2, R0B2⟩, stB2⟩ := callSS XB1 hx (y := (⟨"com/example/nephila/nephila/usage/RequestEqualsPinLaw", "str", "(JI)Ljava/lang/String;"⟩ : MethodName)) hownB1 (mvT hZB1 (hw _ (List.mem_of_getElem? (i := 7) rfl))) (mvT hZB1 (hw _ (List.mem_of_getElem? (i := 8) rfl))) (mvT hZB1 (hw _ (List.mem_of_getElem? (i := 2) rfl))) (mvT hZB1 (hw _ (List.mem_of_getElem? (i := 9) rfl))) (by decide) (backOfSH (vm0 := TB1.vm) (W := 5) (rmT l Z a0 hw EL hEL hmem q2 (2 : Int32) G TB1.heap n0 (Nat.le_trans Z0 En_B1.1) O_B1 hG) hZB1 (hw _ (List.mem_of_getElem? (i := 9) rfl)) (hw _ (List.mem_of_getElem? (i := 2) rfl)) (by decide) (by decide) hEL RB1.1) (g := (mkF m 126 #[.val (.long p1), .second, .val (.long p2), .second, .val (.int p3), .val (.int p4), .val (.int p5), .val (.long q2), .second, .val (.int t2), .val (.ref a5), .unset, .unset, .unset] [(.int (2 : Int32)), (.long q2), (.int t2), (.ref tB1), (.ref tB0), (.ref a10), (.ref a10)])) rfl (by rw [hml]; rfl) (argsL := [(.long q2), (.int (2 : Int32))]) (rest := [(.int t2), (.ref tB1), (.ref tB0), (.ref a10), (.ref a10)]) (lenOf pdT rfl) rfl (by show 2 * 0 + _ ≤ _; exact Nat.le_of_eq rfl) (hb hby at_126) (fun _ _ => ⟨rfl, rfl, Nat.le_of_ble_eq_true rfl, Nat.le_of_ble_eq_true rfl⟩)
  dsimp only [Pt.U, Pt.locs, Pt.cells, Pt.slots] at YB2 hsB2 grB2 lB2 yB2 zB2 R0B2 stB2 hQB2
  subst lB2 yB2 zB2
  obtain ⟨XB2, hSB2, hZB2, hownB2⟩ := rebS hSB1 (n1 := TB1.heap.size) (Nat.le_refl _) YB2 hsB2 grB2 hZB1 hownB1
  have RB2 := RB1.trans R0B2
  obtain ⟨tB2, rfl, NB2, EB2, geB2, SB2⟩ := hQB2
  have MB2 := Fr.app (MB1) NB2
  have O_B2 := O_B1.ext EB2
  have SA0_B2 := SA0_B1.ext EB2
  have SA1_B2 := SA1_B1.ext EB2
  have SA2_B2 := SA2_B1.ext EB2
  have QA_B2 := QA_B1.ext EB2
  have DB1_B2 := DB1_B1.ext EB2
  have DB2_B2 := DB2_B1.ext EB2
  have DB3_B2 := DB3_B1.ext EB2
  have DB4_B2 := DB4_B1.ext EB2
  have AB_B2 := AB_B1.ext EB2
  have SB0_B2 := SB0_B1.ext EB2
  have SB1_B2 := SB1.ext EB2
  have En_B2 := own_ext_trans En_B1 EB2
  obtain ⟨_, _, ⟨TBI, LBI, kBI, nBI⟩, -, YBI, hsBI, grBI, ⟨LcBI, hQBI, lBI, yBI, zBI, R0BI⟩, stBI⟩ := XB2.specialBackS hx (y := (⟨"com/example/nephila/nephila/usage/Request", "<init>", "(Ljava/lang/String;Ljava/lang/String;ILjava/lang/String;)V"⟩ : MethodName)) rfl hownB2 (mvT hZB2 (hw _ (List.mem_of_getElem? (i := 36) rfl))) (mvT hZB2 (hw _ (List.mem_of_getElem? (i := 37) rfl))) (mvT hZB2 (hw _ (List.mem_of_getElem? (i := 38) rfl))) (by decide) (backOfSH (vm0 := TB2.vm) (W := 1) (rmI l Z a0 hw EL hEL a10 tB0 tB1 tB2 t2 TB2.heap n0 geaB SB0_B2.1 SB1_B2.1 SB2.1 AB_B2 DB1_B2 DB2_B2 DB3_B2 DB4_B2) hZB2 (hw _ (List.mem_of_getElem? (i := 38) rfl)) (hw _ (List.mem_of_getElem? (i := 6) rfl)) (by decide) (by decide) hEL RB2.1) (g := (mkF m 129 #[.val (.long p1), .second, .val (.long p2), .second, .val (.int p3), .val (.int p4), .val (.int p5), .val (.long q2), .second, .val (.int t2), .val (.ref a5), .unset, .unset, .unset] [(.ref tB2), (.int t2), (.ref tB1), (.ref tB0), (.ref a10), (.ref a10)])) rfl (by rw [hml]; rfl) (Steps.refl _) (a := a10) (argsL := [(.ref tB0), (.ref tB1), (.int t2), (.ref tB2)]) (rest := [(.ref a10)]) (lenOf pdI rfl) rfl (by show 2 * 0 + _ ≤ _; exact Nat.le_of_eq rfl) (hb hby at_129) (fun _ _ => ⟨rfl, rfl, Nat.le_of_ble_eq_true rfl, Nat.le_of_ble_eq_true rfl⟩)
  dsimp only [Pt.U, Pt.locs, Pt.cells, Pt.slots] at YBI hsBI grBI lBI yBI zBI R0BI stBI hQBI
  subst lBI yBI zBI
  obtain ⟨XBI, hSBI, hZBI, hownBI⟩ := rebS hSB2 (n1 := TB2.heap.size) (Nat.le_refl _) YBI hsBI grBI hZB2 hownB2
  have RBI := RB2.trans R0BI
  obtain ⟨rfl, NBI, KBI, QB⟩ := hQBI
  have MBI := Fr.app (MB2) NBI
  have EcB := own_ext_keep (own_ext_trans (own_ext_trans (own_ext_trans E10 EB0) EB1) EB2) KBI (allS (by rw [g10]; exact Nat.le_refl _) all0)
  have EnBI := own_ext_trans EnAI EcB
  have O_BI := O_AI.ext EcB
  have SA0_BI := SA0_AI.ext EcB
  have SA1_BI := SA1_AI.ext EcB
  have SA2_BI := SA2_AI.ext EcB
  have QA_BI := QA.ext EcB
  have SB0_BI := SB0_B2.keep AB_B2 (by decide) (hw _ (List.mem_of_getElem? (i := 5) rfl)) KBI
  have SB1_BI := SB1_B2.keep AB_B2 (by decide) (hw _ (List.mem_of_getElem? (i := 5) rfl)) KBI
  have SB2_BI := SB2.keep AB_B2 (by decide) (hw _ (List.mem_of_getElem? (i := 5) rfl)) KBI
  have sg14 : ∀ target, Steps p.tables e below (TBI.setTop (mkF m 142 #[.val (.long p1), .second, .val (.long p2), .second, .val (.int p3), .val (.int p4), .val (.int p5), .val (.long q2), .second, .val (.int t2), .val (.ref a5), .val (.ref a10), .val (.int ((((p5).toUInt32 >>> ((4 : Int32) &&& 31).toUInt32).toInt32) &&& (3 : Int32))), .unset] [])) target → Steps p.tables e below (TBI.setTop (mkF m 132 #[.val (.long p1), .second, .val (.long p2), .second, .val (.int p3), .val (.int p4), .val (.int p5), .val (.long q2), .second, .val (.int t2), .val (.ref a5), .unset, .unset, .unset] [(.ref a10)])) target := by
    intro target kt
    show Steps p.tables e below (TBI.setTop (mkF m 132 #[.val (.long p1), .second, .val (.long p2), .second, .val (.int p3), .val (.int p4), .val (.int p5), .val (.long q2), .second, .val (.int t2), .val (.ref a5), .unset, .unset, .unset] [(.ref a10)])) _
    refine XS.astore XBI.here hx rfl (hb hby at_132) rfl rfl (l' := #[.val (.long p1), .second, .val (.long p2), .second, .val (.int p3), .val (.int p4), .val (.int p5), .val (.long q2), .second, .val (.int t2), .val (.ref a5), .val (.ref a10), .unset, .unset]) rfl ?_
    show Steps p.tables e below (TBI.setTop (mkF m 134 #[.val (.long p1), .second, .val (.long p2), .second, .val (.int p3), .val (.int p4), .val (.int p5), .val (.long q2), .second, .val (.int t2), .val (.ref a5), .val (.ref a10), .unset, .unset] [])) _
    refine XS.iload XBI.here hx rfl (hb hby at_134) rfl ?_
    show Steps p.tables e below (TBI.setTop (mkF m 136 #[.val (.long p1), .second, .val (.long p2), .second, .val (.int p3), .val (.int p4), .val (.int p5), .val (.long q2), .second, .val (.int t2), .val (.ref a5), .val (.ref a10), .unset, .unset] [(.int p5)])) _
    refine XS.iconst XBI.here hx rfl (hb hby at_136) ?_
    show Steps p.tables e below (TBI.setTop (mkF m 137 #[.val (.long p1), .second, .val (.long p2), .second, .val (.int p3), .val (.int p4), .val (.int p5), .val (.long q2), .second, .val (.int t2), .val (.ref a5), .val (.ref a10), .unset, .unset] [(.int (4 : Int32)), (.int p5)])) _
    refine XS.iushr XBI.here hx rfl (hb hby at_137) rfl ?_
    show Steps p.tables e below (TBI.setTop (mkF m 138 #[.val (.long p1), .second, .val (.long p2), .second, .val (.int p3), .val (.int p4), .val (.int p5), .val (.long q2), .second, .val (.int t2), .val (.ref a5), .val (.ref a10), .unset, .unset] [(.int (((p5).toUInt32 >>> ((4 : Int32) &&& 31).toUInt32).toInt32))])) _
    refine XS.iconst XBI.here hx rfl (hb hby at_138) ?_
    show Steps p.tables e below (TBI.setTop (mkF m 139 #[.val (.long p1), .second, .val (.long p2), .second, .val (.int p3), .val (.int p4), .val (.int p5), .val (.long q2), .second, .val (.int t2), .val (.ref a5), .val (.ref a10), .unset, .unset] [(.int (3 : Int32)), (.int (((p5).toUInt32 >>> ((4 : Int32) &&& 31).toUInt32).toInt32))])) _
    refine XS.iand XBI.here hx rfl (hb hby at_139) rfl ?_
    show Steps p.tables e below (TBI.setTop (mkF m 140 #[.val (.long p1), .second, .val (.long p2), .second, .val (.int p3), .val (.int p4), .val (.int p5), .val (.long q2), .second, .val (.int t2), .val (.ref a5), .val (.ref a10), .unset, .unset] [(.int ((((p5).toUInt32 >>> ((4 : Int32) &&& 31).toUInt32).toInt32) &&& (3 : Int32)))])) _
    refine XS.istore XBI.here hx rfl (hb hby at_140) rfl (l' := #[.val (.long p1), .second, .val (.long p2), .second, .val (.int p3), .val (.int p4), .val (.int p5), .val (.long q2), .second, .val (.int t2), .val (.ref a5), .val (.ref a10), .val (.int ((((p5).toUInt32 >>> ((4 : Int32) &&& 31).toUInt32).toInt32) &&& (3 : Int32))), .unset]) rfl ?_
    show Steps p.tables e below (TBI.setTop (mkF m 142 #[.val (.long p1), .second, .val (.long p2), .second, .val (.int p3), .val (.int p4), .val (.int p5), .val (.long q2), .second, .val (.int t2), .val (.ref a5), .val (.ref a10), .val (.int ((((p5).toUInt32 >>> ((4 : Int32) &&& 31).toUInt32).toInt32) &&& (3 : Int32))), .unset] [])) _
    exact kt
  obtain ⟨md, hmd⟩ : ∃ z, z = ((((p5).toUInt32 >>> ((4 : Int32) &&& 31).toUInt32).toInt32) &&& (3 : Int32)) := ⟨_, rfl⟩
  by_cases h1 : md = 1
  · have sg15 : ∀ target, Steps p.tables e below (TBI.setTop (mkF m 151 #[.val (.long p1), .second, .val (.long p2), .second, .val (.int p3), .val (.int p4), .val (.int p5), .val (.long q2), .second, .val (.int t2), .val (.ref a5), .val (.ref a10), .val (.int md), .unset] [.null, (.ref a5)])) target → Steps p.tables e below (TBI.setTop (mkF m 142 #[.val (.long p1), .second, .val (.long p2), .second, .val (.int p3), .val (.int p4), .val (.int p5), .val (.long q2), .second, .val (.int t2), .val (.ref a5), .val (.ref a10), .val (.int ((((p5).toUInt32 >>> ((4 : Int32) &&& 31).toUInt32).toInt32) &&& (3 : Int32))), .unset] [])) target := by
      intro target kt
      show Steps p.tables e below (TBI.setTop (mkF m 142 #[.val (.long p1), .second, .val (.long p2), .second, .val (.int p3), .val (.int p4), .val (.int p5), .val (.long q2), .second, .val (.int t2), .val (.ref a5), .val (.ref a10), .val (.int ((((p5).toUInt32 >>> ((4 : Int32) &&& 31).toUInt32).toInt32) &&& (3 : Int32))), .unset] [])) _
      rw [← hmd]
      show Steps p.tables e below (TBI.setTop (mkF m 142 #[.val (.long p1), .second, .val (.long p2), .second, .val (.int p3), .val (.int p4), .val (.int p5), .val (.long q2), .second, .val (.int t2), .val (.ref a5), .val (.ref a10), .val (.int md), .unset] [])) _
      refine XS.iload XBI.here hx rfl (hb hby at_142) rfl ?_
      show Steps p.tables e below (TBI.setTop (mkF m 144 #[.val (.long p1), .second, .val (.long p2), .second, .val (.int p3), .val (.int p4), .val (.int p5), .val (.long q2), .second, .val (.int t2), .val (.ref a5), .val (.ref a10), .val (.int md), .unset] [(.int md)])) _
      refine XS.iconst XBI.here hx rfl (hb hby at_144) ?_
      show Steps p.tables e below (TBI.setTop (mkF m 145 #[.val (.long p1), .second, .val (.long p2), .second, .val (.int p3), .val (.int p4), .val (.int p5), .val (.long q2), .second, .val (.int t2), .val (.ref a5), .val (.ref a10), .val (.int md), .unset] [(.int (1 : Int32)), (.int md)])) _
      refine XS.icmpNo XBI.here hx rfl (hb hby at_145) rfl (teq h1).2 ?_
      show Steps p.tables e below (TBI.setTop (mkF m 148 #[.val (.long p1), .second, .val (.long p2), .second, .val (.int p3), .val (.int p4), .val (.int p5), .val (.long q2), .second, .val (.int t2), .val (.ref a5), .val (.ref a10), .val (.int md), .unset] [])) _
      refine XS.aload XBI.here hx rfl (hb hby at_148) rfl rfl ?_
      show Steps p.tables e below (TBI.setTop (mkF m 150 #[.val (.long p1), .second, .val (.long p2), .second, .val (.int p3), .val (.int p4), .val (.int p5), .val (.long q2), .second, .val (.int t2), .val (.ref a5), .val (.ref a10), .val (.int md), .unset] [(.ref a5)])) _
      refine XS.aconstNull XBI.here hx rfl (hb hby at_150) ?_
      show Steps p.tables e below (TBI.setTop (mkF m 151 #[.val (.long p1), .second, .val (.long p2), .second, .val (.int p3), .val (.int p4), .val (.int p5), .val (.long q2), .second, .val (.int t2), .val (.ref a5), .val (.ref a10), .val (.int md), .unset] [.null, (.ref a5)])) _
      exact kt
    obtain ⟨cqN, kqN, qaN, qbN, qcN⟩ := isOf hZBI rfl QA_BI.1
    obtain ⟨_, _, ⟨TN, LN, kN, nN⟩, -, XN, ⟨LcN, hQN, lN, yN, zN⟩, stN⟩ := XBI.virtualBack hx (y := (⟨"com/example/nephila/nephila/usage/Request", "equals", "(Ljava/lang/Object;)Z"⟩ : MethodName)) (z := (⟨"com/example/nephila/nephila/usage/Request", "equals", "(Ljava/lang/Object;)Z"⟩ : MethodName)) hownBI (mvT hZBI (hw _ (List.mem_of_getElem? (i := 74) rfl))) (mvT hZBI (hw _ (List.mem_of_getElem? (i := 75) rfl))) (notFace_of_selects (args := #[]) (mvT hZBI (hw _ (List.mem_of_getElem? (i := 77) rfl)))) (mvT hZBI (hw _ (List.mem_of_getElem? (i := 77) rfl))) (mvT hZBI (hw _ (List.mem_of_getElem? (i := 76) rfl))) (by decide) (backOf (W := 0) (rmQn l Z a0 hw a5 TBI.heap n0) hZBI (hw _ (List.mem_of_getElem? (i := 78) rfl)) (hw _ (List.mem_of_getElem? (i := 6) rfl)) (by decide) (by decide)) qaN qcN (g := (mkF m 151 #[.val (.long p1), .second, .val (.long p2), .second, .val (.int p3), .val (.int p4), .val (.int p5), .val (.long q2), .second, .val (.int t2), .val (.ref a5), .val (.ref a10), .val (.int md), .unset] [.null, (.ref a5)])) rfl (by rw [hml]; rfl) (Steps.refl _) (argsL := [.null]) (rest := []) (lenOf pdQ rfl) rfl (by show 2 * 0 + _ ≤ _; exact Nat.le_of_eq rfl) (hb hby at_151) (fun _ _ => ⟨rfl, rfl, Nat.le_of_ble_eq_true rfl, Nat.le_of_ble_eq_true rfl⟩)
    dsimp only [Pt.U, Pt.locs, Pt.cells, Pt.slots] at XN lN yN zN stN hQN
    subst lN yN zN
    obtain ⟨rfl, NN, eN⟩ := hQN
    have MN := Fr.app (MBI) NN
    have sg16 : ∀ target, Steps p.tables e below (TN.setTop (mkF m 162 #[.val (.long p1), .second, .val (.long p2), .second, .val (.int p3), .val (.int p4), .val (.int p5), .val (.long q2), .second, .val (.int t2), .val (.ref a5), .val (.ref a10), .val (.int md), .unset] [(.int (1 : Int32))])) target → Steps p.tables e below (TN.setTop (mkF m 154 #[.val (.long p1), .second, .val (.long p2), .second, .val (.int p3), .val (.int p4), .val (.int p5), .val (.long q2), .second, .val (.int t2), .val (.ref a5), .val (.ref a10), .val (.int md), .unset] [(.int (0 : Int32))])) target := by
      intro target kt
      show Steps p.tables e below (TN.setTop (mkF m 154 #[.val (.long p1), .second, .val (.long p2), .second, .val (.int p3), .val (.int p4), .val (.int p5), .val (.long q2), .second, .val (.int t2), .val (.ref a5), .val (.ref a10), .val (.int md), .unset] [(.int (0 : Int32))])) _
      refine XS.ifNo XN.here hx rfl (hb hby at_154) rfl (by decide) ?_
      show Steps p.tables e below (TN.setTop (mkF m 157 #[.val (.long p1), .second, .val (.long p2), .second, .val (.int p3), .val (.int p4), .val (.int p5), .val (.long q2), .second, .val (.int t2), .val (.ref a5), .val (.ref a10), .val (.int md), .unset] [])) _
      refine XS.iconst XN.here hx rfl (hb hby at_157) ?_
      show Steps p.tables e below (TN.setTop (mkF m 158 #[.val (.long p1), .second, .val (.long p2), .second, .val (.int p3), .val (.int p4), .val (.int p5), .val (.long q2), .second, .val (.int t2), .val (.ref a5), .val (.ref a10), .val (.int md), .unset] [(.int (1 : Int32))])) _
      refine XS.goto XN.here hx rfl (pc0 := 158) (pc' := 162) rfl (hb hby at_158) (by decide) (by decide) ?_
      show Steps p.tables e below (TN.setTop (mkF m 162 #[.val (.long p1), .second, .val (.long p2), .second, .val (.int p3), .val (.int p4), .val (.int p5), .val (.long q2), .second, .val (.int t2), .val (.ref a5), .val (.ref a10), .val (.int md), .unset] [(.int (1 : Int32))])) _
      exact kt
    obtain ⟨fs, hr, hrun, hended, hW⟩ := XN.leaveW hSBI (by rw [eN]; exact (Nat.le_refl _)) (v := some (.int (1 : Int32))) (fun h => by rw [Bd.returns] at h; cases h)
    refine ⟨_, _, castTop (ef_0 m p1 p2 p3 p4 p5) ?_, hrun, hended, _, _, rfl, ⟨rfl, MN⟩, own_w hW (by decide) (by decide)⟩
    show Steps p.tables e below (s₁.setTop (mkF m 0 #[.val (.long p1), .second, .val (.long p2), .second, .val (.int p3), .val (.int p4), .val (.int p5), .unset, .unset, .unset, .unset, .unset, .unset, .unset] [])) _
    refine sg1 _ ?_
    show Steps p.tables e below (s₁.setTop (mkF m 7 #[.val (.long p1), .second, .val (.long p2), .second, .val (.int p3), .val (.int p4), .val (.int p5), .unset, .unset, .unset, .unset, .unset, .unset, .unset] [(.int (p5 &&& (1 : Int32))), (.int (0 : Int32)), (.long p2), (.long p1)])) _
    refine sb0 _ ?_
    show Steps p.tables e below (s₁.setTop (mkF m 15 #[.val (.long p1), .second, .val (.long p2), .second, .val (.int p3), .val (.int p4), .val (.int p5), .unset, .unset, .unset, .unset, .unset, .unset, .unset] [(.int b0), (.int (0 : Int32)), (.long p2), (.long p1)])) _
    refine stF0 _ ?_
    show Steps p.tables e below (TF0.setTop (mkF m 18 #[.val (.long p1), .second, .val (.long p2), .second, .val (.int p3), .val (.int p4), .val (.int p5), .unset, .unset, .unset, .unset, .unset, .unset, .unset] [(.long q0)])) _
    refine sg2 _ ?_
    show Steps p.tables e below (TF0.setTop (mkF m 28 #[.val (.long p1), .second, .val (.long p2), .second, .val (.int p3), .val (.int p4), .val (.int p5), .val (.long q0), .second, .unset, .unset, .unset, .unset, .unset] [(.int (p5 &&& (2 : Int32))), (.int (1 : Int32)), (.long q0), (.long p1)])) _
    refine sb1 _ ?_
    show Steps p.tables e below (TF0.setTop (mkF m 36 #[.val (.long p1), .second, .val (.long p2), .second, .val (.int p3), .val (.int p4), .val (.int p5), .val (.long q0), .second, .unset, .unset, .unset, .unset, .unset] [(.int b1), (.int (1 : Int32)), (.long q0), (.long p1)])) _
    refine stF1 _ ?_
    show Steps p.tables e below (TF1.setTop (mkF m 39 #[.val (.long p1), .second, .val (.long p2), .second, .val (.int p3), .val (.int p4), .val (.int p5), .val (.long q0), .second, .unset, .unset, .unset, .unset, .unset] [(.long q1)])) _
    refine sg3 _ ?_
    show Steps p.tables e below (TF1.setTop (mkF m 49 #[.val (.long p1), .second, .val (.long p2), .second, .val (.int p3), .val (.int p4), .val (.int p5), .val (.long q1), .second, .unset, .unset, .unset, .unset, .unset] [(.int (p5 &&& (4 : Int32))), (.int (2 : Int32)), (.long q1), (.long p1)])) _
    refine sb2 _ ?_
    show Steps p.tables e below (TF1.setTop (mkF m 57 #[.val (.long p1), .second, .val (.long p2), .second, .val (.int p3), .val (.int p4), .val (.int p5), .val (.long q1), .second, .unset, .unset, .unset, .unset, .unset] [(.int b2), (.int (2 : Int32)), (.long q1), (.long p1)])) _
    refine stF2 _ ?_
    show Steps p.tables e below (TF2.setTop (mkF m 60 #[.val (.long p1), .second, .val (.long p2), .second, .val (.int p3), .val (.int p4), .val (.int p5), .val (.long q1), .second, .unset, .unset, .unset, .unset, .unset] [(.long q2)])) _
    refine sg4 _ ?_
    show Steps p.tables e below (TF2.setTop (mkF m 67 #[.val (.long p1), .second, .val (.long p2), .second, .val (.int p3), .val (.int p4), .val (.int p5), .val (.long q2), .second, .unset, .unset, .unset, .unset, .unset] [(.int (p5 &&& (8 : Int32)))])) _
    refine sbt _ ?_
    show Steps p.tables e below (TF2.setTop (mkF m 79 #[.val (.long p1), .second, .val (.long p2), .second, .val (.int p3), .val (.int p4), .val (.int p5), .val (.long q2), .second, .val (.int t2), .unset, .unset, .unset, .unset] [])) _
    refine st5 _ ?_
    show Steps p.tables e below (T5.setTop (mkF m 82 #[.val (.long p1), .second, .val (.long p2), .second, .val (.int p3), .val (.int p4), .val (.int p5), .val (.long q2), .second, .val (.int t2), .unset, .unset, .unset, .unset] [(.ref a5)])) _
    refine sg6 _ ?_
    show Steps p.tables e below (T5.setTop (mkF m 85 #[.val (.long p1), .second, .val (.long p2), .second, .val (.int p3), .val (.int p4), .val (.int p5), .val (.long q2), .second, .val (.int t2), .unset, .unset, .unset, .unset] [(.int (0 : Int32)), (.long p1), (.ref a5), (.ref a5)])) _
    refine stA0.trans ?_
    show Steps p.tables e below (TA0.setTop (mkF m 88 #[.val (.long p1), .second, .val (.long p2), .second, .val (.int p3), .val (.int p4), .val (.int p5), .val (.long q2), .second, .val (.int t2), .unset, .unset, .unset, .unset] [(.ref tA0), (.ref a5), (.ref a5)])) _
    refine sg7 _ ?_
    show Steps p.tables e below (TA0.setTop (mkF m 90 #[.val (.long p1), .second, .val (.long p2), .second, .val (.int p3), .val (.int p4), .val (.int p5), .val (.long q2), .second, .val (.int t2), .unset, .unset, .unset, .unset] [(.int (1 : Int32)), (.long p1), (.ref tA0), (.ref a5), (.ref a5)])) _
    refine stA1.trans ?_
    show Steps p.tables e below (TA1.setTop (mkF m 93 #[.val (.long p1), .second, .val (.long p2), .second, .val (.int p3), .val (.int p4), .val (.int p5), .val (.long q2), .second, .val (.int t2), .unset, .unset, .unset, .unset] [(.ref tA1), (.ref tA0), (.ref a5), (.ref a5)])) _
    refine sg8 _ ?_
    show Steps p.tables e below (TA1.setTop (mkF m 97 #[.val (.long p1), .second, .val (.long p2), .second, .val (.int p3), .val (.int p4), .val (.int p5), .val (.long q2), .second, .val (.int t2), .unset, .unset, .unset, .unset] [(.int (2 : Int32)), (.long p1), (.int p3), (.ref tA1), (.ref tA0), (.ref a5), (.ref a5)])) _
    refine stA2.trans ?_
    show Steps p.tables e below (TA2.setTop (mkF m 100 #[.val (.long p1), .second, .val (.long p2), .second, .val (.int p3), .val (.int p4), .val (.int p5), .val (.long q2), .second, .val (.int t2), .unset, .unset, .unset, .unset] [(.ref tA2), (.int p3), (.ref tA1), (.ref tA0), (.ref a5), (.ref a5)])) _
    refine stAI.trans ?_
    show Steps p.tables e below (TAI.setTop (mkF m 103 #[.val (.long p1), .second, .val (.long p2), .second, .val (.int p3), .val (.int p4), .val (.int p5), .val (.long q2), .second, .val (.int t2), .unset, .unset, .unset, .unset] [(.ref a5)])) _
    refine sg9 _ ?_
    show Steps p.tables e below (TAI.setTop (mkF m 105 #[.val (.long p1), .second, .val (.long p2), .second, .val (.int p3), .val (.int p4), .val (.int p5), .val (.long q2), .second, .val (.int t2), .val (.ref a5), .unset, .unset, .unset] [])) _
    refine st10 _ ?_
    show Steps p.tables e below (T10.setTop (mkF m 108 #[.val (.long p1), .second, .val (.long p2), .second, .val (.int p3), .val (.int p4), .val (.int p5), .val (.long q2), .second, .val (.int t2), .val (.ref a5), .unset, .unset, .unset] [(.ref a10)])) _
    refine sg11 _ ?_
    show Steps p.tables e below (T10.setTop (mkF m 112 #[.val (.long p1), .second, .val (.long p2), .second, .val (.int p3), .val (.int p4), .val (.int p5), .val (.long q2), .second, .val (.int t2), .val (.ref a5), .unset, .unset, .unset] [(.int (0 : Int32)), (.long q2), (.ref a10), (.ref a10)])) _
    refine stB0.trans ?_
    show Steps p.tables e below (TB0.setTop (mkF m 115 #[.val (.long p1), .second, .val (.long p2), .second, .val (.int p3), .val (.int p4), .val (.int p5), .val (.long q2), .second, .val (.int t2), .val (.ref a5), .unset, .unset, .unset] [(.ref tB0), (.ref a10), (.ref a10)])) _
    refine sg12 _ ?_
    show Steps p.tables e below (TB0.setTop (mkF m 118 #[.val (.long p1), .second, .val (.long p2), .second, .val (.int p3), .val (.int p4), .val (.int p5), .val (.long q2), .second, .val (.int t2), .val (.ref a5), .unset, .unset, .unset] [(.int (1 : Int32)), (.long q2), (.ref tB0), (.ref a10), (.ref a10)])) _
    refine stB1.trans ?_
    show Steps p.tables e below (TB1.setTop (mkF m 121 #[.val (.long p1), .second, .val (.long p2), .second, .val (.int p3), .val (.int p4), .val (.int p5), .val (.long q2), .second, .val (.int t2), .val (.ref a5), .unset, .unset, .unset] [(.ref tB1), (.ref tB0), (.ref a10), (.ref a10)])) _
    refine sg13 _ ?_
    show Steps p.tables e below (TB1.setTop (mkF m 126 #[.val (.long p1), .second, .val (.long p2), .second, .val (.int p3), .val (.int p4), .val (.int p5), .val (.long q2), .second, .val (.int t2), .val (.ref a5), .unset, .unset, .unset] [(.int (2 : Int32)), (.long q2), (.int t2), (.ref tB1), (.ref tB0), (.ref a10), (.ref a10)])) _
    refine stB2.trans ?_
    show Steps p.tables e below (TB2.setTop (mkF m 129 #[.val (.long p1), .second, .val (.long p2), .second, .val (.int p3), .val (.int p4), .val (.int p5), .val (.long q2), .second, .val (.int t2), .val (.ref a5), .unset, .unset, .unset] [(.ref tB2), (.int t2), (.ref tB1), (.ref tB0), (.ref a10), (.ref a10)])) _
    refine stBI.trans ?_
    show Steps p.tables e below (TBI.setTop (mkF m 132 #[.val (.long p1), .second, .val (.long p2), .second, .val (.int p3), .val (.int p4), .val (.int p5), .val (.long q2), .second, .val (.int t2), .val (.ref a5), .unset, .unset, .unset] [(.ref a10)])) _
    refine sg14 _ ?_
    show Steps p.tables e below (TBI.setTop (mkF m 142 #[.val (.long p1), .second, .val (.long p2), .second, .val (.int p3), .val (.int p4), .val (.int p5), .val (.long q2), .second, .val (.int t2), .val (.ref a5), .val (.ref a10), .val (.int ((((p5).toUInt32 >>> ((4 : Int32) &&& 31).toUInt32).toInt32) &&& (3 : Int32))), .unset] [])) _
    refine sg15 _ ?_
    show Steps p.tables e below (TBI.setTop (mkF m 151 #[.val (.long p1), .second, .val (.long p2), .second, .val (.int p3), .val (.int p4), .val (.int p5), .val (.long q2), .second, .val (.int t2), .val (.ref a5), .val (.ref a10), .val (.int md), .unset] [.null, (.ref a5)])) _
    refine stN.trans ?_
    show Steps p.tables e below (TN.setTop (mkF m 154 #[.val (.long p1), .second, .val (.long p2), .second, .val (.int p3), .val (.int p4), .val (.int p5), .val (.long q2), .second, .val (.int t2), .val (.ref a5), .val (.ref a10), .val (.int md), .unset] [(.int (0 : Int32))])) _
    refine sg16 _ ?_
    show Steps p.tables e below (TN.setTop (mkF m 162 #[.val (.long p1), .second, .val (.long p2), .second, .val (.int p3), .val (.int p4), .val (.int p5), .val (.long q2), .second, .val (.int t2), .val (.ref a5), .val (.ref a10), .val (.int md), .unset] [(.int (1 : Int32))])) _
    exact retN XN hx (t := .boolean) Bd.returns (by simp) (hb hby at_162) hr
  by_cases h2 : md = 2
  · have sg15 : ∀ target, Steps p.tables e below (TBI.setTop (mkF m 173 #[.val (.long p1), .second, .val (.long p2), .second, .val (.int p3), .val (.int p4), .val (.int p5), .val (.long q2), .second, .val (.int t2), .val (.ref a5), .val (.ref a10), .val (.int md), .unset] [(.int p3), (.ref a5)])) target → Steps p.tables e below (TBI.setTop (mkF m 142 #[.val (.long p1), .second, .val (.long p2), .second, .val (.int p3), .val (.int p4), .val (.int p5), .val (.long q2), .second, .val (.int t2), .val (.ref a5), .val (.ref a10), .val (.int ((((p5).toUInt32 >>> ((4 : Int32) &&& 31).toUInt32).toInt32) &&& (3 : Int32))), .unset] [])) target := by
      intro target kt
      show Steps p.tables e below (TBI.setTop (mkF m 142 #[.val (.long p1), .second, .val (.long p2), .second, .val (.int p3), .val (.int p4), .val (.int p5), .val (.long q2), .second, .val (.int t2), .val (.ref a5), .val (.ref a10), .val (.int ((((p5).toUInt32 >>> ((4 : Int32) &&& 31).toUInt32).toInt32) &&& (3 : Int32))), .unset] [])) _
      rw [← hmd]
      show Steps p.tables e below (TBI.setTop (mkF m 142 #[.val (.long p1), .second, .val (.long p2), .second, .val (.int p3), .val (.int p4), .val (.int p5), .val (.long q2), .second, .val (.int t2), .val (.ref a5), .val (.ref a10), .val (.int md), .unset] [])) _
      refine XS.iload XBI.here hx rfl (hb hby at_142) rfl ?_
      show Steps p.tables e below (TBI.setTop (mkF m 144 #[.val (.long p1), .second, .val (.long p2), .second, .val (.int p3), .val (.int p4), .val (.int p5), .val (.long q2), .second, .val (.int t2), .val (.ref a5), .val (.ref a10), .val (.int md), .unset] [(.int md)])) _
      refine XS.iconst XBI.here hx rfl (hb hby at_144) ?_
      show Steps p.tables e below (TBI.setTop (mkF m 145 #[.val (.long p1), .second, .val (.long p2), .second, .val (.int p3), .val (.int p4), .val (.int p5), .val (.long q2), .second, .val (.int t2), .val (.ref a5), .val (.ref a10), .val (.int md), .unset] [(.int (1 : Int32)), (.int md)])) _
      refine XS.icmpYes XBI.here hx rfl (pc0 := 145) (pc' := 163) rfl (hb hby at_145) rfl (feq h1).2 (by decide) (by decide) ?_
      show Steps p.tables e below (TBI.setTop (mkF m 163 #[.val (.long p1), .second, .val (.long p2), .second, .val (.int p3), .val (.int p4), .val (.int p5), .val (.long q2), .second, .val (.int t2), .val (.ref a5), .val (.ref a10), .val (.int md), .unset] [])) _
      refine XS.iload XBI.here hx rfl (hb hby at_163) rfl ?_
      show Steps p.tables e below (TBI.setTop (mkF m 165 #[.val (.long p1), .second, .val (.long p2), .second, .val (.int p3), .val (.int p4), .val (.int p5), .val (.long q2), .second, .val (.int t2), .val (.ref a5), .val (.ref a10), .val (.int md), .unset] [(.int md)])) _
      refine XS.iconst XBI.here hx rfl (hb hby at_165) ?_
      show Steps p.tables e below (TBI.setTop (mkF m 166 #[.val (.long p1), .second, .val (.long p2), .second, .val (.int p3), .val (.int p4), .val (.int p5), .val (.long q2), .second, .val (.int t2), .val (.ref a5), .val (.ref a10), .val (.int md), .unset] [(.int (2 : Int32)), (.int md)])) _
      refine XS.icmpNo XBI.here hx rfl (hb hby at_166) rfl (teq h2).2 ?_
      show Steps p.tables e below (TBI.setTop (mkF m 169 #[.val (.long p1), .second, .val (.long p2), .second, .val (.int p3), .val (.int p4), .val (.int p5), .val (.long q2), .second, .val (.int t2), .val (.ref a5), .val (.ref a10), .val (.int md), .unset] [])) _
      refine XS.aload XBI.here hx rfl (hb hby at_169) rfl rfl ?_
      show Steps p.tables e below (TBI.setTop (mkF m 171 #[.val (.long p1), .second, .val (.long p2), .second, .val (.int p3), .val (.int p4), .val (.int p5), .val (.long q2), .second, .val (.int t2), .val (.ref a5), .val (.ref a10), .val (.int md), .unset] [(.ref a5)])) _
      refine XS.iload XBI.here hx rfl (hb hby at_171) rfl ?_
      show Steps p.tables e below (TBI.setTop (mkF m 173 #[.val (.long p1), .second, .val (.long p2), .second, .val (.int p3), .val (.int p4), .val (.int p5), .val (.long q2), .second, .val (.int t2), .val (.ref a5), .val (.ref a10), .val (.int md), .unset] [(.int p3), (.ref a5)])) _
      exact kt
    obtain ⟨_, _, ⟨TV, LV, kV, nV⟩, -, XV, ⟨LcV, hQV, lV, yV, zV⟩, stV⟩ := Jvm.LawKit.callS XBI hx (y := (⟨"java/lang/Integer", "valueOf", "(I)Ljava/lang/Integer;"⟩ : MethodName)) hownBI (mvT hZBI (hw _ (List.mem_of_getElem? (i := 93) rfl))) (mvT hZBI (hw _ (List.mem_of_getElem? (i := 94) rfl))) (mvT hZBI (hw _ (List.mem_of_getElem? (i := 95) rfl))) (mvT hZBI (hw _ (List.mem_of_getElem? (i := 96) rfl))) (by decide) (backOf (W := 1) (rmV l Z a0 hw p3 TBI.heap n0 (Nat.le_trans Z0 EnBI.1) (own_ext_trans ez EnBI) Sh ca cc Sc val Bx) hZBI (hw _ (List.mem_of_getElem? (i := 96) rfl)) (hw _ (List.mem_of_getElem? (i := 95) rfl)) (by decide) (by decide)) (g := (mkF m 173 #[.val (.long p1), .second, .val (.long p2), .second, .val (.int p3), .val (.int p4), .val (.int p5), .val (.long q2), .second, .val (.int t2), .val (.ref a5), .val (.ref a10), .val (.int md), .unset] [(.int p3), (.ref a5)])) rfl (by rw [hml]; rfl) (argsL := [(.int p3)]) (rest := [(.ref a5)]) (lenOf pdV rfl) rfl (by show 2 * 0 + _ ≤ _; exact Nat.le_of_eq rfl) (hb hby at_173) (fun _ _ => ⟨rfl, rfl, Nat.le_of_ble_eq_true rfl, Nat.le_of_ble_eq_true rfl⟩)
    dsimp only [Pt.U, Pt.locs, Pt.cells, Pt.slots] at XV lV yV zV stV hQV
    subst lV yV zV
    obtain ⟨rv, rfl, NV, EV, Er⟩ := hQV
    have MV := Fr.app (MBI) NV
    have hkV : TBI.heap.size ≤ TV.heap.size := Nat.le_trans (Nat.le_refl _) EV.1
    obtain ⟨cqN, kqN, qaN, qbN, qcN⟩ := isOf hZBI rfl (QA_BI.1.ext EV)
    obtain ⟨_, _, ⟨TN, LN, kN, nN⟩, -, XN, ⟨LcN, hQN, lN, yN, zN⟩, stN⟩ := XV.virtualBack hx (y := (⟨"com/example/nephila/nephila/usage/Request", "equals", "(Ljava/lang/Object;)Z"⟩ : MethodName)) (z := (⟨"com/example/nephila/nephila/usage/Request", "equals", "(Ljava/lang/Object;)Z"⟩ : MethodName)) hownBI (mvT hZBI (hw _ (List.mem_of_getElem? (i := 74) rfl))) (mvT hZBI (hw _ (List.mem_of_getElem? (i := 75) rfl))) (notFace_of_selects (args := #[]) (mvT hZBI (hw _ (List.mem_of_getElem? (i := 77) rfl)))) (mvT hZBI (hw _ (List.mem_of_getElem? (i := 77) rfl))) (mvT hZBI (hw _ (List.mem_of_getElem? (i := 76) rfl))) (by decide) (backOf (W := 0) (rmQi l Z a0 hw a5 rv TV.heap n0 Er) hZBI (hw _ (List.mem_of_getElem? (i := 78) rfl)) (hw _ (List.mem_of_getElem? (i := 6) rfl)) (by decide) (by decide)) qaN qcN (g := (mkF m 176 #[.val (.long p1), .second, .val (.long p2), .second, .val (.int p3), .val (.int p4), .val (.int p5), .val (.long q2), .second, .val (.int t2), .val (.ref a5), .val (.ref a10), .val (.int md), .unset] [(.ref rv), (.ref a5)])) rfl (by rw [hml]; rfl) (Steps.refl _) (argsL := [(.ref rv)]) (rest := []) (lenOf pdQ rfl) rfl (by show 2 * 0 + _ ≤ _; exact Nat.le_of_eq rfl) (hb hby at_176) (fun _ _ => ⟨rfl, rfl, Nat.le_of_ble_eq_true rfl, Nat.le_of_ble_eq_true rfl⟩)
    dsimp only [Pt.U, Pt.locs, Pt.cells, Pt.slots] at XN lN yN zN stN hQN
    subst lN yN zN
    obtain ⟨rfl, NN, eN⟩ := hQN
    have MN := Fr.app (MV) NN
    have sg16 : ∀ target, Steps p.tables e below (TN.setTop (mkF m 187 #[.val (.long p1), .second, .val (.long p2), .second, .val (.int p3), .val (.int p4), .val (.int p5), .val (.long q2), .second, .val (.int t2), .val (.ref a5), .val (.ref a10), .val (.int md), .unset] [(.int (1 : Int32))])) target → Steps p.tables e below (TN.setTop (mkF m 179 #[.val (.long p1), .second, .val (.long p2), .second, .val (.int p3), .val (.int p4), .val (.int p5), .val (.long q2), .second, .val (.int t2), .val (.ref a5), .val (.ref a10), .val (.int md), .unset] [(.int (0 : Int32))])) target := by
      intro target kt
      show Steps p.tables e below (TN.setTop (mkF m 179 #[.val (.long p1), .second, .val (.long p2), .second, .val (.int p3), .val (.int p4), .val (.int p5), .val (.long q2), .second, .val (.int t2), .val (.ref a5), .val (.ref a10), .val (.int md), .unset] [(.int (0 : Int32))])) _
      refine XS.ifNo XN.here hx rfl (hb hby at_179) rfl (by decide) ?_
      show Steps p.tables e below (TN.setTop (mkF m 182 #[.val (.long p1), .second, .val (.long p2), .second, .val (.int p3), .val (.int p4), .val (.int p5), .val (.long q2), .second, .val (.int t2), .val (.ref a5), .val (.ref a10), .val (.int md), .unset] [])) _
      refine XS.iconst XN.here hx rfl (hb hby at_182) ?_
      show Steps p.tables e below (TN.setTop (mkF m 183 #[.val (.long p1), .second, .val (.long p2), .second, .val (.int p3), .val (.int p4), .val (.int p5), .val (.long q2), .second, .val (.int t2), .val (.ref a5), .val (.ref a10), .val (.int md), .unset] [(.int (1 : Int32))])) _
      refine XS.goto XN.here hx rfl (pc0 := 183) (pc' := 187) rfl (hb hby at_183) (by decide) (by decide) ?_
      show Steps p.tables e below (TN.setTop (mkF m 187 #[.val (.long p1), .second, .val (.long p2), .second, .val (.int p3), .val (.int p4), .val (.int p5), .val (.long q2), .second, .val (.int t2), .val (.ref a5), .val (.ref a10), .val (.int md), .unset] [(.int (1 : Int32))])) _
      exact kt
    obtain ⟨fs, hr, hrun, hended, hW⟩ := XN.leaveW hSBI (by rw [eN]; exact hkV) (v := some (.int (1 : Int32))) (fun h => by rw [Bd.returns] at h; cases h)
    refine ⟨_, _, castTop (ef_0 m p1 p2 p3 p4 p5) ?_, hrun, hended, _, _, rfl, ⟨rfl, MN⟩, own_w hW (by decide) (by decide)⟩
    show Steps p.tables e below (s₁.setTop (mkF m 0 #[.val (.long p1), .second, .val (.long p2), .second, .val (.int p3), .val (.int p4), .val (.int p5), .unset, .unset, .unset, .unset, .unset, .unset, .unset] [])) _
    refine sg1 _ ?_
    show Steps p.tables e below (s₁.setTop (mkF m 7 #[.val (.long p1), .second, .val (.long p2), .second, .val (.int p3), .val (.int p4), .val (.int p5), .unset, .unset, .unset, .unset, .unset, .unset, .unset] [(.int (p5 &&& (1 : Int32))), (.int (0 : Int32)), (.long p2), (.long p1)])) _
    refine sb0 _ ?_
    show Steps p.tables e below (s₁.setTop (mkF m 15 #[.val (.long p1), .second, .val (.long p2), .second, .val (.int p3), .val (.int p4), .val (.int p5), .unset, .unset, .unset, .unset, .unset, .unset, .unset] [(.int b0), (.int (0 : Int32)), (.long p2), (.long p1)])) _
    refine stF0 _ ?_
    show Steps p.tables e below (TF0.setTop (mkF m 18 #[.val (.long p1), .second, .val (.long p2), .second, .val (.int p3), .val (.int p4), .val (.int p5), .unset, .unset, .unset, .unset, .unset, .unset, .unset] [(.long q0)])) _
    refine sg2 _ ?_
    show Steps p.tables e below (TF0.setTop (mkF m 28 #[.val (.long p1), .second, .val (.long p2), .second, .val (.int p3), .val (.int p4), .val (.int p5), .val (.long q0), .second, .unset, .unset, .unset, .unset, .unset] [(.int (p5 &&& (2 : Int32))), (.int (1 : Int32)), (.long q0), (.long p1)])) _
    refine sb1 _ ?_
    show Steps p.tables e below (TF0.setTop (mkF m 36 #[.val (.long p1), .second, .val (.long p2), .second, .val (.int p3), .val (.int p4), .val (.int p5), .val (.long q0), .second, .unset, .unset, .unset, .unset, .unset] [(.int b1), (.int (1 : Int32)), (.long q0), (.long p1)])) _
    refine stF1 _ ?_
    show Steps p.tables e below (TF1.setTop (mkF m 39 #[.val (.long p1), .second, .val (.long p2), .second, .val (.int p3), .val (.int p4), .val (.int p5), .val (.long q0), .second, .unset, .unset, .unset, .unset, .unset] [(.long q1)])) _
    refine sg3 _ ?_
    show Steps p.tables e below (TF1.setTop (mkF m 49 #[.val (.long p1), .second, .val (.long p2), .second, .val (.int p3), .val (.int p4), .val (.int p5), .val (.long q1), .second, .unset, .unset, .unset, .unset, .unset] [(.int (p5 &&& (4 : Int32))), (.int (2 : Int32)), (.long q1), (.long p1)])) _
    refine sb2 _ ?_
    show Steps p.tables e below (TF1.setTop (mkF m 57 #[.val (.long p1), .second, .val (.long p2), .second, .val (.int p3), .val (.int p4), .val (.int p5), .val (.long q1), .second, .unset, .unset, .unset, .unset, .unset] [(.int b2), (.int (2 : Int32)), (.long q1), (.long p1)])) _
    refine stF2 _ ?_
    show Steps p.tables e below (TF2.setTop (mkF m 60 #[.val (.long p1), .second, .val (.long p2), .second, .val (.int p3), .val (.int p4), .val (.int p5), .val (.long q1), .second, .unset, .unset, .unset, .unset, .unset] [(.long q2)])) _
    refine sg4 _ ?_
    show Steps p.tables e below (TF2.setTop (mkF m 67 #[.val (.long p1), .second, .val (.long p2), .second, .val (.int p3), .val (.int p4), .val (.int p5), .val (.long q2), .second, .unset, .unset, .unset, .unset, .unset] [(.int (p5 &&& (8 : Int32)))])) _
    refine sbt _ ?_
    show Steps p.tables e below (TF2.setTop (mkF m 79 #[.val (.long p1), .second, .val (.long p2), .second, .val (.int p3), .val (.int p4), .val (.int p5), .val (.long q2), .second, .val (.int t2), .unset, .unset, .unset, .unset] [])) _
    refine st5 _ ?_
    show Steps p.tables e below (T5.setTop (mkF m 82 #[.val (.long p1), .second, .val (.long p2), .second, .val (.int p3), .val (.int p4), .val (.int p5), .val (.long q2), .second, .val (.int t2), .unset, .unset, .unset, .unset] [(.ref a5)])) _
    refine sg6 _ ?_
    show Steps p.tables e below (T5.setTop (mkF m 85 #[.val (.long p1), .second, .val (.long p2), .second, .val (.int p3), .val (.int p4), .val (.int p5), .val (.long q2), .second, .val (.int t2), .unset, .unset, .unset, .unset] [(.int (0 : Int32)), (.long p1), (.ref a5), (.ref a5)])) _
    refine stA0.trans ?_
    show Steps p.tables e below (TA0.setTop (mkF m 88 #[.val (.long p1), .second, .val (.long p2), .second, .val (.int p3), .val (.int p4), .val (.int p5), .val (.long q2), .second, .val (.int t2), .unset, .unset, .unset, .unset] [(.ref tA0), (.ref a5), (.ref a5)])) _
    refine sg7 _ ?_
    show Steps p.tables e below (TA0.setTop (mkF m 90 #[.val (.long p1), .second, .val (.long p2), .second, .val (.int p3), .val (.int p4), .val (.int p5), .val (.long q2), .second, .val (.int t2), .unset, .unset, .unset, .unset] [(.int (1 : Int32)), (.long p1), (.ref tA0), (.ref a5), (.ref a5)])) _
    refine stA1.trans ?_
    show Steps p.tables e below (TA1.setTop (mkF m 93 #[.val (.long p1), .second, .val (.long p2), .second, .val (.int p3), .val (.int p4), .val (.int p5), .val (.long q2), .second, .val (.int t2), .unset, .unset, .unset, .unset] [(.ref tA1), (.ref tA0), (.ref a5), (.ref a5)])) _
    refine sg8 _ ?_
    show Steps p.tables e below (TA1.setTop (mkF m 97 #[.val (.long p1), .second, .val (.long p2), .second, .val (.int p3), .val (.int p4), .val (.int p5), .val (.long q2), .second, .val (.int t2), .unset, .unset, .unset, .unset] [(.int (2 : Int32)), (.long p1), (.int p3), (.ref tA1), (.ref tA0), (.ref a5), (.ref a5)])) _
    refine stA2.trans ?_
    show Steps p.tables e below (TA2.setTop (mkF m 100 #[.val (.long p1), .second, .val (.long p2), .second, .val (.int p3), .val (.int p4), .val (.int p5), .val (.long q2), .second, .val (.int t2), .unset, .unset, .unset, .unset] [(.ref tA2), (.int p3), (.ref tA1), (.ref tA0), (.ref a5), (.ref a5)])) _
    refine stAI.trans ?_
    show Steps p.tables e below (TAI.setTop (mkF m 103 #[.val (.long p1), .second, .val (.long p2), .second, .val (.int p3), .val (.int p4), .val (.int p5), .val (.long q2), .second, .val (.int t2), .unset, .unset, .unset, .unset] [(.ref a5)])) _
    refine sg9 _ ?_
    show Steps p.tables e below (TAI.setTop (mkF m 105 #[.val (.long p1), .second, .val (.long p2), .second, .val (.int p3), .val (.int p4), .val (.int p5), .val (.long q2), .second, .val (.int t2), .val (.ref a5), .unset, .unset, .unset] [])) _
    refine st10 _ ?_
    show Steps p.tables e below (T10.setTop (mkF m 108 #[.val (.long p1), .second, .val (.long p2), .second, .val (.int p3), .val (.int p4), .val (.int p5), .val (.long q2), .second, .val (.int t2), .val (.ref a5), .unset, .unset, .unset] [(.ref a10)])) _
    refine sg11 _ ?_
    show Steps p.tables e below (T10.setTop (mkF m 112 #[.val (.long p1), .second, .val (.long p2), .second, .val (.int p3), .val (.int p4), .val (.int p5), .val (.long q2), .second, .val (.int t2), .val (.ref a5), .unset, .unset, .unset] [(.int (0 : Int32)), (.long q2), (.ref a10), (.ref a10)])) _
    refine stB0.trans ?_
    show Steps p.tables e below (TB0.setTop (mkF m 115 #[.val (.long p1), .second, .val (.long p2), .second, .val (.int p3), .val (.int p4), .val (.int p5), .val (.long q2), .second, .val (.int t2), .val (.ref a5), .unset, .unset, .unset] [(.ref tB0), (.ref a10), (.ref a10)])) _
    refine sg12 _ ?_
    show Steps p.tables e below (TB0.setTop (mkF m 118 #[.val (.long p1), .second, .val (.long p2), .second, .val (.int p3), .val (.int p4), .val (.int p5), .val (.long q2), .second, .val (.int t2), .val (.ref a5), .unset, .unset, .unset] [(.int (1 : Int32)), (.long q2), (.ref tB0), (.ref a10), (.ref a10)])) _
    refine stB1.trans ?_
    show Steps p.tables e below (TB1.setTop (mkF m 121 #[.val (.long p1), .second, .val (.long p2), .second, .val (.int p3), .val (.int p4), .val (.int p5), .val (.long q2), .second, .val (.int t2), .val (.ref a5), .unset, .unset, .unset] [(.ref tB1), (.ref tB0), (.ref a10), (.ref a10)])) _
    refine sg13 _ ?_
    show Steps p.tables e below (TB1.setTop (mkF m 126 #[.val (.long p1), .second, .val (.long p2), .second, .val (.int p3), .val (.int p4), .val (.int p5), .val (.long q2), .second, .val (.int t2), .val (.ref a5), .unset, .unset, .unset] [(.int (2 : Int32)), (.long q2), (.int t2), (.ref tB1), (.ref tB0), (.ref a10), (.ref a10)])) _
    refine stB2.trans ?_
    show Steps p.tables e below (TB2.setTop (mkF m 129 #[.val (.long p1), .second, .val (.long p2), .second, .val (.int p3), .val (.int p4), .val (.int p5), .val (.long q2), .second, .val (.int t2), .val (.ref a5), .unset, .unset, .unset] [(.ref tB2), (.int t2), (.ref tB1), (.ref tB0), (.ref a10), (.ref a10)])) _
    refine stBI.trans ?_
    show Steps p.tables e below (TBI.setTop (mkF m 132 #[.val (.long p1), .second, .val (.long p2), .second, .val (.int p3), .val (.int p4), .val (.int p5), .val (.long q2), .second, .val (.int t2), .val (.ref a5), .unset, .unset, .unset] [(.ref a10)])) _
    refine sg14 _ ?_
    show Steps p.tables e below (TBI.setTop (mkF m 142 #[.val (.long p1), .second, .val (.long p2), .second, .val (.int p3), .val (.int p4), .val (.int p5), .val (.long q2), .second, .val (.int t2), .val (.ref a5), .val (.ref a10), .val (.int ((((p5).toUInt32 >>> ((4 : Int32) &&& 31).toUInt32).toInt32) &&& (3 : Int32))), .unset] [])) _
    refine sg15 _ ?_
    show Steps p.tables e below (TBI.setTop (mkF m 173 #[.val (.long p1), .second, .val (.long p2), .second, .val (.int p3), .val (.int p4), .val (.int p5), .val (.long q2), .second, .val (.int t2), .val (.ref a5), .val (.ref a10), .val (.int md), .unset] [(.int p3), (.ref a5)])) _
    refine stV _ ?_
    show Steps p.tables e below (TV.setTop (mkF m 176 #[.val (.long p1), .second, .val (.long p2), .second, .val (.int p3), .val (.int p4), .val (.int p5), .val (.long q2), .second, .val (.int t2), .val (.ref a5), .val (.ref a10), .val (.int md), .unset] [(.ref rv), (.ref a5)])) _
    refine stN.trans ?_
    show Steps p.tables e below (TN.setTop (mkF m 179 #[.val (.long p1), .second, .val (.long p2), .second, .val (.int p3), .val (.int p4), .val (.int p5), .val (.long q2), .second, .val (.int t2), .val (.ref a5), .val (.ref a10), .val (.int md), .unset] [(.int (0 : Int32))])) _
    refine sg16 _ ?_
    show Steps p.tables e below (TN.setTop (mkF m 187 #[.val (.long p1), .second, .val (.long p2), .second, .val (.int p3), .val (.int p4), .val (.int p5), .val (.long q2), .second, .val (.int t2), .val (.ref a5), .val (.ref a10), .val (.int md), .unset] [(.int (1 : Int32))])) _
    exact retN XN hx (t := .boolean) Bd.returns (by simp) (hb hby at_187) hr
  by_cases h3 : md = 3
  · have sg15 : ∀ target, Steps p.tables e below (TBI.setTop (mkF m 198 #[.val (.long p1), .second, .val (.long p2), .second, .val (.int p3), .val (.int p4), .val (.int p5), .val (.long q2), .second, .val (.int t2), .val (.ref a5), .val (.ref a10), .val (.int md), .unset] [(.ref a5), (.ref a5)])) target → Steps p.tables e below (TBI.setTop (mkF m 142 #[.val (.long p1), .second, .val (.long p2), .second, .val (.int p3), .val (.int p4), .val (.int p5), .val (.long q2), .second, .val (.int t2), .val (.ref a5), .val (.ref a10), .val (.int ((((p5).toUInt32 >>> ((4 : Int32) &&& 31).toUInt32).toInt32) &&& (3 : Int32))), .unset] [])) target := by
      intro target kt
      show Steps p.tables e below (TBI.setTop (mkF m 142 #[.val (.long p1), .second, .val (.long p2), .second, .val (.int p3), .val (.int p4), .val (.int p5), .val (.long q2), .second, .val (.int t2), .val (.ref a5), .val (.ref a10), .val (.int ((((p5).toUInt32 >>> ((4 : Int32) &&& 31).toUInt32).toInt32) &&& (3 : Int32))), .unset] [])) _
      rw [← hmd]
      show Steps p.tables e below (TBI.setTop (mkF m 142 #[.val (.long p1), .second, .val (.long p2), .second, .val (.int p3), .val (.int p4), .val (.int p5), .val (.long q2), .second, .val (.int t2), .val (.ref a5), .val (.ref a10), .val (.int md), .unset] [])) _
      refine XS.iload XBI.here hx rfl (hb hby at_142) rfl ?_
      show Steps p.tables e below (TBI.setTop (mkF m 144 #[.val (.long p1), .second, .val (.long p2), .second, .val (.int p3), .val (.int p4), .val (.int p5), .val (.long q2), .second, .val (.int t2), .val (.ref a5), .val (.ref a10), .val (.int md), .unset] [(.int md)])) _
      refine XS.iconst XBI.here hx rfl (hb hby at_144) ?_
      show Steps p.tables e below (TBI.setTop (mkF m 145 #[.val (.long p1), .second, .val (.long p2), .second, .val (.int p3), .val (.int p4), .val (.int p5), .val (.long q2), .second, .val (.int t2), .val (.ref a5), .val (.ref a10), .val (.int md), .unset] [(.int (1 : Int32)), (.int md)])) _
      refine XS.icmpYes XBI.here hx rfl (pc0 := 145) (pc' := 163) rfl (hb hby at_145) rfl (feq h1).2 (by decide) (by decide) ?_
      show Steps p.tables e below (TBI.setTop (mkF m 163 #[.val (.long p1), .second, .val (.long p2), .second, .val (.int p3), .val (.int p4), .val (.int p5), .val (.long q2), .second, .val (.int t2), .val (.ref a5), .val (.ref a10), .val (.int md), .unset] [])) _
      refine XS.iload XBI.here hx rfl (hb hby at_163) rfl ?_
      show Steps p.tables e below (TBI.setTop (mkF m 165 #[.val (.long p1), .second, .val (.long p2), .second, .val (.int p3), .val (.int p4), .val (.int p5), .val (.long q2), .second, .val (.int t2), .val (.ref a5), .val (.ref a10), .val (.int md), .unset] [(.int md)])) _
      refine XS.iconst XBI.here hx rfl (hb hby at_165) ?_
      show Steps p.tables e below (TBI.setTop (mkF m 166 #[.val (.long p1), .second, .val (.long p2), .second, .val (.int p3), .val (.int p4), .val (.int p5), .val (.long q2), .second, .val (.int t2), .val (.ref a5), .val (.ref a10), .val (.int md), .unset] [(.int (2 : Int32)), (.int md)])) _
      refine XS.icmpYes XBI.here hx rfl (pc0 := 166) (pc' := 188) rfl (hb hby at_166) rfl (feq h2).2 (by decide) (by decide) ?_
      show Steps p.tables e below (TBI.setTop (mkF m 188 #[.val (.long p1), .second, .val (.long p2), .second, .val (.int p3), .val (.int p4), .val (.int p5), .val (.long q2), .second, .val (.int t2), .val (.ref a5), .val (.ref a10), .val (.int md), .unset] [])) _
      refine XS.iload XBI.here hx rfl (hb hby at_188) rfl ?_
      show Steps p.tables e below (TBI.setTop (mkF m 190 #[.val (.long p1), .second, .val (.long p2), .second, .val (.int p3), .val (.int p4), .val (.int p5), .val (.long q2), .second, .val (.int t2), .val (.ref a5), .val (.ref a10), .val (.int md), .unset] [(.int md)])) _
      refine XS.iconst XBI.here hx rfl (hb hby at_190) ?_
      show Steps p.tables e below (TBI.setTop (mkF m 191 #[.val (.long p1), .second, .val (.long p2), .second, .val (.int p3), .val (.int p4), .val (.int p5), .val (.long q2), .second, .val (.int t2), .val (.ref a5), .val (.ref a10), .val (.int md), .unset] [(.int (3 : Int32)), (.int md)])) _
      refine XS.icmpNo XBI.here hx rfl (hb hby at_191) rfl (teq h3).2 ?_
      show Steps p.tables e below (TBI.setTop (mkF m 194 #[.val (.long p1), .second, .val (.long p2), .second, .val (.int p3), .val (.int p4), .val (.int p5), .val (.long q2), .second, .val (.int t2), .val (.ref a5), .val (.ref a10), .val (.int md), .unset] [])) _
      refine XS.aload XBI.here hx rfl (hb hby at_194) rfl rfl ?_
      show Steps p.tables e below (TBI.setTop (mkF m 196 #[.val (.long p1), .second, .val (.long p2), .second, .val (.int p3), .val (.int p4), .val (.int p5), .val (.long q2), .second, .val (.int t2), .val (.ref a5), .val (.ref a10), .val (.int md), .unset] [(.ref a5)])) _
      refine XS.aload XBI.here hx rfl (hb hby at_196) rfl rfl ?_
      show Steps p.tables e below (TBI.setTop (mkF m 198 #[.val (.long p1), .second, .val (.long p2), .second, .val (.int p3), .val (.int p4), .val (.int p5), .val (.long q2), .second, .val (.int t2), .val (.ref a5), .val (.ref a10), .val (.int md), .unset] [(.ref a5), (.ref a5)])) _
      exact kt
    obtain ⟨cqN, kqN, qaN, qbN, qcN⟩ := isOf hZBI rfl QA_BI.1
    obtain ⟨_, _, ⟨TN, LN, kN, nN⟩, -, XN, ⟨LcN, hQN, lN, yN, zN⟩, stN⟩ := XBI.virtualBack hx (y := (⟨"com/example/nephila/nephila/usage/Request", "equals", "(Ljava/lang/Object;)Z"⟩ : MethodName)) (z := (⟨"com/example/nephila/nephila/usage/Request", "equals", "(Ljava/lang/Object;)Z"⟩ : MethodName)) hownBI (mvT hZBI (hw _ (List.mem_of_getElem? (i := 74) rfl))) (mvT hZBI (hw _ (List.mem_of_getElem? (i := 75) rfl))) (notFace_of_selects (args := #[]) (mvT hZBI (hw _ (List.mem_of_getElem? (i := 77) rfl)))) (mvT hZBI (hw _ (List.mem_of_getElem? (i := 77) rfl))) (mvT hZBI (hw _ (List.mem_of_getElem? (i := 76) rfl))) (by decide) (backOf (W := 0) (rmQ l Z a0 hw a5 a5 tA0 tA1 tA2 tA0 tA1 tA2 p3 p3 (own_cs p1 0) (own_cs p1 1) (own_cs p1 2) (own_cs p1 0) (own_cs p1 1) (own_cs p1 2) TBI.heap n0 G O_BI hG QA_BI QA_BI (own_cs_lat p1 0) (own_cs_lat p1 0) (own_cs_le p1 0) (own_cs_le p1 0) SA0_BI SA0_BI (own_cs_lat p1 1) (own_cs_lat p1 1) (own_cs_le p1 1) (own_cs_le p1 1) SA1_BI SA1_BI (own_cs_lat p1 2) (own_cs_lat p1 2) (own_cs_le p1 2) (own_cs_le p1 2) SA2_BI SA2_BI) hZBI (hw _ (List.mem_of_getElem? (i := 78) rfl)) (hw _ (List.mem_of_getElem? (i := 6) rfl)) (by decide) (by decide)) qaN qcN (g := (mkF m 198 #[.val (.long p1), .second, .val (.long p2), .second, .val (.int p3), .val (.int p4), .val (.int p5), .val (.long q2), .second, .val (.int t2), .val (.ref a5), .val (.ref a10), .val (.int md), .unset] [(.ref a5), (.ref a5)])) rfl (by rw [hml]; rfl) (Steps.refl _) (argsL := [(.ref a5)]) (rest := []) (lenOf pdQ rfl) rfl (by show 2 * 0 + _ ≤ _; exact Nat.le_of_eq rfl) (hb hby at_198) (fun _ _ => ⟨rfl, rfl, Nat.le_of_ble_eq_true rfl, Nat.le_of_ble_eq_true rfl⟩)
    dsimp only [Pt.U, Pt.locs, Pt.cells, Pt.slots] at XN lN yN zN stN hQN
    subst lN yN zN
    obtain ⟨rfl, NN, eN⟩ := hQN
    have MN := Fr.app (MBI) NN
    have r1 : (own_req (own_cs p1 0) (own_cs p1 1) (own_cs p1 2) (own_cs p1 0) (own_cs p1 1) (own_cs p1 2) p3 p3) = 1 := if_pos ⟨rfl, rfl, rfl, rfl⟩
    have sg16 : ∀ target, Steps p.tables e below (TN.setTop (mkF m 201 #[.val (.long p1), .second, .val (.long p2), .second, .val (.int p3), .val (.int p4), .val (.int p5), .val (.long q2), .second, .val (.int t2), .val (.ref a5), .val (.ref a10), .val (.int md), .unset] [(.int (1 : Int32))])) target → Steps p.tables e below (TN.setTop (mkF m 201 #[.val (.long p1), .second, .val (.long p2), .second, .val (.int p3), .val (.int p4), .val (.int p5), .val (.long q2), .second, .val (.int t2), .val (.ref a5), .val (.ref a10), .val (.int md), .unset] [(.int (own_req (own_cs p1 0) (own_cs p1 1) (own_cs p1 2) (own_cs p1 0) (own_cs p1 1) (own_cs p1 2) p3 p3))])) target := by
      intro target kt
      show Steps p.tables e below (TN.setTop (mkF m 201 #[.val (.long p1), .second, .val (.long p2), .second, .val (.int p3), .val (.int p4), .val (.int p5), .val (.long q2), .second, .val (.int t2), .val (.ref a5), .val (.ref a10), .val (.int md), .unset] [(.int (own_req (own_cs p1 0) (own_cs p1 1) (own_cs p1 2) (own_cs p1 0) (own_cs p1 1) (own_cs p1 2) p3 p3))])) _
      rw [r1]
      show Steps p.tables e below (TN.setTop (mkF m 201 #[.val (.long p1), .second, .val (.long p2), .second, .val (.int p3), .val (.int p4), .val (.int p5), .val (.long q2), .second, .val (.int t2), .val (.ref a5), .val (.ref a10), .val (.int md), .unset] [(.int (1 : Int32))])) _
      exact kt
    obtain ⟨fs, hr, hrun, hended, hW⟩ := XN.leaveW hSBI (by rw [eN]; exact (Nat.le_refl _)) (v := some (.int (1 : Int32))) (fun h => by rw [Bd.returns] at h; cases h)
    refine ⟨_, _, castTop (ef_0 m p1 p2 p3 p4 p5) ?_, hrun, hended, _, _, rfl, ⟨rfl, MN⟩, own_w hW (by decide) (by decide)⟩
    show Steps p.tables e below (s₁.setTop (mkF m 0 #[.val (.long p1), .second, .val (.long p2), .second, .val (.int p3), .val (.int p4), .val (.int p5), .unset, .unset, .unset, .unset, .unset, .unset, .unset] [])) _
    refine sg1 _ ?_
    show Steps p.tables e below (s₁.setTop (mkF m 7 #[.val (.long p1), .second, .val (.long p2), .second, .val (.int p3), .val (.int p4), .val (.int p5), .unset, .unset, .unset, .unset, .unset, .unset, .unset] [(.int (p5 &&& (1 : Int32))), (.int (0 : Int32)), (.long p2), (.long p1)])) _
    refine sb0 _ ?_
    show Steps p.tables e below (s₁.setTop (mkF m 15 #[.val (.long p1), .second, .val (.long p2), .second, .val (.int p3), .val (.int p4), .val (.int p5), .unset, .unset, .unset, .unset, .unset, .unset, .unset] [(.int b0), (.int (0 : Int32)), (.long p2), (.long p1)])) _
    refine stF0 _ ?_
    show Steps p.tables e below (TF0.setTop (mkF m 18 #[.val (.long p1), .second, .val (.long p2), .second, .val (.int p3), .val (.int p4), .val (.int p5), .unset, .unset, .unset, .unset, .unset, .unset, .unset] [(.long q0)])) _
    refine sg2 _ ?_
    show Steps p.tables e below (TF0.setTop (mkF m 28 #[.val (.long p1), .second, .val (.long p2), .second, .val (.int p3), .val (.int p4), .val (.int p5), .val (.long q0), .second, .unset, .unset, .unset, .unset, .unset] [(.int (p5 &&& (2 : Int32))), (.int (1 : Int32)), (.long q0), (.long p1)])) _
    refine sb1 _ ?_
    show Steps p.tables e below (TF0.setTop (mkF m 36 #[.val (.long p1), .second, .val (.long p2), .second, .val (.int p3), .val (.int p4), .val (.int p5), .val (.long q0), .second, .unset, .unset, .unset, .unset, .unset] [(.int b1), (.int (1 : Int32)), (.long q0), (.long p1)])) _
    refine stF1 _ ?_
    show Steps p.tables e below (TF1.setTop (mkF m 39 #[.val (.long p1), .second, .val (.long p2), .second, .val (.int p3), .val (.int p4), .val (.int p5), .val (.long q0), .second, .unset, .unset, .unset, .unset, .unset] [(.long q1)])) _
    refine sg3 _ ?_
    show Steps p.tables e below (TF1.setTop (mkF m 49 #[.val (.long p1), .second, .val (.long p2), .second, .val (.int p3), .val (.int p4), .val (.int p5), .val (.long q1), .second, .unset, .unset, .unset, .unset, .unset] [(.int (p5 &&& (4 : Int32))), (.int (2 : Int32)), (.long q1), (.long p1)])) _
    refine sb2 _ ?_
    show Steps p.tables e below (TF1.setTop (mkF m 57 #[.val (.long p1), .second, .val (.long p2), .second, .val (.int p3), .val (.int p4), .val (.int p5), .val (.long q1), .second, .unset, .unset, .unset, .unset, .unset] [(.int b2), (.int (2 : Int32)), (.long q1), (.long p1)])) _
    refine stF2 _ ?_
    show Steps p.tables e below (TF2.setTop (mkF m 60 #[.val (.long p1), .second, .val (.long p2), .second, .val (.int p3), .val (.int p4), .val (.int p5), .val (.long q1), .second, .unset, .unset, .unset, .unset, .unset] [(.long q2)])) _
    refine sg4 _ ?_
    show Steps p.tables e below (TF2.setTop (mkF m 67 #[.val (.long p1), .second, .val (.long p2), .second, .val (.int p3), .val (.int p4), .val (.int p5), .val (.long q2), .second, .unset, .unset, .unset, .unset, .unset] [(.int (p5 &&& (8 : Int32)))])) _
    refine sbt _ ?_
    show Steps p.tables e below (TF2.setTop (mkF m 79 #[.val (.long p1), .second, .val (.long p2), .second, .val (.int p3), .val (.int p4), .val (.int p5), .val (.long q2), .second, .val (.int t2), .unset, .unset, .unset, .unset] [])) _
    refine st5 _ ?_
    show Steps p.tables e below (T5.setTop (mkF m 82 #[.val (.long p1), .second, .val (.long p2), .second, .val (.int p3), .val (.int p4), .val (.int p5), .val (.long q2), .second, .val (.int t2), .unset, .unset, .unset, .unset] [(.ref a5)])) _
    refine sg6 _ ?_
    show Steps p.tables e below (T5.setTop (mkF m 85 #[.val (.long p1), .second, .val (.long p2), .second, .val (.int p3), .val (.int p4), .val (.int p5), .val (.long q2), .second, .val (.int t2), .unset, .unset, .unset, .unset] [(.int (0 : Int32)), (.long p1), (.ref a5), (.ref a5)])) _
    refine stA0.trans ?_
    show Steps p.tables e below (TA0.setTop (mkF m 88 #[.val (.long p1), .second, .val (.long p2), .second, .val (.int p3), .val (.int p4), .val (.int p5), .val (.long q2), .second, .val (.int t2), .unset, .unset, .unset, .unset] [(.ref tA0), (.ref a5), (.ref a5)])) _
    refine sg7 _ ?_
    show Steps p.tables e below (TA0.setTop (mkF m 90 #[.val (.long p1), .second, .val (.long p2), .second, .val (.int p3), .val (.int p4), .val (.int p5), .val (.long q2), .second, .val (.int t2), .unset, .unset, .unset, .unset] [(.int (1 : Int32)), (.long p1), (.ref tA0), (.ref a5), (.ref a5)])) _
    refine stA1.trans ?_
    show Steps p.tables e below (TA1.setTop (mkF m 93 #[.val (.long p1), .second, .val (.long p2), .second, .val (.int p3), .val (.int p4), .val (.int p5), .val (.long q2), .second, .val (.int t2), .unset, .unset, .unset, .unset] [(.ref tA1), (.ref tA0), (.ref a5), (.ref a5)])) _
    refine sg8 _ ?_
    show Steps p.tables e below (TA1.setTop (mkF m 97 #[.val (.long p1), .second, .val (.long p2), .second, .val (.int p3), .val (.int p4), .val (.int p5), .val (.long q2), .second, .val (.int t2), .unset, .unset, .unset, .unset] [(.int (2 : Int32)), (.long p1), (.int p3), (.ref tA1), (.ref tA0), (.ref a5), (.ref a5)])) _
    refine stA2.trans ?_
    show Steps p.tables e below (TA2.setTop (mkF m 100 #[.val (.long p1), .second, .val (.long p2), .second, .val (.int p3), .val (.int p4), .val (.int p5), .val (.long q2), .second, .val (.int t2), .unset, .unset, .unset, .unset] [(.ref tA2), (.int p3), (.ref tA1), (.ref tA0), (.ref a5), (.ref a5)])) _
    refine stAI.trans ?_
    show Steps p.tables e below (TAI.setTop (mkF m 103 #[.val (.long p1), .second, .val (.long p2), .second, .val (.int p3), .val (.int p4), .val (.int p5), .val (.long q2), .second, .val (.int t2), .unset, .unset, .unset, .unset] [(.ref a5)])) _
    refine sg9 _ ?_
    show Steps p.tables e below (TAI.setTop (mkF m 105 #[.val (.long p1), .second, .val (.long p2), .second, .val (.int p3), .val (.int p4), .val (.int p5), .val (.long q2), .second, .val (.int t2), .val (.ref a5), .unset, .unset, .unset] [])) _
    refine st10 _ ?_
    show Steps p.tables e below (T10.setTop (mkF m 108 #[.val (.long p1), .second, .val (.long p2), .second, .val (.int p3), .val (.int p4), .val (.int p5), .val (.long q2), .second, .val (.int t2), .val (.ref a5), .unset, .unset, .unset] [(.ref a10)])) _
    refine sg11 _ ?_
    show Steps p.tables e below (T10.setTop (mkF m 112 #[.val (.long p1), .second, .val (.long p2), .second, .val (.int p3), .val (.int p4), .val (.int p5), .val (.long q2), .second, .val (.int t2), .val (.ref a5), .unset, .unset, .unset] [(.int (0 : Int32)), (.long q2), (.ref a10), (.ref a10)])) _
    refine stB0.trans ?_
    show Steps p.tables e below (TB0.setTop (mkF m 115 #[.val (.long p1), .second, .val (.long p2), .second, .val (.int p3), .val (.int p4), .val (.int p5), .val (.long q2), .second, .val (.int t2), .val (.ref a5), .unset, .unset, .unset] [(.ref tB0), (.ref a10), (.ref a10)])) _
    refine sg12 _ ?_
    show Steps p.tables e below (TB0.setTop (mkF m 118 #[.val (.long p1), .second, .val (.long p2), .second, .val (.int p3), .val (.int p4), .val (.int p5), .val (.long q2), .second, .val (.int t2), .val (.ref a5), .unset, .unset, .unset] [(.int (1 : Int32)), (.long q2), (.ref tB0), (.ref a10), (.ref a10)])) _
    refine stB1.trans ?_
    show Steps p.tables e below (TB1.setTop (mkF m 121 #[.val (.long p1), .second, .val (.long p2), .second, .val (.int p3), .val (.int p4), .val (.int p5), .val (.long q2), .second, .val (.int t2), .val (.ref a5), .unset, .unset, .unset] [(.ref tB1), (.ref tB0), (.ref a10), (.ref a10)])) _
    refine sg13 _ ?_
    show Steps p.tables e below (TB1.setTop (mkF m 126 #[.val (.long p1), .second, .val (.long p2), .second, .val (.int p3), .val (.int p4), .val (.int p5), .val (.long q2), .second, .val (.int t2), .val (.ref a5), .unset, .unset, .unset] [(.int (2 : Int32)), (.long q2), (.int t2), (.ref tB1), (.ref tB0), (.ref a10), (.ref a10)])) _
    refine stB2.trans ?_
    show Steps p.tables e below (TB2.setTop (mkF m 129 #[.val (.long p1), .second, .val (.long p2), .second, .val (.int p3), .val (.int p4), .val (.int p5), .val (.long q2), .second, .val (.int t2), .val (.ref a5), .unset, .unset, .unset] [(.ref tB2), (.int t2), (.ref tB1), (.ref tB0), (.ref a10), (.ref a10)])) _
    refine stBI.trans ?_
    show Steps p.tables e below (TBI.setTop (mkF m 132 #[.val (.long p1), .second, .val (.long p2), .second, .val (.int p3), .val (.int p4), .val (.int p5), .val (.long q2), .second, .val (.int t2), .val (.ref a5), .unset, .unset, .unset] [(.ref a10)])) _
    refine sg14 _ ?_
    show Steps p.tables e below (TBI.setTop (mkF m 142 #[.val (.long p1), .second, .val (.long p2), .second, .val (.int p3), .val (.int p4), .val (.int p5), .val (.long q2), .second, .val (.int t2), .val (.ref a5), .val (.ref a10), .val (.int ((((p5).toUInt32 >>> ((4 : Int32) &&& 31).toUInt32).toInt32) &&& (3 : Int32))), .unset] [])) _
    refine sg15 _ ?_
    show Steps p.tables e below (TBI.setTop (mkF m 198 #[.val (.long p1), .second, .val (.long p2), .second, .val (.int p3), .val (.int p4), .val (.int p5), .val (.long q2), .second, .val (.int t2), .val (.ref a5), .val (.ref a10), .val (.int md), .unset] [(.ref a5), (.ref a5)])) _
    refine stN.trans ?_
    show Steps p.tables e below (TN.setTop (mkF m 201 #[.val (.long p1), .second, .val (.long p2), .second, .val (.int p3), .val (.int p4), .val (.int p5), .val (.long q2), .second, .val (.int t2), .val (.ref a5), .val (.ref a10), .val (.int md), .unset] [(.int (own_req (own_cs p1 0) (own_cs p1 1) (own_cs p1 2) (own_cs p1 0) (own_cs p1 1) (own_cs p1 2) p3 p3))])) _
    refine sg16 _ ?_
    show Steps p.tables e below (TN.setTop (mkF m 201 #[.val (.long p1), .second, .val (.long p2), .second, .val (.int p3), .val (.int p4), .val (.int p5), .val (.long q2), .second, .val (.int t2), .val (.ref a5), .val (.ref a10), .val (.int md), .unset] [(.int (1 : Int32))])) _
    exact retN XN hx (t := .boolean) Bd.returns (by simp) (hb hby at_201) hr
  have sg15 : ∀ target, Steps p.tables e below (TBI.setTop (mkF m 206 #[.val (.long p1), .second, .val (.long p2), .second, .val (.int p3), .val (.int p4), .val (.int p5), .val (.long q2), .second, .val (.int t2), .val (.ref a5), .val (.ref a10), .val (.int md), .unset] [(.int (0 : Int32)), (.long q2), (.long p1)])) target → Steps p.tables e below (TBI.setTop (mkF m 142 #[.val (.long p1), .second, .val (.long p2), .second, .val (.int p3), .val (.int p4), .val (.int p5), .val (.long q2), .second, .val (.int t2), .val (.ref a5), .val (.ref a10), .val (.int ((((p5).toUInt32 >>> ((4 : Int32) &&& 31).toUInt32).toInt32) &&& (3 : Int32))), .unset] [])) target := by
    intro target kt
    show Steps p.tables e below (TBI.setTop (mkF m 142 #[.val (.long p1), .second, .val (.long p2), .second, .val (.int p3), .val (.int p4), .val (.int p5), .val (.long q2), .second, .val (.int t2), .val (.ref a5), .val (.ref a10), .val (.int ((((p5).toUInt32 >>> ((4 : Int32) &&& 31).toUInt32).toInt32) &&& (3 : Int32))), .unset] [])) _
    rw [← hmd]
    show Steps p.tables e below (TBI.setTop (mkF m 142 #[.val (.long p1), .second, .val (.long p2), .second, .val (.int p3), .val (.int p4), .val (.int p5), .val (.long q2), .second, .val (.int t2), .val (.ref a5), .val (.ref a10), .val (.int md), .unset] [])) _
    refine XS.iload XBI.here hx rfl (hb hby at_142) rfl ?_
    show Steps p.tables e below (TBI.setTop (mkF m 144 #[.val (.long p1), .second, .val (.long p2), .second, .val (.int p3), .val (.int p4), .val (.int p5), .val (.long q2), .second, .val (.int t2), .val (.ref a5), .val (.ref a10), .val (.int md), .unset] [(.int md)])) _
    refine XS.iconst XBI.here hx rfl (hb hby at_144) ?_
    show Steps p.tables e below (TBI.setTop (mkF m 145 #[.val (.long p1), .second, .val (.long p2), .second, .val (.int p3), .val (.int p4), .val (.int p5), .val (.long q2), .second, .val (.int t2), .val (.ref a5), .val (.ref a10), .val (.int md), .unset] [(.int (1 : Int32)), (.int md)])) _
    refine XS.icmpYes XBI.here hx rfl (pc0 := 145) (pc' := 163) rfl (hb hby at_145) rfl (feq h1).2 (by decide) (by decide) ?_
    show Steps p.tables e below (TBI.setTop (mkF m 163 #[.val (.long p1), .second, .val (.long p2), .second, .val (.int p3), .val (.int p4), .val (.int p5), .val (.long q2), .second, .val (.int t2), .val (.ref a5), .val (.ref a10), .val (.int md), .unset] [])) _
    refine XS.iload XBI.here hx rfl (hb hby at_163) rfl ?_
    show Steps p.tables e below (TBI.setTop (mkF m 165 #[.val (.long p1), .second, .val (.long p2), .second, .val (.int p3), .val (.int p4), .val (.int p5), .val (.long q2), .second, .val (.int t2), .val (.ref a5), .val (.ref a10), .val (.int md), .unset] [(.int md)])) _
    refine XS.iconst XBI.here hx rfl (hb hby at_165) ?_
    show Steps p.tables e below (TBI.setTop (mkF m 166 #[.val (.long p1), .second, .val (.long p2), .second, .val (.int p3), .val (.int p4), .val (.int p5), .val (.long q2), .second, .val (.int t2), .val (.ref a5), .val (.ref a10), .val (.int md), .unset] [(.int (2 : Int32)), (.int md)])) _
    refine XS.icmpYes XBI.here hx rfl (pc0 := 166) (pc' := 188) rfl (hb hby at_166) rfl (feq h2).2 (by decide) (by decide) ?_
    show Steps p.tables e below (TBI.setTop (mkF m 188 #[.val (.long p1), .second, .val (.long p2), .second, .val (.int p3), .val (.int p4), .val (.int p5), .val (.long q2), .second, .val (.int t2), .val (.ref a5), .val (.ref a10), .val (.int md), .unset] [])) _
    refine XS.iload XBI.here hx rfl (hb hby at_188) rfl ?_
    show Steps p.tables e below (TBI.setTop (mkF m 190 #[.val (.long p1), .second, .val (.long p2), .second, .val (.int p3), .val (.int p4), .val (.int p5), .val (.long q2), .second, .val (.int t2), .val (.ref a5), .val (.ref a10), .val (.int md), .unset] [(.int md)])) _
    refine XS.iconst XBI.here hx rfl (hb hby at_190) ?_
    show Steps p.tables e below (TBI.setTop (mkF m 191 #[.val (.long p1), .second, .val (.long p2), .second, .val (.int p3), .val (.int p4), .val (.int p5), .val (.long q2), .second, .val (.int t2), .val (.ref a5), .val (.ref a10), .val (.int md), .unset] [(.int (3 : Int32)), (.int md)])) _
    refine XS.icmpYes XBI.here hx rfl (pc0 := 191) (pc' := 202) rfl (hb hby at_191) rfl (feq h3).2 (by decide) (by decide) ?_
    show Steps p.tables e below (TBI.setTop (mkF m 202 #[.val (.long p1), .second, .val (.long p2), .second, .val (.int p3), .val (.int p4), .val (.int p5), .val (.long q2), .second, .val (.int t2), .val (.ref a5), .val (.ref a10), .val (.int md), .unset] [])) _
    refine XS.lloadN XBI.here hx rfl (hb hby at_202) rfl ?_
    show Steps p.tables e below (TBI.setTop (mkF m 203 #[.val (.long p1), .second, .val (.long p2), .second, .val (.int p3), .val (.int p4), .val (.int p5), .val (.long q2), .second, .val (.int t2), .val (.ref a5), .val (.ref a10), .val (.int md), .unset] [(.long p1)])) _
    refine XS.lload XBI.here hx rfl (hb hby at_203) rfl ?_
    show Steps p.tables e below (TBI.setTop (mkF m 205 #[.val (.long p1), .second, .val (.long p2), .second, .val (.int p3), .val (.int p4), .val (.int p5), .val (.long q2), .second, .val (.int t2), .val (.ref a5), .val (.ref a10), .val (.int md), .unset] [(.long q2), (.long p1)])) _
    refine XS.iconst XBI.here hx rfl (hb hby at_205) ?_
    show Steps p.tables e below (TBI.setTop (mkF m 206 #[.val (.long p1), .second, .val (.long p2), .second, .val (.int p3), .val (.int p4), .val (.int p5), .val (.long q2), .second, .val (.int t2), .val (.ref a5), .val (.ref a10), .val (.int md), .unset] [(.int (0 : Int32)), (.long q2), (.long p1)])) _
    exact kt
  obtain ⟨_, _, ⟨TW0, LW0, kW0, nW0⟩, -, XW0, ⟨LcW0, hQW0, lW0, yW0, zW0⟩, stW0⟩ := Jvm.LawKit.callS XBI hx (y := (⟨"com/example/nephila/nephila/usage/RequestEqualsPinLaw", "same", "(JJI)Z"⟩ : MethodName)) hownBI (mvT hZBI (hw _ (List.mem_of_getElem? (i := 71) rfl))) (mvT hZBI (hw _ (List.mem_of_getElem? (i := 72) rfl))) (mvT hZBI (hw _ (List.mem_of_getElem? (i := 2) rfl))) (mvT hZBI (hw _ (List.mem_of_getElem? (i := 73) rfl))) (by decide) (backOf (W := 0) (rmS l Z a0 hw p1 q2 (0 : Int32) TBI.heap n0) hZBI (hw _ (List.mem_of_getElem? (i := 73) rfl)) (hw _ (List.mem_of_getElem? (i := 2) rfl)) (by decide) (by decide)) (g := (mkF m 206 #[.val (.long p1), .second, .val (.long p2), .second, .val (.int p3), .val (.int p4), .val (.int p5), .val (.long q2), .second, .val (.int t2), .val (.ref a5), .val (.ref a10), .val (.int md), .unset] [(.int (0 : Int32)), (.long q2), (.long p1)])) rfl (by rw [hml]; rfl) (argsL := [(.long p1), (.long q2), (.int (0 : Int32))]) (rest := []) (lenOf pdS rfl) rfl (by show 2 * 0 + _ ≤ _; exact Nat.le_of_eq rfl) (hb hby at_206) (fun _ _ => ⟨rfl, rfl, Nat.le_of_ble_eq_true rfl, Nat.le_of_ble_eq_true rfl⟩)
  dsimp only [Pt.U, Pt.locs, Pt.cells, Pt.slots] at XW0 lW0 yW0 zW0 stW0 hQW0
  subst lW0 yW0 zW0
  obtain ⟨rfl, NW0, eW0⟩ := hQW0
  have MW0 := Fr.app (MBI) NW0
  by_cases c0 : own_cs p1 0 = own_cs q2 0
  rotate_left
  · have rx : (own_req (own_cs p1 0) (own_cs p1 1) (own_cs p1 2) (own_cs q2 0) (own_cs q2 1) (own_cs q2 2) p3 t2) = (0 : Int32) := if_neg (fun z => c0 z.1)
    have sg16 : ∀ target, Steps p.tables e below (TW0.setTop (mkF m 250 #[.val (.long p1), .second, .val (.long p2), .second, .val (.int p3), .val (.int p4), .val (.int p5), .val (.long q2), .second, .val (.int t2), .val (.ref a5), .val (.ref a10), .val (.int md), .val (.int (0 : Int32))] [(.ref a10), (.ref a5)])) target → Steps p.tables e below (TW0.setTop (mkF m 209 #[.val (.long p1), .second, .val (.long p2), .second, .val (.int p3), .val (.int p4), .val (.int p5), .val (.long q2), .second, .val (.int t2), .val (.ref a5), .val (.ref a10), .val (.int md), .unset] [(.int (own_eq (own_cs p1 0) (own_cs q2 0)))])) target := by
      intro target kt
      show Steps p.tables e below (TW0.setTop (mkF m 209 #[.val (.long p1), .second, .val (.long p2), .second, .val (.int p3), .val (.int p4), .val (.int p5), .val (.long q2), .second, .val (.int t2), .val (.ref a5), .val (.ref a10), .val (.int md), .unset] [(.int (own_eq (own_cs p1 0) (own_cs q2 0)))])) _
      refine XS.ifYes XW0.here hx rfl (pc0 := 209) (pc' := 243) rfl (hb hby at_209) rfl (by rw [own_eq_f c0]; decide) (by decide) (by decide) ?_
      show Steps p.tables e below (TW0.setTop (mkF m 243 #[.val (.long p1), .second, .val (.long p2), .second, .val (.int p3), .val (.int p4), .val (.int p5), .val (.long q2), .second, .val (.int t2), .val (.ref a5), .val (.ref a10), .val (.int md), .unset] [])) _
      refine XS.iconst XW0.here hx rfl (hb hby at_243) ?_
      show Steps p.tables e below (TW0.setTop (mkF m 244 #[.val (.long p1), .second, .val (.long p2), .second, .val (.int p3), .val (.int p4), .val (.int p5), .val (.long q2), .second, .val (.int t2), .val (.ref a5), .val (.ref a10), .val (.int md), .unset] [(.int (0 : Int32))])) _
      refine XS.istore XW0.here hx rfl (hb hby at_244) rfl (l' := #[.val (.long p1), .second, .val (.long p2), .second, .val (.int p3), .val (.int p4), .val (.int p5), .val (.long q2), .second, .val (.int t2), .val (.ref a5), .val (.ref a10), .val (.int md), .val (.int (0 : Int32))]) rfl ?_
      show Steps p.tables e below (TW0.setTop (mkF m 246 #[.val (.long p1), .second, .val (.long p2), .second, .val (.int p3), .val (.int p4), .val (.int p5), .val (.long q2), .second, .val (.int t2), .val (.ref a5), .val (.ref a10), .val (.int md), .val (.int (0 : Int32))] [])) _
      refine XS.aload XW0.here hx rfl (hb hby at_246) rfl rfl ?_
      show Steps p.tables e below (TW0.setTop (mkF m 248 #[.val (.long p1), .second, .val (.long p2), .second, .val (.int p3), .val (.int p4), .val (.int p5), .val (.long q2), .second, .val (.int t2), .val (.ref a5), .val (.ref a10), .val (.int md), .val (.int (0 : Int32))] [(.ref a5)])) _
      refine XS.aload XW0.here hx rfl (hb hby at_248) rfl rfl ?_
      show Steps p.tables e below (TW0.setTop (mkF m 250 #[.val (.long p1), .second, .val (.long p2), .second, .val (.int p3), .val (.int p4), .val (.int p5), .val (.long q2), .second, .val (.int t2), .val (.ref a5), .val (.ref a10), .val (.int md), .val (.int (0 : Int32))] [(.ref a10), (.ref a5)])) _
      exact kt
    obtain ⟨cqP, kqP, qaP, qbP, qcP⟩ := isOf hZBI eW0 QA_BI.1
    obtain ⟨_, _, ⟨TP, LP, kP, nP⟩, -, XP, ⟨LcP, hQP, lP, yP, zP⟩, stP⟩ := XW0.virtualBack hx (y := (⟨"com/example/nephila/nephila/usage/Request", "equals", "(Ljava/lang/Object;)Z"⟩ : MethodName)) (z := (⟨"com/example/nephila/nephila/usage/Request", "equals", "(Ljava/lang/Object;)Z"⟩ : MethodName)) hownBI (mvT hZBI (hw _ (List.mem_of_getElem? (i := 74) rfl))) (mvT hZBI (hw _ (List.mem_of_getElem? (i := 75) rfl))) (notFace_of_selects (args := #[]) (mvT hZBI (hw _ (List.mem_of_getElem? (i := 77) rfl)))) (mvT hZBI (hw _ (List.mem_of_getElem? (i := 77) rfl))) (mvT hZBI (hw _ (List.mem_of_getElem? (i := 76) rfl))) (by decide) (backOf (W := 0) (rmQ l Z a0 hw a5 a10 tA0 tA1 tA2 tB0 tB1 tB2 p3 t2 (own_cs p1 0) (own_cs p1 1) (own_cs p1 2) (own_cs q2 0) (own_cs q2 1) (own_cs q2 2) TBI.heap n0 G O_BI hG QA_BI QB (own_cs_lat p1 0) (own_cs_lat q2 0) (own_cs_le p1 0) (own_cs_le q2 0) SA0_BI SB0_BI (own_cs_lat p1 1) (own_cs_lat q2 1) (own_cs_le p1 1) (own_cs_le q2 1) SA1_BI SB1_BI (own_cs_lat p1 2) (own_cs_lat q2 2) (own_cs_le p1 2) (own_cs_le q2 2) SA2_BI SB2_BI) hZBI (hw _ (List.mem_of_getElem? (i := 78) rfl)) (hw _ (List.mem_of_getElem? (i := 6) rfl)) (by decide) (by decide)) qaP qcP (g := (mkF m 250 #[.val (.long p1), .second, .val (.long p2), .second, .val (.int p3), .val (.int p4), .val (.int p5), .val (.long q2), .second, .val (.int t2), .val (.ref a5), .val (.ref a10), .val (.int md), .val (.int (0 : Int32))] [(.ref a10), (.ref a5)])) rfl (by rw [hml]; rfl) (Steps.refl _) (argsL := [(.ref a10)]) (rest := []) (lenOf pdQ rfl) rfl (by show 2 * 0 + _ ≤ _; exact Nat.le_of_eq rfl) (hb hby at_250) (fun _ _ => ⟨rfl, eW0, Nat.le_of_ble_eq_true rfl, Nat.le_of_ble_eq_true rfl⟩)
    dsimp only [Pt.U, Pt.locs, Pt.cells, Pt.slots] at XP lP yP zP stP hQP
    subst lP yP zP
    obtain ⟨rfl, NP, eP⟩ := hQP
    have MP := Fr.app (MW0) NP
    have sg17 : ∀ target, Steps p.tables e below (TP.setTop (mkF m 262 #[.val (.long p1), .second, .val (.long p2), .second, .val (.int p3), .val (.int p4), .val (.int p5), .val (.long q2), .second, .val (.int t2), .val (.ref a5), .val (.ref a10), .val (.int md), .val (.int (0 : Int32))] [(.ref a5), (.ref a10)])) target → Steps p.tables e below (TP.setTop (mkF m 253 #[.val (.long p1), .second, .val (.long p2), .second, .val (.int p3), .val (.int p4), .val (.int p5), .val (.long q2), .second, .val (.int t2), .val (.ref a5), .val (.ref a10), .val (.int md), .val (.int (0 : Int32))] [(.int (own_req (own_cs p1 0) (own_cs p1 1) (own_cs p1 2) (own_cs q2 0) (own_cs q2 1) (own_cs q2 2) p3 t2))])) target := by
      intro target kt
      show Steps p.tables e below (TP.setTop (mkF m 253 #[.val (.long p1), .second, .val (.long p2), .second, .val (.int p3), .val (.int p4), .val (.int p5), .val (.long q2), .second, .val (.int t2), .val (.ref a5), .val (.ref a10), .val (.int md), .val (.int (0 : Int32))] [(.int (own_req (own_cs p1 0) (own_cs p1 1) (own_cs p1 2) (own_cs q2 0) (own_cs q2 1) (own_cs q2 2) p3 t2))])) _
      refine XS.iload XP.here hx rfl (hb hby at_253) rfl ?_
      show Steps p.tables e below (TP.setTop (mkF m 255 #[.val (.long p1), .second, .val (.long p2), .second, .val (.int p3), .val (.int p4), .val (.int p5), .val (.long q2), .second, .val (.int t2), .val (.ref a5), .val (.ref a10), .val (.int md), .val (.int (0 : Int32))] [(.int (0 : Int32)), (.int (own_req (own_cs p1 0) (own_cs p1 1) (own_cs p1 2) (own_cs q2 0) (own_cs q2 1) (own_cs q2 2) p3 t2))])) _
      refine XS.icmpNo XP.here hx rfl (hb hby at_255) rfl (teq rx).2 ?_
      show Steps p.tables e below (TP.setTop (mkF m 258 #[.val (.long p1), .second, .val (.long p2), .second, .val (.int p3), .val (.int p4), .val (.int p5), .val (.long q2), .second, .val (.int t2), .val (.ref a5), .val (.ref a10), .val (.int md), .val (.int (0 : Int32))] [])) _
      refine XS.aload XP.here hx rfl (hb hby at_258) rfl rfl ?_
      show Steps p.tables e below (TP.setTop (mkF m 260 #[.val (.long p1), .second, .val (.long p2), .second, .val (.int p3), .val (.int p4), .val (.int p5), .val (.long q2), .second, .val (.int t2), .val (.ref a5), .val (.ref a10), .val (.int md), .val (.int (0 : Int32))] [(.ref a10)])) _
      refine XS.aload XP.here hx rfl (hb hby at_260) rfl rfl ?_
      show Steps p.tables e below (TP.setTop (mkF m 262 #[.val (.long p1), .second, .val (.long p2), .second, .val (.int p3), .val (.int p4), .val (.int p5), .val (.long q2), .second, .val (.int t2), .val (.ref a5), .val (.ref a10), .val (.int md), .val (.int (0 : Int32))] [(.ref a5), (.ref a10)])) _
      exact kt
    obtain ⟨cqQ, kqQ, qaQ, qbQ, qcQ⟩ := isOf hZBI eP QB.1
    obtain ⟨_, _, ⟨TQ, LQ, kQ, nQ⟩, -, XQ, ⟨LcQ, hQQ, lQ, yQ, zQ⟩, stQ⟩ := XP.virtualBack hx (y := (⟨"com/example/nephila/nephila/usage/Request", "equals", "(Ljava/lang/Object;)Z"⟩ : MethodName)) (z := (⟨"com/example/nephila/nephila/usage/Request", "equals", "(Ljava/lang/Object;)Z"⟩ : MethodName)) hownBI (mvT hZBI (hw _ (List.mem_of_getElem? (i := 74) rfl))) (mvT hZBI (hw _ (List.mem_of_getElem? (i := 75) rfl))) (notFace_of_selects (args := #[]) (mvT hZBI (hw _ (List.mem_of_getElem? (i := 77) rfl)))) (mvT hZBI (hw _ (List.mem_of_getElem? (i := 77) rfl))) (mvT hZBI (hw _ (List.mem_of_getElem? (i := 76) rfl))) (by decide) (backOf (W := 0) (rmQ l Z a0 hw a10 a5 tB0 tB1 tB2 tA0 tA1 tA2 t2 p3 (own_cs q2 0) (own_cs q2 1) (own_cs q2 2) (own_cs p1 0) (own_cs p1 1) (own_cs p1 2) TBI.heap n0 G O_BI hG QB QA_BI (own_cs_lat q2 0) (own_cs_lat p1 0) (own_cs_le q2 0) (own_cs_le p1 0) SB0_BI SA0_BI (own_cs_lat q2 1) (own_cs_lat p1 1) (own_cs_le q2 1) (own_cs_le p1 1) SB1_BI SA1_BI (own_cs_lat q2 2) (own_cs_lat p1 2) (own_cs_le q2 2) (own_cs_le p1 2) SB2_BI SA2_BI) hZBI (hw _ (List.mem_of_getElem? (i := 78) rfl)) (hw _ (List.mem_of_getElem? (i := 6) rfl)) (by decide) (by decide)) qaQ qcQ (g := (mkF m 262 #[.val (.long p1), .second, .val (.long p2), .second, .val (.int p3), .val (.int p4), .val (.int p5), .val (.long q2), .second, .val (.int t2), .val (.ref a5), .val (.ref a10), .val (.int md), .val (.int (0 : Int32))] [(.ref a5), (.ref a10)])) rfl (by rw [hml]; rfl) (Steps.refl _) (argsL := [(.ref a5)]) (rest := []) (lenOf pdQ rfl) rfl (by show 2 * 0 + _ ≤ _; exact Nat.le_of_eq rfl) (hb hby at_262) (fun _ _ => ⟨rfl, eP, Nat.le_of_ble_eq_true rfl, Nat.le_of_ble_eq_true rfl⟩)
    dsimp only [Pt.U, Pt.locs, Pt.cells, Pt.slots] at XQ lQ yQ zQ stQ hQQ
    subst lQ yQ zQ
    obtain ⟨rfl, NQ, eQ⟩ := hQQ
    have MQ := Fr.app (MP) NQ
    have sg18 : ∀ target, Steps p.tables e below (TQ.setTop (mkF m 275 #[.val (.long p1), .second, .val (.long p2), .second, .val (.int p3), .val (.int p4), .val (.int p5), .val (.long q2), .second, .val (.int t2), .val (.ref a5), .val (.ref a10), .val (.int md), .val (.int (0 : Int32))] [(.int (1 : Int32))])) target → Steps p.tables e below (TQ.setTop (mkF m 265 #[.val (.long p1), .second, .val (.long p2), .second, .val (.int p3), .val (.int p4), .val (.int p5), .val (.long q2), .second, .val (.int t2), .val (.ref a5), .val (.ref a10), .val (.int md), .val (.int (0 : Int32))] [(.int (own_req (own_cs q2 0) (own_cs q2 1) (own_cs q2 2) (own_cs p1 0) (own_cs p1 1) (own_cs p1 2) t2 p3))])) target := by
      intro target kt
      show Steps p.tables e below (TQ.setTop (mkF m 265 #[.val (.long p1), .second, .val (.long p2), .second, .val (.int p3), .val (.int p4), .val (.int p5), .val (.long q2), .second, .val (.int t2), .val (.ref a5), .val (.ref a10), .val (.int md), .val (.int (0 : Int32))] [(.int (own_req (own_cs q2 0) (own_cs q2 1) (own_cs q2 2) (own_cs p1 0) (own_cs p1 1) (own_cs p1 2) t2 p3))])) _
      refine XS.iload XQ.here hx rfl (hb hby at_265) rfl ?_
      show Steps p.tables e below (TQ.setTop (mkF m 267 #[.val (.long p1), .second, .val (.long p2), .second, .val (.int p3), .val (.int p4), .val (.int p5), .val (.long q2), .second, .val (.int t2), .val (.ref a5), .val (.ref a10), .val (.int md), .val (.int (0 : Int32))] [(.int (0 : Int32)), (.int (own_req (own_cs q2 0) (own_cs q2 1) (own_cs q2 2) (own_cs p1 0) (own_cs p1 1) (own_cs p1 2) t2 p3))])) _
      refine XS.icmpNo XQ.here hx rfl (hb hby at_267) rfl (teq ((own_req_c ..).trans rx)).2 ?_
      show Steps p.tables e below (TQ.setTop (mkF m 270 #[.val (.long p1), .second, .val (.long p2), .second, .val (.int p3), .val (.int p4), .val (.int p5), .val (.long q2), .second, .val (.int t2), .val (.ref a5), .val (.ref a10), .val (.int md), .val (.int (0 : Int32))] [])) _
      refine XS.iconst XQ.here hx rfl (hb hby at_270) ?_
      show Steps p.tables e below (TQ.setTop (mkF m 271 #[.val (.long p1), .second, .val (.long p2), .second, .val (.int p3), .val (.int p4), .val (.int p5), .val (.long q2), .second, .val (.int t2), .val (.ref a5), .val (.ref a10), .val (.int md), .val (.int (0 : Int32))] [(.int (1 : Int32))])) _
      refine XS.goto XQ.here hx rfl (pc0 := 271) (pc' := 275) rfl (hb hby at_271) (by decide) (by decide) ?_
      show Steps p.tables e below (TQ.setTop (mkF m 275 #[.val (.long p1), .second, .val (.long p2), .second, .val (.int p3), .val (.int p4), .val (.int p5), .val (.long q2), .second, .val (.int t2), .val (.ref a5), .val (.ref a10), .val (.int md), .val (.int (0 : Int32))] [(.int (1 : Int32))])) _
      exact kt
    obtain ⟨fs, hr, hrun, hended, hW⟩ := XQ.leaveW hSBI (by rw [eQ]; exact (Nat.le_refl _)) (v := some (.int (1 : Int32))) (fun h => by rw [Bd.returns] at h; cases h)
    refine ⟨_, _, castTop (ef_0 m p1 p2 p3 p4 p5) ?_, hrun, hended, _, _, rfl, ⟨rfl, MQ⟩, own_w hW (by decide) (by decide)⟩
    show Steps p.tables e below (s₁.setTop (mkF m 0 #[.val (.long p1), .second, .val (.long p2), .second, .val (.int p3), .val (.int p4), .val (.int p5), .unset, .unset, .unset, .unset, .unset, .unset, .unset] [])) _
    refine sg1 _ ?_
    show Steps p.tables e below (s₁.setTop (mkF m 7 #[.val (.long p1), .second, .val (.long p2), .second, .val (.int p3), .val (.int p4), .val (.int p5), .unset, .unset, .unset, .unset, .unset, .unset, .unset] [(.int (p5 &&& (1 : Int32))), (.int (0 : Int32)), (.long p2), (.long p1)])) _
    refine sb0 _ ?_
    show Steps p.tables e below (s₁.setTop (mkF m 15 #[.val (.long p1), .second, .val (.long p2), .second, .val (.int p3), .val (.int p4), .val (.int p5), .unset, .unset, .unset, .unset, .unset, .unset, .unset] [(.int b0), (.int (0 : Int32)), (.long p2), (.long p1)])) _
    refine stF0 _ ?_
    show Steps p.tables e below (TF0.setTop (mkF m 18 #[.val (.long p1), .second, .val (.long p2), .second, .val (.int p3), .val (.int p4), .val (.int p5), .unset, .unset, .unset, .unset, .unset, .unset, .unset] [(.long q0)])) _
    refine sg2 _ ?_
    show Steps p.tables e below (TF0.setTop (mkF m 28 #[.val (.long p1), .second, .val (.long p2), .second, .val (.int p3), .val (.int p4), .val (.int p5), .val (.long q0), .second, .unset, .unset, .unset, .unset, .unset] [(.int (p5 &&& (2 : Int32))), (.int (1 : Int32)), (.long q0), (.long p1)])) _
    refine sb1 _ ?_
    show Steps p.tables e below (TF0.setTop (mkF m 36 #[.val (.long p1), .second, .val (.long p2), .second, .val (.int p3), .val (.int p4), .val (.int p5), .val (.long q0), .second, .unset, .unset, .unset, .unset, .unset] [(.int b1), (.int (1 : Int32)), (.long q0), (.long p1)])) _
    refine stF1 _ ?_
    show Steps p.tables e below (TF1.setTop (mkF m 39 #[.val (.long p1), .second, .val (.long p2), .second, .val (.int p3), .val (.int p4), .val (.int p5), .val (.long q0), .second, .unset, .unset, .unset, .unset, .unset] [(.long q1)])) _
    refine sg3 _ ?_
    show Steps p.tables e below (TF1.setTop (mkF m 49 #[.val (.long p1), .second, .val (.long p2), .second, .val (.int p3), .val (.int p4), .val (.int p5), .val (.long q1), .second, .unset, .unset, .unset, .unset, .unset] [(.int (p5 &&& (4 : Int32))), (.int (2 : Int32)), (.long q1), (.long p1)])) _
    refine sb2 _ ?_
    show Steps p.tables e below (TF1.setTop (mkF m 57 #[.val (.long p1), .second, .val (.long p2), .second, .val (.int p3), .val (.int p4), .val (.int p5), .val (.long q1), .second, .unset, .unset, .unset, .unset, .unset] [(.int b2), (.int (2 : Int32)), (.long q1), (.long p1)])) _
    refine stF2 _ ?_
    show Steps p.tables e below (TF2.setTop (mkF m 60 #[.val (.long p1), .second, .val (.long p2), .second, .val (.int p3), .val (.int p4), .val (.int p5), .val (.long q1), .second, .unset, .unset, .unset, .unset, .unset] [(.long q2)])) _
    refine sg4 _ ?_
    show Steps p.tables e below (TF2.setTop (mkF m 67 #[.val (.long p1), .second, .val (.long p2), .second, .val (.int p3), .val (.int p4), .val (.int p5), .val (.long q2), .second, .unset, .unset, .unset, .unset, .unset] [(.int (p5 &&& (8 : Int32)))])) _
    refine sbt _ ?_
    show Steps p.tables e below (TF2.setTop (mkF m 79 #[.val (.long p1), .second, .val (.long p2), .second, .val (.int p3), .val (.int p4), .val (.int p5), .val (.long q2), .second, .val (.int t2), .unset, .unset, .unset, .unset] [])) _
    refine st5 _ ?_
    show Steps p.tables e below (T5.setTop (mkF m 82 #[.val (.long p1), .second, .val (.long p2), .second, .val (.int p3), .val (.int p4), .val (.int p5), .val (.long q2), .second, .val (.int t2), .unset, .unset, .unset, .unset] [(.ref a5)])) _
    refine sg6 _ ?_
    show Steps p.tables e below (T5.setTop (mkF m 85 #[.val (.long p1), .second, .val (.long p2), .second, .val (.int p3), .val (.int p4), .val (.int p5), .val (.long q2), .second, .val (.int t2), .unset, .unset, .unset, .unset] [(.int (0 : Int32)), (.long p1), (.ref a5), (.ref a5)])) _
    refine stA0.trans ?_
    show Steps p.tables e below (TA0.setTop (mkF m 88 #[.val (.long p1), .second, .val (.long p2), .second, .val (.int p3), .val (.int p4), .val (.int p5), .val (.long q2), .second, .val (.int t2), .unset, .unset, .unset, .unset] [(.ref tA0), (.ref a5), (.ref a5)])) _
    refine sg7 _ ?_
    show Steps p.tables e below (TA0.setTop (mkF m 90 #[.val (.long p1), .second, .val (.long p2), .second, .val (.int p3), .val (.int p4), .val (.int p5), .val (.long q2), .second, .val (.int t2), .unset, .unset, .unset, .unset] [(.int (1 : Int32)), (.long p1), (.ref tA0), (.ref a5), (.ref a5)])) _
    refine stA1.trans ?_
    show Steps p.tables e below (TA1.setTop (mkF m 93 #[.val (.long p1), .second, .val (.long p2), .second, .val (.int p3), .val (.int p4), .val (.int p5), .val (.long q2), .second, .val (.int t2), .unset, .unset, .unset, .unset] [(.ref tA1), (.ref tA0), (.ref a5), (.ref a5)])) _
    refine sg8 _ ?_
    show Steps p.tables e below (TA1.setTop (mkF m 97 #[.val (.long p1), .second, .val (.long p2), .second, .val (.int p3), .val (.int p4), .val (.int p5), .val (.long q2), .second, .val (.int t2), .unset, .unset, .unset, .unset] [(.int (2 : Int32)), (.long p1), (.int p3), (.ref tA1), (.ref tA0), (.ref a5), (.ref a5)])) _
    refine stA2.trans ?_
    show Steps p.tables e below (TA2.setTop (mkF m 100 #[.val (.long p1), .second, .val (.long p2), .second, .val (.int p3), .val (.int p4), .val (.int p5), .val (.long q2), .second, .val (.int t2), .unset, .unset, .unset, .unset] [(.ref tA2), (.int p3), (.ref tA1), (.ref tA0), (.ref a5), (.ref a5)])) _
    refine stAI.trans ?_
    show Steps p.tables e below (TAI.setTop (mkF m 103 #[.val (.long p1), .second, .val (.long p2), .second, .val (.int p3), .val (.int p4), .val (.int p5), .val (.long q2), .second, .val (.int t2), .unset, .unset, .unset, .unset] [(.ref a5)])) _
    refine sg9 _ ?_
    show Steps p.tables e below (TAI.setTop (mkF m 105 #[.val (.long p1), .second, .val (.long p2), .second, .val (.int p3), .val (.int p4), .val (.int p5), .val (.long q2), .second, .val (.int t2), .val (.ref a5), .unset, .unset, .unset] [])) _
    refine st10 _ ?_
    show Steps p.tables e below (T10.setTop (mkF m 108 #[.val (.long p1), .second, .val (.long p2), .second, .val (.int p3), .val (.int p4), .val (.int p5), .val (.long q2), .second, .val (.int t2), .val (.ref a5), .unset, .unset, .unset] [(.ref a10)])) _
    refine sg11 _ ?_
    show Steps p.tables e below (T10.setTop (mkF m 112 #[.val (.long p1), .second, .val (.long p2), .second, .val (.int p3), .val (.int p4), .val (.int p5), .val (.long q2), .second, .val (.int t2), .val (.ref a5), .unset, .unset, .unset] [(.int (0 : Int32)), (.long q2), (.ref a10), (.ref a10)])) _
    refine stB0.trans ?_
    show Steps p.tables e below (TB0.setTop (mkF m 115 #[.val (.long p1), .second, .val (.long p2), .second, .val (.int p3), .val (.int p4), .val (.int p5), .val (.long q2), .second, .val (.int t2), .val (.ref a5), .unset, .unset, .unset] [(.ref tB0), (.ref a10), (.ref a10)])) _
    refine sg12 _ ?_
    show Steps p.tables e below (TB0.setTop (mkF m 118 #[.val (.long p1), .second, .val (.long p2), .second, .val (.int p3), .val (.int p4), .val (.int p5), .val (.long q2), .second, .val (.int t2), .val (.ref a5), .unset, .unset, .unset] [(.int (1 : Int32)), (.long q2), (.ref tB0), (.ref a10), (.ref a10)])) _
    refine stB1.trans ?_
    show Steps p.tables e below (TB1.setTop (mkF m 121 #[.val (.long p1), .second, .val (.long p2), .second, .val (.int p3), .val (.int p4), .val (.int p5), .val (.long q2), .second, .val (.int t2), .val (.ref a5), .unset, .unset, .unset] [(.ref tB1), (.ref tB0), (.ref a10), (.ref a10)])) _
    refine sg13 _ ?_
    show Steps p.tables e below (TB1.setTop (mkF m 126 #[.val (.long p1), .second, .val (.long p2), .second, .val (.int p3), .val (.int p4), .val (.int p5), .val (.long q2), .second, .val (.int t2), .val (.ref a5), .unset, .unset, .unset] [(.int (2 : Int32)), (.long q2), (.int t2), (.ref tB1), (.ref tB0), (.ref a10), (.ref a10)])) _
    refine stB2.trans ?_
    show Steps p.tables e below (TB2.setTop (mkF m 129 #[.val (.long p1), .second, .val (.long p2), .second, .val (.int p3), .val (.int p4), .val (.int p5), .val (.long q2), .second, .val (.int t2), .val (.ref a5), .unset, .unset, .unset] [(.ref tB2), (.int t2), (.ref tB1), (.ref tB0), (.ref a10), (.ref a10)])) _
    refine stBI.trans ?_
    show Steps p.tables e below (TBI.setTop (mkF m 132 #[.val (.long p1), .second, .val (.long p2), .second, .val (.int p3), .val (.int p4), .val (.int p5), .val (.long q2), .second, .val (.int t2), .val (.ref a5), .unset, .unset, .unset] [(.ref a10)])) _
    refine sg14 _ ?_
    show Steps p.tables e below (TBI.setTop (mkF m 142 #[.val (.long p1), .second, .val (.long p2), .second, .val (.int p3), .val (.int p4), .val (.int p5), .val (.long q2), .second, .val (.int t2), .val (.ref a5), .val (.ref a10), .val (.int ((((p5).toUInt32 >>> ((4 : Int32) &&& 31).toUInt32).toInt32) &&& (3 : Int32))), .unset] [])) _
    refine sg15 _ ?_
    show Steps p.tables e below (TBI.setTop (mkF m 206 #[.val (.long p1), .second, .val (.long p2), .second, .val (.int p3), .val (.int p4), .val (.int p5), .val (.long q2), .second, .val (.int t2), .val (.ref a5), .val (.ref a10), .val (.int md), .unset] [(.int (0 : Int32)), (.long q2), (.long p1)])) _
    refine stW0 _ ?_
    show Steps p.tables e below (TW0.setTop (mkF m 209 #[.val (.long p1), .second, .val (.long p2), .second, .val (.int p3), .val (.int p4), .val (.int p5), .val (.long q2), .second, .val (.int t2), .val (.ref a5), .val (.ref a10), .val (.int md), .unset] [(.int (own_eq (own_cs p1 0) (own_cs q2 0)))])) _
    refine sg16 _ ?_
    show Steps p.tables e below (TW0.setTop (mkF m 250 #[.val (.long p1), .second, .val (.long p2), .second, .val (.int p3), .val (.int p4), .val (.int p5), .val (.long q2), .second, .val (.int t2), .val (.ref a5), .val (.ref a10), .val (.int md), .val (.int (0 : Int32))] [(.ref a10), (.ref a5)])) _
    refine stP.trans ?_
    show Steps p.tables e below (TP.setTop (mkF m 253 #[.val (.long p1), .second, .val (.long p2), .second, .val (.int p3), .val (.int p4), .val (.int p5), .val (.long q2), .second, .val (.int t2), .val (.ref a5), .val (.ref a10), .val (.int md), .val (.int (0 : Int32))] [(.int (own_req (own_cs p1 0) (own_cs p1 1) (own_cs p1 2) (own_cs q2 0) (own_cs q2 1) (own_cs q2 2) p3 t2))])) _
    refine sg17 _ ?_
    show Steps p.tables e below (TP.setTop (mkF m 262 #[.val (.long p1), .second, .val (.long p2), .second, .val (.int p3), .val (.int p4), .val (.int p5), .val (.long q2), .second, .val (.int t2), .val (.ref a5), .val (.ref a10), .val (.int md), .val (.int (0 : Int32))] [(.ref a5), (.ref a10)])) _
    refine stQ.trans ?_
    show Steps p.tables e below (TQ.setTop (mkF m 265 #[.val (.long p1), .second, .val (.long p2), .second, .val (.int p3), .val (.int p4), .val (.int p5), .val (.long q2), .second, .val (.int t2), .val (.ref a5), .val (.ref a10), .val (.int md), .val (.int (0 : Int32))] [(.int (own_req (own_cs q2 0) (own_cs q2 1) (own_cs q2 2) (own_cs p1 0) (own_cs p1 1) (own_cs p1 2) t2 p3))])) _
    refine sg18 _ ?_
    show Steps p.tables e below (TQ.setTop (mkF m 275 #[.val (.long p1), .second, .val (.long p2), .second, .val (.int p3), .val (.int p4), .val (.int p5), .val (.long q2), .second, .val (.int t2), .val (.ref a5), .val (.ref a10), .val (.int md), .val (.int (0 : Int32))] [(.int (1 : Int32))])) _
    exact retN XQ hx (t := .boolean) Bd.returns (by simp) (hb hby at_275) hr
  have sg16 : ∀ target, Steps p.tables e below (TW0.setTop (mkF m 216 #[.val (.long p1), .second, .val (.long p2), .second, .val (.int p3), .val (.int p4), .val (.int p5), .val (.long q2), .second, .val (.int t2), .val (.ref a5), .val (.ref a10), .val (.int md), .unset] [(.int (1 : Int32)), (.long q2), (.long p1)])) target → Steps p.tables e below (TW0.setTop (mkF m 209 #[.val (.long p1), .second, .val (.long p2), .second, .val (.int p3), .val (.int p4), .val (.int p5), .val (.long q2), .second, .val (.int t2), .val (.ref a5), .val (.ref a10), .val (.int md), .unset] [(.int (own_eq (own_cs p1 0) (own_cs q2 0)))])) target := by
    intro target kt
    show Steps p.tables e below (TW0.setTop (mkF m 209 #[.val (.long p1), .second, .val (.long p2), .second, .val (.int p3), .val (.int p4), .val (.int p5), .val (.long q2), .second, .val (.int t2), .val (.ref a5), .val (.ref a10), .val (.int md), .unset] [(.int (own_eq (own_cs p1 0) (own_cs q2 0)))])) _
    refine XS.ifNo XW0.here hx rfl (hb hby at_209) rfl (by rw [own_eq_t c0]; decide) ?_
    show Steps p.tables e below (TW0.setTop (mkF m 212 #[.val (.long p1), .second, .val (.long p2), .second, .val (.int p3), .val (.int p4), .val (.int p5), .val (.long q2), .second, .val (.int t2), .val (.ref a5), .val (.ref a10), .val (.int md), .unset] [])) _
    refine XS.lloadN XW0.here hx rfl (hb hby at_212) rfl ?_
    show Steps p.tables e below (TW0.setTop (mkF m 213 #[.val (.long p1), .second, .val (.long p2), .second, .val (.int p3), .val (.int p4), .val (.int p5), .val (.long q2), .second, .val (.int t2), .val (.ref a5), .val (.ref a10), .val (.int md), .unset] [(.long p1)])) _
    refine XS.lload XW0.here hx rfl (hb hby at_213) rfl ?_
    show Steps p.tables e below (TW0.setTop (mkF m 215 #[.val (.long p1), .second, .val (.long p2), .second, .val (.int p3), .val (.int p4), .val (.int p5), .val (.long q2), .second, .val (.int t2), .val (.ref a5), .val (.ref a10), .val (.int md), .unset] [(.long q2), (.long p1)])) _
    refine XS.iconst XW0.here hx rfl (hb hby at_215) ?_
    show Steps p.tables e below (TW0.setTop (mkF m 216 #[.val (.long p1), .second, .val (.long p2), .second, .val (.int p3), .val (.int p4), .val (.int p5), .val (.long q2), .second, .val (.int t2), .val (.ref a5), .val (.ref a10), .val (.int md), .unset] [(.int (1 : Int32)), (.long q2), (.long p1)])) _
    exact kt
  obtain ⟨_, _, ⟨TW1, LW1, kW1, nW1⟩, -, XW1, ⟨LcW1, hQW1, lW1, yW1, zW1⟩, stW1⟩ := Jvm.LawKit.callS XW0 hx (y := (⟨"com/example/nephila/nephila/usage/RequestEqualsPinLaw", "same", "(JJI)Z"⟩ : MethodName)) hownBI (mvT hZBI (hw _ (List.mem_of_getElem? (i := 71) rfl))) (mvT hZBI (hw _ (List.mem_of_getElem? (i := 72) rfl))) (mvT hZBI (hw _ (List.mem_of_getElem? (i := 2) rfl))) (mvT hZBI (hw _ (List.mem_of_getElem? (i := 73) rfl))) (by decide) (backOf (W := 0) (rmS l Z a0 hw p1 q2 (1 : Int32) TBI.heap n0) hZBI (hw _ (List.mem_of_getElem? (i := 73) rfl)) (hw _ (List.mem_of_getElem? (i := 2) rfl)) (by decide) (by decide)) (g := (mkF m 216 #[.val (.long p1), .second, .val (.long p2), .second, .val (.int p3), .val (.int p4), .val (.int p5), .val (.long q2), .second, .val (.int t2), .val (.ref a5), .val (.ref a10), .val (.int md), .unset] [(.int (1 : Int32)), (.long q2), (.long p1)])) rfl (by rw [hml]; rfl) (argsL := [(.long p1), (.long q2), (.int (1 : Int32))]) (rest := []) (lenOf pdS rfl) rfl (by show 2 * 0 + _ ≤ _; exact Nat.le_of_eq rfl) (hb hby at_216) (fun _ _ => ⟨rfl, eW0, Nat.le_of_ble_eq_true rfl, Nat.le_of_ble_eq_true rfl⟩)
  dsimp only [Pt.U, Pt.locs, Pt.cells, Pt.slots] at XW1 lW1 yW1 zW1 stW1 hQW1
  subst lW1 yW1 zW1
  obtain ⟨rfl, NW1, eW1⟩ := hQW1
  have MW1 := Fr.app (MW0) NW1
  by_cases c1 : own_cs p1 1 = own_cs q2 1
  rotate_left
  · have rx : (own_req (own_cs p1 0) (own_cs p1 1) (own_cs p1 2) (own_cs q2 0) (own_cs q2 1) (own_cs q2 2) p3 t2) = (0 : Int32) := if_neg (fun z => c1 z.2.1)
    have sg17 : ∀ target, Steps p.tables e below (TW1.setTop (mkF m 250 #[.val (.long p1), .second, .val (.long p2), .second, .val (.int p3), .val (.int p4), .val (.int p5), .val (.long q2), .second, .val (.int t2), .val (.ref a5), .val (.ref a10), .val (.int md), .val (.int (0 : Int32))] [(.ref a10), (.ref a5)])) target → Steps p.tables e below (TW1.setTop (mkF m 219 #[.val (.long p1), .second, .val (.long p2), .second, .val (.int p3), .val (.int p4), .val (.int p5), .val (.long q2), .second, .val (.int t2), .val (.ref a5), .val (.ref a10), .val (.int md), .unset] [(.int (own_eq (own_cs p1 1) (own_cs q2 1)))])) target := by
      intro target kt
      show Steps p.tables e below (TW1.setTop (mkF m 219 #[.val (.long p1), .second, .val (.long p2), .second, .val (.int p3), .val (.int p4), .val (.int p5), .val (.long q2), .second, .val (.int t2), .val (.ref a5), .val (.ref a10), .val (.int md), .unset] [(.int (own_eq (own_cs p1 1) (own_cs q2 1)))])) _
      refine XS.ifYes XW1.here hx rfl (pc0 := 219) (pc' := 243) rfl (hb hby at_219) rfl (by rw [own_eq_f c1]; decide) (by decide) (by decide) ?_
      show Steps p.tables e below (TW1.setTop (mkF m 243 #[.val (.long p1), .second, .val (.long p2), .second, .val (.int p3), .val (.int p4), .val (.int p5), .val (.long q2), .second, .val (.int t2), .val (.ref a5), .val (.ref a10), .val (.int md), .unset] [])) _
      refine XS.iconst XW1.here hx rfl (hb hby at_243) ?_
      show Steps p.tables e below (TW1.setTop (mkF m 244 #[.val (.long p1), .second, .val (.long p2), .second, .val (.int p3), .val (.int p4), .val (.int p5), .val (.long q2), .second, .val (.int t2), .val (.ref a5), .val (.ref a10), .val (.int md), .unset] [(.int (0 : Int32))])) _
      refine XS.istore XW1.here hx rfl (hb hby at_244) rfl (l' := #[.val (.long p1), .second, .val (.long p2), .second, .val (.int p3), .val (.int p4), .val (.int p5), .val (.long q2), .second, .val (.int t2), .val (.ref a5), .val (.ref a10), .val (.int md), .val (.int (0 : Int32))]) rfl ?_
      show Steps p.tables e below (TW1.setTop (mkF m 246 #[.val (.long p1), .second, .val (.long p2), .second, .val (.int p3), .val (.int p4), .val (.int p5), .val (.long q2), .second, .val (.int t2), .val (.ref a5), .val (.ref a10), .val (.int md), .val (.int (0 : Int32))] [])) _
      refine XS.aload XW1.here hx rfl (hb hby at_246) rfl rfl ?_
      show Steps p.tables e below (TW1.setTop (mkF m 248 #[.val (.long p1), .second, .val (.long p2), .second, .val (.int p3), .val (.int p4), .val (.int p5), .val (.long q2), .second, .val (.int t2), .val (.ref a5), .val (.ref a10), .val (.int md), .val (.int (0 : Int32))] [(.ref a5)])) _
      refine XS.aload XW1.here hx rfl (hb hby at_248) rfl rfl ?_
      show Steps p.tables e below (TW1.setTop (mkF m 250 #[.val (.long p1), .second, .val (.long p2), .second, .val (.int p3), .val (.int p4), .val (.int p5), .val (.long q2), .second, .val (.int t2), .val (.ref a5), .val (.ref a10), .val (.int md), .val (.int (0 : Int32))] [(.ref a10), (.ref a5)])) _
      exact kt
    obtain ⟨cqP, kqP, qaP, qbP, qcP⟩ := isOf hZBI eW1 QA_BI.1
    obtain ⟨_, _, ⟨TP, LP, kP, nP⟩, -, XP, ⟨LcP, hQP, lP, yP, zP⟩, stP⟩ := XW1.virtualBack hx (y := (⟨"com/example/nephila/nephila/usage/Request", "equals", "(Ljava/lang/Object;)Z"⟩ : MethodName)) (z := (⟨"com/example/nephila/nephila/usage/Request", "equals", "(Ljava/lang/Object;)Z"⟩ : MethodName)) hownBI (mvT hZBI (hw _ (List.mem_of_getElem? (i := 74) rfl))) (mvT hZBI (hw _ (List.mem_of_getElem? (i := 75) rfl))) (notFace_of_selects (args := #[]) (mvT hZBI (hw _ (List.mem_of_getElem? (i := 77) rfl)))) (mvT hZBI (hw _ (List.mem_of_getElem? (i := 77) rfl))) (mvT hZBI (hw _ (List.mem_of_getElem? (i := 76) rfl))) (by decide) (backOf (W := 0) (rmQ l Z a0 hw a5 a10 tA0 tA1 tA2 tB0 tB1 tB2 p3 t2 (own_cs p1 0) (own_cs p1 1) (own_cs p1 2) (own_cs q2 0) (own_cs q2 1) (own_cs q2 2) TBI.heap n0 G O_BI hG QA_BI QB (own_cs_lat p1 0) (own_cs_lat q2 0) (own_cs_le p1 0) (own_cs_le q2 0) SA0_BI SB0_BI (own_cs_lat p1 1) (own_cs_lat q2 1) (own_cs_le p1 1) (own_cs_le q2 1) SA1_BI SB1_BI (own_cs_lat p1 2) (own_cs_lat q2 2) (own_cs_le p1 2) (own_cs_le q2 2) SA2_BI SB2_BI) hZBI (hw _ (List.mem_of_getElem? (i := 78) rfl)) (hw _ (List.mem_of_getElem? (i := 6) rfl)) (by decide) (by decide)) qaP qcP (g := (mkF m 250 #[.val (.long p1), .second, .val (.long p2), .second, .val (.int p3), .val (.int p4), .val (.int p5), .val (.long q2), .second, .val (.int t2), .val (.ref a5), .val (.ref a10), .val (.int md), .val (.int (0 : Int32))] [(.ref a10), (.ref a5)])) rfl (by rw [hml]; rfl) (Steps.refl _) (argsL := [(.ref a10)]) (rest := []) (lenOf pdQ rfl) rfl (by show 2 * 0 + _ ≤ _; exact Nat.le_of_eq rfl) (hb hby at_250) (fun _ _ => ⟨rfl, eW1, Nat.le_of_ble_eq_true rfl, Nat.le_of_ble_eq_true rfl⟩)
    dsimp only [Pt.U, Pt.locs, Pt.cells, Pt.slots] at XP lP yP zP stP hQP
    subst lP yP zP
    obtain ⟨rfl, NP, eP⟩ := hQP
    have MP := Fr.app (MW1) NP
    have sg18 : ∀ target, Steps p.tables e below (TP.setTop (mkF m 262 #[.val (.long p1), .second, .val (.long p2), .second, .val (.int p3), .val (.int p4), .val (.int p5), .val (.long q2), .second, .val (.int t2), .val (.ref a5), .val (.ref a10), .val (.int md), .val (.int (0 : Int32))] [(.ref a5), (.ref a10)])) target → Steps p.tables e below (TP.setTop (mkF m 253 #[.val (.long p1), .second, .val (.long p2), .second, .val (.int p3), .val (.int p4), .val (.int p5), .val (.long q2), .second, .val (.int t2), .val (.ref a5), .val (.ref a10), .val (.int md), .val (.int (0 : Int32))] [(.int (own_req (own_cs p1 0) (own_cs p1 1) (own_cs p1 2) (own_cs q2 0) (own_cs q2 1) (own_cs q2 2) p3 t2))])) target := by
      intro target kt
      show Steps p.tables e below (TP.setTop (mkF m 253 #[.val (.long p1), .second, .val (.long p2), .second, .val (.int p3), .val (.int p4), .val (.int p5), .val (.long q2), .second, .val (.int t2), .val (.ref a5), .val (.ref a10), .val (.int md), .val (.int (0 : Int32))] [(.int (own_req (own_cs p1 0) (own_cs p1 1) (own_cs p1 2) (own_cs q2 0) (own_cs q2 1) (own_cs q2 2) p3 t2))])) _
      refine XS.iload XP.here hx rfl (hb hby at_253) rfl ?_
      show Steps p.tables e below (TP.setTop (mkF m 255 #[.val (.long p1), .second, .val (.long p2), .second, .val (.int p3), .val (.int p4), .val (.int p5), .val (.long q2), .second, .val (.int t2), .val (.ref a5), .val (.ref a10), .val (.int md), .val (.int (0 : Int32))] [(.int (0 : Int32)), (.int (own_req (own_cs p1 0) (own_cs p1 1) (own_cs p1 2) (own_cs q2 0) (own_cs q2 1) (own_cs q2 2) p3 t2))])) _
      refine XS.icmpNo XP.here hx rfl (hb hby at_255) rfl (teq rx).2 ?_
      show Steps p.tables e below (TP.setTop (mkF m 258 #[.val (.long p1), .second, .val (.long p2), .second, .val (.int p3), .val (.int p4), .val (.int p5), .val (.long q2), .second, .val (.int t2), .val (.ref a5), .val (.ref a10), .val (.int md), .val (.int (0 : Int32))] [])) _
      refine XS.aload XP.here hx rfl (hb hby at_258) rfl rfl ?_
      show Steps p.tables e below (TP.setTop (mkF m 260 #[.val (.long p1), .second, .val (.long p2), .second, .val (.int p3), .val (.int p4), .val (.int p5), .val (.long q2), .second, .val (.int t2), .val (.ref a5), .val (.ref a10), .val (.int md), .val (.int (0 : Int32))] [(.ref a10)])) _
      refine XS.aload XP.here hx rfl (hb hby at_260) rfl rfl ?_
      show Steps p.tables e below (TP.setTop (mkF m 262 #[.val (.long p1), .second, .val (.long p2), .second, .val (.int p3), .val (.int p4), .val (.int p5), .val (.long q2), .second, .val (.int t2), .val (.ref a5), .val (.ref a10), .val (.int md), .val (.int (0 : Int32))] [(.ref a5), (.ref a10)])) _
      exact kt
    obtain ⟨cqQ, kqQ, qaQ, qbQ, qcQ⟩ := isOf hZBI eP QB.1
    obtain ⟨_, _, ⟨TQ, LQ, kQ, nQ⟩, -, XQ, ⟨LcQ, hQQ, lQ, yQ, zQ⟩, stQ⟩ := XP.virtualBack hx (y := (⟨"com/example/nephila/nephila/usage/Request", "equals", "(Ljava/lang/Object;)Z"⟩ : MethodName)) (z := (⟨"com/example/nephila/nephila/usage/Request", "equals", "(Ljava/lang/Object;)Z"⟩ : MethodName)) hownBI (mvT hZBI (hw _ (List.mem_of_getElem? (i := 74) rfl))) (mvT hZBI (hw _ (List.mem_of_getElem? (i := 75) rfl))) (notFace_of_selects (args := #[]) (mvT hZBI (hw _ (List.mem_of_getElem? (i := 77) rfl)))) (mvT hZBI (hw _ (List.mem_of_getElem? (i := 77) rfl))) (mvT hZBI (hw _ (List.mem_of_getElem? (i := 76) rfl))) (by decide) (backOf (W := 0) (rmQ l Z a0 hw a10 a5 tB0 tB1 tB2 tA0 tA1 tA2 t2 p3 (own_cs q2 0) (own_cs q2 1) (own_cs q2 2) (own_cs p1 0) (own_cs p1 1) (own_cs p1 2) TBI.heap n0 G O_BI hG QB QA_BI (own_cs_lat q2 0) (own_cs_lat p1 0) (own_cs_le q2 0) (own_cs_le p1 0) SB0_BI SA0_BI (own_cs_lat q2 1) (own_cs_lat p1 1) (own_cs_le q2 1) (own_cs_le p1 1) SB1_BI SA1_BI (own_cs_lat q2 2) (own_cs_lat p1 2) (own_cs_le q2 2) (own_cs_le p1 2) SB2_BI SA2_BI) hZBI (hw _ (List.mem_of_getElem? (i := 78) rfl)) (hw _ (List.mem_of_getElem? (i := 6) rfl)) (by decide) (by decide)) qaQ qcQ (g := (mkF m 262 #[.val (.long p1), .second, .val (.long p2), .second, .val (.int p3), .val (.int p4), .val (.int p5), .val (.long q2), .second, .val (.int t2), .val (.ref a5), .val (.ref a10), .val (.int md), .val (.int (0 : Int32))] [(.ref a5), (.ref a10)])) rfl (by rw [hml]; rfl) (Steps.refl _) (argsL := [(.ref a5)]) (rest := []) (lenOf pdQ rfl) rfl (by show 2 * 0 + _ ≤ _; exact Nat.le_of_eq rfl) (hb hby at_262) (fun _ _ => ⟨rfl, eP, Nat.le_of_ble_eq_true rfl, Nat.le_of_ble_eq_true rfl⟩)
    dsimp only [Pt.U, Pt.locs, Pt.cells, Pt.slots] at XQ lQ yQ zQ stQ hQQ
    subst lQ yQ zQ
    obtain ⟨rfl, NQ, eQ⟩ := hQQ
    have MQ := Fr.app (MP) NQ
    have sg19 : ∀ target, Steps p.tables e below (TQ.setTop (mkF m 275 #[.val (.long p1), .second, .val (.long p2), .second, .val (.int p3), .val (.int p4), .val (.int p5), .val (.long q2), .second, .val (.int t2), .val (.ref a5), .val (.ref a10), .val (.int md), .val (.int (0 : Int32))] [(.int (1 : Int32))])) target → Steps p.tables e below (TQ.setTop (mkF m 265 #[.val (.long p1), .second, .val (.long p2), .second, .val (.int p3), .val (.int p4), .val (.int p5), .val (.long q2), .second, .val (.int t2), .val (.ref a5), .val (.ref a10), .val (.int md), .val (.int (0 : Int32))] [(.int (own_req (own_cs q2 0) (own_cs q2 1) (own_cs q2 2) (own_cs p1 0) (own_cs p1 1) (own_cs p1 2) t2 p3))])) target := by
      intro target kt
      show Steps p.tables e below (TQ.setTop (mkF m 265 #[.val (.long p1), .second, .val (.long p2), .second, .val (.int p3), .val (.int p4), .val (.int p5), .val (.long q2), .second, .val (.int t2), .val (.ref a5), .val (.ref a10), .val (.int md), .val (.int (0 : Int32))] [(.int (own_req (own_cs q2 0) (own_cs q2 1) (own_cs q2 2) (own_cs p1 0) (own_cs p1 1) (own_cs p1 2) t2 p3))])) _
      refine XS.iload XQ.here hx rfl (hb hby at_265) rfl ?_
      show Steps p.tables e below (TQ.setTop (mkF m 267 #[.val (.long p1), .second, .val (.long p2), .second, .val (.int p3), .val (.int p4), .val (.int p5), .val (.long q2), .second, .val (.int t2), .val (.ref a5), .val (.ref a10), .val (.int md), .val (.int (0 : Int32))] [(.int (0 : Int32)), (.int (own_req (own_cs q2 0) (own_cs q2 1) (own_cs q2 2) (own_cs p1 0) (own_cs p1 1) (own_cs p1 2) t2 p3))])) _
      refine XS.icmpNo XQ.here hx rfl (hb hby at_267) rfl (teq ((own_req_c ..).trans rx)).2 ?_
      show Steps p.tables e below (TQ.setTop (mkF m 270 #[.val (.long p1), .second, .val (.long p2), .second, .val (.int p3), .val (.int p4), .val (.int p5), .val (.long q2), .second, .val (.int t2), .val (.ref a5), .val (.ref a10), .val (.int md), .val (.int (0 : Int32))] [])) _
      refine XS.iconst XQ.here hx rfl (hb hby at_270) ?_
      show Steps p.tables e below (TQ.setTop (mkF m 271 #[.val (.long p1), .second, .val (.long p2), .second, .val (.int p3), .val (.int p4), .val (.int p5), .val (.long q2), .second, .val (.int t2), .val (.ref a5), .val (.ref a10), .val (.int md), .val (.int (0 : Int32))] [(.int (1 : Int32))])) _
      refine XS.goto XQ.here hx rfl (pc0 := 271) (pc' := 275) rfl (hb hby at_271) (by decide) (by decide) ?_
      show Steps p.tables e below (TQ.setTop (mkF m 275 #[.val (.long p1), .second, .val (.long p2), .second, .val (.int p3), .val (.int p4), .val (.int p5), .val (.long q2), .second, .val (.int t2), .val (.ref a5), .val (.ref a10), .val (.int md), .val (.int (0 : Int32))] [(.int (1 : Int32))])) _
      exact kt
    obtain ⟨fs, hr, hrun, hended, hW⟩ := XQ.leaveW hSBI (by rw [eQ]; exact (Nat.le_refl _)) (v := some (.int (1 : Int32))) (fun h => by rw [Bd.returns] at h; cases h)
    refine ⟨_, _, castTop (ef_0 m p1 p2 p3 p4 p5) ?_, hrun, hended, _, _, rfl, ⟨rfl, MQ⟩, own_w hW (by decide) (by decide)⟩
    show Steps p.tables e below (s₁.setTop (mkF m 0 #[.val (.long p1), .second, .val (.long p2), .second, .val (.int p3), .val (.int p4), .val (.int p5), .unset, .unset, .unset, .unset, .unset, .unset, .unset] [])) _
    refine sg1 _ ?_
    show Steps p.tables e below (s₁.setTop (mkF m 7 #[.val (.long p1), .second, .val (.long p2), .second, .val (.int p3), .val (.int p4), .val (.int p5), .unset, .unset, .unset, .unset, .unset, .unset, .unset] [(.int (p5 &&& (1 : Int32))), (.int (0 : Int32)), (.long p2), (.long p1)])) _
    refine sb0 _ ?_
    show Steps p.tables e below (s₁.setTop (mkF m 15 #[.val (.long p1), .second, .val (.long p2), .second, .val (.int p3), .val (.int p4), .val (.int p5), .unset, .unset, .unset, .unset, .unset, .unset, .unset] [(.int b0), (.int (0 : Int32)), (.long p2), (.long p1)])) _
    refine stF0 _ ?_
    show Steps p.tables e below (TF0.setTop (mkF m 18 #[.val (.long p1), .second, .val (.long p2), .second, .val (.int p3), .val (.int p4), .val (.int p5), .unset, .unset, .unset, .unset, .unset, .unset, .unset] [(.long q0)])) _
    refine sg2 _ ?_
    show Steps p.tables e below (TF0.setTop (mkF m 28 #[.val (.long p1), .second, .val (.long p2), .second, .val (.int p3), .val (.int p4), .val (.int p5), .val (.long q0), .second, .unset, .unset, .unset, .unset, .unset] [(.int (p5 &&& (2 : Int32))), (.int (1 : Int32)), (.long q0), (.long p1)])) _
    refine sb1 _ ?_
    show Steps p.tables e below (TF0.setTop (mkF m 36 #[.val (.long p1), .second, .val (.long p2), .second, .val (.int p3), .val (.int p4), .val (.int p5), .val (.long q0), .second, .unset, .unset, .unset, .unset, .unset] [(.int b1), (.int (1 : Int32)), (.long q0), (.long p1)])) _
    refine stF1 _ ?_
    show Steps p.tables e below (TF1.setTop (mkF m 39 #[.val (.long p1), .second, .val (.long p2), .second, .val (.int p3), .val (.int p4), .val (.int p5), .val (.long q0), .second, .unset, .unset, .unset, .unset, .unset] [(.long q1)])) _
    refine sg3 _ ?_
    show Steps p.tables e below (TF1.setTop (mkF m 49 #[.val (.long p1), .second, .val (.long p2), .second, .val (.int p3), .val (.int p4), .val (.int p5), .val (.long q1), .second, .unset, .unset, .unset, .unset, .unset] [(.int (p5 &&& (4 : Int32))), (.int (2 : Int32)), (.long q1), (.long p1)])) _
    refine sb2 _ ?_
    show Steps p.tables e below (TF1.setTop (mkF m 57 #[.val (.long p1), .second, .val (.long p2), .second, .val (.int p3), .val (.int p4), .val (.int p5), .val (.long q1), .second, .unset, .unset, .unset, .unset, .unset] [(.int b2), (.int (2 : Int32)), (.long q1), (.long p1)])) _
    refine stF2 _ ?_
    show Steps p.tables e below (TF2.setTop (mkF m 60 #[.val (.long p1), .second, .val (.long p2), .second, .val (.int p3), .val (.int p4), .val (.int p5), .val (.long q1), .second, .unset, .unset, .unset, .unset, .unset] [(.long q2)])) _
    refine sg4 _ ?_
    show Steps p.tables e below (TF2.setTop (mkF m 67 #[.val (.long p1), .second, .val (.long p2), .second, .val (.int p3), .val (.int p4), .val (.int p5), .val (.long q2), .second, .unset, .unset, .unset, .unset, .unset] [(.int (p5 &&& (8 : Int32)))])) _
    refine sbt _ ?_
    show Steps p.tables e below (TF2.setTop (mkF m 79 #[.val (.long p1), .second, .val (.long p2), .second, .val (.int p3), .val (.int p4), .val (.int p5), .val (.long q2), .second, .val (.int t2), .unset, .unset, .unset, .unset] [])) _
    refine st5 _ ?_
    show Steps p.tables e below (T5.setTop (mkF m 82 #[.val (.long p1), .second, .val (.long p2), .second, .val (.int p3), .val (.int p4), .val (.int p5), .val (.long q2), .second, .val (.int t2), .unset, .unset, .unset, .unset] [(.ref a5)])) _
    refine sg6 _ ?_
    show Steps p.tables e below (T5.setTop (mkF m 85 #[.val (.long p1), .second, .val (.long p2), .second, .val (.int p3), .val (.int p4), .val (.int p5), .val (.long q2), .second, .val (.int t2), .unset, .unset, .unset, .unset] [(.int (0 : Int32)), (.long p1), (.ref a5), (.ref a5)])) _
    refine stA0.trans ?_
    show Steps p.tables e below (TA0.setTop (mkF m 88 #[.val (.long p1), .second, .val (.long p2), .second, .val (.int p3), .val (.int p4), .val (.int p5), .val (.long q2), .second, .val (.int t2), .unset, .unset, .unset, .unset] [(.ref tA0), (.ref a5), (.ref a5)])) _
    refine sg7 _ ?_
    show Steps p.tables e below (TA0.setTop (mkF m 90 #[.val (.long p1), .second, .val (.long p2), .second, .val (.int p3), .val (.int p4), .val (.int p5), .val (.long q2), .second, .val (.int t2), .unset, .unset, .unset, .unset] [(.int (1 : Int32)), (.long p1), (.ref tA0), (.ref a5), (.ref a5)])) _
    refine stA1.trans ?_
    show Steps p.tables e below (TA1.setTop (mkF m 93 #[.val (.long p1), .second, .val (.long p2), .second, .val (.int p3), .val (.int p4), .val (.int p5), .val (.long q2), .second, .val (.int t2), .unset, .unset, .unset, .unset] [(.ref tA1), (.ref tA0), (.ref a5), (.ref a5)])) _
    refine sg8 _ ?_
    show Steps p.tables e below (TA1.setTop (mkF m 97 #[.val (.long p1), .second, .val (.long p2), .second, .val (.int p3), .val (.int p4), .val (.int p5), .val (.long q2), .second, .val (.int t2), .unset, .unset, .unset, .unset] [(.int (2 : Int32)), (.long p1), (.int p3), (.ref tA1), (.ref tA0), (.ref a5), (.ref a5)])) _
    refine stA2.trans ?_
    show Steps p.tables e below (TA2.setTop (mkF m 100 #[.val (.long p1), .second, .val (.long p2), .second, .val (.int p3), .val (.int p4), .val (.int p5), .val (.long q2), .second, .val (.int t2), .unset, .unset, .unset, .unset] [(.ref tA2), (.int p3), (.ref tA1), (.ref tA0), (.ref a5), (.ref a5)])) _
    refine stAI.trans ?_
    show Steps p.tables e below (TAI.setTop (mkF m 103 #[.val (.long p1), .second, .val (.long p2), .second, .val (.int p3), .val (.int p4), .val (.int p5), .val (.long q2), .second, .val (.int t2), .unset, .unset, .unset, .unset] [(.ref a5)])) _
    refine sg9 _ ?_
    show Steps p.tables e below (TAI.setTop (mkF m 105 #[.val (.long p1), .second, .val (.long p2), .second, .val (.int p3), .val (.int p4), .val (.int p5), .val (.long q2), .second, .val (.int t2), .val (.ref a5), .unset, .unset, .unset] [])) _
    refine st10 _ ?_
    show Steps p.tables e below (T10.setTop (mkF m 108 #[.val (.long p1), .second, .val (.long p2), .second, .val (.int p3), .val (.int p4), .val (.int p5), .val (.long q2), .second, .val (.int t2), .val (.ref a5), .unset, .unset, .unset] [(.ref a10)])) _
    refine sg11 _ ?_
    show Steps p.tables e below (T10.setTop (mkF m 112 #[.val (.long p1), .second, .val (.long p2), .second, .val (.int p3), .val (.int p4), .val (.int p5), .val (.long q2), .second, .val (.int t2), .val (.ref a5), .unset, .unset, .unset] [(.int (0 : Int32)), (.long q2), (.ref a10), (.ref a10)])) _
    refine stB0.trans ?_
    show Steps p.tables e below (TB0.setTop (mkF m 115 #[.val (.long p1), .second, .val (.long p2), .second, .val (.int p3), .val (.int p4), .val (.int p5), .val (.long q2), .second, .val (.int t2), .val (.ref a5), .unset, .unset, .unset] [(.ref tB0), (.ref a10), (.ref a10)])) _
    refine sg12 _ ?_
    show Steps p.tables e below (TB0.setTop (mkF m 118 #[.val (.long p1), .second, .val (.long p2), .second, .val (.int p3), .val (.int p4), .val (.int p5), .val (.long q2), .second, .val (.int t2), .val (.ref a5), .unset, .unset, .unset] [(.int (1 : Int32)), (.long q2), (.ref tB0), (.ref a10), (.ref a10)])) _
    refine stB1.trans ?_
    show Steps p.tables e below (TB1.setTop (mkF m 121 #[.val (.long p1), .second, .val (.long p2), .second, .val (.int p3), .val (.int p4), .val (.int p5), .val (.long q2), .second, .val (.int t2), .val (.ref a5), .unset, .unset, .unset] [(.ref tB1), (.ref tB0), (.ref a10), (.ref a10)])) _
    refine sg13 _ ?_
    show Steps p.tables e below (TB1.setTop (mkF m 126 #[.val (.long p1), .second, .val (.long p2), .second, .val (.int p3), .val (.int p4), .val (.int p5), .val (.long q2), .second, .val (.int t2), .val (.ref a5), .unset, .unset, .unset] [(.int (2 : Int32)), (.long q2), (.int t2), (.ref tB1), (.ref tB0), (.ref a10), (.ref a10)])) _
    refine stB2.trans ?_
    show Steps p.tables e below (TB2.setTop (mkF m 129 #[.val (.long p1), .second, .val (.long p2), .second, .val (.int p3), .val (.int p4), .val (.int p5), .val (.long q2), .second, .val (.int t2), .val (.ref a5), .unset, .unset, .unset] [(.ref tB2), (.int t2), (.ref tB1), (.ref tB0), (.ref a10), (.ref a10)])) _
    refine stBI.trans ?_
    show Steps p.tables e below (TBI.setTop (mkF m 132 #[.val (.long p1), .second, .val (.long p2), .second, .val (.int p3), .val (.int p4), .val (.int p5), .val (.long q2), .second, .val (.int t2), .val (.ref a5), .unset, .unset, .unset] [(.ref a10)])) _
    refine sg14 _ ?_
    show Steps p.tables e below (TBI.setTop (mkF m 142 #[.val (.long p1), .second, .val (.long p2), .second, .val (.int p3), .val (.int p4), .val (.int p5), .val (.long q2), .second, .val (.int t2), .val (.ref a5), .val (.ref a10), .val (.int ((((p5).toUInt32 >>> ((4 : Int32) &&& 31).toUInt32).toInt32) &&& (3 : Int32))), .unset] [])) _
    refine sg15 _ ?_
    show Steps p.tables e below (TBI.setTop (mkF m 206 #[.val (.long p1), .second, .val (.long p2), .second, .val (.int p3), .val (.int p4), .val (.int p5), .val (.long q2), .second, .val (.int t2), .val (.ref a5), .val (.ref a10), .val (.int md), .unset] [(.int (0 : Int32)), (.long q2), (.long p1)])) _
    refine stW0 _ ?_
    show Steps p.tables e below (TW0.setTop (mkF m 209 #[.val (.long p1), .second, .val (.long p2), .second, .val (.int p3), .val (.int p4), .val (.int p5), .val (.long q2), .second, .val (.int t2), .val (.ref a5), .val (.ref a10), .val (.int md), .unset] [(.int (own_eq (own_cs p1 0) (own_cs q2 0)))])) _
    refine sg16 _ ?_
    show Steps p.tables e below (TW0.setTop (mkF m 216 #[.val (.long p1), .second, .val (.long p2), .second, .val (.int p3), .val (.int p4), .val (.int p5), .val (.long q2), .second, .val (.int t2), .val (.ref a5), .val (.ref a10), .val (.int md), .unset] [(.int (1 : Int32)), (.long q2), (.long p1)])) _
    refine stW1 _ ?_
    show Steps p.tables e below (TW1.setTop (mkF m 219 #[.val (.long p1), .second, .val (.long p2), .second, .val (.int p3), .val (.int p4), .val (.int p5), .val (.long q2), .second, .val (.int t2), .val (.ref a5), .val (.ref a10), .val (.int md), .unset] [(.int (own_eq (own_cs p1 1) (own_cs q2 1)))])) _
    refine sg17 _ ?_
    show Steps p.tables e below (TW1.setTop (mkF m 250 #[.val (.long p1), .second, .val (.long p2), .second, .val (.int p3), .val (.int p4), .val (.int p5), .val (.long q2), .second, .val (.int t2), .val (.ref a5), .val (.ref a10), .val (.int md), .val (.int (0 : Int32))] [(.ref a10), (.ref a5)])) _
    refine stP.trans ?_
    show Steps p.tables e below (TP.setTop (mkF m 253 #[.val (.long p1), .second, .val (.long p2), .second, .val (.int p3), .val (.int p4), .val (.int p5), .val (.long q2), .second, .val (.int t2), .val (.ref a5), .val (.ref a10), .val (.int md), .val (.int (0 : Int32))] [(.int (own_req (own_cs p1 0) (own_cs p1 1) (own_cs p1 2) (own_cs q2 0) (own_cs q2 1) (own_cs q2 2) p3 t2))])) _
    refine sg18 _ ?_
    show Steps p.tables e below (TP.setTop (mkF m 262 #[.val (.long p1), .second, .val (.long p2), .second, .val (.int p3), .val (.int p4), .val (.int p5), .val (.long q2), .second, .val (.int t2), .val (.ref a5), .val (.ref a10), .val (.int md), .val (.int (0 : Int32))] [(.ref a5), (.ref a10)])) _
    refine stQ.trans ?_
    show Steps p.tables e below (TQ.setTop (mkF m 265 #[.val (.long p1), .second, .val (.long p2), .second, .val (.int p3), .val (.int p4), .val (.int p5), .val (.long q2), .second, .val (.int t2), .val (.ref a5), .val (.ref a10), .val (.int md), .val (.int (0 : Int32))] [(.int (own_req (own_cs q2 0) (own_cs q2 1) (own_cs q2 2) (own_cs p1 0) (own_cs p1 1) (own_cs p1 2) t2 p3))])) _
    refine sg19 _ ?_
    show Steps p.tables e below (TQ.setTop (mkF m 275 #[.val (.long p1), .second, .val (.long p2), .second, .val (.int p3), .val (.int p4), .val (.int p5), .val (.long q2), .second, .val (.int t2), .val (.ref a5), .val (.ref a10), .val (.int md), .val (.int (0 : Int32))] [(.int (1 : Int32))])) _
    exact retN XQ hx (t := .boolean) Bd.returns (by simp) (hb hby at_275) hr
  have sg17 : ∀ target, Steps p.tables e below (TW1.setTop (mkF m 226 #[.val (.long p1), .second, .val (.long p2), .second, .val (.int p3), .val (.int p4), .val (.int p5), .val (.long q2), .second, .val (.int t2), .val (.ref a5), .val (.ref a10), .val (.int md), .unset] [(.int t2), (.int p3)])) target → Steps p.tables e below (TW1.setTop (mkF m 219 #[.val (.long p1), .second, .val (.long p2), .second, .val (.int p3), .val (.int p4), .val (.int p5), .val (.long q2), .second, .val (.int t2), .val (.ref a5), .val (.ref a10), .val (.int md), .unset] [(.int (own_eq (own_cs p1 1) (own_cs q2 1)))])) target := by
    intro target kt
    show Steps p.tables e below (TW1.setTop (mkF m 219 #[.val (.long p1), .second, .val (.long p2), .second, .val (.int p3), .val (.int p4), .val (.int p5), .val (.long q2), .second, .val (.int t2), .val (.ref a5), .val (.ref a10), .val (.int md), .unset] [(.int (own_eq (own_cs p1 1) (own_cs q2 1)))])) _
    refine XS.ifNo XW1.here hx rfl (hb hby at_219) rfl (by rw [own_eq_t c1]; decide) ?_
    show Steps p.tables e below (TW1.setTop (mkF m 222 #[.val (.long p1), .second, .val (.long p2), .second, .val (.int p3), .val (.int p4), .val (.int p5), .val (.long q2), .second, .val (.int t2), .val (.ref a5), .val (.ref a10), .val (.int md), .unset] [])) _
    refine XS.iload XW1.here hx rfl (hb hby at_222) rfl ?_
    show Steps p.tables e below (TW1.setTop (mkF m 224 #[.val (.long p1), .second, .val (.long p2), .second, .val (.int p3), .val (.int p4), .val (.int p5), .val (.long q2), .second, .val (.int t2), .val (.ref a5), .val (.ref a10), .val (.int md), .unset] [(.int p3)])) _
    refine XS.iload XW1.here hx rfl (hb hby at_224) rfl ?_
    show Steps p.tables e below (TW1.setTop (mkF m 226 #[.val (.long p1), .second, .val (.long p2), .second, .val (.int p3), .val (.int p4), .val (.int p5), .val (.long q2), .second, .val (.int t2), .val (.ref a5), .val (.ref a10), .val (.int md), .unset] [(.int t2), (.int p3)])) _
    exact kt
  by_cases cs : p3 = t2
  rotate_left
  · have rx : (own_req (own_cs p1 0) (own_cs p1 1) (own_cs p1 2) (own_cs q2 0) (own_cs q2 1) (own_cs q2 2) p3 t2) = (0 : Int32) := if_neg (fun z => cs z.2.2.1)
    have sg18 : ∀ target, Steps p.tables e below (TW1.setTop (mkF m 250 #[.val (.long p1), .second, .val (.long p2), .second, .val (.int p3), .val (.int p4), .val (.int p5), .val (.long q2), .second, .val (.int t2), .val (.ref a5), .val (.ref a10), .val (.int md), .val (.int (0 : Int32))] [(.ref a10), (.ref a5)])) target → Steps p.tables e below (TW1.setTop (mkF m 226 #[.val (.long p1), .second, .val (.long p2), .second, .val (.int p3), .val (.int p4), .val (.int p5), .val (.long q2), .second, .val (.int t2), .val (.ref a5), .val (.ref a10), .val (.int md), .unset] [(.int t2), (.int p3)])) target := by
      intro target kt
      show Steps p.tables e below (TW1.setTop (mkF m 226 #[.val (.long p1), .second, .val (.long p2), .second, .val (.int p3), .val (.int p4), .val (.int p5), .val (.long q2), .second, .val (.int t2), .val (.ref a5), .val (.ref a10), .val (.int md), .unset] [(.int t2), (.int p3)])) _
      refine XS.icmpYes XW1.here hx rfl (pc0 := 226) (pc' := 243) rfl (hb hby at_226) rfl (feq cs).2 (by decide) (by decide) ?_
      show Steps p.tables e below (TW1.setTop (mkF m 243 #[.val (.long p1), .second, .val (.long p2), .second, .val (.int p3), .val (.int p4), .val (.int p5), .val (.long q2), .second, .val (.int t2), .val (.ref a5), .val (.ref a10), .val (.int md), .unset] [])) _
      refine XS.iconst XW1.here hx rfl (hb hby at_243) ?_
      show Steps p.tables e below (TW1.setTop (mkF m 244 #[.val (.long p1), .second, .val (.long p2), .second, .val (.int p3), .val (.int p4), .val (.int p5), .val (.long q2), .second, .val (.int t2), .val (.ref a5), .val (.ref a10), .val (.int md), .unset] [(.int (0 : Int32))])) _
      refine XS.istore XW1.here hx rfl (hb hby at_244) rfl (l' := #[.val (.long p1), .second, .val (.long p2), .second, .val (.int p3), .val (.int p4), .val (.int p5), .val (.long q2), .second, .val (.int t2), .val (.ref a5), .val (.ref a10), .val (.int md), .val (.int (0 : Int32))]) rfl ?_
      show Steps p.tables e below (TW1.setTop (mkF m 246 #[.val (.long p1), .second, .val (.long p2), .second, .val (.int p3), .val (.int p4), .val (.int p5), .val (.long q2), .second, .val (.int t2), .val (.ref a5), .val (.ref a10), .val (.int md), .val (.int (0 : Int32))] [])) _
      refine XS.aload XW1.here hx rfl (hb hby at_246) rfl rfl ?_
      show Steps p.tables e below (TW1.setTop (mkF m 248 #[.val (.long p1), .second, .val (.long p2), .second, .val (.int p3), .val (.int p4), .val (.int p5), .val (.long q2), .second, .val (.int t2), .val (.ref a5), .val (.ref a10), .val (.int md), .val (.int (0 : Int32))] [(.ref a5)])) _
      refine XS.aload XW1.here hx rfl (hb hby at_248) rfl rfl ?_
      show Steps p.tables e below (TW1.setTop (mkF m 250 #[.val (.long p1), .second, .val (.long p2), .second, .val (.int p3), .val (.int p4), .val (.int p5), .val (.long q2), .second, .val (.int t2), .val (.ref a5), .val (.ref a10), .val (.int md), .val (.int (0 : Int32))] [(.ref a10), (.ref a5)])) _
      exact kt
    obtain ⟨cqP, kqP, qaP, qbP, qcP⟩ := isOf hZBI eW1 QA_BI.1
    obtain ⟨_, _, ⟨TP, LP, kP, nP⟩, -, XP, ⟨LcP, hQP, lP, yP, zP⟩, stP⟩ := XW1.virtualBack hx (y := (⟨"com/example/nephila/nephila/usage/Request", "equals", "(Ljava/lang/Object;)Z"⟩ : MethodName)) (z := (⟨"com/example/nephila/nephila/usage/Request", "equals", "(Ljava/lang/Object;)Z"⟩ : MethodName)) hownBI (mvT hZBI (hw _ (List.mem_of_getElem? (i := 74) rfl))) (mvT hZBI (hw _ (List.mem_of_getElem? (i := 75) rfl))) (notFace_of_selects (args := #[]) (mvT hZBI (hw _ (List.mem_of_getElem? (i := 77) rfl)))) (mvT hZBI (hw _ (List.mem_of_getElem? (i := 77) rfl))) (mvT hZBI (hw _ (List.mem_of_getElem? (i := 76) rfl))) (by decide) (backOf (W := 0) (rmQ l Z a0 hw a5 a10 tA0 tA1 tA2 tB0 tB1 tB2 p3 t2 (own_cs p1 0) (own_cs p1 1) (own_cs p1 2) (own_cs q2 0) (own_cs q2 1) (own_cs q2 2) TBI.heap n0 G O_BI hG QA_BI QB (own_cs_lat p1 0) (own_cs_lat q2 0) (own_cs_le p1 0) (own_cs_le q2 0) SA0_BI SB0_BI (own_cs_lat p1 1) (own_cs_lat q2 1) (own_cs_le p1 1) (own_cs_le q2 1) SA1_BI SB1_BI (own_cs_lat p1 2) (own_cs_lat q2 2) (own_cs_le p1 2) (own_cs_le q2 2) SA2_BI SB2_BI) hZBI (hw _ (List.mem_of_getElem? (i := 78) rfl)) (hw _ (List.mem_of_getElem? (i := 6) rfl)) (by decide) (by decide)) qaP qcP (g := (mkF m 250 #[.val (.long p1), .second, .val (.long p2), .second, .val (.int p3), .val (.int p4), .val (.int p5), .val (.long q2), .second, .val (.int t2), .val (.ref a5), .val (.ref a10), .val (.int md), .val (.int (0 : Int32))] [(.ref a10), (.ref a5)])) rfl (by rw [hml]; rfl) (Steps.refl _) (argsL := [(.ref a10)]) (rest := []) (lenOf pdQ rfl) rfl (by show 2 * 0 + _ ≤ _; exact Nat.le_of_eq rfl) (hb hby at_250) (fun _ _ => ⟨rfl, eW1, Nat.le_of_ble_eq_true rfl, Nat.le_of_ble_eq_true rfl⟩)
    dsimp only [Pt.U, Pt.locs, Pt.cells, Pt.slots] at XP lP yP zP stP hQP
    subst lP yP zP
    obtain ⟨rfl, NP, eP⟩ := hQP
    have MP := Fr.app (MW1) NP
    have sg19 : ∀ target, Steps p.tables e below (TP.setTop (mkF m 262 #[.val (.long p1), .second, .val (.long p2), .second, .val (.int p3), .val (.int p4), .val (.int p5), .val (.long q2), .second, .val (.int t2), .val (.ref a5), .val (.ref a10), .val (.int md), .val (.int (0 : Int32))] [(.ref a5), (.ref a10)])) target → Steps p.tables e below (TP.setTop (mkF m 253 #[.val (.long p1), .second, .val (.long p2), .second, .val (.int p3), .val (.int p4), .val (.int p5), .val (.long q2), .second, .val (.int t2), .val (.ref a5), .val (.ref a10), .val (.int md), .val (.int (0 : Int32))] [(.int (own_req (own_cs p1 0) (own_cs p1 1) (own_cs p1 2) (own_cs q2 0) (own_cs q2 1) (own_cs q2 2) p3 t2))])) target := by
      intro target kt
      show Steps p.tables e below (TP.setTop (mkF m 253 #[.val (.long p1), .second, .val (.long p2), .second, .val (.int p3), .val (.int p4), .val (.int p5), .val (.long q2), .second, .val (.int t2), .val (.ref a5), .val (.ref a10), .val (.int md), .val (.int (0 : Int32))] [(.int (own_req (own_cs p1 0) (own_cs p1 1) (own_cs p1 2) (own_cs q2 0) (own_cs q2 1) (own_cs q2 2) p3 t2))])) _
      refine XS.iload XP.here hx rfl (hb hby at_253) rfl ?_
      show Steps p.tables e below (TP.setTop (mkF m 255 #[.val (.long p1), .second, .val (.long p2), .second, .val (.int p3), .val (.int p4), .val (.int p5), .val (.long q2), .second, .val (.int t2), .val (.ref a5), .val (.ref a10), .val (.int md), .val (.int (0 : Int32))] [(.int (0 : Int32)), (.int (own_req (own_cs p1 0) (own_cs p1 1) (own_cs p1 2) (own_cs q2 0) (own_cs q2 1) (own_cs q2 2) p3 t2))])) _
      refine XS.icmpNo XP.here hx rfl (hb hby at_255) rfl (teq rx).2 ?_
      show Steps p.tables e below (TP.setTop (mkF m 258 #[.val (.long p1), .second, .val (.long p2), .second, .val (.int p3), .val (.int p4), .val (.int p5), .val (.long q2), .second, .val (.int t2), .val (.ref a5), .val (.ref a10), .val (.int md), .val (.int (0 : Int32))] [])) _
      refine XS.aload XP.here hx rfl (hb hby at_258) rfl rfl ?_
      show Steps p.tables e below (TP.setTop (mkF m 260 #[.val (.long p1), .second, .val (.long p2), .second, .val (.int p3), .val (.int p4), .val (.int p5), .val (.long q2), .second, .val (.int t2), .val (.ref a5), .val (.ref a10), .val (.int md), .val (.int (0 : Int32))] [(.ref a10)])) _
      refine XS.aload XP.here hx rfl (hb hby at_260) rfl rfl ?_
      show Steps p.tables e below (TP.setTop (mkF m 262 #[.val (.long p1), .second, .val (.long p2), .second, .val (.int p3), .val (.int p4), .val (.int p5), .val (.long q2), .second, .val (.int t2), .val (.ref a5), .val (.ref a10), .val (.int md), .val (.int (0 : Int32))] [(.ref a5), (.ref a10)])) _
      exact kt
    obtain ⟨cqQ, kqQ, qaQ, qbQ, qcQ⟩ := isOf hZBI eP QB.1
    obtain ⟨_, _, ⟨TQ, LQ, kQ, nQ⟩, -, XQ, ⟨LcQ, hQQ, lQ, yQ, zQ⟩, stQ⟩ := XP.virtualBack hx (y := (⟨"com/example/nephila/nephila/usage/Request", "equals", "(Ljava/lang/Object;)Z"⟩ : MethodName)) (z := (⟨"com/example/nephila/nephila/usage/Request", "equals", "(Ljava/lang/Object;)Z"⟩ : MethodName)) hownBI (mvT hZBI (hw _ (List.mem_of_getElem? (i := 74) rfl))) (mvT hZBI (hw _ (List.mem_of_getElem? (i := 75) rfl))) (notFace_of_selects (args := #[]) (mvT hZBI (hw _ (List.mem_of_getElem? (i := 77) rfl)))) (mvT hZBI (hw _ (List.mem_of_getElem? (i := 77) rfl))) (mvT hZBI (hw _ (List.mem_of_getElem? (i := 76) rfl))) (by decide) (backOf (W := 0) (rmQ l Z a0 hw a10 a5 tB0 tB1 tB2 tA0 tA1 tA2 t2 p3 (own_cs q2 0) (own_cs q2 1) (own_cs q2 2) (own_cs p1 0) (own_cs p1 1) (own_cs p1 2) TBI.heap n0 G O_BI hG QB QA_BI (own_cs_lat q2 0) (own_cs_lat p1 0) (own_cs_le q2 0) (own_cs_le p1 0) SB0_BI SA0_BI (own_cs_lat q2 1) (own_cs_lat p1 1) (own_cs_le q2 1) (own_cs_le p1 1) SB1_BI SA1_BI (own_cs_lat q2 2) (own_cs_lat p1 2) (own_cs_le q2 2) (own_cs_le p1 2) SB2_BI SA2_BI) hZBI (hw _ (List.mem_of_getElem? (i := 78) rfl)) (hw _ (List.mem_of_getElem? (i := 6) rfl)) (by decide) (by decide)) qaQ qcQ (g := (mkF m 262 #[.val (.long p1), .second, .val (.long p2), .second, .val (.int p3), .val (.int p4), .val (.int p5), .val (.long q2), .second, .val (.int t2), .val (.ref a5), .val (.ref a10), .val (.int md), .val (.int (0 : Int32))] [(.ref a5), (.ref a10)])) rfl (by rw [hml]; rfl) (Steps.refl _) (argsL := [(.ref a5)]) (rest := []) (lenOf pdQ rfl) rfl (by show 2 * 0 + _ ≤ _; exact Nat.le_of_eq rfl) (hb hby at_262) (fun _ _ => ⟨rfl, eP, Nat.le_of_ble_eq_true rfl, Nat.le_of_ble_eq_true rfl⟩)
    dsimp only [Pt.U, Pt.locs, Pt.cells, Pt.slots] at XQ lQ yQ zQ stQ hQQ
    subst lQ yQ zQ
    obtain ⟨rfl, NQ, eQ⟩ := hQQ
    have MQ := Fr.app (MP) NQ
    have sg20 : ∀ target, Steps p.tables e below (TQ.setTop (mkF m 275 #[.val (.long p1), .second, .val (.long p2), .second, .val (.int p3), .val (.int p4), .val (.int p5), .val (.long q2), .second, .val (.int t2), .val (.ref a5), .val (.ref a10), .val (.int md), .val (.int (0 : Int32))] [(.int (1 : Int32))])) target → Steps p.tables e below (TQ.setTop (mkF m 265 #[.val (.long p1), .second, .val (.long p2), .second, .val (.int p3), .val (.int p4), .val (.int p5), .val (.long q2), .second, .val (.int t2), .val (.ref a5), .val (.ref a10), .val (.int md), .val (.int (0 : Int32))] [(.int (own_req (own_cs q2 0) (own_cs q2 1) (own_cs q2 2) (own_cs p1 0) (own_cs p1 1) (own_cs p1 2) t2 p3))])) target := by
      intro target kt
      show Steps p.tables e below (TQ.setTop (mkF m 265 #[.val (.long p1), .second, .val (.long p2), .second, .val (.int p3), .val (.int p4), .val (.int p5), .val (.long q2), .second, .val (.int t2), .val (.ref a5), .val (.ref a10), .val (.int md), .val (.int (0 : Int32))] [(.int (own_req (own_cs q2 0) (own_cs q2 1) (own_cs q2 2) (own_cs p1 0) (own_cs p1 1) (own_cs p1 2) t2 p3))])) _
      refine XS.iload XQ.here hx rfl (hb hby at_265) rfl ?_
      show Steps p.tables e below (TQ.setTop (mkF m 267 #[.val (.long p1), .second, .val (.long p2), .second, .val (.int p3), .val (.int p4), .val (.int p5), .val (.long q2), .second, .val (.int t2), .val (.ref a5), .val (.ref a10), .val (.int md), .val (.int (0 : Int32))] [(.int (0 : Int32)), (.int (own_req (own_cs q2 0) (own_cs q2 1) (own_cs q2 2) (own_cs p1 0) (own_cs p1 1) (own_cs p1 2) t2 p3))])) _
      refine XS.icmpNo XQ.here hx rfl (hb hby at_267) rfl (teq ((own_req_c ..).trans rx)).2 ?_
      show Steps p.tables e below (TQ.setTop (mkF m 270 #[.val (.long p1), .second, .val (.long p2), .second, .val (.int p3), .val (.int p4), .val (.int p5), .val (.long q2), .second, .val (.int t2), .val (.ref a5), .val (.ref a10), .val (.int md), .val (.int (0 : Int32))] [])) _
      refine XS.iconst XQ.here hx rfl (hb hby at_270) ?_
      show Steps p.tables e below (TQ.setTop (mkF m 271 #[.val (.long p1), .second, .val (.long p2), .second, .val (.int p3), .val (.int p4), .val (.int p5), .val (.long q2), .second, .val (.int t2), .val (.ref a5), .val (.ref a10), .val (.int md), .val (.int (0 : Int32))] [(.int (1 : Int32))])) _
      refine XS.goto XQ.here hx rfl (pc0 := 271) (pc' := 275) rfl (hb hby at_271) (by decide) (by decide) ?_
      show Steps p.tables e below (TQ.setTop (mkF m 275 #[.val (.long p1), .second, .val (.long p2), .second, .val (.int p3), .val (.int p4), .val (.int p5), .val (.long q2), .second, .val (.int t2), .val (.ref a5), .val (.ref a10), .val (.int md), .val (.int (0 : Int32))] [(.int (1 : Int32))])) _
      exact kt
    obtain ⟨fs, hr, hrun, hended, hW⟩ := XQ.leaveW hSBI (by rw [eQ]; exact (Nat.le_refl _)) (v := some (.int (1 : Int32))) (fun h => by rw [Bd.returns] at h; cases h)
    refine ⟨_, _, castTop (ef_0 m p1 p2 p3 p4 p5) ?_, hrun, hended, _, _, rfl, ⟨rfl, MQ⟩, own_w hW (by decide) (by decide)⟩
    show Steps p.tables e below (s₁.setTop (mkF m 0 #[.val (.long p1), .second, .val (.long p2), .second, .val (.int p3), .val (.int p4), .val (.int p5), .unset, .unset, .unset, .unset, .unset, .unset, .unset] [])) _
    refine sg1 _ ?_
    show Steps p.tables e below (s₁.setTop (mkF m 7 #[.val (.long p1), .second, .val (.long p2), .second, .val (.int p3), .val (.int p4), .val (.int p5), .unset, .unset, .unset, .unset, .unset, .unset, .unset] [(.int (p5 &&& (1 : Int32))), (.int (0 : Int32)), (.long p2), (.long p1)])) _
    refine sb0 _ ?_
    show Steps p.tables e below (s₁.setTop (mkF m 15 #[.val (.long p1), .second, .val (.long p2), .second, .val (.int p3), .val (.int p4), .val (.int p5), .unset, .unset, .unset, .unset, .unset, .unset, .unset] [(.int b0), (.int (0 : Int32)), (.long p2), (.long p1)])) _
    refine stF0 _ ?_
    show Steps p.tables e below (TF0.setTop (mkF m 18 #[.val (.long p1), .second, .val (.long p2), .second, .val (.int p3), .val (.int p4), .val (.int p5), .unset, .unset, .unset, .unset, .unset, .unset, .unset] [(.long q0)])) _
    refine sg2 _ ?_
    show Steps p.tables e below (TF0.setTop (mkF m 28 #[.val (.long p1), .second, .val (.long p2), .second, .val (.int p3), .val (.int p4), .val (.int p5), .val (.long q0), .second, .unset, .unset, .unset, .unset, .unset] [(.int (p5 &&& (2 : Int32))), (.int (1 : Int32)), (.long q0), (.long p1)])) _
    refine sb1 _ ?_
    show Steps p.tables e below (TF0.setTop (mkF m 36 #[.val (.long p1), .second, .val (.long p2), .second, .val (.int p3), .val (.int p4), .val (.int p5), .val (.long q0), .second, .unset, .unset, .unset, .unset, .unset] [(.int b1), (.int (1 : Int32)), (.long q0), (.long p1)])) _
    refine stF1 _ ?_
    show Steps p.tables e below (TF1.setTop (mkF m 39 #[.val (.long p1), .second, .val (.long p2), .second, .val (.int p3), .val (.int p4), .val (.int p5), .val (.long q0), .second, .unset, .unset, .unset, .unset, .unset] [(.long q1)])) _
    refine sg3 _ ?_
    show Steps p.tables e below (TF1.setTop (mkF m 49 #[.val (.long p1), .second, .val (.long p2), .second, .val (.int p3), .val (.int p4), .val (.int p5), .val (.long q1), .second, .unset, .unset, .unset, .unset, .unset] [(.int (p5 &&& (4 : Int32))), (.int (2 : Int32)), (.long q1), (.long p1)])) _
    refine sb2 _ ?_
    show Steps p.tables e below (TF1.setTop (mkF m 57 #[.val (.long p1), .second, .val (.long p2), .second, .val (.int p3), .val (.int p4), .val (.int p5), .val (.long q1), .second, .unset, .unset, .unset, .unset, .unset] [(.int b2), (.int (2 : Int32)), (.long q1), (.long p1)])) _
    refine stF2 _ ?_
    show Steps p.tables e below (TF2.setTop (mkF m 60 #[.val (.long p1), .second, .val (.long p2), .second, .val (.int p3), .val (.int p4), .val (.int p5), .val (.long q1), .second, .unset, .unset, .unset, .unset, .unset] [(.long q2)])) _
    refine sg4 _ ?_
    show Steps p.tables e below (TF2.setTop (mkF m 67 #[.val (.long p1), .second, .val (.long p2), .second, .val (.int p3), .val (.int p4), .val (.int p5), .val (.long q2), .second, .unset, .unset, .unset, .unset, .unset] [(.int (p5 &&& (8 : Int32)))])) _
    refine sbt _ ?_
    show Steps p.tables e below (TF2.setTop (mkF m 79 #[.val (.long p1), .second, .val (.long p2), .second, .val (.int p3), .val (.int p4), .val (.int p5), .val (.long q2), .second, .val (.int t2), .unset, .unset, .unset, .unset] [])) _
    refine st5 _ ?_
    show Steps p.tables e below (T5.setTop (mkF m 82 #[.val (.long p1), .second, .val (.long p2), .second, .val (.int p3), .val (.int p4), .val (.int p5), .val (.long q2), .second, .val (.int t2), .unset, .unset, .unset, .unset] [(.ref a5)])) _
    refine sg6 _ ?_
    show Steps p.tables e below (T5.setTop (mkF m 85 #[.val (.long p1), .second, .val (.long p2), .second, .val (.int p3), .val (.int p4), .val (.int p5), .val (.long q2), .second, .val (.int t2), .unset, .unset, .unset, .unset] [(.int (0 : Int32)), (.long p1), (.ref a5), (.ref a5)])) _
    refine stA0.trans ?_
    show Steps p.tables e below (TA0.setTop (mkF m 88 #[.val (.long p1), .second, .val (.long p2), .second, .val (.int p3), .val (.int p4), .val (.int p5), .val (.long q2), .second, .val (.int t2), .unset, .unset, .unset, .unset] [(.ref tA0), (.ref a5), (.ref a5)])) _
    refine sg7 _ ?_
    show Steps p.tables e below (TA0.setTop (mkF m 90 #[.val (.long p1), .second, .val (.long p2), .second, .val (.int p3), .val (.int p4), .val (.int p5), .val (.long q2), .second, .val (.int t2), .unset, .unset, .unset, .unset] [(.int (1 : Int32)), (.long p1), (.ref tA0), (.ref a5), (.ref a5)])) _
    refine stA1.trans ?_
    show Steps p.tables e below (TA1.setTop (mkF m 93 #[.val (.long p1), .second, .val (.long p2), .second, .val (.int p3), .val (.int p4), .val (.int p5), .val (.long q2), .second, .val (.int t2), .unset, .unset, .unset, .unset] [(.ref tA1), (.ref tA0), (.ref a5), (.ref a5)])) _
    refine sg8 _ ?_
    show Steps p.tables e below (TA1.setTop (mkF m 97 #[.val (.long p1), .second, .val (.long p2), .second, .val (.int p3), .val (.int p4), .val (.int p5), .val (.long q2), .second, .val (.int t2), .unset, .unset, .unset, .unset] [(.int (2 : Int32)), (.long p1), (.int p3), (.ref tA1), (.ref tA0), (.ref a5), (.ref a5)])) _
    refine stA2.trans ?_
    show Steps p.tables e below (TA2.setTop (mkF m 100 #[.val (.long p1), .second, .val (.long p2), .second, .val (.int p3), .val (.int p4), .val (.int p5), .val (.long q2), .second, .val (.int t2), .unset, .unset, .unset, .unset] [(.ref tA2), (.int p3), (.ref tA1), (.ref tA0), (.ref a5), (.ref a5)])) _
    refine stAI.trans ?_
    show Steps p.tables e below (TAI.setTop (mkF m 103 #[.val (.long p1), .second, .val (.long p2), .second, .val (.int p3), .val (.int p4), .val (.int p5), .val (.long q2), .second, .val (.int t2), .unset, .unset, .unset, .unset] [(.ref a5)])) _
    refine sg9 _ ?_
    show Steps p.tables e below (TAI.setTop (mkF m 105 #[.val (.long p1), .second, .val (.long p2), .second, .val (.int p3), .val (.int p4), .val (.int p5), .val (.long q2), .second, .val (.int t2), .val (.ref a5), .unset, .unset, .unset] [])) _
    refine st10 _ ?_
    show Steps p.tables e below (T10.setTop (mkF m 108 #[.val (.long p1), .second, .val (.long p2), .second, .val (.int p3), .val (.int p4), .val (.int p5), .val (.long q2), .second, .val (.int t2), .val (.ref a5), .unset, .unset, .unset] [(.ref a10)])) _
    refine sg11 _ ?_
    show Steps p.tables e below (T10.setTop (mkF m 112 #[.val (.long p1), .second, .val (.long p2), .second, .val (.int p3), .val (.int p4), .val (.int p5), .val (.long q2), .second, .val (.int t2), .val (.ref a5), .unset, .unset, .unset] [(.int (0 : Int32)), (.long q2), (.ref a10), (.ref a10)])) _
    refine stB0.trans ?_
    show Steps p.tables e below (TB0.setTop (mkF m 115 #[.val (.long p1), .second, .val (.long p2), .second, .val (.int p3), .val (.int p4), .val (.int p5), .val (.long q2), .second, .val (.int t2), .val (.ref a5), .unset, .unset, .unset] [(.ref tB0), (.ref a10), (.ref a10)])) _
    refine sg12 _ ?_
    show Steps p.tables e below (TB0.setTop (mkF m 118 #[.val (.long p1), .second, .val (.long p2), .second, .val (.int p3), .val (.int p4), .val (.int p5), .val (.long q2), .second, .val (.int t2), .val (.ref a5), .unset, .unset, .unset] [(.int (1 : Int32)), (.long q2), (.ref tB0), (.ref a10), (.ref a10)])) _
    refine stB1.trans ?_
    show Steps p.tables e below (TB1.setTop (mkF m 121 #[.val (.long p1), .second, .val (.long p2), .second, .val (.int p3), .val (.int p4), .val (.int p5), .val (.long q2), .second, .val (.int t2), .val (.ref a5), .unset, .unset, .unset] [(.ref tB1), (.ref tB0), (.ref a10), (.ref a10)])) _
    refine sg13 _ ?_
    show Steps p.tables e below (TB1.setTop (mkF m 126 #[.val (.long p1), .second, .val (.long p2), .second, .val (.int p3), .val (.int p4), .val (.int p5), .val (.long q2), .second, .val (.int t2), .val (.ref a5), .unset, .unset, .unset] [(.int (2 : Int32)), (.long q2), (.int t2), (.ref tB1), (.ref tB0), (.ref a10), (.ref a10)])) _
    refine stB2.trans ?_
    show Steps p.tables e below (TB2.setTop (mkF m 129 #[.val (.long p1), .second, .val (.long p2), .second, .val (.int p3), .val (.int p4), .val (.int p5), .val (.long q2), .second, .val (.int t2), .val (.ref a5), .unset, .unset, .unset] [(.ref tB2), (.int t2), (.ref tB1), (.ref tB0), (.ref a10), (.ref a10)])) _
    refine stBI.trans ?_
    show Steps p.tables e below (TBI.setTop (mkF m 132 #[.val (.long p1), .second, .val (.long p2), .second, .val (.int p3), .val (.int p4), .val (.int p5), .val (.long q2), .second, .val (.int t2), .val (.ref a5), .unset, .unset, .unset] [(.ref a10)])) _
    refine sg14 _ ?_
    show Steps p.tables e below (TBI.setTop (mkF m 142 #[.val (.long p1), .second, .val (.long p2), .second, .val (.int p3), .val (.int p4), .val (.int p5), .val (.long q2), .second, .val (.int t2), .val (.ref a5), .val (.ref a10), .val (.int ((((p5).toUInt32 >>> ((4 : Int32) &&& 31).toUInt32).toInt32) &&& (3 : Int32))), .unset] [])) _
    refine sg15 _ ?_
    show Steps p.tables e below (TBI.setTop (mkF m 206 #[.val (.long p1), .second, .val (.long p2), .second, .val (.int p3), .val (.int p4), .val (.int p5), .val (.long q2), .second, .val (.int t2), .val (.ref a5), .val (.ref a10), .val (.int md), .unset] [(.int (0 : Int32)), (.long q2), (.long p1)])) _
    refine stW0 _ ?_
    show Steps p.tables e below (TW0.setTop (mkF m 209 #[.val (.long p1), .second, .val (.long p2), .second, .val (.int p3), .val (.int p4), .val (.int p5), .val (.long q2), .second, .val (.int t2), .val (.ref a5), .val (.ref a10), .val (.int md), .unset] [(.int (own_eq (own_cs p1 0) (own_cs q2 0)))])) _
    refine sg16 _ ?_
    show Steps p.tables e below (TW0.setTop (mkF m 216 #[.val (.long p1), .second, .val (.long p2), .second, .val (.int p3), .val (.int p4), .val (.int p5), .val (.long q2), .second, .val (.int t2), .val (.ref a5), .val (.ref a10), .val (.int md), .unset] [(.int (1 : Int32)), (.long q2), (.long p1)])) _
    refine stW1 _ ?_
    show Steps p.tables e below (TW1.setTop (mkF m 219 #[.val (.long p1), .second, .val (.long p2), .second, .val (.int p3), .val (.int p4), .val (.int p5), .val (.long q2), .second, .val (.int t2), .val (.ref a5), .val (.ref a10), .val (.int md), .unset] [(.int (own_eq (own_cs p1 1) (own_cs q2 1)))])) _
    refine sg17 _ ?_
    show Steps p.tables e below (TW1.setTop (mkF m 226 #[.val (.long p1), .second, .val (.long p2), .second, .val (.int p3), .val (.int p4), .val (.int p5), .val (.long q2), .second, .val (.int t2), .val (.ref a5), .val (.ref a10), .val (.int md), .unset] [(.int t2), (.int p3)])) _
    refine sg18 _ ?_
    show Steps p.tables e below (TW1.setTop (mkF m 250 #[.val (.long p1), .second, .val (.long p2), .second, .val (.int p3), .val (.int p4), .val (.int p5), .val (.long q2), .second, .val (.int t2), .val (.ref a5), .val (.ref a10), .val (.int md), .val (.int (0 : Int32))] [(.ref a10), (.ref a5)])) _
    refine stP.trans ?_
    show Steps p.tables e below (TP.setTop (mkF m 253 #[.val (.long p1), .second, .val (.long p2), .second, .val (.int p3), .val (.int p4), .val (.int p5), .val (.long q2), .second, .val (.int t2), .val (.ref a5), .val (.ref a10), .val (.int md), .val (.int (0 : Int32))] [(.int (own_req (own_cs p1 0) (own_cs p1 1) (own_cs p1 2) (own_cs q2 0) (own_cs q2 1) (own_cs q2 2) p3 t2))])) _
    refine sg19 _ ?_
    show Steps p.tables e below (TP.setTop (mkF m 262 #[.val (.long p1), .second, .val (.long p2), .second, .val (.int p3), .val (.int p4), .val (.int p5), .val (.long q2), .second, .val (.int t2), .val (.ref a5), .val (.ref a10), .val (.int md), .val (.int (0 : Int32))] [(.ref a5), (.ref a10)])) _
    refine stQ.trans ?_
    show Steps p.tables e below (TQ.setTop (mkF m 265 #[.val (.long p1), .second, .val (.long p2), .second, .val (.int p3), .val (.int p4), .val (.int p5), .val (.long q2), .second, .val (.int t2), .val (.ref a5), .val (.ref a10), .val (.int md), .val (.int (0 : Int32))] [(.int (own_req (own_cs q2 0) (own_cs q2 1) (own_cs q2 2) (own_cs p1 0) (own_cs p1 1) (own_cs p1 2) t2 p3))])) _
    refine sg20 _ ?_
    show Steps p.tables e below (TQ.setTop (mkF m 275 #[.val (.long p1), .second, .val (.long p2), .second, .val (.int p3), .val (.int p4), .val (.int p5), .val (.long q2), .second, .val (.int t2), .val (.ref a5), .val (.ref a10), .val (.int md), .val (.int (0 : Int32))] [(.int (1 : Int32))])) _
    exact retN XQ hx (t := .boolean) Bd.returns (by simp) (hb hby at_275) hr
  have sg18 : ∀ target, Steps p.tables e below (TW1.setTop (mkF m 233 #[.val (.long p1), .second, .val (.long p2), .second, .val (.int p3), .val (.int p4), .val (.int p5), .val (.long q2), .second, .val (.int t2), .val (.ref a5), .val (.ref a10), .val (.int md), .unset] [(.int (2 : Int32)), (.long q2), (.long p1)])) target → Steps p.tables e below (TW1.setTop (mkF m 226 #[.val (.long p1), .second, .val (.long p2), .second, .val (.int p3), .val (.int p4), .val (.int p5), .val (.long q2), .second, .val (.int t2), .val (.ref a5), .val (.ref a10), .val (.int md), .unset] [(.int t2), (.int p3)])) target := by
    intro target kt
    show Steps p.tables e below (TW1.setTop (mkF m 226 #[.val (.long p1), .second, .val (.long p2), .second, .val (.int p3), .val (.int p4), .val (.int p5), .val (.long q2), .second, .val (.int t2), .val (.ref a5), .val (.ref a10), .val (.int md), .unset] [(.int t2), (.int p3)])) _
    refine XS.icmpNo XW1.here hx rfl (hb hby at_226) rfl (teq cs).2 ?_
    show Steps p.tables e below (TW1.setTop (mkF m 229 #[.val (.long p1), .second, .val (.long p2), .second, .val (.int p3), .val (.int p4), .val (.int p5), .val (.long q2), .second, .val (.int t2), .val (.ref a5), .val (.ref a10), .val (.int md), .unset] [])) _
    refine XS.lloadN XW1.here hx rfl (hb hby at_229) rfl ?_
    show Steps p.tables e below (TW1.setTop (mkF m 230 #[.val (.long p1), .second, .val (.long p2), .second, .val (.int p3), .val (.int p4), .val (.int p5), .val (.long q2), .second, .val (.int t2), .val (.ref a5), .val (.ref a10), .val (.int md), .unset] [(.long p1)])) _
    refine XS.lload XW1.here hx rfl (hb hby at_230) rfl ?_
    show Steps p.tables e below (TW1.setTop (mkF m 232 #[.val (.long p1), .second, .val (.long p2), .second, .val (.int p3), .val (.int p4), .val (.int p5), .val (.long q2), .second, .val (.int t2), .val (.ref a5), .val (.ref a10), .val (.int md), .unset] [(.long q2), (.long p1)])) _
    refine XS.iconst XW1.here hx rfl (hb hby at_232) ?_
    show Steps p.tables e below (TW1.setTop (mkF m 233 #[.val (.long p1), .second, .val (.long p2), .second, .val (.int p3), .val (.int p4), .val (.int p5), .val (.long q2), .second, .val (.int t2), .val (.ref a5), .val (.ref a10), .val (.int md), .unset] [(.int (2 : Int32)), (.long q2), (.long p1)])) _
    exact kt
  obtain ⟨_, _, ⟨TW2, LW2, kW2, nW2⟩, -, XW2, ⟨LcW2, hQW2, lW2, yW2, zW2⟩, stW2⟩ := Jvm.LawKit.callS XW1 hx (y := (⟨"com/example/nephila/nephila/usage/RequestEqualsPinLaw", "same", "(JJI)Z"⟩ : MethodName)) hownBI (mvT hZBI (hw _ (List.mem_of_getElem? (i := 71) rfl))) (mvT hZBI (hw _ (List.mem_of_getElem? (i := 72) rfl))) (mvT hZBI (hw _ (List.mem_of_getElem? (i := 2) rfl))) (mvT hZBI (hw _ (List.mem_of_getElem? (i := 73) rfl))) (by decide) (backOf (W := 0) (rmS l Z a0 hw p1 q2 (2 : Int32) TBI.heap n0) hZBI (hw _ (List.mem_of_getElem? (i := 73) rfl)) (hw _ (List.mem_of_getElem? (i := 2) rfl)) (by decide) (by decide)) (g := (mkF m 233 #[.val (.long p1), .second, .val (.long p2), .second, .val (.int p3), .val (.int p4), .val (.int p5), .val (.long q2), .second, .val (.int t2), .val (.ref a5), .val (.ref a10), .val (.int md), .unset] [(.int (2 : Int32)), (.long q2), (.long p1)])) rfl (by rw [hml]; rfl) (argsL := [(.long p1), (.long q2), (.int (2 : Int32))]) (rest := []) (lenOf pdS rfl) rfl (by show 2 * 0 + _ ≤ _; exact Nat.le_of_eq rfl) (hb hby at_233) (fun _ _ => ⟨rfl, eW1, Nat.le_of_ble_eq_true rfl, Nat.le_of_ble_eq_true rfl⟩)
  dsimp only [Pt.U, Pt.locs, Pt.cells, Pt.slots] at XW2 lW2 yW2 zW2 stW2 hQW2
  subst lW2 yW2 zW2
  obtain ⟨rfl, NW2, eW2⟩ := hQW2
  have MW2 := Fr.app (MW1) NW2
  by_cases c2 : own_cs p1 2 = own_cs q2 2
  rotate_left
  · have rx : (own_req (own_cs p1 0) (own_cs p1 1) (own_cs p1 2) (own_cs q2 0) (own_cs q2 1) (own_cs q2 2) p3 t2) = (0 : Int32) := if_neg (fun z => c2 z.2.2.2)
    have sg19 : ∀ target, Steps p.tables e below (TW2.setTop (mkF m 250 #[.val (.long p1), .second, .val (.long p2), .second, .val (.int p3), .val (.int p4), .val (.int p5), .val (.long q2), .second, .val (.int t2), .val (.ref a5), .val (.ref a10), .val (.int md), .val (.int (0 : Int32))] [(.ref a10), (.ref a5)])) target → Steps p.tables e below (TW2.setTop (mkF m 236 #[.val (.long p1), .second, .val (.long p2), .second, .val (.int p3), .val (.int p4), .val (.int p5), .val (.long q2), .second, .val (.int t2), .val (.ref a5), .val (.ref a10), .val (.int md), .unset] [(.int (own_eq (own_cs p1 2) (own_cs q2 2)))])) target := by
      intro target kt
      show Steps p.tables e below (TW2.setTop (mkF m 236 #[.val (.long p1), .second, .val (.long p2), .second, .val (.int p3), .val (.int p4), .val (.int p5), .val (.long q2), .second, .val (.int t2), .val (.ref a5), .val (.ref a10), .val (.int md), .unset] [(.int (own_eq (own_cs p1 2) (own_cs q2 2)))])) _
      refine XS.ifYes XW2.here hx rfl (pc0 := 236) (pc' := 243) rfl (hb hby at_236) rfl (by rw [own_eq_f c2]; decide) (by decide) (by decide) ?_
      show Steps p.tables e below (TW2.setTop (mkF m 243 #[.val (.long p1), .second, .val (.long p2), .second, .val (.int p3), .val (.int p4), .val (.int p5), .val (.long q2), .second, .val (.int t2), .val (.ref a5), .val (.ref a10), .val (.int md), .unset] [])) _
      refine XS.iconst XW2.here hx rfl (hb hby at_243) ?_
      show Steps p.tables e below (TW2.setTop (mkF m 244 #[.val (.long p1), .second, .val (.long p2), .second, .val (.int p3), .val (.int p4), .val (.int p5), .val (.long q2), .second, .val (.int t2), .val (.ref a5), .val (.ref a10), .val (.int md), .unset] [(.int (0 : Int32))])) _
      refine XS.istore XW2.here hx rfl (hb hby at_244) rfl (l' := #[.val (.long p1), .second, .val (.long p2), .second, .val (.int p3), .val (.int p4), .val (.int p5), .val (.long q2), .second, .val (.int t2), .val (.ref a5), .val (.ref a10), .val (.int md), .val (.int (0 : Int32))]) rfl ?_
      show Steps p.tables e below (TW2.setTop (mkF m 246 #[.val (.long p1), .second, .val (.long p2), .second, .val (.int p3), .val (.int p4), .val (.int p5), .val (.long q2), .second, .val (.int t2), .val (.ref a5), .val (.ref a10), .val (.int md), .val (.int (0 : Int32))] [])) _
      refine XS.aload XW2.here hx rfl (hb hby at_246) rfl rfl ?_
      show Steps p.tables e below (TW2.setTop (mkF m 248 #[.val (.long p1), .second, .val (.long p2), .second, .val (.int p3), .val (.int p4), .val (.int p5), .val (.long q2), .second, .val (.int t2), .val (.ref a5), .val (.ref a10), .val (.int md), .val (.int (0 : Int32))] [(.ref a5)])) _
      refine XS.aload XW2.here hx rfl (hb hby at_248) rfl rfl ?_
      show Steps p.tables e below (TW2.setTop (mkF m 250 #[.val (.long p1), .second, .val (.long p2), .second, .val (.int p3), .val (.int p4), .val (.int p5), .val (.long q2), .second, .val (.int t2), .val (.ref a5), .val (.ref a10), .val (.int md), .val (.int (0 : Int32))] [(.ref a10), (.ref a5)])) _
      exact kt
    obtain ⟨cqP, kqP, qaP, qbP, qcP⟩ := isOf hZBI eW2 QA_BI.1
    obtain ⟨_, _, ⟨TP, LP, kP, nP⟩, -, XP, ⟨LcP, hQP, lP, yP, zP⟩, stP⟩ := XW2.virtualBack hx (y := (⟨"com/example/nephila/nephila/usage/Request", "equals", "(Ljava/lang/Object;)Z"⟩ : MethodName)) (z := (⟨"com/example/nephila/nephila/usage/Request", "equals", "(Ljava/lang/Object;)Z"⟩ : MethodName)) hownBI (mvT hZBI (hw _ (List.mem_of_getElem? (i := 74) rfl))) (mvT hZBI (hw _ (List.mem_of_getElem? (i := 75) rfl))) (notFace_of_selects (args := #[]) (mvT hZBI (hw _ (List.mem_of_getElem? (i := 77) rfl)))) (mvT hZBI (hw _ (List.mem_of_getElem? (i := 77) rfl))) (mvT hZBI (hw _ (List.mem_of_getElem? (i := 76) rfl))) (by decide) (backOf (W := 0) (rmQ l Z a0 hw a5 a10 tA0 tA1 tA2 tB0 tB1 tB2 p3 t2 (own_cs p1 0) (own_cs p1 1) (own_cs p1 2) (own_cs q2 0) (own_cs q2 1) (own_cs q2 2) TBI.heap n0 G O_BI hG QA_BI QB (own_cs_lat p1 0) (own_cs_lat q2 0) (own_cs_le p1 0) (own_cs_le q2 0) SA0_BI SB0_BI (own_cs_lat p1 1) (own_cs_lat q2 1) (own_cs_le p1 1) (own_cs_le q2 1) SA1_BI SB1_BI (own_cs_lat p1 2) (own_cs_lat q2 2) (own_cs_le p1 2) (own_cs_le q2 2) SA2_BI SB2_BI) hZBI (hw _ (List.mem_of_getElem? (i := 78) rfl)) (hw _ (List.mem_of_getElem? (i := 6) rfl)) (by decide) (by decide)) qaP qcP (g := (mkF m 250 #[.val (.long p1), .second, .val (.long p2), .second, .val (.int p3), .val (.int p4), .val (.int p5), .val (.long q2), .second, .val (.int t2), .val (.ref a5), .val (.ref a10), .val (.int md), .val (.int (0 : Int32))] [(.ref a10), (.ref a5)])) rfl (by rw [hml]; rfl) (Steps.refl _) (argsL := [(.ref a10)]) (rest := []) (lenOf pdQ rfl) rfl (by show 2 * 0 + _ ≤ _; exact Nat.le_of_eq rfl) (hb hby at_250) (fun _ _ => ⟨rfl, eW2, Nat.le_of_ble_eq_true rfl, Nat.le_of_ble_eq_true rfl⟩)
    dsimp only [Pt.U, Pt.locs, Pt.cells, Pt.slots] at XP lP yP zP stP hQP
    subst lP yP zP
    obtain ⟨rfl, NP, eP⟩ := hQP
    have MP := Fr.app (MW2) NP
    have sg20 : ∀ target, Steps p.tables e below (TP.setTop (mkF m 262 #[.val (.long p1), .second, .val (.long p2), .second, .val (.int p3), .val (.int p4), .val (.int p5), .val (.long q2), .second, .val (.int t2), .val (.ref a5), .val (.ref a10), .val (.int md), .val (.int (0 : Int32))] [(.ref a5), (.ref a10)])) target → Steps p.tables e below (TP.setTop (mkF m 253 #[.val (.long p1), .second, .val (.long p2), .second, .val (.int p3), .val (.int p4), .val (.int p5), .val (.long q2), .second, .val (.int t2), .val (.ref a5), .val (.ref a10), .val (.int md), .val (.int (0 : Int32))] [(.int (own_req (own_cs p1 0) (own_cs p1 1) (own_cs p1 2) (own_cs q2 0) (own_cs q2 1) (own_cs q2 2) p3 t2))])) target := by
      intro target kt
      show Steps p.tables e below (TP.setTop (mkF m 253 #[.val (.long p1), .second, .val (.long p2), .second, .val (.int p3), .val (.int p4), .val (.int p5), .val (.long q2), .second, .val (.int t2), .val (.ref a5), .val (.ref a10), .val (.int md), .val (.int (0 : Int32))] [(.int (own_req (own_cs p1 0) (own_cs p1 1) (own_cs p1 2) (own_cs q2 0) (own_cs q2 1) (own_cs q2 2) p3 t2))])) _
      refine XS.iload XP.here hx rfl (hb hby at_253) rfl ?_
      show Steps p.tables e below (TP.setTop (mkF m 255 #[.val (.long p1), .second, .val (.long p2), .second, .val (.int p3), .val (.int p4), .val (.int p5), .val (.long q2), .second, .val (.int t2), .val (.ref a5), .val (.ref a10), .val (.int md), .val (.int (0 : Int32))] [(.int (0 : Int32)), (.int (own_req (own_cs p1 0) (own_cs p1 1) (own_cs p1 2) (own_cs q2 0) (own_cs q2 1) (own_cs q2 2) p3 t2))])) _
      refine XS.icmpNo XP.here hx rfl (hb hby at_255) rfl (teq rx).2 ?_
      show Steps p.tables e below (TP.setTop (mkF m 258 #[.val (.long p1), .second, .val (.long p2), .second, .val (.int p3), .val (.int p4), .val (.int p5), .val (.long q2), .second, .val (.int t2), .val (.ref a5), .val (.ref a10), .val (.int md), .val (.int (0 : Int32))] [])) _
      refine XS.aload XP.here hx rfl (hb hby at_258) rfl rfl ?_
      show Steps p.tables e below (TP.setTop (mkF m 260 #[.val (.long p1), .second, .val (.long p2), .second, .val (.int p3), .val (.int p4), .val (.int p5), .val (.long q2), .second, .val (.int t2), .val (.ref a5), .val (.ref a10), .val (.int md), .val (.int (0 : Int32))] [(.ref a10)])) _
      refine XS.aload XP.here hx rfl (hb hby at_260) rfl rfl ?_
      show Steps p.tables e below (TP.setTop (mkF m 262 #[.val (.long p1), .second, .val (.long p2), .second, .val (.int p3), .val (.int p4), .val (.int p5), .val (.long q2), .second, .val (.int t2), .val (.ref a5), .val (.ref a10), .val (.int md), .val (.int (0 : Int32))] [(.ref a5), (.ref a10)])) _
      exact kt
    obtain ⟨cqQ, kqQ, qaQ, qbQ, qcQ⟩ := isOf hZBI eP QB.1
    obtain ⟨_, _, ⟨TQ, LQ, kQ, nQ⟩, -, XQ, ⟨LcQ, hQQ, lQ, yQ, zQ⟩, stQ⟩ := XP.virtualBack hx (y := (⟨"com/example/nephila/nephila/usage/Request", "equals", "(Ljava/lang/Object;)Z"⟩ : MethodName)) (z := (⟨"com/example/nephila/nephila/usage/Request", "equals", "(Ljava/lang/Object;)Z"⟩ : MethodName)) hownBI (mvT hZBI (hw _ (List.mem_of_getElem? (i := 74) rfl))) (mvT hZBI (hw _ (List.mem_of_getElem? (i := 75) rfl))) (notFace_of_selects (args := #[]) (mvT hZBI (hw _ (List.mem_of_getElem? (i := 77) rfl)))) (mvT hZBI (hw _ (List.mem_of_getElem? (i := 77) rfl))) (mvT hZBI (hw _ (List.mem_of_getElem? (i := 76) rfl))) (by decide) (backOf (W := 0) (rmQ l Z a0 hw a10 a5 tB0 tB1 tB2 tA0 tA1 tA2 t2 p3 (own_cs q2 0) (own_cs q2 1) (own_cs q2 2) (own_cs p1 0) (own_cs p1 1) (own_cs p1 2) TBI.heap n0 G O_BI hG QB QA_BI (own_cs_lat q2 0) (own_cs_lat p1 0) (own_cs_le q2 0) (own_cs_le p1 0) SB0_BI SA0_BI (own_cs_lat q2 1) (own_cs_lat p1 1) (own_cs_le q2 1) (own_cs_le p1 1) SB1_BI SA1_BI (own_cs_lat q2 2) (own_cs_lat p1 2) (own_cs_le q2 2) (own_cs_le p1 2) SB2_BI SA2_BI) hZBI (hw _ (List.mem_of_getElem? (i := 78) rfl)) (hw _ (List.mem_of_getElem? (i := 6) rfl)) (by decide) (by decide)) qaQ qcQ (g := (mkF m 262 #[.val (.long p1), .second, .val (.long p2), .second, .val (.int p3), .val (.int p4), .val (.int p5), .val (.long q2), .second, .val (.int t2), .val (.ref a5), .val (.ref a10), .val (.int md), .val (.int (0 : Int32))] [(.ref a5), (.ref a10)])) rfl (by rw [hml]; rfl) (Steps.refl _) (argsL := [(.ref a5)]) (rest := []) (lenOf pdQ rfl) rfl (by show 2 * 0 + _ ≤ _; exact Nat.le_of_eq rfl) (hb hby at_262) (fun _ _ => ⟨rfl, eP, Nat.le_of_ble_eq_true rfl, Nat.le_of_ble_eq_true rfl⟩)
    dsimp only [Pt.U, Pt.locs, Pt.cells, Pt.slots] at XQ lQ yQ zQ stQ hQQ
    subst lQ yQ zQ
    obtain ⟨rfl, NQ, eQ⟩ := hQQ
    have MQ := Fr.app (MP) NQ
    have sg21 : ∀ target, Steps p.tables e below (TQ.setTop (mkF m 275 #[.val (.long p1), .second, .val (.long p2), .second, .val (.int p3), .val (.int p4), .val (.int p5), .val (.long q2), .second, .val (.int t2), .val (.ref a5), .val (.ref a10), .val (.int md), .val (.int (0 : Int32))] [(.int (1 : Int32))])) target → Steps p.tables e below (TQ.setTop (mkF m 265 #[.val (.long p1), .second, .val (.long p2), .second, .val (.int p3), .val (.int p4), .val (.int p5), .val (.long q2), .second, .val (.int t2), .val (.ref a5), .val (.ref a10), .val (.int md), .val (.int (0 : Int32))] [(.int (own_req (own_cs q2 0) (own_cs q2 1) (own_cs q2 2) (own_cs p1 0) (own_cs p1 1) (own_cs p1 2) t2 p3))])) target := by
      intro target kt
      show Steps p.tables e below (TQ.setTop (mkF m 265 #[.val (.long p1), .second, .val (.long p2), .second, .val (.int p3), .val (.int p4), .val (.int p5), .val (.long q2), .second, .val (.int t2), .val (.ref a5), .val (.ref a10), .val (.int md), .val (.int (0 : Int32))] [(.int (own_req (own_cs q2 0) (own_cs q2 1) (own_cs q2 2) (own_cs p1 0) (own_cs p1 1) (own_cs p1 2) t2 p3))])) _
      refine XS.iload XQ.here hx rfl (hb hby at_265) rfl ?_
      show Steps p.tables e below (TQ.setTop (mkF m 267 #[.val (.long p1), .second, .val (.long p2), .second, .val (.int p3), .val (.int p4), .val (.int p5), .val (.long q2), .second, .val (.int t2), .val (.ref a5), .val (.ref a10), .val (.int md), .val (.int (0 : Int32))] [(.int (0 : Int32)), (.int (own_req (own_cs q2 0) (own_cs q2 1) (own_cs q2 2) (own_cs p1 0) (own_cs p1 1) (own_cs p1 2) t2 p3))])) _
      refine XS.icmpNo XQ.here hx rfl (hb hby at_267) rfl (teq ((own_req_c ..).trans rx)).2 ?_
      show Steps p.tables e below (TQ.setTop (mkF m 270 #[.val (.long p1), .second, .val (.long p2), .second, .val (.int p3), .val (.int p4), .val (.int p5), .val (.long q2), .second, .val (.int t2), .val (.ref a5), .val (.ref a10), .val (.int md), .val (.int (0 : Int32))] [])) _
      refine XS.iconst XQ.here hx rfl (hb hby at_270) ?_
      show Steps p.tables e below (TQ.setTop (mkF m 271 #[.val (.long p1), .second, .val (.long p2), .second, .val (.int p3), .val (.int p4), .val (.int p5), .val (.long q2), .second, .val (.int t2), .val (.ref a5), .val (.ref a10), .val (.int md), .val (.int (0 : Int32))] [(.int (1 : Int32))])) _
      refine XS.goto XQ.here hx rfl (pc0 := 271) (pc' := 275) rfl (hb hby at_271) (by decide) (by decide) ?_
      show Steps p.tables e below (TQ.setTop (mkF m 275 #[.val (.long p1), .second, .val (.long p2), .second, .val (.int p3), .val (.int p4), .val (.int p5), .val (.long q2), .second, .val (.int t2), .val (.ref a5), .val (.ref a10), .val (.int md), .val (.int (0 : Int32))] [(.int (1 : Int32))])) _
      exact kt
    obtain ⟨fs, hr, hrun, hended, hW⟩ := XQ.leaveW hSBI (by rw [eQ]; exact (Nat.le_refl _)) (v := some (.int (1 : Int32))) (fun h => by rw [Bd.returns] at h; cases h)
    refine ⟨_, _, castTop (ef_0 m p1 p2 p3 p4 p5) ?_, hrun, hended, _, _, rfl, ⟨rfl, MQ⟩, own_w hW (by decide) (by decide)⟩
    show Steps p.tables e below (s₁.setTop (mkF m 0 #[.val (.long p1), .second, .val (.long p2), .second, .val (.int p3), .val (.int p4), .val (.int p5), .unset, .unset, .unset, .unset, .unset, .unset, .unset] [])) _
    refine sg1 _ ?_
    show Steps p.tables e below (s₁.setTop (mkF m 7 #[.val (.long p1), .second, .val (.long p2), .second, .val (.int p3), .val (.int p4), .val (.int p5), .unset, .unset, .unset, .unset, .unset, .unset, .unset] [(.int (p5 &&& (1 : Int32))), (.int (0 : Int32)), (.long p2), (.long p1)])) _
    refine sb0 _ ?_
    show Steps p.tables e below (s₁.setTop (mkF m 15 #[.val (.long p1), .second, .val (.long p2), .second, .val (.int p3), .val (.int p4), .val (.int p5), .unset, .unset, .unset, .unset, .unset, .unset, .unset] [(.int b0), (.int (0 : Int32)), (.long p2), (.long p1)])) _
    refine stF0 _ ?_
    show Steps p.tables e below (TF0.setTop (mkF m 18 #[.val (.long p1), .second, .val (.long p2), .second, .val (.int p3), .val (.int p4), .val (.int p5), .unset, .unset, .unset, .unset, .unset, .unset, .unset] [(.long q0)])) _
    refine sg2 _ ?_
    show Steps p.tables e below (TF0.setTop (mkF m 28 #[.val (.long p1), .second, .val (.long p2), .second, .val (.int p3), .val (.int p4), .val (.int p5), .val (.long q0), .second, .unset, .unset, .unset, .unset, .unset] [(.int (p5 &&& (2 : Int32))), (.int (1 : Int32)), (.long q0), (.long p1)])) _
    refine sb1 _ ?_
    show Steps p.tables e below (TF0.setTop (mkF m 36 #[.val (.long p1), .second, .val (.long p2), .second, .val (.int p3), .val (.int p4), .val (.int p5), .val (.long q0), .second, .unset, .unset, .unset, .unset, .unset] [(.int b1), (.int (1 : Int32)), (.long q0), (.long p1)])) _
    refine stF1 _ ?_
    show Steps p.tables e below (TF1.setTop (mkF m 39 #[.val (.long p1), .second, .val (.long p2), .second, .val (.int p3), .val (.int p4), .val (.int p5), .val (.long q0), .second, .unset, .unset, .unset, .unset, .unset] [(.long q1)])) _
    refine sg3 _ ?_
    show Steps p.tables e below (TF1.setTop (mkF m 49 #[.val (.long p1), .second, .val (.long p2), .second, .val (.int p3), .val (.int p4), .val (.int p5), .val (.long q1), .second, .unset, .unset, .unset, .unset, .unset] [(.int (p5 &&& (4 : Int32))), (.int (2 : Int32)), (.long q1), (.long p1)])) _
    refine sb2 _ ?_
    show Steps p.tables e below (TF1.setTop (mkF m 57 #[.val (.long p1), .second, .val (.long p2), .second, .val (.int p3), .val (.int p4), .val (.int p5), .val (.long q1), .second, .unset, .unset, .unset, .unset, .unset] [(.int b2), (.int (2 : Int32)), (.long q1), (.long p1)])) _
    refine stF2 _ ?_
    show Steps p.tables e below (TF2.setTop (mkF m 60 #[.val (.long p1), .second, .val (.long p2), .second, .val (.int p3), .val (.int p4), .val (.int p5), .val (.long q1), .second, .unset, .unset, .unset, .unset, .unset] [(.long q2)])) _
    refine sg4 _ ?_
    show Steps p.tables e below (TF2.setTop (mkF m 67 #[.val (.long p1), .second, .val (.long p2), .second, .val (.int p3), .val (.int p4), .val (.int p5), .val (.long q2), .second, .unset, .unset, .unset, .unset, .unset] [(.int (p5 &&& (8 : Int32)))])) _
    refine sbt _ ?_
    show Steps p.tables e below (TF2.setTop (mkF m 79 #[.val (.long p1), .second, .val (.long p2), .second, .val (.int p3), .val (.int p4), .val (.int p5), .val (.long q2), .second, .val (.int t2), .unset, .unset, .unset, .unset] [])) _
    refine st5 _ ?_
    show Steps p.tables e below (T5.setTop (mkF m 82 #[.val (.long p1), .second, .val (.long p2), .second, .val (.int p3), .val (.int p4), .val (.int p5), .val (.long q2), .second, .val (.int t2), .unset, .unset, .unset, .unset] [(.ref a5)])) _
    refine sg6 _ ?_
    show Steps p.tables e below (T5.setTop (mkF m 85 #[.val (.long p1), .second, .val (.long p2), .second, .val (.int p3), .val (.int p4), .val (.int p5), .val (.long q2), .second, .val (.int t2), .unset, .unset, .unset, .unset] [(.int (0 : Int32)), (.long p1), (.ref a5), (.ref a5)])) _
    refine stA0.trans ?_
    show Steps p.tables e below (TA0.setTop (mkF m 88 #[.val (.long p1), .second, .val (.long p2), .second, .val (.int p3), .val (.int p4), .val (.int p5), .val (.long q2), .second, .val (.int t2), .unset, .unset, .unset, .unset] [(.ref tA0), (.ref a5), (.ref a5)])) _
    refine sg7 _ ?_
    show Steps p.tables e below (TA0.setTop (mkF m 90 #[.val (.long p1), .second, .val (.long p2), .second, .val (.int p3), .val (.int p4), .val (.int p5), .val (.long q2), .second, .val (.int t2), .unset, .unset, .unset, .unset] [(.int (1 : Int32)), (.long p1), (.ref tA0), (.ref a5), (.ref a5)])) _
    refine stA1.trans ?_
    show Steps p.tables e below (TA1.setTop (mkF m 93 #[.val (.long p1), .second, .val (.long p2), .second, .val (.int p3), .val (.int p4), .val (.int p5), .val (.long q2), .second, .val (.int t2), .unset, .unset, .unset, .unset] [(.ref tA1), (.ref tA0), (.ref a5), (.ref a5)])) _
    refine sg8 _ ?_
    show Steps p.tables e below (TA1.setTop (mkF m 97 #[.val (.long p1), .second, .val (.long p2), .second, .val (.int p3), .val (.int p4), .val (.int p5), .val (.long q2), .second, .val (.int t2), .unset, .unset, .unset, .unset] [(.int (2 : Int32)), (.long p1), (.int p3), (.ref tA1), (.ref tA0), (.ref a5), (.ref a5)])) _
    refine stA2.trans ?_
    show Steps p.tables e below (TA2.setTop (mkF m 100 #[.val (.long p1), .second, .val (.long p2), .second, .val (.int p3), .val (.int p4), .val (.int p5), .val (.long q2), .second, .val (.int t2), .unset, .unset, .unset, .unset] [(.ref tA2), (.int p3), (.ref tA1), (.ref tA0), (.ref a5), (.ref a5)])) _
    refine stAI.trans ?_
    show Steps p.tables e below (TAI.setTop (mkF m 103 #[.val (.long p1), .second, .val (.long p2), .second, .val (.int p3), .val (.int p4), .val (.int p5), .val (.long q2), .second, .val (.int t2), .unset, .unset, .unset, .unset] [(.ref a5)])) _
    refine sg9 _ ?_
    show Steps p.tables e below (TAI.setTop (mkF m 105 #[.val (.long p1), .second, .val (.long p2), .second, .val (.int p3), .val (.int p4), .val (.int p5), .val (.long q2), .second, .val (.int t2), .val (.ref a5), .unset, .unset, .unset] [])) _
    refine st10 _ ?_
    show Steps p.tables e below (T10.setTop (mkF m 108 #[.val (.long p1), .second, .val (.long p2), .second, .val (.int p3), .val (.int p4), .val (.int p5), .val (.long q2), .second, .val (.int t2), .val (.ref a5), .unset, .unset, .unset] [(.ref a10)])) _
    refine sg11 _ ?_
    show Steps p.tables e below (T10.setTop (mkF m 112 #[.val (.long p1), .second, .val (.long p2), .second, .val (.int p3), .val (.int p4), .val (.int p5), .val (.long q2), .second, .val (.int t2), .val (.ref a5), .unset, .unset, .unset] [(.int (0 : Int32)), (.long q2), (.ref a10), (.ref a10)])) _
    refine stB0.trans ?_
    show Steps p.tables e below (TB0.setTop (mkF m 115 #[.val (.long p1), .second, .val (.long p2), .second, .val (.int p3), .val (.int p4), .val (.int p5), .val (.long q2), .second, .val (.int t2), .val (.ref a5), .unset, .unset, .unset] [(.ref tB0), (.ref a10), (.ref a10)])) _
    refine sg12 _ ?_
    show Steps p.tables e below (TB0.setTop (mkF m 118 #[.val (.long p1), .second, .val (.long p2), .second, .val (.int p3), .val (.int p4), .val (.int p5), .val (.long q2), .second, .val (.int t2), .val (.ref a5), .unset, .unset, .unset] [(.int (1 : Int32)), (.long q2), (.ref tB0), (.ref a10), (.ref a10)])) _
    refine stB1.trans ?_
    show Steps p.tables e below (TB1.setTop (mkF m 121 #[.val (.long p1), .second, .val (.long p2), .second, .val (.int p3), .val (.int p4), .val (.int p5), .val (.long q2), .second, .val (.int t2), .val (.ref a5), .unset, .unset, .unset] [(.ref tB1), (.ref tB0), (.ref a10), (.ref a10)])) _
    refine sg13 _ ?_
    show Steps p.tables e below (TB1.setTop (mkF m 126 #[.val (.long p1), .second, .val (.long p2), .second, .val (.int p3), .val (.int p4), .val (.int p5), .val (.long q2), .second, .val (.int t2), .val (.ref a5), .unset, .unset, .unset] [(.int (2 : Int32)), (.long q2), (.int t2), (.ref tB1), (.ref tB0), (.ref a10), (.ref a10)])) _
    refine stB2.trans ?_
    show Steps p.tables e below (TB2.setTop (mkF m 129 #[.val (.long p1), .second, .val (.long p2), .second, .val (.int p3), .val (.int p4), .val (.int p5), .val (.long q2), .second, .val (.int t2), .val (.ref a5), .unset, .unset, .unset] [(.ref tB2), (.int t2), (.ref tB1), (.ref tB0), (.ref a10), (.ref a10)])) _
    refine stBI.trans ?_
    show Steps p.tables e below (TBI.setTop (mkF m 132 #[.val (.long p1), .second, .val (.long p2), .second, .val (.int p3), .val (.int p4), .val (.int p5), .val (.long q2), .second, .val (.int t2), .val (.ref a5), .unset, .unset, .unset] [(.ref a10)])) _
    refine sg14 _ ?_
    show Steps p.tables e below (TBI.setTop (mkF m 142 #[.val (.long p1), .second, .val (.long p2), .second, .val (.int p3), .val (.int p4), .val (.int p5), .val (.long q2), .second, .val (.int t2), .val (.ref a5), .val (.ref a10), .val (.int ((((p5).toUInt32 >>> ((4 : Int32) &&& 31).toUInt32).toInt32) &&& (3 : Int32))), .unset] [])) _
    refine sg15 _ ?_
    show Steps p.tables e below (TBI.setTop (mkF m 206 #[.val (.long p1), .second, .val (.long p2), .second, .val (.int p3), .val (.int p4), .val (.int p5), .val (.long q2), .second, .val (.int t2), .val (.ref a5), .val (.ref a10), .val (.int md), .unset] [(.int (0 : Int32)), (.long q2), (.long p1)])) _
    refine stW0 _ ?_
    show Steps p.tables e below (TW0.setTop (mkF m 209 #[.val (.long p1), .second, .val (.long p2), .second, .val (.int p3), .val (.int p4), .val (.int p5), .val (.long q2), .second, .val (.int t2), .val (.ref a5), .val (.ref a10), .val (.int md), .unset] [(.int (own_eq (own_cs p1 0) (own_cs q2 0)))])) _
    refine sg16 _ ?_
    show Steps p.tables e below (TW0.setTop (mkF m 216 #[.val (.long p1), .second, .val (.long p2), .second, .val (.int p3), .val (.int p4), .val (.int p5), .val (.long q2), .second, .val (.int t2), .val (.ref a5), .val (.ref a10), .val (.int md), .unset] [(.int (1 : Int32)), (.long q2), (.long p1)])) _
    refine stW1 _ ?_
    show Steps p.tables e below (TW1.setTop (mkF m 219 #[.val (.long p1), .second, .val (.long p2), .second, .val (.int p3), .val (.int p4), .val (.int p5), .val (.long q2), .second, .val (.int t2), .val (.ref a5), .val (.ref a10), .val (.int md), .unset] [(.int (own_eq (own_cs p1 1) (own_cs q2 1)))])) _
    refine sg17 _ ?_
    show Steps p.tables e below (TW1.setTop (mkF m 226 #[.val (.long p1), .second, .val (.long p2), .second, .val (.int p3), .val (.int p4), .val (.int p5), .val (.long q2), .second, .val (.int t2), .val (.ref a5), .val (.ref a10), .val (.int md), .unset] [(.int t2), (.int p3)])) _
    refine sg18 _ ?_
    show Steps p.tables e below (TW1.setTop (mkF m 233 #[.val (.long p1), .second, .val (.long p2), .second, .val (.int p3), .val (.int p4), .val (.int p5), .val (.long q2), .second, .val (.int t2), .val (.ref a5), .val (.ref a10), .val (.int md), .unset] [(.int (2 : Int32)), (.long q2), (.long p1)])) _
    refine stW2 _ ?_
    show Steps p.tables e below (TW2.setTop (mkF m 236 #[.val (.long p1), .second, .val (.long p2), .second, .val (.int p3), .val (.int p4), .val (.int p5), .val (.long q2), .second, .val (.int t2), .val (.ref a5), .val (.ref a10), .val (.int md), .unset] [(.int (own_eq (own_cs p1 2) (own_cs q2 2)))])) _
    refine sg19 _ ?_
    show Steps p.tables e below (TW2.setTop (mkF m 250 #[.val (.long p1), .second, .val (.long p2), .second, .val (.int p3), .val (.int p4), .val (.int p5), .val (.long q2), .second, .val (.int t2), .val (.ref a5), .val (.ref a10), .val (.int md), .val (.int (0 : Int32))] [(.ref a10), (.ref a5)])) _
    refine stP.trans ?_
    show Steps p.tables e below (TP.setTop (mkF m 253 #[.val (.long p1), .second, .val (.long p2), .second, .val (.int p3), .val (.int p4), .val (.int p5), .val (.long q2), .second, .val (.int t2), .val (.ref a5), .val (.ref a10), .val (.int md), .val (.int (0 : Int32))] [(.int (own_req (own_cs p1 0) (own_cs p1 1) (own_cs p1 2) (own_cs q2 0) (own_cs q2 1) (own_cs q2 2) p3 t2))])) _
    refine sg20 _ ?_
    show Steps p.tables e below (TP.setTop (mkF m 262 #[.val (.long p1), .second, .val (.long p2), .second, .val (.int p3), .val (.int p4), .val (.int p5), .val (.long q2), .second, .val (.int t2), .val (.ref a5), .val (.ref a10), .val (.int md), .val (.int (0 : Int32))] [(.ref a5), (.ref a10)])) _
    refine stQ.trans ?_
    show Steps p.tables e below (TQ.setTop (mkF m 265 #[.val (.long p1), .second, .val (.long p2), .second, .val (.int p3), .val (.int p4), .val (.int p5), .val (.long q2), .second, .val (.int t2), .val (.ref a5), .val (.ref a10), .val (.int md), .val (.int (0 : Int32))] [(.int (own_req (own_cs q2 0) (own_cs q2 1) (own_cs q2 2) (own_cs p1 0) (own_cs p1 1) (own_cs p1 2) t2 p3))])) _
    refine sg21 _ ?_
    show Steps p.tables e below (TQ.setTop (mkF m 275 #[.val (.long p1), .second, .val (.long p2), .second, .val (.int p3), .val (.int p4), .val (.int p5), .val (.long q2), .second, .val (.int t2), .val (.ref a5), .val (.ref a10), .val (.int md), .val (.int (0 : Int32))] [(.int (1 : Int32))])) _
    exact retN XQ hx (t := .boolean) Bd.returns (by simp) (hb hby at_275) hr
  have rx : (own_req (own_cs p1 0) (own_cs p1 1) (own_cs p1 2) (own_cs q2 0) (own_cs q2 1) (own_cs q2 2) p3 t2) = (1 : Int32) := if_pos ⟨c0, c1, cs, c2⟩
  have sg19 : ∀ target, Steps p.tables e below (TW2.setTop (mkF m 250 #[.val (.long p1), .second, .val (.long p2), .second, .val (.int p3), .val (.int p4), .val (.int p5), .val (.long q2), .second, .val (.int t2), .val (.ref a5), .val (.ref a10), .val (.int md), .val (.int (1 : Int32))] [(.ref a10), (.ref a5)])) target → Steps p.tables e below (TW2.setTop (mkF m 236 #[.val (.long p1), .second, .val (.long p2), .second, .val (.int p3), .val (.int p4), .val (.int p5), .val (.long q2), .second, .val (.int t2), .val (.ref a5), .val (.ref a10), .val (.int md), .unset] [(.int (own_eq (own_cs p1 2) (own_cs q2 2)))])) target := by
    intro target kt
    show Steps p.tables e below (TW2.setTop (mkF m 236 #[.val (.long p1), .second, .val (.long p2), .second, .val (.int p3), .val (.int p4), .val (.int p5), .val (.long q2), .second, .val (.int t2), .val (.ref a5), .val (.ref a10), .val (.int md), .unset] [(.int (own_eq (own_cs p1 2) (own_cs q2 2)))])) _
    refine XS.ifNo XW2.here hx rfl (hb hby at_236) rfl (by rw [own_eq_t c2]; decide) ?_
    show Steps p.tables e below (TW2.setTop (mkF m 239 #[.val (.long p1), .second, .val (.long p2), .second, .val (.int p3), .val (.int p4), .val (.int p5), .val (.long q2), .second, .val (.int t2), .val (.ref a5), .val (.ref a10), .val (.int md), .unset] [])) _
    refine XS.iconst XW2.here hx rfl (hb hby at_239) ?_
    show Steps p.tables e below (TW2.setTop (mkF m 240 #[.val (.long p1), .second, .val (.long p2), .second, .val (.int p3), .val (.int p4), .val (.int p5), .val (.long q2), .second, .val (.int t2), .val (.ref a5), .val (.ref a10), .val (.int md), .unset] [(.int (1 : Int32))])) _
    refine XS.goto XW2.here hx rfl (pc0 := 240) (pc' := 244) rfl (hb hby at_240) (by decide) (by decide) ?_
    show Steps p.tables e below (TW2.setTop (mkF m 244 #[.val (.long p1), .second, .val (.long p2), .second, .val (.int p3), .val (.int p4), .val (.int p5), .val (.long q2), .second, .val (.int t2), .val (.ref a5), .val (.ref a10), .val (.int md), .unset] [(.int (1 : Int32))])) _
    refine XS.istore XW2.here hx rfl (hb hby at_244) rfl (l' := #[.val (.long p1), .second, .val (.long p2), .second, .val (.int p3), .val (.int p4), .val (.int p5), .val (.long q2), .second, .val (.int t2), .val (.ref a5), .val (.ref a10), .val (.int md), .val (.int (1 : Int32))]) rfl ?_
    show Steps p.tables e below (TW2.setTop (mkF m 246 #[.val (.long p1), .second, .val (.long p2), .second, .val (.int p3), .val (.int p4), .val (.int p5), .val (.long q2), .second, .val (.int t2), .val (.ref a5), .val (.ref a10), .val (.int md), .val (.int (1 : Int32))] [])) _
    refine XS.aload XW2.here hx rfl (hb hby at_246) rfl rfl ?_
    show Steps p.tables e below (TW2.setTop (mkF m 248 #[.val (.long p1), .second, .val (.long p2), .second, .val (.int p3), .val (.int p4), .val (.int p5), .val (.long q2), .second, .val (.int t2), .val (.ref a5), .val (.ref a10), .val (.int md), .val (.int (1 : Int32))] [(.ref a5)])) _
    refine XS.aload XW2.here hx rfl (hb hby at_248) rfl rfl ?_
    show Steps p.tables e below (TW2.setTop (mkF m 250 #[.val (.long p1), .second, .val (.long p2), .second, .val (.int p3), .val (.int p4), .val (.int p5), .val (.long q2), .second, .val (.int t2), .val (.ref a5), .val (.ref a10), .val (.int md), .val (.int (1 : Int32))] [(.ref a10), (.ref a5)])) _
    exact kt
  obtain ⟨cqP, kqP, qaP, qbP, qcP⟩ := isOf hZBI eW2 QA_BI.1
  obtain ⟨_, _, ⟨TP, LP, kP, nP⟩, -, XP, ⟨LcP, hQP, lP, yP, zP⟩, stP⟩ := XW2.virtualBack hx (y := (⟨"com/example/nephila/nephila/usage/Request", "equals", "(Ljava/lang/Object;)Z"⟩ : MethodName)) (z := (⟨"com/example/nephila/nephila/usage/Request", "equals", "(Ljava/lang/Object;)Z"⟩ : MethodName)) hownBI (mvT hZBI (hw _ (List.mem_of_getElem? (i := 74) rfl))) (mvT hZBI (hw _ (List.mem_of_getElem? (i := 75) rfl))) (notFace_of_selects (args := #[]) (mvT hZBI (hw _ (List.mem_of_getElem? (i := 77) rfl)))) (mvT hZBI (hw _ (List.mem_of_getElem? (i := 77) rfl))) (mvT hZBI (hw _ (List.mem_of_getElem? (i := 76) rfl))) (by decide) (backOf (W := 0) (rmQ l Z a0 hw a5 a10 tA0 tA1 tA2 tB0 tB1 tB2 p3 t2 (own_cs p1 0) (own_cs p1 1) (own_cs p1 2) (own_cs q2 0) (own_cs q2 1) (own_cs q2 2) TBI.heap n0 G O_BI hG QA_BI QB (own_cs_lat p1 0) (own_cs_lat q2 0) (own_cs_le p1 0) (own_cs_le q2 0) SA0_BI SB0_BI (own_cs_lat p1 1) (own_cs_lat q2 1) (own_cs_le p1 1) (own_cs_le q2 1) SA1_BI SB1_BI (own_cs_lat p1 2) (own_cs_lat q2 2) (own_cs_le p1 2) (own_cs_le q2 2) SA2_BI SB2_BI) hZBI (hw _ (List.mem_of_getElem? (i := 78) rfl)) (hw _ (List.mem_of_getElem? (i := 6) rfl)) (by decide) (by decide)) qaP qcP (g := (mkF m 250 #[.val (.long p1), .second, .val (.long p2), .second, .val (.int p3), .val (.int p4), .val (.int p5), .val (.long q2), .second, .val (.int t2), .val (.ref a5), .val (.ref a10), .val (.int md), .val (.int (1 : Int32))] [(.ref a10), (.ref a5)])) rfl (by rw [hml]; rfl) (Steps.refl _) (argsL := [(.ref a10)]) (rest := []) (lenOf pdQ rfl) rfl (by show 2 * 0 + _ ≤ _; exact Nat.le_of_eq rfl) (hb hby at_250) (fun _ _ => ⟨rfl, eW2, Nat.le_of_ble_eq_true rfl, Nat.le_of_ble_eq_true rfl⟩)
  dsimp only [Pt.U, Pt.locs, Pt.cells, Pt.slots] at XP lP yP zP stP hQP
  subst lP yP zP
  obtain ⟨rfl, NP, eP⟩ := hQP
  have MP := Fr.app (MW2) NP
  have sg20 : ∀ target, Steps p.tables e below (TP.setTop (mkF m 262 #[.val (.long p1), .second, .val (.long p2), .second, .val (.int p3), .val (.int p4), .val (.int p5), .val (.long q2), .second, .val (.int t2), .val (.ref a5), .val (.ref a10), .val (.int md), .val (.int (1 : Int32))] [(.ref a5), (.ref a10)])) target → Steps p.tables e below (TP.setTop (mkF m 253 #[.val (.long p1), .second, .val (.long p2), .second, .val (.int p3), .val (.int p4), .val (.int p5), .val (.long q2), .second, .val (.int t2), .val (.ref a5), .val (.ref a10), .val (.int md), .val (.int (1 : Int32))] [(.int (own_req (own_cs p1 0) (own_cs p1 1) (own_cs p1 2) (own_cs q2 0) (own_cs q2 1) (own_cs q2 2) p3 t2))])) target := by
    intro target kt
    show Steps p.tables e below (TP.setTop (mkF m 253 #[.val (.long p1), .second, .val (.long p2), .second, .val (.int p3), .val (.int p4), .val (.int p5), .val (.long q2), .second, .val (.int t2), .val (.ref a5), .val (.ref a10), .val (.int md), .val (.int (1 : Int32))] [(.int (own_req (own_cs p1 0) (own_cs p1 1) (own_cs p1 2) (own_cs q2 0) (own_cs q2 1) (own_cs q2 2) p3 t2))])) _
    refine XS.iload XP.here hx rfl (hb hby at_253) rfl ?_
    show Steps p.tables e below (TP.setTop (mkF m 255 #[.val (.long p1), .second, .val (.long p2), .second, .val (.int p3), .val (.int p4), .val (.int p5), .val (.long q2), .second, .val (.int t2), .val (.ref a5), .val (.ref a10), .val (.int md), .val (.int (1 : Int32))] [(.int (1 : Int32)), (.int (own_req (own_cs p1 0) (own_cs p1 1) (own_cs p1 2) (own_cs q2 0) (own_cs q2 1) (own_cs q2 2) p3 t2))])) _
    refine XS.icmpNo XP.here hx rfl (hb hby at_255) rfl (teq rx).2 ?_
    show Steps p.tables e below (TP.setTop (mkF m 258 #[.val (.long p1), .second, .val (.long p2), .second, .val (.int p3), .val (.int p4), .val (.int p5), .val (.long q2), .second, .val (.int t2), .val (.ref a5), .val (.ref a10), .val (.int md), .val (.int (1 : Int32))] [])) _
    refine XS.aload XP.here hx rfl (hb hby at_258) rfl rfl ?_
    show Steps p.tables e below (TP.setTop (mkF m 260 #[.val (.long p1), .second, .val (.long p2), .second, .val (.int p3), .val (.int p4), .val (.int p5), .val (.long q2), .second, .val (.int t2), .val (.ref a5), .val (.ref a10), .val (.int md), .val (.int (1 : Int32))] [(.ref a10)])) _
    refine XS.aload XP.here hx rfl (hb hby at_260) rfl rfl ?_
    show Steps p.tables e below (TP.setTop (mkF m 262 #[.val (.long p1), .second, .val (.long p2), .second, .val (.int p3), .val (.int p4), .val (.int p5), .val (.long q2), .second, .val (.int t2), .val (.ref a5), .val (.ref a10), .val (.int md), .val (.int (1 : Int32))] [(.ref a5), (.ref a10)])) _
    exact kt
  obtain ⟨cqQ, kqQ, qaQ, qbQ, qcQ⟩ := isOf hZBI eP QB.1
  obtain ⟨_, _, ⟨TQ, LQ, kQ, nQ⟩, -, XQ, ⟨LcQ, hQQ, lQ, yQ, zQ⟩, stQ⟩ := XP.virtualBack hx (y := (⟨"com/example/nephila/nephila/usage/Request", "equals", "(Ljava/lang/Object;)Z"⟩ : MethodName)) (z := (⟨"com/example/nephila/nephila/usage/Request", "equals", "(Ljava/lang/Object;)Z"⟩ : MethodName)) hownBI (mvT hZBI (hw _ (List.mem_of_getElem? (i := 74) rfl))) (mvT hZBI (hw _ (List.mem_of_getElem? (i := 75) rfl))) (notFace_of_selects (args := #[]) (mvT hZBI (hw _ (List.mem_of_getElem? (i := 77) rfl)))) (mvT hZBI (hw _ (List.mem_of_getElem? (i := 77) rfl))) (mvT hZBI (hw _ (List.mem_of_getElem? (i := 76) rfl))) (by decide) (backOf (W := 0) (rmQ l Z a0 hw a10 a5 tB0 tB1 tB2 tA0 tA1 tA2 t2 p3 (own_cs q2 0) (own_cs q2 1) (own_cs q2 2) (own_cs p1 0) (own_cs p1 1) (own_cs p1 2) TBI.heap n0 G O_BI hG QB QA_BI (own_cs_lat q2 0) (own_cs_lat p1 0) (own_cs_le q2 0) (own_cs_le p1 0) SB0_BI SA0_BI (own_cs_lat q2 1) (own_cs_lat p1 1) (own_cs_le q2 1) (own_cs_le p1 1) SB1_BI SA1_BI (own_cs_lat q2 2) (own_cs_lat p1 2) (own_cs_le q2 2) (own_cs_le p1 2) SB2_BI SA2_BI) hZBI (hw _ (List.mem_of_getElem? (i := 78) rfl)) (hw _ (List.mem_of_getElem? (i := 6) rfl)) (by decide) (by decide)) qaQ qcQ (g := (mkF m 262 #[.val (.long p1), .second, .val (.long p2), .second, .val (.int p3), .val (.int p4), .val (.int p5), .val (.long q2), .second, .val (.int t2), .val (.ref a5), .val (.ref a10), .val (.int md), .val (.int (1 : Int32))] [(.ref a5), (.ref a10)])) rfl (by rw [hml]; rfl) (Steps.refl _) (argsL := [(.ref a5)]) (rest := []) (lenOf pdQ rfl) rfl (by show 2 * 0 + _ ≤ _; exact Nat.le_of_eq rfl) (hb hby at_262) (fun _ _ => ⟨rfl, eP, Nat.le_of_ble_eq_true rfl, Nat.le_of_ble_eq_true rfl⟩)
  dsimp only [Pt.U, Pt.locs, Pt.cells, Pt.slots] at XQ lQ yQ zQ stQ hQQ
  subst lQ yQ zQ
  obtain ⟨rfl, NQ, eQ⟩ := hQQ
  have MQ := Fr.app (MP) NQ
  have sg21 : ∀ target, Steps p.tables e below (TQ.setTop (mkF m 275 #[.val (.long p1), .second, .val (.long p2), .second, .val (.int p3), .val (.int p4), .val (.int p5), .val (.long q2), .second, .val (.int t2), .val (.ref a5), .val (.ref a10), .val (.int md), .val (.int (1 : Int32))] [(.int (1 : Int32))])) target → Steps p.tables e below (TQ.setTop (mkF m 265 #[.val (.long p1), .second, .val (.long p2), .second, .val (.int p3), .val (.int p4), .val (.int p5), .val (.long q2), .second, .val (.int t2), .val (.ref a5), .val (.ref a10), .val (.int md), .val (.int (1 : Int32))] [(.int (own_req (own_cs q2 0) (own_cs q2 1) (own_cs q2 2) (own_cs p1 0) (own_cs p1 1) (own_cs p1 2) t2 p3))])) target := by
    intro target kt
    show Steps p.tables e below (TQ.setTop (mkF m 265 #[.val (.long p1), .second, .val (.long p2), .second, .val (.int p3), .val (.int p4), .val (.int p5), .val (.long q2), .second, .val (.int t2), .val (.ref a5), .val (.ref a10), .val (.int md), .val (.int (1 : Int32))] [(.int (own_req (own_cs q2 0) (own_cs q2 1) (own_cs q2 2) (own_cs p1 0) (own_cs p1 1) (own_cs p1 2) t2 p3))])) _
    refine XS.iload XQ.here hx rfl (hb hby at_265) rfl ?_
    show Steps p.tables e below (TQ.setTop (mkF m 267 #[.val (.long p1), .second, .val (.long p2), .second, .val (.int p3), .val (.int p4), .val (.int p5), .val (.long q2), .second, .val (.int t2), .val (.ref a5), .val (.ref a10), .val (.int md), .val (.int (1 : Int32))] [(.int (1 : Int32)), (.int (own_req (own_cs q2 0) (own_cs q2 1) (own_cs q2 2) (own_cs p1 0) (own_cs p1 1) (own_cs p1 2) t2 p3))])) _
    refine XS.icmpNo XQ.here hx rfl (hb hby at_267) rfl (teq ((own_req_c ..).trans rx)).2 ?_
    show Steps p.tables e below (TQ.setTop (mkF m 270 #[.val (.long p1), .second, .val (.long p2), .second, .val (.int p3), .val (.int p4), .val (.int p5), .val (.long q2), .second, .val (.int t2), .val (.ref a5), .val (.ref a10), .val (.int md), .val (.int (1 : Int32))] [])) _
    refine XS.iconst XQ.here hx rfl (hb hby at_270) ?_
    show Steps p.tables e below (TQ.setTop (mkF m 271 #[.val (.long p1), .second, .val (.long p2), .second, .val (.int p3), .val (.int p4), .val (.int p5), .val (.long q2), .second, .val (.int t2), .val (.ref a5), .val (.ref a10), .val (.int md), .val (.int (1 : Int32))] [(.int (1 : Int32))])) _
    refine XS.goto XQ.here hx rfl (pc0 := 271) (pc' := 275) rfl (hb hby at_271) (by decide) (by decide) ?_
    show Steps p.tables e below (TQ.setTop (mkF m 275 #[.val (.long p1), .second, .val (.long p2), .second, .val (.int p3), .val (.int p4), .val (.int p5), .val (.long q2), .second, .val (.int t2), .val (.ref a5), .val (.ref a10), .val (.int md), .val (.int (1 : Int32))] [(.int (1 : Int32))])) _
    exact kt
  obtain ⟨fs, hr, hrun, hended, hW⟩ := XQ.leaveW hSBI (by rw [eQ]; exact (Nat.le_refl _)) (v := some (.int (1 : Int32))) (fun h => by rw [Bd.returns] at h; cases h)
  refine ⟨_, _, castTop (ef_0 m p1 p2 p3 p4 p5) ?_, hrun, hended, _, _, rfl, ⟨rfl, MQ⟩, own_w hW (by decide) (by decide)⟩
  show Steps p.tables e below (s₁.setTop (mkF m 0 #[.val (.long p1), .second, .val (.long p2), .second, .val (.int p3), .val (.int p4), .val (.int p5), .unset, .unset, .unset, .unset, .unset, .unset, .unset] [])) _
  refine sg1 _ ?_
  show Steps p.tables e below (s₁.setTop (mkF m 7 #[.val (.long p1), .second, .val (.long p2), .second, .val (.int p3), .val (.int p4), .val (.int p5), .unset, .unset, .unset, .unset, .unset, .unset, .unset] [(.int (p5 &&& (1 : Int32))), (.int (0 : Int32)), (.long p2), (.long p1)])) _
  refine sb0 _ ?_
  show Steps p.tables e below (s₁.setTop (mkF m 15 #[.val (.long p1), .second, .val (.long p2), .second, .val (.int p3), .val (.int p4), .val (.int p5), .unset, .unset, .unset, .unset, .unset, .unset, .unset] [(.int b0), (.int (0 : Int32)), (.long p2), (.long p1)])) _
  refine stF0 _ ?_
  show Steps p.tables e below (TF0.setTop (mkF m 18 #[.val (.long p1), .second, .val (.long p2), .second, .val (.int p3), .val (.int p4), .val (.int p5), .unset, .unset, .unset, .unset, .unset, .unset, .unset] [(.long q0)])) _
  refine sg2 _ ?_
  show Steps p.tables e below (TF0.setTop (mkF m 28 #[.val (.long p1), .second, .val (.long p2), .second, .val (.int p3), .val (.int p4), .val (.int p5), .val (.long q0), .second, .unset, .unset, .unset, .unset, .unset] [(.int (p5 &&& (2 : Int32))), (.int (1 : Int32)), (.long q0), (.long p1)])) _
  refine sb1 _ ?_
  show Steps p.tables e below (TF0.setTop (mkF m 36 #[.val (.long p1), .second, .val (.long p2), .second, .val (.int p3), .val (.int p4), .val (.int p5), .val (.long q0), .second, .unset, .unset, .unset, .unset, .unset] [(.int b1), (.int (1 : Int32)), (.long q0), (.long p1)])) _
  refine stF1 _ ?_
  show Steps p.tables e below (TF1.setTop (mkF m 39 #[.val (.long p1), .second, .val (.long p2), .second, .val (.int p3), .val (.int p4), .val (.int p5), .val (.long q0), .second, .unset, .unset, .unset, .unset, .unset] [(.long q1)])) _
  refine sg3 _ ?_
  show Steps p.tables e below (TF1.setTop (mkF m 49 #[.val (.long p1), .second, .val (.long p2), .second, .val (.int p3), .val (.int p4), .val (.int p5), .val (.long q1), .second, .unset, .unset, .unset, .unset, .unset] [(.int (p5 &&& (4 : Int32))), (.int (2 : Int32)), (.long q1), (.long p1)])) _
  refine sb2 _ ?_
  show Steps p.tables e below (TF1.setTop (mkF m 57 #[.val (.long p1), .second, .val (.long p2), .second, .val (.int p3), .val (.int p4), .val (.int p5), .val (.long q1), .second, .unset, .unset, .unset, .unset, .unset] [(.int b2), (.int (2 : Int32)), (.long q1), (.long p1)])) _
  refine stF2 _ ?_
  show Steps p.tables e below (TF2.setTop (mkF m 60 #[.val (.long p1), .second, .val (.long p2), .second, .val (.int p3), .val (.int p4), .val (.int p5), .val (.long q1), .second, .unset, .unset, .unset, .unset, .unset] [(.long q2)])) _
  refine sg4 _ ?_
  show Steps p.tables e below (TF2.setTop (mkF m 67 #[.val (.long p1), .second, .val (.long p2), .second, .val (.int p3), .val (.int p4), .val (.int p5), .val (.long q2), .second, .unset, .unset, .unset, .unset, .unset] [(.int (p5 &&& (8 : Int32)))])) _
  refine sbt _ ?_
  show Steps p.tables e below (TF2.setTop (mkF m 79 #[.val (.long p1), .second, .val (.long p2), .second, .val (.int p3), .val (.int p4), .val (.int p5), .val (.long q2), .second, .val (.int t2), .unset, .unset, .unset, .unset] [])) _
  refine st5 _ ?_
  show Steps p.tables e below (T5.setTop (mkF m 82 #[.val (.long p1), .second, .val (.long p2), .second, .val (.int p3), .val (.int p4), .val (.int p5), .val (.long q2), .second, .val (.int t2), .unset, .unset, .unset, .unset] [(.ref a5)])) _
  refine sg6 _ ?_
  show Steps p.tables e below (T5.setTop (mkF m 85 #[.val (.long p1), .second, .val (.long p2), .second, .val (.int p3), .val (.int p4), .val (.int p5), .val (.long q2), .second, .val (.int t2), .unset, .unset, .unset, .unset] [(.int (0 : Int32)), (.long p1), (.ref a5), (.ref a5)])) _
  refine stA0.trans ?_
  show Steps p.tables e below (TA0.setTop (mkF m 88 #[.val (.long p1), .second, .val (.long p2), .second, .val (.int p3), .val (.int p4), .val (.int p5), .val (.long q2), .second, .val (.int t2), .unset, .unset, .unset, .unset] [(.ref tA0), (.ref a5), (.ref a5)])) _
  refine sg7 _ ?_
  show Steps p.tables e below (TA0.setTop (mkF m 90 #[.val (.long p1), .second, .val (.long p2), .second, .val (.int p3), .val (.int p4), .val (.int p5), .val (.long q2), .second, .val (.int t2), .unset, .unset, .unset, .unset] [(.int (1 : Int32)), (.long p1), (.ref tA0), (.ref a5), (.ref a5)])) _
  refine stA1.trans ?_
  show Steps p.tables e below (TA1.setTop (mkF m 93 #[.val (.long p1), .second, .val (.long p2), .second, .val (.int p3), .val (.int p4), .val (.int p5), .val (.long q2), .second, .val (.int t2), .unset, .unset, .unset, .unset] [(.ref tA1), (.ref tA0), (.ref a5), (.ref a5)])) _
  refine sg8 _ ?_
  show Steps p.tables e below (TA1.setTop (mkF m 97 #[.val (.long p1), .second, .val (.long p2), .second, .val (.int p3), .val (.int p4), .val (.int p5), .val (.long q2), .second, .val (.int t2), .unset, .unset, .unset, .unset] [(.int (2 : Int32)), (.long p1), (.int p3), (.ref tA1), (.ref tA0), (.ref a5), (.ref a5)])) _
  refine stA2.trans ?_
  show Steps p.tables e below (TA2.setTop (mkF m 100 #[.val (.long p1), .second, .val (.long p2), .second, .val (.int p3), .val (.int p4), .val (.int p5), .val (.long q2), .second, .val (.int t2), .unset, .unset, .unset, .unset] [(.ref tA2), (.int p3), (.ref tA1), (.ref tA0), (.ref a5), (.ref a5)])) _
  refine stAI.trans ?_
  show Steps p.tables e below (TAI.setTop (mkF m 103 #[.val (.long p1), .second, .val (.long p2), .second, .val (.int p3), .val (.int p4), .val (.int p5), .val (.long q2), .second, .val (.int t2), .unset, .unset, .unset, .unset] [(.ref a5)])) _
  refine sg9 _ ?_
  show Steps p.tables e below (TAI.setTop (mkF m 105 #[.val (.long p1), .second, .val (.long p2), .second, .val (.int p3), .val (.int p4), .val (.int p5), .val (.long q2), .second, .val (.int t2), .val (.ref a5), .unset, .unset, .unset] [])) _
  refine st10 _ ?_
  show Steps p.tables e below (T10.setTop (mkF m 108 #[.val (.long p1), .second, .val (.long p2), .second, .val (.int p3), .val (.int p4), .val (.int p5), .val (.long q2), .second, .val (.int t2), .val (.ref a5), .unset, .unset, .unset] [(.ref a10)])) _
  refine sg11 _ ?_
  show Steps p.tables e below (T10.setTop (mkF m 112 #[.val (.long p1), .second, .val (.long p2), .second, .val (.int p3), .val (.int p4), .val (.int p5), .val (.long q2), .second, .val (.int t2), .val (.ref a5), .unset, .unset, .unset] [(.int (0 : Int32)), (.long q2), (.ref a10), (.ref a10)])) _
  refine stB0.trans ?_
  show Steps p.tables e below (TB0.setTop (mkF m 115 #[.val (.long p1), .second, .val (.long p2), .second, .val (.int p3), .val (.int p4), .val (.int p5), .val (.long q2), .second, .val (.int t2), .val (.ref a5), .unset, .unset, .unset] [(.ref tB0), (.ref a10), (.ref a10)])) _
  refine sg12 _ ?_
  show Steps p.tables e below (TB0.setTop (mkF m 118 #[.val (.long p1), .second, .val (.long p2), .second, .val (.int p3), .val (.int p4), .val (.int p5), .val (.long q2), .second, .val (.int t2), .val (.ref a5), .unset, .unset, .unset] [(.int (1 : Int32)), (.long q2), (.ref tB0), (.ref a10), (.ref a10)])) _
  refine stB1.trans ?_
  show Steps p.tables e below (TB1.setTop (mkF m 121 #[.val (.long p1), .second, .val (.long p2), .second, .val (.int p3), .val (.int p4), .val (.int p5), .val (.long q2), .second, .val (.int t2), .val (.ref a5), .unset, .unset, .unset] [(.ref tB1), (.ref tB0), (.ref a10), (.ref a10)])) _
  refine sg13 _ ?_
  show Steps p.tables e below (TB1.setTop (mkF m 126 #[.val (.long p1), .second, .val (.long p2), .second, .val (.int p3), .val (.int p4), .val (.int p5), .val (.long q2), .second, .val (.int t2), .val (.ref a5), .unset, .unset, .unset] [(.int (2 : Int32)), (.long q2), (.int t2), (.ref tB1), (.ref tB0), (.ref a10), (.ref a10)])) _
  refine stB2.trans ?_
  show Steps p.tables e below (TB2.setTop (mkF m 129 #[.val (.long p1), .second, .val (.long p2), .second, .val (.int p3), .val (.int p4), .val (.int p5), .val (.long q2), .second, .val (.int t2), .val (.ref a5), .unset, .unset, .unset] [(.ref tB2), (.int t2), (.ref tB1), (.ref tB0), (.ref a10), (.ref a10)])) _
  refine stBI.trans ?_
  show Steps p.tables e below (TBI.setTop (mkF m 132 #[.val (.long p1), .second, .val (.long p2), .second, .val (.int p3), .val (.int p4), .val (.int p5), .val (.long q2), .second, .val (.int t2), .val (.ref a5), .unset, .unset, .unset] [(.ref a10)])) _
  refine sg14 _ ?_
  show Steps p.tables e below (TBI.setTop (mkF m 142 #[.val (.long p1), .second, .val (.long p2), .second, .val (.int p3), .val (.int p4), .val (.int p5), .val (.long q2), .second, .val (.int t2), .val (.ref a5), .val (.ref a10), .val (.int ((((p5).toUInt32 >>> ((4 : Int32) &&& 31).toUInt32).toInt32) &&& (3 : Int32))), .unset] [])) _
  refine sg15 _ ?_
  show Steps p.tables e below (TBI.setTop (mkF m 206 #[.val (.long p1), .second, .val (.long p2), .second, .val (.int p3), .val (.int p4), .val (.int p5), .val (.long q2), .second, .val (.int t2), .val (.ref a5), .val (.ref a10), .val (.int md), .unset] [(.int (0 : Int32)), (.long q2), (.long p1)])) _
  refine stW0 _ ?_
  show Steps p.tables e below (TW0.setTop (mkF m 209 #[.val (.long p1), .second, .val (.long p2), .second, .val (.int p3), .val (.int p4), .val (.int p5), .val (.long q2), .second, .val (.int t2), .val (.ref a5), .val (.ref a10), .val (.int md), .unset] [(.int (own_eq (own_cs p1 0) (own_cs q2 0)))])) _
  refine sg16 _ ?_
  show Steps p.tables e below (TW0.setTop (mkF m 216 #[.val (.long p1), .second, .val (.long p2), .second, .val (.int p3), .val (.int p4), .val (.int p5), .val (.long q2), .second, .val (.int t2), .val (.ref a5), .val (.ref a10), .val (.int md), .unset] [(.int (1 : Int32)), (.long q2), (.long p1)])) _
  refine stW1 _ ?_
  show Steps p.tables e below (TW1.setTop (mkF m 219 #[.val (.long p1), .second, .val (.long p2), .second, .val (.int p3), .val (.int p4), .val (.int p5), .val (.long q2), .second, .val (.int t2), .val (.ref a5), .val (.ref a10), .val (.int md), .unset] [(.int (own_eq (own_cs p1 1) (own_cs q2 1)))])) _
  refine sg17 _ ?_
  show Steps p.tables e below (TW1.setTop (mkF m 226 #[.val (.long p1), .second, .val (.long p2), .second, .val (.int p3), .val (.int p4), .val (.int p5), .val (.long q2), .second, .val (.int t2), .val (.ref a5), .val (.ref a10), .val (.int md), .unset] [(.int t2), (.int p3)])) _
  refine sg18 _ ?_
  show Steps p.tables e below (TW1.setTop (mkF m 233 #[.val (.long p1), .second, .val (.long p2), .second, .val (.int p3), .val (.int p4), .val (.int p5), .val (.long q2), .second, .val (.int t2), .val (.ref a5), .val (.ref a10), .val (.int md), .unset] [(.int (2 : Int32)), (.long q2), (.long p1)])) _
  refine stW2 _ ?_
  show Steps p.tables e below (TW2.setTop (mkF m 236 #[.val (.long p1), .second, .val (.long p2), .second, .val (.int p3), .val (.int p4), .val (.int p5), .val (.long q2), .second, .val (.int t2), .val (.ref a5), .val (.ref a10), .val (.int md), .unset] [(.int (own_eq (own_cs p1 2) (own_cs q2 2)))])) _
  refine sg19 _ ?_
  show Steps p.tables e below (TW2.setTop (mkF m 250 #[.val (.long p1), .second, .val (.long p2), .second, .val (.int p3), .val (.int p4), .val (.int p5), .val (.long q2), .second, .val (.int t2), .val (.ref a5), .val (.ref a10), .val (.int md), .val (.int (1 : Int32))] [(.ref a10), (.ref a5)])) _
  refine stP.trans ?_
  show Steps p.tables e below (TP.setTop (mkF m 253 #[.val (.long p1), .second, .val (.long p2), .second, .val (.int p3), .val (.int p4), .val (.int p5), .val (.long q2), .second, .val (.int t2), .val (.ref a5), .val (.ref a10), .val (.int md), .val (.int (1 : Int32))] [(.int (own_req (own_cs p1 0) (own_cs p1 1) (own_cs p1 2) (own_cs q2 0) (own_cs q2 1) (own_cs q2 2) p3 t2))])) _
  refine sg20 _ ?_
  show Steps p.tables e below (TP.setTop (mkF m 262 #[.val (.long p1), .second, .val (.long p2), .second, .val (.int p3), .val (.int p4), .val (.int p5), .val (.long q2), .second, .val (.int t2), .val (.ref a5), .val (.ref a10), .val (.int md), .val (.int (1 : Int32))] [(.ref a5), (.ref a10)])) _
  refine stQ.trans ?_
  show Steps p.tables e below (TQ.setTop (mkF m 265 #[.val (.long p1), .second, .val (.long p2), .second, .val (.int p3), .val (.int p4), .val (.int p5), .val (.long q2), .second, .val (.int t2), .val (.ref a5), .val (.ref a10), .val (.int md), .val (.int (1 : Int32))] [(.int (own_req (own_cs q2 0) (own_cs q2 1) (own_cs q2 2) (own_cs p1 0) (own_cs p1 1) (own_cs p1 2) t2 p3))])) _
  refine sg21 _ ?_
  show Steps p.tables e below (TQ.setTop (mkF m 275 #[.val (.long p1), .second, .val (.long p2), .second, .val (.int p3), .val (.int p4), .val (.int p5), .val (.long q2), .second, .val (.int t2), .val (.ref a5), .val (.ref a10), .val (.int md), .val (.int (1 : Int32))] [(.int (1 : Int32))])) _
  exact retN XQ hx (t := .boolean) Bd.returns (by simp) (hb hby at_275) hr
theorem own_lenAt {t : Term} {args : Array Value} {s : State} {a : Addr} {c : Cell} {n : Int32} (et : t.eval args s none [] s = some (.ref a)) (ha : s.arrayAt? a = some c) (h : (Term.length t).eval args s none [] s = some (.int n)) : c.slots.size < 2 ^ 31 ∧ c.slots.size.toInt32 = n := by
  simp [Term.eval, et, ha] at h
  exact h
set_option maxRecDepth 65536 in
set_option maxHeartbeats 40000000 in
theorem comes_1 {Post : Tables → Env → Array Value → State → Outcome → State → Prop} (hpost : ∀ tb e args s v u, (limb_1_1.after args s (.returned v) u = true ∧ limb_1_2.after args s (.returned v) u = true ∧ True) → ReturnedEndW s (.returned v) u (Jvm.fieldLocs frame_1_writes args s ++ Jvm.arrayLocs frame_1_arrays args s ++ Jvm.staticLocs frame_1_statics s) 56 4288 → Post tb e args s (.returned v) u) :
    ArmFor flags0 classFile x code maxLocals ret World_1 tables_1 room_1 Calls_1 rest_1 Pre_1 Post := by
  intro l hfl _ _ p e ha hc hk s m args below hf hA hF happ hP
  obtain ⟨hcalls, hrest, hpre⟩ := hP
  obtain ⟨-, -, -, hnamed, -, -, -, hat⟩ := (Spec.applies_iff hf).mp happ
  obtain ⟨hg, hn⟩ := and_e (Cond.before_iff.mp (show (Jvm.Cond.and given_1 narrow_1).before args s = true from hpre))
  obtain ⟨h1, h2⟩ := and_e hg
  obtain ⟨h3, h4⟩ := and_e h2
  obtain ⟨h5, h6⟩ := and_e h4
  obtain ⟨h7, h8⟩ := and_e h6
  obtain ⟨h9, h10⟩ := and_e h8
  obtain ⟨w0, w1, w2, w3, w4, rfl⟩ : ∃ w0 w1 w2 w3 w4 : Value, args = #[w0, w1, w2, w3, w4] := by
    have hs : args.size = 5 := by simpa [Cond.value, given_1] using h1
    obtain ⟨L⟩ := args
    match L, hs with
    | [w0, w1, w2, w3, w4], _ => exact ⟨w0, w1, w2, w3, w4, rfl⟩
  have hw := fun d (hd : d ∈ tables_1) => atoms_spec (ws := Jvm.Cond.code x code maxLocals ret :: tables_1) hat d (List.mem_cons_of_mem _ hd)
  obtain ⟨hsets, hown0⟩ := atoms_of _ (rest_1_c_eq ▸ (show rest_1_c.before _ s = true from hrest))
  have hfit : Fit s := fun {y c} hc i hi => by
    obtain ⟨ha, rfl⟩ := Array.getElem?_eq_some_iff.mp hc
    have q := List.all_eq_true.mp ((Array.all_eq_true_iff_forall_mem.mp hF) _ (Array.getElem_mem ha)) i (List.mem_range.mpr hi)
    simpa [Array.getElem?_eq_getElem hi] using q
  have n5 := not_v (Cond.before_iff.mp (hsets _ (List.mem_of_getElem? (i := 2) rfl)))
  obtain ⟨i0, e0⟩ := isL_v h3
  obtain rfl : w0 = (.long i0) := Option.some.inj e0
  obtain ⟨i1, e1⟩ := isL_v h5
  obtain rfl : w1 = (.long i1) := Option.some.inj e1
  obtain ⟨i2, e2⟩ := is_v h7
  obtain rfl : w2 = (.int i2) := Option.some.inj e2
  obtain ⟨i3, e3⟩ := is_v h9
  obtain rfl : w3 = (.int i3) := Option.some.inj e3
  obtain ⟨i4, e4⟩ := is_v h10
  obtain rfl : w4 = (.int i4) := Option.some.inj e4
  obtain ⟨i11, e11⟩ := is_v (Cond.before_iff.mp (hsets _ (List.mem_of_getElem? (i := 1) rfl)))
  have S12 : Sta s s.heap "java/lang/String" "COMPACT_STRINGS" "Z" (.int i11) := Sta.start e11 (Or.inl (hsets _ (List.mem_of_getElem? (i := 0) rfl)))
  have c17 : ¬ (i11 = (0 : Int32)) := gotF (Cond.eq_ints e11 (Term.int_eval (0))) n5
  have hEL : EW s _ consts_1 := EW.cons (hw _ (List.mem_of_getElem? (i := 40) rfl)) (by decide) (EW.cons (hw _ (List.mem_of_getElem? (i := 48) rfl)) (by decide) (EW.cons (hw _ (List.mem_of_getElem? (i := 53) rfl)) (by decide) (EW.cons (hw _ (List.mem_of_getElem? (i := 28) rfl)) (by simp) EW.nil)))
  have hch : ∀ p ∈ consts_1, Jvm.Lit.constHeld s p.1 p.2 := hcalls.1
  have H0 : CHv s consts_1 s.vm s.heap := CHv.start hEL hch (hsets _ (List.mem_of_getElem? (i := 2) rfl)) (hw _ (List.mem_of_getElem? (i := 29) rfl)) (hw _ (List.mem_of_getElem? (i := 15) rfl))
  have eh := eqv_i (Term.int_eval (127)) (Cond.before_iff.mp (hsets _ (List.mem_of_getElem? (i := 12) rfl)))
  have Sh : Sta s s.heap "java/lang/Integer$IntegerCache" "high" "I" (.int (127 : Int32)) := Sta.start eh (Or.inl (hsets _ (List.mem_of_getElem? (i := 10) rfl)))
  obtain ⟨ca, ec⟩ := arr_v (Cond.before_iff.mp (hsets _ (List.mem_of_getElem? (i := 13) rfl)))
  obtain ⟨cc, Ac⟩ := Arr.start ec (Cond.before_iff.mp (hsets _ (List.mem_of_getElem? (i := 13) rfl)))
  have el := eqv_i (Term.int_eval (256)) (Cond.before_iff.mp (hsets _ (List.mem_of_getElem? (i := 15) rfl)))
  have Sc : Sta s s.heap "java/lang/Integer$IntegerCache" "cache" "[Ljava/lang/Integer;" (.ref ca) := Sta.start ec (Or.inr ⟨(hw _ (List.mem_of_getElem? (i := 116) rfl)), hsets _ (List.mem_of_getElem? (i := 11) rfl)⟩)
  have hlt := own_lenAt ec (Ac.fin (Vm.Alike.refl _)) el
  have Bx : Bxs s ca cc "java/lang/Integer" "I" (256 : Int32) (fun j => .int (j - 128)) := Bxs.start (fun idx => ec) Ac hlt.1 hlt.2 (by decide) (Cond.before_iff.mp (hsets _ (List.mem_of_getElem? (i := 16) rfl))) (fun X j hj hq => eqv_i (Term.sub_int (idx_at hj) (Term.int_eval (128))) hq)
  obtain ⟨n, o, h1, h2, h3, _, L, rfl, ⟨rfl, N⟩, hq⟩ := rm0 l s _ hw tables_1 consts_1 hEL (by decide) i0 i1 i2 i3 i4 i11 s.heap s.heap.size (Nat.le_refl _) S12 c17 (own_ext_refl _) Sh ca cc Sc _ Bx p e ha hc hk s m _ below hf ((Spec.applies_iff_loose hf).mp happ).1 ⟨rfl, State.Warmed39.refl s, rfl, H0⟩ trivial
  refine ⟨n, _, h1, h2, h3, hpost _ _ _ _ _ _ ⟨Cond.after_iff.mpr rfl, Cond.after_iff.mpr (eq_i res_at (Term.int_eval (1)) rfl), trivial⟩ ⟨hq.1, hq.2.1, hq.2.2.1, (hq.2.2.2.sift fun y hy => Or.inr (N y hy)).mono (by decide) (by decide)⟩⟩
theorem main_1_1 : Claimed_1_1 := comes_1 fun _ _ _ _ _ _ h hF => ⟨h.1, hF⟩
theorem main_1_2 : Claimed_1_2 := comes_1 fun _ _ _ _ _ _ h hF => ⟨h.2.1, hF⟩
end Jvm.Pilot.@@N@@
namespace Jvm.Pilot.@@N@@
open Jvm Jvm.ClassFile Sem Op Lib Jvm.Free Jvm.Stand Jvm.Pilot.@@N@@.Jvm.D
/-! MADE BY PROGRAM (witnessworld.py) out of the Statement's table words and the real class files: 25 classes; the members and pool entries that the words name. The judged class is class 1, her method 6. -/
namespace start1
open Jvm.ClassFile
def u (s : String) : CpInfo := .utf8 (stringToUtf16 s)
/-- a pool by its gaps: so many unusable entries, then the entry; so many at the end -/
def gap : Nat → List CpInfo → List CpInfo
  | 0, r => r
  | n + 1, r => .unusable :: gap n r
def poolList (es : List (Nat × CpInfo)) (last : Nat) : List CpInfo := es.foldr (fun e r => gap e.1 (e.2 :: r)) (gap last [])
def pool (es : List (Nat × CpInfo)) (last : Nat) : Array CpInfo := ⟨poolList es last⟩
def fileOf (pool : Array CpInfo) (this : Nat) (attrs : Array Attribute := #[]) (ms : Array MethodInfo := #[]) (fl : Nat := 33) (sup : Nat := 0) (ifs : Array Nat := #[]) (fds : Array FieldInfo := #[]) : ClassFile where
  minorVersion := 0
  majorVersion := 65
  constantPool := pool
  accessFlags := fl
  thisClass := this
  superClass := sup
  interfaces := ifs
  fields := fds
  methods := ms
  attributes := attrs
def plain (name : String) (sup : Option ClassId) : Class where
  name := name
  kind := .ordinary
  loader := none
  accessFlags := 33
  super := sup
  interfaces := #[]
  cf := none
  fields := #[]
  methods := #[]
  instanceTypes := #[]
  staticTypes := #[]
  resolved := #[]
  callSites := []
  init := .initialized
  statics := none
  mirror := none

def pool0 : Array CpInfo := pool [(5, u "<init>"), (0, u "()V"), (1, .class_ 10), (1, u "java/lang/Object")] 113

def k0c0 : Code := { maxStack := 0, maxLocals := 1, code := object_method_1_code, exceptionTable := #[], attributes := #[] }
def k0m0 : Method := { name := "<init>", desc := "()V", sig := { parameters := [], returnType := none }, accessFlags := 1, code := some k0c0 }
/-- java/lang/Object -/
def k0 : Class := { plain "java/lang/Object" none with
  accessFlags := 33
  interfaces := #[]
  cf := some (fileOf pool0 8 #[] #[{ accessFlags := 1, nameIndex := 5, descriptorIndex := 6, attributes := #[] }] 33 0 #[] #[])
  fields := #[]
  methods := #[k0m0]
  instanceTypes := #[]
  staticTypes := #[]
  resolved := Array.replicate 124 none
  statics := none }

def pool1 : Array CpInfo := pool [(2, .class_ 4), (1, u "java/lang/Object"), (0, u "<init>"), (0, u "()V"), (0, .long 3), (1, .long 255), (1, .methodref 12 13), (0, .class_ 14), (0, .nameAndType 15 16), (0, u "com/example/nephila/nephila/usage/RequestEqualsPinLaw"), (0, u "len"), (0, u "(JI)I"), (0, .class_ 18), (0, u "java/lang/String"), (0, .methodref 17 20), (0, .nameAndType 5 21), (0, u "([C)V"), (0, .methodref 12 23), (0, .nameAndType 24 25), (0, u "ch"), (0, u "(JII)C"), (0, .long 262143), (1, .long 18446744073709551615), (1, .methodref 12 31), (0, .nameAndType 32 33), (0, u "copyField"), (0, u "(JJIZ)J"), (0, .class_ 35), (0, u "com/example/nephila/nephila/usage/Request"), (0, .methodref 12 37), (0, .nameAndType 38 39), (0, u "str"), (0, u "(JI)Ljava/lang/String;"), (0, .methodref 34 41), (0, .nameAndType 5 42), (0, u "(Ljava/lang/String;Ljava/lang/String;ILjava/lang/String;)V"), (0, .methodref 34 44), (0, .nameAndType 45 46), (0, u "equals"), (0, u "(Ljava/lang/Object;)Z"), (0, .methodref 48 49), (0, .class_ 50), (0, .nameAndType 51 52), (0, u "java/lang/Integer"), (0, u "valueOf"), (0, u "(I)Ljava/lang/Integer;"), (0, .methodref 12 54), (0, .nameAndType 55 56), (0, u "same"), (0, u "(JJI)Z"), (3, u "law"), (0, u "(JJIII)Z")] 2

def k1m0 : Method := { name := "<init>", desc := "()V", sig := { parameters := [], returnType := none }, accessFlags := 1, code := none }
def k1c1 : Code := { maxStack := 4, maxLocals := 3, code := method_2_code, exceptionTable := #[], attributes := #[] }
def k1m1 : Method := { name := "len", desc := "(JI)I", sig := { parameters := [.long, .int], returnType := some .int }, accessFlags := 10, code := some k1c1 }
def k1c2 : Code := { maxStack := 5, maxLocals := 4, code := method_3_code, exceptionTable := #[], attributes := #[] }
def k1m2 : Method := { name := "ch", desc := "(JII)C", sig := { parameters := [.long, .int, .int], returnType := some .char }, accessFlags := 10, code := some k1c2 }
def k1c3 : Code := { maxStack := 9, maxLocals := 4, code := method_4_code, exceptionTable := #[], attributes := #[] }
def k1m3 : Method := { name := "str", desc := "(JI)Ljava/lang/String;", sig := { parameters := [.long, .int], returnType := some (.object "java/lang/String") }, accessFlags := 10, code := some k1c3 }
def k1c4 : Code := { maxStack := 5, maxLocals := 6, code := method_5_code, exceptionTable := #[], attributes := #[] }
def k1m4 : Method := { name := "same", desc := "(JJI)Z", sig := { parameters := [.long, .long, .int], returnType := some .boolean }, accessFlags := 10, code := some k1c4 }
def k1c5 : Code := { maxStack := 6, maxLocals := 8, code := method_6_code, exceptionTable := #[], attributes := #[] }
def k1m5 : Method := { name := "copyField", desc := "(JJIZ)J", sig := { parameters := [.long, .long, .int, .boolean], returnType := some .long }, accessFlags := 10, code := some k1c5 }
def k1c6 : Code := { maxStack := 8, maxLocals := 14, code := code, exceptionTable := #[], attributes := #[] }
def k1m6 : Method := { name := "law", desc := "(JJIII)Z", sig := { parameters := [.long, .long, .int, .int, .int], returnType := some .boolean }, accessFlags := 9, code := some k1c6 }
/-- com/example/nephila/nephila/usage/RequestEqualsPinLaw -/
def k1 : Class := { plain "com/example/nephila/nephila/usage/RequestEqualsPinLaw" (some 0) with
  accessFlags := 49
  interfaces := #[]
  cf := some (fileOf pool1 12 #[] #[{ accessFlags := 1, nameIndex := 5, descriptorIndex := 6, attributes := #[] }, { accessFlags := 10, nameIndex := 15, descriptorIndex := 16, attributes := #[] }, { accessFlags := 10, nameIndex := 24, descriptorIndex := 25, attributes := #[] }, { accessFlags := 10, nameIndex := 38, descriptorIndex := 39, attributes := #[] }, { accessFlags := 10, nameIndex := 55, descriptorIndex := 56, attributes := #[] }, { accessFlags := 10, nameIndex := 32, descriptorIndex := 33, attributes := #[] }, { accessFlags := 9, nameIndex := 60, descriptorIndex := 61, attributes := #[] }] 49 2 #[] #[])
  fields := #[]
  methods := #[k1m0, k1m1, k1m2, k1m3, k1m4, k1m5, k1m6]
  instanceTypes := #[]
  staticTypes := #[]
  resolved := Array.replicate 64 none
  statics := none }

def pool2 : Array CpInfo := pool [(1, .methodref 2 3), (0, .class_ 4), (0, .nameAndType 5 6), (0, u "java/lang/Object"), (0, u "<init>"), (0, u "()V"), (0, .string 8), (0, u "method"), (0, .methodref 10 11), (0, .class_ 12), (0, .nameAndType 13 14), (0, u "java/util/Objects"), (0, u "requireNonNull"), (0, u "(Ljava/lang/Object;Ljava/lang/String;)Ljava/lang/Object;"), (0, .class_ 16), (0, u "java/lang/String"), (0, .fieldref 18 19), (0, .class_ 20), (0, .nameAndType 8 21), (0, u "com/example/nephila/nephila/usage/Request"), (0, u "Ljava/lang/String;"), (0, .string 23), (0, u "target"), (0, .fieldref 18 25), (0, .nameAndType 23 21), (0, .fieldref 18 27), (0, .nameAndType 28 29), (0, u "status"), (0, u "I"), (0, .string 31), (0, u "referer"), (0, .fieldref 18 33), (0, .nameAndType 31 21), (0, .methodref 15 35), (0, .nameAndType 36 37), (0, u "equals"), (0, u "(Ljava/lang/Object;)Z"), (14, u "(Ljava/lang/String;Ljava/lang/String;ILjava/lang/String;)V")] 28

def k2c0 : Code := { maxStack := 3, maxLocals := 5, code := prog_65_method_1_code, exceptionTable := #[], attributes := #[] }
def k2m0 : Method := { name := "<init>", desc := "(Ljava/lang/String;Ljava/lang/String;ILjava/lang/String;)V", sig := { parameters := [(.object "java/lang/String"), (.object "java/lang/String"), .int, (.object "java/lang/String")], returnType := none }, accessFlags := 1, code := some k2c0 }
def k2c1 : Code := { maxStack := 2, maxLocals := 3, code := prog_65_method_6_code, exceptionTable := #[], attributes := #[] }
def k2m1 : Method := { name := "equals", desc := "(Ljava/lang/Object;)Z", sig := { parameters := [(.object "java/lang/Object")], returnType := some .boolean }, accessFlags := 1, code := some k2c1 }
/-- com/example/nephila/nephila/usage/Request -/
def k2 : Class := { plain "com/example/nephila/nephila/usage/Request" (some 0) with
  accessFlags := 33
  interfaces := #[]
  cf := some (fileOf pool2 18 #[] #[{ accessFlags := 1, nameIndex := 5, descriptorIndex := 52, attributes := #[] }, { accessFlags := 1, nameIndex := 36, descriptorIndex := 37, attributes := #[] }] 33 2 #[] #[{ accessFlags := 18, nameIndex := 8, descriptorIndex := 21, attributes := #[] }, { accessFlags := 18, nameIndex := 23, descriptorIndex := 21, attributes := #[] }, { accessFlags := 18, nameIndex := 28, descriptorIndex := 29, attributes := #[] }, { accessFlags := 18, nameIndex := 31, descriptorIndex := 21, attributes := #[] }])
  fields := #[{ name := "method", type := (.object "java/lang/String"), accessFlags := 18, slot := 0, constantValue := 0 }, { name := "target", type := (.object "java/lang/String"), accessFlags := 18, slot := 1, constantValue := 0 }, { name := "status", type := .int, accessFlags := 18, slot := 2, constantValue := 0 }, { name := "referer", type := (.object "java/lang/String"), accessFlags := 18, slot := 3, constantValue := 0 }]
  methods := #[k2m0, k2m1]
  instanceTypes := #[(.object "java/lang/String"), (.object "java/lang/String"), .int, (.object "java/lang/String")]
  staticTypes := #[]
  resolved := Array.replicate 81 none
  statics := none }

def pool3 : Array CpInfo := pool [(1, .class_ 2), (0, u "java/io/Serializable"), (0, .class_ 4), (0, u "java/lang/Object")] 2

/-- java/io/Serializable -/
def k3 : Class := { plain "java/io/Serializable" (some 0) with
  accessFlags := 1537
  interfaces := #[]
  cf := some (fileOf pool3 1 #[] #[] 1537 3 #[] #[])
  fields := #[]
  methods := #[]
  instanceTypes := #[]
  staticTypes := #[]
  resolved := Array.replicate 7 none
  statics := none }

def pool4 : Array CpInfo := pool [(1, .class_ 2), (0, u "java/lang/Comparable"), (0, .class_ 4), (0, u "java/lang/Object")] 7

/-- java/lang/Comparable -/
def k4 : Class := { plain "java/lang/Comparable" (some 0) with
  accessFlags := 1537
  interfaces := #[]
  cf := some (fileOf pool4 1 #[] #[] 1537 3 #[] #[])
  fields := #[]
  methods := #[]
  instanceTypes := #[]
  staticTypes := #[]
  resolved := Array.replicate 12 none
  statics := none }

def pool5 : Array CpInfo := pool [(2, .class_ 4), (1, u "java/lang/CharSequence"), (42, .class_ 48), (0, u "java/lang/CharSequence$1CodePointIterator"), (10, .class_ 60), (0, u "java/lang/CharSequence$1CharIterator"), (5, .class_ 67), (0, u "java/lang/Object")] 63

/-- java/lang/CharSequence -/
def k5 : Class := { plain "java/lang/CharSequence" (some 0) with
  accessFlags := 1537
  interfaces := #[]
  cf := some (fileOf pool5 2 #[.nestMembers #[47, 59]] #[] 1537 66 #[] #[])
  fields := #[]
  methods := #[]
  instanceTypes := #[]
  staticTypes := #[]
  resolved := Array.replicate 131 none
  statics := none }

def pool6 : Array CpInfo := pool [(1, .class_ 2), (0, u "java/lang/constant/Constable"), (0, .class_ 4), (0, u "java/lang/Object")] 6

/-- java/lang/constant/Constable -/
def k6 : Class := { plain "java/lang/constant/Constable" (some 0) with
  accessFlags := 1537
  interfaces := #[]
  cf := some (fileOf pool6 1 #[] #[] 1537 3 #[] #[])
  fields := #[]
  methods := #[]
  instanceTypes := #[]
  staticTypes := #[]
  resolved := Array.replicate 11 none
  statics := none }

def pool7 : Array CpInfo := pool [(1, .class_ 2), (0, u "java/lang/constant/ConstantDesc"), (0, .class_ 4), (0, u "java/lang/Object")] 32

/-- java/lang/constant/ConstantDesc -/
def k7 : Class := { plain "java/lang/constant/ConstantDesc" (some 0) with
  accessFlags := 1537
  interfaces := #[]
  cf := some (fileOf pool7 1 #[] #[] 1537 3 #[] #[])
  fields := #[]
  methods := #[]
  instanceTypes := #[]
  staticTypes := #[]
  resolved := Array.replicate 37 none
  statics := none }

def pool8 : Array CpInfo := pool [(1, .methodref 2 3), (0, .class_ 4), (0, .nameAndType 5 6), (0, u "java/lang/Object"), (0, u "<init>"), (0, u "()V"), (0, .string 8), (0, u ""), (0, .fieldref 10 11), (0, .class_ 12), (0, .nameAndType 13 14), (0, u "java/lang/String"), (0, u "value"), (0, u "[B"), (0, .fieldref 10 16), (0, .nameAndType 17 18), (0, u "coder"), (0, u "B"), (2, u "hash"), (0, u "I"), (2, u "hashIsZero"), (0, u "Z"), (0, .methodref 10 28), (0, .nameAndType 5 29), (0, u "([CIILjava/lang/Void;)V"), (8, .fieldref 10 39), (0, .nameAndType 40 26), (0, u "COMPACT_STRINGS"), (1, .class_ 44), (1, u "java/lang/StringUTF16"), (0, u "compress"), (1, .methodref 42 48), (0, .nameAndType 49 50), (0, u "coderFromArrayLen"), (0, u "([BI)B"), (56, .class_ 109), (1, u "java/lang/StringLatin1"), (67, .methodref 42 178), (0, .nameAndType 45 179), (0, u "([CII)[B"), (361, .methodref 107 542), (0, .nameAndType 543 544), (0, u "equals"), (0, u "([B[B)Z"), (28, u "(Ljava/lang/Object;)Z"), (1, .class_ 576), (0, u "java/lang/CharSequence"), (22, u "CASE_INSENSITIVE_ORDER"), (0, u "Ljava/util/Comparator;"), (409, u "([C)V"), (90, u "serialPersistentFields"), (0, u "[Ljava/io/ObjectStreamField;"), (0, .class_ 1104), (0, u "java/lang/String$CaseInsensitiveComparator"), (1, .class_ 1107), (0, u "java/io/Serializable"), (0, .class_ 1109), (0, u "java/lang/Comparable"), (0, .class_ 1111), (0, u "java/lang/constant/Constable"), (0, .class_ 1113), (0, u "java/lang/constant/ConstantDesc"), (2, u "serialVersionUID"), (0, u "J"), (3, u "REPL"), (0, u "C"), (2, u "LATIN1"), (1, u "UTF16")] 323

def k8m0 : Method := { name := "<init>", desc := "()V", sig := { parameters := [], returnType := none }, accessFlags := 1, code := none }
def k8c1 : Code := { maxStack := 5, maxLocals := 2, code := jdk_42_method_3_code, exceptionTable := #[], attributes := #[] }
def k8m1 : Method := { name := "<init>", desc := "([C)V", sig := { parameters := [(.array .char)], returnType := none }, accessFlags := 1, code := some k8c1 }
def k8c2 : Code := { maxStack := 2, maxLocals := 3, code := jdk_42_method_66_code, exceptionTable := #[], attributes := #[] }
def k8m2 : Method := { name := "equals", desc := "(Ljava/lang/Object;)Z", sig := { parameters := [(.object "java/lang/Object")], returnType := some .boolean }, accessFlags := 1, code := some k8c2 }
def k8c3 : Code := { maxStack := 4, maxLocals := 6, code := jdk_42_method_149_code, exceptionTable := #[], attributes := #[] }
def k8m3 : Method := { name := "<init>", desc := "([CIILjava/lang/Void;)V", sig := { parameters := [(.array .char), .int, .int, (.object "java/lang/Void")], returnType := none }, accessFlags := 2, code := some k8c3 }
/-- java/lang/String -/
def k8 : Class := { plain "java/lang/String" (some 0) with
  accessFlags := 49
  interfaces := #[3, 4, 5, 6, 7]
  cf := some (fileOf pool8 10 #[.nestMembers #[1103]] #[{ accessFlags := 1, nameIndex := 5, descriptorIndex := 6, attributes := #[] }, { accessFlags := 1, nameIndex := 5, descriptorIndex := 1010, attributes := #[] }, { accessFlags := 1, nameIndex := 543, descriptorIndex := 573, attributes := #[] }, { accessFlags := 2, nameIndex := 5, descriptorIndex := 29, attributes := #[] }] 49 2 #[1106, 1108, 575, 1110, 1112] #[{ accessFlags := 18, nameIndex := 13, descriptorIndex := 14, attributes := #[] }, { accessFlags := 18, nameIndex := 17, descriptorIndex := 18, attributes := #[] }, { accessFlags := 2, nameIndex := 21, descriptorIndex := 22, attributes := #[] }, { accessFlags := 2, nameIndex := 25, descriptorIndex := 26, attributes := #[] }, { accessFlags := 26, nameIndex := 1116, descriptorIndex := 1117, attributes := #[] }, { accessFlags := 24, nameIndex := 40, descriptorIndex := 26, attributes := #[] }, { accessFlags := 26, nameIndex := 1101, descriptorIndex := 1102, attributes := #[] }, { accessFlags := 26, nameIndex := 1121, descriptorIndex := 1122, attributes := #[] }, { accessFlags := 25, nameIndex := 599, descriptorIndex := 600, attributes := #[] }, { accessFlags := 24, nameIndex := 1125, descriptorIndex := 18, attributes := #[] }, { accessFlags := 24, nameIndex := 1127, descriptorIndex := 18, attributes := #[] }])
  fields := #[{ name := "value", type := (.array .byte), accessFlags := 18, slot := 0, constantValue := 0 }, { name := "coder", type := .byte, accessFlags := 18, slot := 1, constantValue := 0 }, { name := "hash", type := .int, accessFlags := 2, slot := 2, constantValue := 0 }, { name := "hashIsZero", type := .boolean, accessFlags := 2, slot := 3, constantValue := 0 }, { name := "serialVersionUID", type := .long, accessFlags := 26, slot := 0, constantValue := 0 }, { name := "COMPACT_STRINGS", type := .boolean, accessFlags := 24, slot := 1, constantValue := 0 }, { name := "serialPersistentFields", type := (.array (.object "java/io/ObjectStreamField")), accessFlags := 26, slot := 2, constantValue := 0 }, { name := "REPL", type := .char, accessFlags := 26, slot := 3, constantValue := 0 }, { name := "CASE_INSENSITIVE_ORDER", type := (.object "java/util/Comparator"), accessFlags := 25, slot := 4, constantValue := 0 }, { name := "LATIN1", type := .byte, accessFlags := 24, slot := 5, constantValue := 0 }, { name := "UTF16", type := .byte, accessFlags := 24, slot := 6, constantValue := 0 }]
  methods := #[k8m0, k8m1, k8m2, k8m3]
  instanceTypes := #[(.array .byte), .byte, .int, .boolean]
  staticTypes := #[.long, .boolean, (.array (.object "java/io/ObjectStreamField")), .char, (.object "java/util/Comparator"), .byte, .byte]
  resolved := Array.replicate 1451 none
  statics := some 0 }

def pool9 : Array CpInfo := pool [(2, .class_ 4), (1, u "java/lang/Object"), (0, u "<init>"), (0, u "()V"), (35, .class_ 44), (1, u "java/util/Objects"), (0, u "requireNonNull"), (48, u "(Ljava/lang/Object;Ljava/lang/String;)Ljava/lang/Object;")] 89

def k9m0 : Method := { name := "<init>", desc := "()V", sig := { parameters := [], returnType := none }, accessFlags := 2, code := none }
def k9c1 : Code := { maxStack := 3, maxLocals := 2, code := jdk_31_method_11_code, exceptionTable := #[], attributes := #[] }
def k9m1 : Method := { name := "requireNonNull", desc := "(Ljava/lang/Object;Ljava/lang/String;)Ljava/lang/Object;", sig := { parameters := [(.object "java/lang/Object"), (.object "java/lang/String")], returnType := some (.object "java/lang/Object") }, accessFlags := 9, code := some k9c1 }
/-- java/util/Objects -/
def k9 : Class := { plain "java/util/Objects" (some 0) with
  accessFlags := 49
  interfaces := #[]
  cf := some (fileOf pool9 42 #[] #[{ accessFlags := 2, nameIndex := 5, descriptorIndex := 6, attributes := #[] }, { accessFlags := 9, nameIndex := 45, descriptorIndex := 94, attributes := #[] }] 49 2 #[] #[])
  fields := #[]
  methods := #[k9m0, k9m1]
  instanceTypes := #[]
  staticTypes := #[]
  resolved := Array.replicate 184 none
  statics := none }

def pool10 : Array CpInfo := pool [(6, .class_ 8), (1, u "java/lang/Object"), (0, u "<init>"), (0, u "()V"), (1, .class_ 14), (1, u "java/lang/StringUTF16"), (31, u "$assertionsDisabled"), (0, u "Z"), (13, u "HI_BYTE_SHIFT"), (0, u "I"), (2, u "LO_BYTE_SHIFT"), (49, .methodref 12 116), (0, .nameAndType 117 118), (0, u "compress"), (0, u "([CI[BII)I"), (3, u "([CII)[B"), (138, u "coderFromArrayLen"), (0, u "([BI)B"), (106, .class_ 371), (1, u "java/lang/StringUTF16$LinesSpliterator"), (58, u "MAX_LENGTH"), (196, .class_ 628), (0, u "java/lang/StringUTF16$CodePointsSpliterator"), (0, .class_ 630), (0, u "java/lang/StringUTF16$CharsSpliterator")] 4

def k10m0 : Method := { name := "<init>", desc := "()V", sig := { parameters := [], returnType := none }, accessFlags := 0, code := none }
def k10c1 : Code := { maxStack := 2, maxLocals := 2, code := jdk_52_method_15_code, exceptionTable := #[], attributes := #[] }
def k10m1 : Method := { name := "coderFromArrayLen", desc := "([BI)B", sig := { parameters := [(.array .byte), .int], returnType := some .byte }, accessFlags := 8, code := some k10c1 }
def k10c2 : Code := { maxStack := 5, maxLocals := 6, code := jdk_52_method_16_code, exceptionTable := #[], attributes := #[] }
def k10m2 : Method := { name := "compress", desc := "([CII)[B", sig := { parameters := [(.array .char), .int, .int], returnType := some (.array .byte) }, accessFlags := 9, code := some k10c2 }
def k10c3 : Code := { maxStack := 3, maxLocals := 7, code := jdk_52_method_21_code, exceptionTable := #[], attributes := #[] }
def k10m3 : Method := { name := "compress", desc := "([CI[BII)I", sig := { parameters := [(.array .char), .int, (.array .byte), .int, .int], returnType := some .int }, accessFlags := 9, code := some k10c3 }
/-- java/lang/StringUTF16 -/
def k10 : Class := { plain "java/lang/StringUTF16" (some 0) with
  accessFlags := 48
  interfaces := #[]
  cf := some (fileOf pool10 12 #[.nestMembers #[627, 629, 369]] #[{ accessFlags := 0, nameIndex := 9, descriptorIndex := 10, attributes := #[] }, { accessFlags := 8, nameIndex := 261, descriptorIndex := 262, attributes := #[] }, { accessFlags := 9, nameIndex := 117, descriptorIndex := 122, attributes := #[] }, { accessFlags := 9, nameIndex := 117, descriptorIndex := 118, attributes := #[] }] 48 6 #[] #[{ accessFlags := 26, nameIndex := 61, descriptorIndex := 62, attributes := #[] }, { accessFlags := 26, nameIndex := 65, descriptorIndex := 62, attributes := #[] }, { accessFlags := 24, nameIndex := 430, descriptorIndex := 62, attributes := #[] }, { accessFlags := 4120, nameIndex := 46, descriptorIndex := 47, attributes := #[] }])
  fields := #[{ name := "HI_BYTE_SHIFT", type := .int, accessFlags := 26, slot := 0, constantValue := 0 }, { name := "LO_BYTE_SHIFT", type := .int, accessFlags := 26, slot := 1, constantValue := 0 }, { name := "MAX_LENGTH", type := .int, accessFlags := 24, slot := 2, constantValue := 0 }, { name := "$assertionsDisabled", type := .boolean, accessFlags := 4120, slot := 3, constantValue := 0 }]
  methods := #[k10m0, k10m1, k10m2, k10m3]
  instanceTypes := #[]
  staticTypes := #[.int, .int, .int, .boolean]
  resolved := Array.replicate 635 none
  statics := none }

def pool11 : Array CpInfo := pool [(4, .class_ 6), (1, u "java/lang/Object"), (0, u "<init>"), (0, u "()V"), (5, .class_ 16), (1, u "java/lang/StringLatin1"), (104, u "$assertionsDisabled"), (0, u "Z"), (98, .class_ 223), (1, u "java/lang/StringLatin1$LinesSpliterator"), (57, u "equals"), (0, u "([B[B)Z"), (107, .class_ 391), (0, u "java/lang/StringLatin1$CharsSpliterator")] 3

def k11m0 : Method := { name := "<init>", desc := "()V", sig := { parameters := [], returnType := none }, accessFlags := 0, code := none }
def k11c1 : Code := { maxStack := 3, maxLocals := 3, code := jdk_43_method_13_code, exceptionTable := #[], attributes := #[] }
def k11m1 : Method := { name := "equals", desc := "([B[B)Z", sig := { parameters := [(.array .byte), (.array .byte)], returnType := some .boolean }, accessFlags := 9, code := some k11c1 }
/-- java/lang/StringLatin1 -/
def k11 : Class := { plain "java/lang/StringLatin1" (some 0) with
  accessFlags := 48
  interfaces := #[]
  cf := some (fileOf pool11 14 #[.nestMembers #[390, 221]] #[{ accessFlags := 0, nameIndex := 7, descriptorIndex := 8, attributes := #[] }, { accessFlags := 9, nameIndex := 281, descriptorIndex := 282, attributes := #[] }] 48 4 #[] #[{ accessFlags := 4120, nameIndex := 121, descriptorIndex := 122, attributes := #[] }])
  fields := #[{ name := "$assertionsDisabled", type := .boolean, accessFlags := 4120, slot := 0, constantValue := 0 }]
  methods := #[k11m0, k11m1]
  instanceTypes := #[]
  staticTypes := #[.boolean]
  resolved := Array.replicate 395 none
  statics := none }

def pool12 : Array CpInfo := pool [(1, .methodref 2 3), (0, .class_ 4), (0, .nameAndType 5 6), (0, u "java/lang/Object"), (0, u "<init>"), (0, u "()V"), (1, .class_ 10), (1, u "java/lang/Number"), (2, .class_ 14), (0, u "java/io/Serializable"), (0, u "serialVersionUID"), (0, u "J")] 20

def k12c0 : Code := { maxStack := 1, maxLocals := 1, code := jdk_18_method_1_code, exceptionTable := #[], attributes := #[] }
def k12m0 : Method := { name := "<init>", desc := "()V", sig := { parameters := [], returnType := none }, accessFlags := 1, code := some k12c0 }
/-- java/lang/Number -/
def k12 : Class := { plain "java/lang/Number" (some 0) with
  accessFlags := 1057
  interfaces := #[3]
  cf := some (fileOf pool12 8 #[] #[{ accessFlags := 1, nameIndex := 5, descriptorIndex := 6, attributes := #[] }] 1057 2 #[13] #[{ accessFlags := 26, nameIndex := 15, descriptorIndex := 16, attributes := #[] }])
  fields := #[{ name := "serialVersionUID", type := .long, accessFlags := 26, slot := 0, constantValue := 0 }]
  methods := #[k12m0]
  instanceTypes := #[]
  staticTypes := #[.long]
  resolved := Array.replicate 37 none
  statics := none }

def pool13 : Array CpInfo := pool [(1, .class_ 2), (0, u "java/lang/Integer"), (16, u "digits"), (0, u "[C"), (46, u "<init>"), (17, u "DigitOnes"), (0, u "[B"), (2, u "DigitTens"), (10, .nameAndType 67 101), (0, u "()V"), (85, u "valueOf"), (0, u "(I)Ljava/lang/Integer;"), (0, .class_ 190), (0, u "java/lang/Integer$IntegerCache"), (0, .fieldref 189 192), (0, .nameAndType 193 194), (0, u "high"), (0, u "I"), (0, .fieldref 189 196), (0, .nameAndType 197 198), (0, u "cache"), (0, u "[Ljava/lang/Integer;"), (0, .methodref 1 200), (0, .nameAndType 67 201), (0, u "(I)V"), (0, .methodref 203 100), (0, .class_ 204), (0, u "java/lang/Number"), (0, .fieldref 1 206), (0, .nameAndType 207 194), (0, u "value"), (94, u "TYPE"), (0, u "Ljava/lang/Class;"), (0, .class_ 305), (0, u "java/lang/Comparable"), (0, .class_ 307), (0, u "java/lang/constant/Constable"), (0, .class_ 309), (0, u "java/lang/constant/ConstantDesc"), (0, u "MIN_VALUE"), (1, u "MAX_VALUE"), (3, u "SIZE"), (1, u "BYTES"), (1, u "serialVersionUID"), (0, u "J")] 131

def k13c0 : Code := { maxStack := 3, maxLocals := 1, code := jdk_33_method_22_code, exceptionTable := #[], attributes := #[] }
def k13m0 : Method := { name := "valueOf", desc := "(I)Ljava/lang/Integer;", sig := { parameters := [.int], returnType := some (.object "java/lang/Integer") }, accessFlags := 9, code := some k13c0 }
def k13c1 : Code := { maxStack := 2, maxLocals := 2, code := jdk_33_method_23_code, exceptionTable := #[], attributes := #[] }
def k13m1 : Method := { name := "<init>", desc := "(I)V", sig := { parameters := [.int], returnType := none }, accessFlags := 1, code := some k13c1 }
/-- java/lang/Integer -/
def k13 : Class := { plain "java/lang/Integer" (some 12) with
  accessFlags := 49
  interfaces := #[4, 6, 7]
  cf := some (fileOf pool13 1 #[.nestMembers #[189]] #[{ accessFlags := 9, nameIndex := 187, descriptorIndex := 188, attributes := #[] }, { accessFlags := 1, nameIndex := 67, descriptorIndex := 201, attributes := #[] }] 49 203 #[304, 306, 308] #[{ accessFlags := 25, nameIndex := 310, descriptorIndex := 194, attributes := #[] }, { accessFlags := 25, nameIndex := 312, descriptorIndex := 194, attributes := #[] }, { accessFlags := 25, nameIndex := 302, descriptorIndex := 303, attributes := #[] }, { accessFlags := 24, nameIndex := 19, descriptorIndex := 20, attributes := #[] }, { accessFlags := 24, nameIndex := 89, descriptorIndex := 86, attributes := #[] }, { accessFlags := 24, nameIndex := 85, descriptorIndex := 86, attributes := #[] }, { accessFlags := 18, nameIndex := 207, descriptorIndex := 194, attributes := #[] }, { accessFlags := 25, nameIndex := 316, descriptorIndex := 194, attributes := #[] }, { accessFlags := 25, nameIndex := 318, descriptorIndex := 194, attributes := #[] }, { accessFlags := 26, nameIndex := 320, descriptorIndex := 321, attributes := #[] }])
  fields := #[{ name := "MIN_VALUE", type := .int, accessFlags := 25, slot := 0, constantValue := 0 }, { name := "MAX_VALUE", type := .int, accessFlags := 25, slot := 1, constantValue := 0 }, { name := "TYPE", type := (.object "java/lang/Class"), accessFlags := 25, slot := 2, constantValue := 0 }, { name := "digits", type := (.array .char), accessFlags := 24, slot := 3, constantValue := 0 }, { name := "DigitTens", type := (.array .byte), accessFlags := 24, slot := 4, constantValue := 0 }, { name := "DigitOnes", type := (.array .byte), accessFlags := 24, slot := 5, constantValue := 0 }, { name := "value", type := .int, accessFlags := 18, slot := 0, constantValue := 0 }, { name := "SIZE", type := .int, accessFlags := 25, slot := 6, constantValue := 0 }, { name := "BYTES", type := .int, accessFlags := 25, slot := 7, constantValue := 0 }, { name := "serialVersionUID", type := .long, accessFlags := 26, slot := 8, constantValue := 0 }]
  methods := #[k13m0, k13m1]
  instanceTypes := #[.int]
  staticTypes := #[.int, .int, (.object "java/lang/Class"), (.array .char), (.array .byte), (.array .byte), .int, .int, .long]
  resolved := Array.replicate 453 none
  statics := none }

def pool14 : Array CpInfo := pool [(2, .class_ 4), (1, u "java/lang/Object"), (0, u "<init>"), (0, u "()V"), (0, .class_ 8), (0, u "java/lang/Integer"), (7, .class_ 18), (1, u "java/lang/Integer$IntegerCache"), (0, u "$assertionsDisabled"), (0, u "Z"), (26, u "high"), (0, u "I"), (8, u "archivedCache"), (0, u "[Ljava/lang/Integer;"), (12, u "cache"), (0, u "low")] 27

def k14m0 : Method := { name := "<init>", desc := "()V", sig := { parameters := [], returnType := none }, accessFlags := 2, code := none }
/-- java/lang/Integer$IntegerCache -/
def k14 : Class := { plain "java/lang/Integer$IntegerCache" (some 0) with
  accessFlags := 48
  interfaces := #[]
  cf := some (fileOf pool14 16 #[.nestHost 7] #[{ accessFlags := 2, nameIndex := 5, descriptorIndex := 6, attributes := #[] }] 48 2 #[] #[{ accessFlags := 24, nameIndex := 72, descriptorIndex := 48, attributes := #[] }, { accessFlags := 24, nameIndex := 47, descriptorIndex := 48, attributes := #[] }, { accessFlags := 24, nameIndex := 71, descriptorIndex := 58, attributes := #[] }, { accessFlags := 8, nameIndex := 57, descriptorIndex := 58, attributes := #[] }, { accessFlags := 4120, nameIndex := 19, descriptorIndex := 20, attributes := #[] }])
  fields := #[{ name := "low", type := .int, accessFlags := 24, slot := 0, constantValue := 0 }, { name := "high", type := .int, accessFlags := 24, slot := 1, constantValue := 0 }, { name := "cache", type := (.array (.object "java/lang/Integer")), accessFlags := 24, slot := 2, constantValue := 0 }, { name := "archivedCache", type := (.array (.object "java/lang/Integer")), accessFlags := 8, slot := 3, constantValue := 0 }, { name := "$assertionsDisabled", type := .boolean, accessFlags := 4120, slot := 4, constantValue := 0 }]
  methods := #[k14m0]
  instanceTypes := #[]
  staticTypes := #[.int, .int, (.array (.object "java/lang/Integer")), (.array (.object "java/lang/Integer")), .boolean]
  resolved := Array.replicate 100 none
  statics := some 1 }

def pool15 : Array CpInfo := pool [(2, .class_ 4), (1, u "java/lang/Object"), (0, u "<init>"), (0, u "()V"), (17, .class_ 26), (1, u "jdk/internal/util/Preconditions"), (28, .class_ 56), (0, u "jdk/internal/util/Preconditions$4"), (57, .class_ 115), (0, u "jdk/internal/util/Preconditions$1"), (7, u "SIOOBE_FORMATTER"), (0, u "Ljava/util/function/BiFunction;"), (0, .class_ 126), (0, u "jdk/internal/util/Preconditions$2"), (3, u "AIOOBE_FORMATTER"), (0, .class_ 132), (0, u "jdk/internal/util/Preconditions$3"), (3, u "IOOBE_FORMATTER")] 57

def k15m0 : Method := { name := "<init>", desc := "()V", sig := { parameters := [], returnType := none }, accessFlags := 1, code := none }
/-- jdk/internal/util/Preconditions -/
def k15 : Class := { plain "jdk/internal/util/Preconditions" (some 0) with
  accessFlags := 33
  interfaces := #[]
  cf := some (fileOf pool15 24 #[.nestMembers #[55, 131, 125, 114]] #[{ accessFlags := 1, nameIndex := 5, descriptorIndex := 6, attributes := #[] }] 33 2 #[] #[{ accessFlags := 25, nameIndex := 123, descriptorIndex := 124, attributes := #[] }, { accessFlags := 25, nameIndex := 130, descriptorIndex := 124, attributes := #[] }, { accessFlags := 25, nameIndex := 136, descriptorIndex := 124, attributes := #[] }])
  fields := #[{ name := "SIOOBE_FORMATTER", type := (.object "java/util/function/BiFunction"), accessFlags := 25, slot := 0, constantValue := 0 }, { name := "AIOOBE_FORMATTER", type := (.object "java/util/function/BiFunction"), accessFlags := 25, slot := 1, constantValue := 0 }, { name := "IOOBE_FORMATTER", type := (.object "java/util/function/BiFunction"), accessFlags := 25, slot := 2, constantValue := 0 }]
  methods := #[k15m0]
  instanceTypes := #[]
  staticTypes := #[(.object "java/util/function/BiFunction"), (.object "java/util/function/BiFunction"), (.object "java/util/function/BiFunction")]
  resolved := Array.replicate 194 none
  statics := some 2 }

def pool16 : Array CpInfo := pool [(9, u "<init>"), (6, .class_ 18), (1, u "java/lang/Object"), (0, u "()V"), (1, .class_ 23), (1, u "jdk/internal/util/ArraysSupport"), (0, u "LOG2_ARRAY_LONG_INDEX_SCALE"), (0, u "I"), (2, u "U"), (0, u "Ljdk/internal/misc/Unsafe;"), (8, u "BIG_ENDIAN"), (0, u "Z"), (8, u "LOG2_BYTE_BIT_SIZE"), (4, u "LOG2_ARRAY_INT_INDEX_SCALE"), (54, u "JLA"), (0, u "Ljdk/internal/access/JavaLangAccess;"), (11, u "LOG2_ARRAY_BOOLEAN_INDEX_SCALE"), (9, u "LOG2_ARRAY_BYTE_INDEX_SCALE"), (5, u "LOG2_ARRAY_CHAR_INDEX_SCALE"), (5, u "LOG2_ARRAY_SHORT_INDEX_SCALE"), (18, u "LOG2_ARRAY_FLOAT_INDEX_SCALE"), (24, u "LOG2_ARRAY_DOUBLE_INDEX_SCALE"), (89, u "T_BOOLEAN"), (2, u "T_CHAR"), (1, u "T_FLOAT"), (1, u "T_DOUBLE"), (1, u "T_BYTE"), (1, u "T_SHORT"), (1, u "T_INT"), (1, u "T_LONG"), (1, u "SOFT_MAX_ARRAY_LENGTH")] 83

def k16m0 : Method := { name := "<init>", desc := "()V", sig := { parameters := [], returnType := none }, accessFlags := 2, code := none }
/-- jdk/internal/util/ArraysSupport -/
def k16 : Class := { plain "jdk/internal/util/ArraysSupport" (some 0) with
  accessFlags := 33
  interfaces := #[]
  cf := some (fileOf pool16 21 #[] #[{ accessFlags := 2, nameIndex := 9, descriptorIndex := 19, attributes := #[] }] 33 16 #[] #[{ accessFlags := 24, nameIndex := 28, descriptorIndex := 29, attributes := #[] }, { accessFlags := 26, nameIndex := 38, descriptorIndex := 39, attributes := #[] }, { accessFlags := 25, nameIndex := 121, descriptorIndex := 25, attributes := #[] }, { accessFlags := 25, nameIndex := 131, descriptorIndex := 25, attributes := #[] }, { accessFlags := 25, nameIndex := 137, descriptorIndex := 25, attributes := #[] }, { accessFlags := 25, nameIndex := 143, descriptorIndex := 25, attributes := #[] }, { accessFlags := 25, nameIndex := 53, descriptorIndex := 25, attributes := #[] }, { accessFlags := 25, nameIndex := 24, descriptorIndex := 25, attributes := #[] }, { accessFlags := 25, nameIndex := 162, descriptorIndex := 25, attributes := #[] }, { accessFlags := 25, nameIndex := 187, descriptorIndex := 25, attributes := #[] }, { accessFlags := 26, nameIndex := 48, descriptorIndex := 25, attributes := #[] }, { accessFlags := 25, nameIndex := 277, descriptorIndex := 25, attributes := #[] }, { accessFlags := 25, nameIndex := 280, descriptorIndex := 25, attributes := #[] }, { accessFlags := 25, nameIndex := 282, descriptorIndex := 25, attributes := #[] }, { accessFlags := 25, nameIndex := 284, descriptorIndex := 25, attributes := #[] }, { accessFlags := 25, nameIndex := 286, descriptorIndex := 25, attributes := #[] }, { accessFlags := 25, nameIndex := 288, descriptorIndex := 25, attributes := #[] }, { accessFlags := 25, nameIndex := 290, descriptorIndex := 25, attributes := #[] }, { accessFlags := 25, nameIndex := 292, descriptorIndex := 25, attributes := #[] }, { accessFlags := 26, nameIndex := 108, descriptorIndex := 109, attributes := #[] }, { accessFlags := 25, nameIndex := 294, descriptorIndex := 25, attributes := #[] }])
  fields := #[{ name := "U", type := (.object "jdk/internal/misc/Unsafe"), accessFlags := 24, slot := 0, constantValue := 0 }, { name := "BIG_ENDIAN", type := .boolean, accessFlags := 26, slot := 1, constantValue := 0 }, { name := "LOG2_ARRAY_BOOLEAN_INDEX_SCALE", type := .int, accessFlags := 25, slot := 2, constantValue := 0 }, { name := "LOG2_ARRAY_BYTE_INDEX_SCALE", type := .int, accessFlags := 25, slot := 3, constantValue := 0 }, { name := "LOG2_ARRAY_CHAR_INDEX_SCALE", type := .int, accessFlags := 25, slot := 4, constantValue := 0 }, { name := "LOG2_ARRAY_SHORT_INDEX_SCALE", type := .int, accessFlags := 25, slot := 5, constantValue := 0 }, { name := "LOG2_ARRAY_INT_INDEX_SCALE", type := .int, accessFlags := 25, slot := 6, constantValue := 0 }, { name := "LOG2_ARRAY_LONG_INDEX_SCALE", type := .int, accessFlags := 25, slot := 7, constantValue := 0 }, { name := "LOG2_ARRAY_FLOAT_INDEX_SCALE", type := .int, accessFlags := 25, slot := 8, constantValue := 0 }, { name := "LOG2_ARRAY_DOUBLE_INDEX_SCALE", type := .int, accessFlags := 25, slot := 9, constantValue := 0 }, { name := "LOG2_BYTE_BIT_SIZE", type := .int, accessFlags := 26, slot := 10, constantValue := 0 }, { name := "T_BOOLEAN", type := .int, accessFlags := 25, slot := 11, constantValue := 0 }, { name := "T_CHAR", type := .int, accessFlags := 25, slot := 12, constantValue := 0 }, { name := "T_FLOAT", type := .int, accessFlags := 25, slot := 13, constantValue := 0 }, { name := "T_DOUBLE", type := .int, accessFlags := 25, slot := 14, constantValue := 0 }, { name := "T_BYTE", type := .int, accessFlags := 25, slot := 15, constantValue := 0 }, { name := "T_SHORT", type := .int, accessFlags := 25, slot := 16, constantValue := 0 }, { name := "T_INT", type := .int, accessFlags := 25, slot := 17, constantValue := 0 }, { name := "T_LONG", type := .int, accessFlags := 25, slot := 18, constantValue := 0 }, { name := "JLA", type := (.object "jdk/internal/access/JavaLangAccess"), accessFlags := 26, slot := 19, constantValue := 0 }, { name := "SOFT_MAX_ARRAY_LENGTH", type := .int, accessFlags := 25, slot := 20, constantValue := 0 }]
  methods := #[k16m0]
  instanceTypes := #[]
  staticTypes := #[(.object "jdk/internal/misc/Unsafe"), .boolean, .int, .int, .int, .int, .int, .int, .int, .int, .int, .int, .int, .int, .int, .int, .int, .int, .int, (.object "jdk/internal/access/JavaLangAccess"), .int]
  resolved := Array.replicate 378 none
  statics := none }

def pool17 : Array CpInfo := pool [(1, u "java/lang/Cloneable"), (0, .class_ 1), (0, u "java/lang/Object"), (0, .class_ 3)] 3

/-- java/lang/Cloneable -/
def k17 : Class := { plain "java/lang/Cloneable" (some 0) with
  accessFlags := 1537
  interfaces := #[]
  cf := some (fileOf pool17 2 #[] #[] 1537 4 #[] #[])
  fields := #[]
  methods := #[]
  instanceTypes := #[]
  staticTypes := #[]
  resolved := Array.replicate 8 none
  statics := none }

/-- the primitive byte -/
def k18 : Class := { plain "byte" none with kind := .primitive 'B', accessFlags := 0x411 }
/-- [B -/
def k19 : Class := { plain "[B" (some 0) with kind := .array 18 .byte, interfaces := #[17, 3], accessFlags := 1041 }

/-- the primitive char -/
def k20 : Class := { plain "char" none with kind := .primitive 'C', accessFlags := 0x411 }
/-- [C -/
def k21 : Class := { plain "[C" (some 0) with kind := .array 20 .char, interfaces := #[17, 3], accessFlags := 1041 }

/-- the primitive int -/
def k22 : Class := { plain "int" none with kind := .primitive 'I', accessFlags := 0x411 }
/-- [I -/
def k23 : Class := { plain "[I" (some 0) with kind := .array 22 .int, interfaces := #[17, 3], accessFlags := 1041 }

/-- [Ljava/lang/Integer; -/
def k24 : Class := { plain "[Ljava/lang/Integer;" (some 0) with kind := .array 13 (.object "java/lang/Integer"), interfaces := #[17, 3], accessFlags := 1041 }

def heap : Heap := #[{ cls := 8, slots := #[.long 0, .int 1, .null, .int 0, .null, .int 0, .int 0], vm := .statics 8 },
  { cls := 14, slots := #[.int 0, .int 127, .ref 3, .null, .int 0], vm := .statics 14 },
  { cls := 15, slots := #[.null, .null, .null], vm := .statics 15 },
  { cls := 24, slots := #[.ref 4, .ref 5, .ref 6, .ref 7, .ref 8, .ref 9, .ref 10, .ref 11, .ref 12, .ref 13, .ref 14, .ref 15, .ref 16, .ref 17, .ref 18, .ref 19, .ref 20, .ref 21, .ref 22, .ref 23, .ref 24, .ref 25, .ref 26, .ref 27, .ref 28, .ref 29, .ref 30, .ref 31, .ref 32, .ref 33, .ref 34, .ref 35, .ref 36, .ref 37, .ref 38, .ref 39, .ref 40, .ref 41, .ref 42, .ref 43, .ref 44, .ref 45, .ref 46, .ref 47, .ref 48, .ref 49, .ref 50, .ref 51, .ref 52, .ref 53, .ref 54, .ref 55, .ref 56, .ref 57, .ref 58, .ref 59, .ref 60, .ref 61, .ref 62, .ref 63, .ref 64, .ref 65, .ref 66, .ref 67, .ref 68, .ref 69, .ref 70, .ref 71, .ref 72, .ref 73, .ref 74, .ref 75, .ref 76, .ref 77, .ref 78, .ref 79, .ref 80, .ref 81, .ref 82, .ref 83, .ref 84, .ref 85, .ref 86, .ref 87, .ref 88, .ref 89, .ref 90, .ref 91, .ref 92, .ref 93, .ref 94, .ref 95, .ref 96, .ref 97, .ref 98, .ref 99, .ref 100, .ref 101, .ref 102, .ref 103, .ref 104, .ref 105, .ref 106, .ref 107, .ref 108, .ref 109, .ref 110, .ref 111, .ref 112, .ref 113, .ref 114, .ref 115, .ref 116, .ref 117, .ref 118, .ref 119, .ref 120, .ref 121, .ref 122, .ref 123, .ref 124, .ref 125, .ref 126, .ref 127, .ref 128, .ref 129, .ref 130, .ref 131, .ref 132, .ref 133, .ref 134, .ref 135, .ref 136, .ref 137, .ref 138, .ref 139, .ref 140, .ref 141, .ref 142, .ref 143, .ref 144, .ref 145, .ref 146, .ref 147, .ref 148, .ref 149, .ref 150, .ref 151, .ref 152, .ref 153, .ref 154, .ref 155, .ref 156, .ref 157, .ref 158, .ref 159, .ref 160, .ref 161, .ref 162, .ref 163, .ref 164, .ref 165, .ref 166, .ref 167, .ref 168, .ref 169, .ref 170, .ref 171, .ref 172, .ref 173, .ref 174, .ref 175, .ref 176, .ref 177, .ref 178, .ref 179, .ref 180, .ref 181, .ref 182, .ref 183, .ref 184, .ref 185, .ref 186, .ref 187, .ref 188, .ref 189, .ref 190, .ref 191, .ref 192, .ref 193, .ref 194, .ref 195, .ref 196, .ref 197, .ref 198, .ref 199, .ref 200, .ref 201, .ref 202, .ref 203, .ref 204, .ref 205, .ref 206, .ref 207, .ref 208, .ref 209, .ref 210, .ref 211, .ref 212, .ref 213, .ref 214, .ref 215, .ref 216, .ref 217, .ref 218, .ref 219, .ref 220, .ref 221, .ref 222, .ref 223, .ref 224, .ref 225, .ref 226, .ref 227, .ref 228, .ref 229, .ref 230, .ref 231, .ref 232, .ref 233, .ref 234, .ref 235, .ref 236, .ref 237, .ref 238, .ref 239, .ref 240, .ref 241, .ref 242, .ref 243, .ref 244, .ref 245, .ref 246, .ref 247, .ref 248, .ref 249, .ref 250, .ref 251, .ref 252, .ref 253, .ref 254, .ref 255, .ref 256, .ref 257, .ref 258, .ref 259], vm := .none },
  { cls := 13, slots := #[.int (-128)], vm := .none },
  { cls := 13, slots := #[.int (-127)], vm := .none },
  { cls := 13, slots := #[.int (-126)], vm := .none },
  { cls := 13, slots := #[.int (-125)], vm := .none },
  { cls := 13, slots := #[.int (-124)], vm := .none },
  { cls := 13, slots := #[.int (-123)], vm := .none },
  { cls := 13, slots := #[.int (-122)], vm := .none },
  { cls := 13, slots := #[.int (-121)], vm := .none },
  { cls := 13, slots := #[.int (-120)], vm := .none },
  { cls := 13, slots := #[.int (-119)], vm := .none },
  { cls := 13, slots := #[.int (-118)], vm := .none },
  { cls := 13, slots := #[.int (-117)], vm := .none },
  { cls := 13, slots := #[.int (-116)], vm := .none },
  { cls := 13, slots := #[.int (-115)], vm := .none },
  { cls := 13, slots := #[.int (-114)], vm := .none },
  { cls := 13, slots := #[.int (-113)], vm := .none },
  { cls := 13, slots := #[.int (-112)], vm := .none },
  { cls := 13, slots := #[.int (-111)], vm := .none },
  { cls := 13, slots := #[.int (-110)], vm := .none },
  { cls := 13, slots := #[.int (-109)], vm := .none },
  { cls := 13, slots := #[.int (-108)], vm := .none },
  { cls := 13, slots := #[.int (-107)], vm := .none },
  { cls := 13, slots := #[.int (-106)], vm := .none },
  { cls := 13, slots := #[.int (-105)], vm := .none },
  { cls := 13, slots := #[.int (-104)], vm := .none },
  { cls := 13, slots := #[.int (-103)], vm := .none },
  { cls := 13, slots := #[.int (-102)], vm := .none },
  { cls := 13, slots := #[.int (-101)], vm := .none },
  { cls := 13, slots := #[.int (-100)], vm := .none },
  { cls := 13, slots := #[.int (-99)], vm := .none },
  { cls := 13, slots := #[.int (-98)], vm := .none },
  { cls := 13, slots := #[.int (-97)], vm := .none },
  { cls := 13, slots := #[.int (-96)], vm := .none },
  { cls := 13, slots := #[.int (-95)], vm := .none },
  { cls := 13, slots := #[.int (-94)], vm := .none },
  { cls := 13, slots := #[.int (-93)], vm := .none },
  { cls := 13, slots := #[.int (-92)], vm := .none },
  { cls := 13, slots := #[.int (-91)], vm := .none },
  { cls := 13, slots := #[.int (-90)], vm := .none },
  { cls := 13, slots := #[.int (-89)], vm := .none },
  { cls := 13, slots := #[.int (-88)], vm := .none },
  { cls := 13, slots := #[.int (-87)], vm := .none },
  { cls := 13, slots := #[.int (-86)], vm := .none },
  { cls := 13, slots := #[.int (-85)], vm := .none },
  { cls := 13, slots := #[.int (-84)], vm := .none },
  { cls := 13, slots := #[.int (-83)], vm := .none },
  { cls := 13, slots := #[.int (-82)], vm := .none },
  { cls := 13, slots := #[.int (-81)], vm := .none },
  { cls := 13, slots := #[.int (-80)], vm := .none },
  { cls := 13, slots := #[.int (-79)], vm := .none },
  { cls := 13, slots := #[.int (-78)], vm := .none },
  { cls := 13, slots := #[.int (-77)], vm := .none },
  { cls := 13, slots := #[.int (-76)], vm := .none },
  { cls := 13, slots := #[.int (-75)], vm := .none },
  { cls := 13, slots := #[.int (-74)], vm := .none },
  { cls := 13, slots := #[.int (-73)], vm := .none },
  { cls := 13, slots := #[.int (-72)], vm := .none },
  { cls := 13, slots := #[.int (-71)], vm := .none },
  { cls := 13, slots := #[.int (-70)], vm := .none },
  { cls := 13, slots := #[.int (-69)], vm := .none },
  { cls := 13, slots := #[.int (-68)], vm := .none },
  { cls := 13, slots := #[.int (-67)], vm := .none },
  { cls := 13, slots := #[.int (-66)], vm := .none },
  { cls := 13, slots := #[.int (-65)], vm := .none },
  { cls := 13, slots := #[.int (-64)], vm := .none },
  { cls := 13, slots := #[.int (-63)], vm := .none },
  { cls := 13, slots := #[.int (-62)], vm := .none },
  { cls := 13, slots := #[.int (-61)], vm := .none },
  { cls := 13, slots := #[.int (-60)], vm := .none },
  { cls := 13, slots := #[.int (-59)], vm := .none },
  { cls := 13, slots := #[.int (-58)], vm := .none },
  { cls := 13, slots := #[.int (-57)], vm := .none },
  { cls := 13, slots := #[.int (-56)], vm := .none },
  { cls := 13, slots := #[.int (-55)], vm := .none },
  { cls := 13, slots := #[.int (-54)], vm := .none },
  { cls := 13, slots := #[.int (-53)], vm := .none },
  { cls := 13, slots := #[.int (-52)], vm := .none },
  { cls := 13, slots := #[.int (-51)], vm := .none },
  { cls := 13, slots := #[.int (-50)], vm := .none },
  { cls := 13, slots := #[.int (-49)], vm := .none },
  { cls := 13, slots := #[.int (-48)], vm := .none },
  { cls := 13, slots := #[.int (-47)], vm := .none },
  { cls := 13, slots := #[.int (-46)], vm := .none },
  { cls := 13, slots := #[.int (-45)], vm := .none },
  { cls := 13, slots := #[.int (-44)], vm := .none },
  { cls := 13, slots := #[.int (-43)], vm := .none },
  { cls := 13, slots := #[.int (-42)], vm := .none },
  { cls := 13, slots := #[.int (-41)], vm := .none },
  { cls := 13, slots := #[.int (-40)], vm := .none },
  { cls := 13, slots := #[.int (-39)], vm := .none },
  { cls := 13, slots := #[.int (-38)], vm := .none },
  { cls := 13, slots := #[.int (-37)], vm := .none },
  { cls := 13, slots := #[.int (-36)], vm := .none },
  { cls := 13, slots := #[.int (-35)], vm := .none },
  { cls := 13, slots := #[.int (-34)], vm := .none },
  { cls := 13, slots := #[.int (-33)], vm := .none },
  { cls := 13, slots := #[.int (-32)], vm := .none },
  { cls := 13, slots := #[.int (-31)], vm := .none },
  { cls := 13, slots := #[.int (-30)], vm := .none },
  { cls := 13, slots := #[.int (-29)], vm := .none },
  { cls := 13, slots := #[.int (-28)], vm := .none },
  { cls := 13, slots := #[.int (-27)], vm := .none },
  { cls := 13, slots := #[.int (-26)], vm := .none },
  { cls := 13, slots := #[.int (-25)], vm := .none },
  { cls := 13, slots := #[.int (-24)], vm := .none },
  { cls := 13, slots := #[.int (-23)], vm := .none },
  { cls := 13, slots := #[.int (-22)], vm := .none },
  { cls := 13, slots := #[.int (-21)], vm := .none },
  { cls := 13, slots := #[.int (-20)], vm := .none },
  { cls := 13, slots := #[.int (-19)], vm := .none },
  { cls := 13, slots := #[.int (-18)], vm := .none },
  { cls := 13, slots := #[.int (-17)], vm := .none },
  { cls := 13, slots := #[.int (-16)], vm := .none },
  { cls := 13, slots := #[.int (-15)], vm := .none },
  { cls := 13, slots := #[.int (-14)], vm := .none },
  { cls := 13, slots := #[.int (-13)], vm := .none },
  { cls := 13, slots := #[.int (-12)], vm := .none },
  { cls := 13, slots := #[.int (-11)], vm := .none },
  { cls := 13, slots := #[.int (-10)], vm := .none },
  { cls := 13, slots := #[.int (-9)], vm := .none },
  { cls := 13, slots := #[.int (-8)], vm := .none },
  { cls := 13, slots := #[.int (-7)], vm := .none },
  { cls := 13, slots := #[.int (-6)], vm := .none },
  { cls := 13, slots := #[.int (-5)], vm := .none },
  { cls := 13, slots := #[.int (-4)], vm := .none },
  { cls := 13, slots := #[.int (-3)], vm := .none },
  { cls := 13, slots := #[.int (-2)], vm := .none },
  { cls := 13, slots := #[.int (-1)], vm := .none },
  { cls := 13, slots := #[.int (0)], vm := .none },
  { cls := 13, slots := #[.int (1)], vm := .none },
  { cls := 13, slots := #[.int (2)], vm := .none },
  { cls := 13, slots := #[.int (3)], vm := .none },
  { cls := 13, slots := #[.int (4)], vm := .none },
  { cls := 13, slots := #[.int (5)], vm := .none },
  { cls := 13, slots := #[.int (6)], vm := .none },
  { cls := 13, slots := #[.int (7)], vm := .none },
  { cls := 13, slots := #[.int (8)], vm := .none },
  { cls := 13, slots := #[.int (9)], vm := .none },
  { cls := 13, slots := #[.int (10)], vm := .none },
  { cls := 13, slots := #[.int (11)], vm := .none },
  { cls := 13, slots := #[.int (12)], vm := .none },
  { cls := 13, slots := #[.int (13)], vm := .none },
  { cls := 13, slots := #[.int (14)], vm := .none },
  { cls := 13, slots := #[.int (15)], vm := .none },
  { cls := 13, slots := #[.int (16)], vm := .none },
  { cls := 13, slots := #[.int (17)], vm := .none },
  { cls := 13, slots := #[.int (18)], vm := .none },
  { cls := 13, slots := #[.int (19)], vm := .none },
  { cls := 13, slots := #[.int (20)], vm := .none },
  { cls := 13, slots := #[.int (21)], vm := .none },
  { cls := 13, slots := #[.int (22)], vm := .none },
  { cls := 13, slots := #[.int (23)], vm := .none },
  { cls := 13, slots := #[.int (24)], vm := .none },
  { cls := 13, slots := #[.int (25)], vm := .none },
  { cls := 13, slots := #[.int (26)], vm := .none },
  { cls := 13, slots := #[.int (27)], vm := .none },
  { cls := 13, slots := #[.int (28)], vm := .none },
  { cls := 13, slots := #[.int (29)], vm := .none },
  { cls := 13, slots := #[.int (30)], vm := .none },
  { cls := 13, slots := #[.int (31)], vm := .none },
  { cls := 13, slots := #[.int (32)], vm := .none },
  { cls := 13, slots := #[.int (33)], vm := .none },
  { cls := 13, slots := #[.int (34)], vm := .none },
  { cls := 13, slots := #[.int (35)], vm := .none },
  { cls := 13, slots := #[.int (36)], vm := .none },
  { cls := 13, slots := #[.int (37)], vm := .none },
  { cls := 13, slots := #[.int (38)], vm := .none },
  { cls := 13, slots := #[.int (39)], vm := .none },
  { cls := 13, slots := #[.int (40)], vm := .none },
  { cls := 13, slots := #[.int (41)], vm := .none },
  { cls := 13, slots := #[.int (42)], vm := .none },
  { cls := 13, slots := #[.int (43)], vm := .none },
  { cls := 13, slots := #[.int (44)], vm := .none },
  { cls := 13, slots := #[.int (45)], vm := .none },
  { cls := 13, slots := #[.int (46)], vm := .none },
  { cls := 13, slots := #[.int (47)], vm := .none },
  { cls := 13, slots := #[.int (48)], vm := .none },
  { cls := 13, slots := #[.int (49)], vm := .none },
  { cls := 13, slots := #[.int (50)], vm := .none },
  { cls := 13, slots := #[.int (51)], vm := .none },
  { cls := 13, slots := #[.int (52)], vm := .none },
  { cls := 13, slots := #[.int (53)], vm := .none },
  { cls := 13, slots := #[.int (54)], vm := .none },
  { cls := 13, slots := #[.int (55)], vm := .none },
  { cls := 13, slots := #[.int (56)], vm := .none },
  { cls := 13, slots := #[.int (57)], vm := .none },
  { cls := 13, slots := #[.int (58)], vm := .none },
  { cls := 13, slots := #[.int (59)], vm := .none },
  { cls := 13, slots := #[.int (60)], vm := .none },
  { cls := 13, slots := #[.int (61)], vm := .none },
  { cls := 13, slots := #[.int (62)], vm := .none },
  { cls := 13, slots := #[.int (63)], vm := .none },
  { cls := 13, slots := #[.int (64)], vm := .none },
  { cls := 13, slots := #[.int (65)], vm := .none },
  { cls := 13, slots := #[.int (66)], vm := .none },
  { cls := 13, slots := #[.int (67)], vm := .none },
  { cls := 13, slots := #[.int (68)], vm := .none },
  { cls := 13, slots := #[.int (69)], vm := .none },
  { cls := 13, slots := #[.int (70)], vm := .none },
  { cls := 13, slots := #[.int (71)], vm := .none },
  { cls := 13, slots := #[.int (72)], vm := .none },
  { cls := 13, slots := #[.int (73)], vm := .none },
  { cls := 13, slots := #[.int (74)], vm := .none },
  { cls := 13, slots := #[.int (75)], vm := .none },
  { cls := 13, slots := #[.int (76)], vm := .none },
  { cls := 13, slots := #[.int (77)], vm := .none },
  { cls := 13, slots := #[.int (78)], vm := .none },
  { cls := 13, slots := #[.int (79)], vm := .none },
  { cls := 13, slots := #[.int (80)], vm := .none },
  { cls := 13, slots := #[.int (81)], vm := .none },
  { cls := 13, slots := #[.int (82)], vm := .none },
  { cls := 13, slots := #[.int (83)], vm := .none },
  { cls := 13, slots := #[.int (84)], vm := .none },
  { cls := 13, slots := #[.int (85)], vm := .none },
  { cls := 13, slots := #[.int (86)], vm := .none },
  { cls := 13, slots := #[.int (87)], vm := .none },
  { cls := 13, slots := #[.int (88)], vm := .none },
  { cls := 13, slots := #[.int (89)], vm := .none },
  { cls := 13, slots := #[.int (90)], vm := .none },
  { cls := 13, slots := #[.int (91)], vm := .none },
  { cls := 13, slots := #[.int (92)], vm := .none },
  { cls := 13, slots := #[.int (93)], vm := .none },
  { cls := 13, slots := #[.int (94)], vm := .none },
  { cls := 13, slots := #[.int (95)], vm := .none },
  { cls := 13, slots := #[.int (96)], vm := .none },
  { cls := 13, slots := #[.int (97)], vm := .none },
  { cls := 13, slots := #[.int (98)], vm := .none },
  { cls := 13, slots := #[.int (99)], vm := .none },
  { cls := 13, slots := #[.int (100)], vm := .none },
  { cls := 13, slots := #[.int (101)], vm := .none },
  { cls := 13, slots := #[.int (102)], vm := .none },
  { cls := 13, slots := #[.int (103)], vm := .none },
  { cls := 13, slots := #[.int (104)], vm := .none },
  { cls := 13, slots := #[.int (105)], vm := .none },
  { cls := 13, slots := #[.int (106)], vm := .none },
  { cls := 13, slots := #[.int (107)], vm := .none },
  { cls := 13, slots := #[.int (108)], vm := .none },
  { cls := 13, slots := #[.int (109)], vm := .none },
  { cls := 13, slots := #[.int (110)], vm := .none },
  { cls := 13, slots := #[.int (111)], vm := .none },
  { cls := 13, slots := #[.int (112)], vm := .none },
  { cls := 13, slots := #[.int (113)], vm := .none },
  { cls := 13, slots := #[.int (114)], vm := .none },
  { cls := 13, slots := #[.int (115)], vm := .none },
  { cls := 13, slots := #[.int (116)], vm := .none },
  { cls := 13, slots := #[.int (117)], vm := .none },
  { cls := 13, slots := #[.int (118)], vm := .none },
  { cls := 13, slots := #[.int (119)], vm := .none },
  { cls := 13, slots := #[.int (120)], vm := .none },
  { cls := 13, slots := #[.int (121)], vm := .none },
  { cls := 13, slots := #[.int (122)], vm := .none },
  { cls := 13, slots := #[.int (123)], vm := .none },
  { cls := 13, slots := #[.int (124)], vm := .none },
  { cls := 13, slots := #[.int (125)], vm := .none },
  { cls := 13, slots := #[.int (126)], vm := .none },
  { cls := 13, slots := #[.int (127)], vm := .none }]
def classes : Array Class := #[k0, k1, k2, k3, k4, k5, k6, k7, k8, k9, k10, k11, k12, k13, k14, k15, k16, k17, k18, k19, k20, k21, k22, k23, k24]
def interned : List (Array UInt16 × Addr) := []
def slotsUsed : Nat := 527
def theMethod : MethodId := ⟨1, 6⟩
def args0 : Array Value := #[.long 5, .long 7, .int 3, .int 11, .int 0]
def aboutOver (below : List Frame) : State where
  vm := { classes := classes, interned := interned.toArray }
  heap := heap
  slotsUsed := slotsUsed
  threads := #[{ frames := .invoking theMethod args0 :: below }]
def below0 : List Frame := [.native { method := ⟨0, 0⟩, args := #[] }]
def about1 : State := aboutOver below0
def p0 : Program := .bare "" "" ""
def e0 : Env := launch0.env 0 0 0
theorem w_frames : about1.frames = Frame.invoking theMethod args0 :: below0 := rfl
set_option maxRecDepth 65536 in
theorem w_args : argsFit about1.vm theMethod args0 = true := by decide +kernel
set_option maxRecDepth 65536 in
theorem w_heap : heapFits about1 = true := by decide +kernel
set_option maxRecDepth 65536 in
theorem w_runnable : about1.curStatus? = some .runnable := by decide +kernel
set_option maxRecDepth 65536 in
theorem w_alone : about1.alone = true := by decide +kernel
set_option maxRecDepth 65536 in
theorem w_named : about1.methodNamed? x = some theMethod := by decide +kernel
set_option maxRecDepth 65536 in
theorem w_hears : about1.hears theMethod below0 = true := by decide +kernel
set_option maxRecDepth 65536 in
theorem w_ripe : about1.ripe theMethod args0 below0 = true := by decide +kernel
theorem w_running : about1.status = .running := rfl
set_option maxRecDepth 65536 in
theorem w_room : about1.hasRoom e0.platform room_1 = true :=
  launch0.hasRoom_least _ room_1 (by decide +kernel) (by decide +kernel) (by decide +kernel) (by decide +kernel) (by decide +kernel) (by decide +kernel)
theorem allAtoms_all (ts : List Jvm.Cond) (a : Array Jvm.Value) (st : Jvm.State) : (allAtoms ts).before a st = ts.all (fun c => c.before a st) := by
  induction ts with
  | nil => rfl
  | cons c t ih =>
    show (Jvm.Cond.and c (allAtoms t)).before a st = _
    rw [Jvm.Cond.before_and, ih, List.all_cons]
def words1 : List Jvm.Cond := Jvm.Cond.code x code maxLocals ret :: tables_1
/-- a 'code' word, met by the world's own term for the bytes: nothing is compared byte by byte -/
theorem code_word {y : MethodName} {bytes : ByteArray} {mx : Nat} {rt : Option FieldType} {a : Array Value} {s : State} {m : MethodId} {meth : Method} {c : Code} (h1 : s.methodNamed? y = some m) (h2 : s.vm.method? m = some meth) (h3 : meth.code = some c) (h4 : c.code = bytes)
    (h5 : (c.maxLocals == mx && c.exceptionTable.isEmpty && decide (c.maxStack ≤ mostOperands) && decide (meth.sig.returnType = rt) && !meth.locks && decide (parseMethodDescriptor y.desc = some meth.sig)) = true) : (Jvm.Cond.code y bytes mx rt).before a s = true := by
  simp only [Bool.and_eq_true, beq_iff_eq, Bool.not_eq_true', decide_eq_true_eq] at h5
  obtain ⟨⟨⟨⟨⟨g1, g2⟩, g3⟩, g4⟩, g5⟩, g6⟩ := h5
  simp [Cond.before, Cond.holds, Cond.value, h1, h2, h3, h4, g1, g2, g3, g4, g5, g6]
def isCode : Jvm.Cond → Bool
  | .code _ _ _ _ => true
  | _ => false
theorem all_split {L : List Jvm.Cond} {P : Jvm.Cond → Bool} (h1 : L.all (fun c => isCode c || P c) = true) (h2 : ∀ c ∈ L.filter isCode, P c = true) : L.all P = true := by
  refine List.all_eq_true.mpr fun c hc => ?_
  have h := List.all_eq_true.mp h1 c hc
  rcases Bool.eq_false_or_eq_true (isCode c) with hi | hi
  · exact h2 c (List.mem_filter.mpr ⟨hc, hi⟩)
  · simpa [hi] using h
set_option maxRecDepth 65536 in
theorem w_c0 : (Jvm.Cond.code x code maxLocals ret).before args0 about1 = true := code_word (m := ⟨1, 6⟩) (meth := k1m6) (c := k1c6) (by decide +kernel) rfl rfl rfl (by decide +kernel)
set_option maxRecDepth 65536 in
theorem w_c1 : (Jvm.Cond.code ({ cls := "com/example/nephila/nephila/usage/RequestEqualsPinLaw", name := "copyField", desc := "(JJIZ)J" } : Jvm.MethodName) method_6_code (8 : Nat) (Option.some Jvm.ClassFile.FieldType.long)).before args0 about1 = true := code_word (m := ⟨1, 5⟩) (meth := k1m5) (c := k1c5) (by decide +kernel) rfl rfl rfl (by decide +kernel)
set_option maxRecDepth 65536 in
theorem w_c2 : (Jvm.Cond.code ({ cls := "com/example/nephila/nephila/usage/RequestEqualsPinLaw", name := "str", desc := "(JI)Ljava/lang/String;" } : Jvm.MethodName) method_4_code (4 : Nat) (Option.some (Jvm.ClassFile.FieldType.object "java/lang/String"))).before args0 about1 = true := code_word (m := ⟨1, 3⟩) (meth := k1m3) (c := k1c3) (by decide +kernel) rfl rfl rfl (by decide +kernel)
set_option maxRecDepth 65536 in
theorem w_c3 : (Jvm.Cond.code ({ cls := "com/example/nephila/nephila/usage/RequestEqualsPinLaw", name := "len", desc := "(JI)I" } : Jvm.MethodName) method_2_code (3 : Nat) (Option.some Jvm.ClassFile.FieldType.int)).before args0 about1 = true := code_word (m := ⟨1, 1⟩) (meth := k1m1) (c := k1c1) (by decide +kernel) rfl rfl rfl (by decide +kernel)
set_option maxRecDepth 65536 in
theorem w_c4 : (Jvm.Cond.code ({ cls := "java/lang/String", name := "<init>", desc := "([C)V" } : Jvm.MethodName) jdk_42_method_3_code (2 : Nat) (Option.none : Option Jvm.ClassFile.FieldType)).before args0 about1 = true := code_word (m := ⟨8, 1⟩) (meth := k8m1) (c := k8c1) (by decide +kernel) rfl rfl rfl (by decide +kernel)
set_option maxRecDepth 65536 in
theorem w_c5 : (Jvm.Cond.code ({ cls := "java/lang/String", name := "<init>", desc := "([CIILjava/lang/Void;)V" } : Jvm.MethodName) jdk_42_method_149_code (6 : Nat) (Option.none : Option Jvm.ClassFile.FieldType)).before args0 about1 = true := code_word (m := ⟨8, 3⟩) (meth := k8m3) (c := k8c3) (by decide +kernel) rfl rfl rfl (by decide +kernel)
set_option maxRecDepth 65536 in
theorem w_c6 : (Jvm.Cond.code ({ cls := "java/lang/Object", name := "<init>", desc := "()V" } : Jvm.MethodName) object_method_1_code (1 : Nat) (Option.none : Option Jvm.ClassFile.FieldType)).before args0 about1 = true := code_word (m := ⟨0, 0⟩) (meth := k0m0) (c := k0c0) (by decide +kernel) rfl rfl rfl (by decide +kernel)
set_option maxRecDepth 65536 in
theorem w_c7 : (Jvm.Cond.code ({ cls := "com/example/nephila/nephila/usage/Request", name := "<init>", desc := "(Ljava/lang/String;Ljava/lang/String;ILjava/lang/String;)V" } : Jvm.MethodName) prog_65_method_1_code (5 : Nat) (Option.none : Option Jvm.ClassFile.FieldType)).before args0 about1 = true := code_word (m := ⟨2, 0⟩) (meth := k2m0) (c := k2c0) (by decide +kernel) rfl rfl rfl (by decide +kernel)
set_option maxRecDepth 65536 in
theorem w_c8 : (Jvm.Cond.code ({ cls := "java/util/Objects", name := "requireNonNull", desc := "(Ljava/lang/Object;Ljava/lang/String;)Ljava/lang/Object;" } : Jvm.MethodName) jdk_31_method_11_code (2 : Nat) (Option.some (Jvm.ClassFile.FieldType.object "java/lang/Object"))).before args0 about1 = true := code_word (m := ⟨9, 1⟩) (meth := k9m1) (c := k9c1) (by decide +kernel) rfl rfl rfl (by decide +kernel)
set_option maxRecDepth 65536 in
theorem w_c9 : (Jvm.Cond.code ({ cls := "com/example/nephila/nephila/usage/RequestEqualsPinLaw", name := "ch", desc := "(JII)C" } : Jvm.MethodName) method_3_code (4 : Nat) (Option.some Jvm.ClassFile.FieldType.char)).before args0 about1 = true := code_word (m := ⟨1, 2⟩) (meth := k1m2) (c := k1c2) (by decide +kernel) rfl rfl rfl (by decide +kernel)
set_option maxRecDepth 65536 in
theorem w_c10 : (Jvm.Cond.code ({ cls := "java/lang/StringUTF16", name := "compress", desc := "([CII)[B" } : Jvm.MethodName) jdk_52_method_16_code (6 : Nat) (Option.some (Jvm.ClassFile.FieldType.array Jvm.ClassFile.FieldType.byte))).before args0 about1 = true := code_word (m := ⟨10, 2⟩) (meth := k10m2) (c := k10c2) (by decide +kernel) rfl rfl rfl (by decide +kernel)
set_option maxRecDepth 65536 in
theorem w_c11 : (Jvm.Cond.code ({ cls := "java/lang/StringUTF16", name := "compress", desc := "([CI[BII)I" } : Jvm.MethodName) jdk_52_method_21_code (7 : Nat) (Option.some Jvm.ClassFile.FieldType.int)).before args0 about1 = true := code_word (m := ⟨10, 3⟩) (meth := k10m3) (c := k10c3) (by decide +kernel) rfl rfl rfl (by decide +kernel)
set_option maxRecDepth 65536 in
theorem w_c12 : (Jvm.Cond.code ({ cls := "java/lang/StringUTF16", name := "coderFromArrayLen", desc := "([BI)B" } : Jvm.MethodName) jdk_52_method_15_code (2 : Nat) (Option.some Jvm.ClassFile.FieldType.byte)).before args0 about1 = true := code_word (m := ⟨10, 1⟩) (meth := k10m1) (c := k10c1) (by decide +kernel) rfl rfl rfl (by decide +kernel)
set_option maxRecDepth 65536 in
theorem w_c13 : (Jvm.Cond.code ({ cls := "com/example/nephila/nephila/usage/RequestEqualsPinLaw", name := "same", desc := "(JJI)Z" } : Jvm.MethodName) method_5_code (6 : Nat) (Option.some Jvm.ClassFile.FieldType.boolean)).before args0 about1 = true := code_word (m := ⟨1, 4⟩) (meth := k1m4) (c := k1c4) (by decide +kernel) rfl rfl rfl (by decide +kernel)
set_option maxRecDepth 65536 in
theorem w_c14 : (Jvm.Cond.code ({ cls := "com/example/nephila/nephila/usage/Request", name := "equals", desc := "(Ljava/lang/Object;)Z" } : Jvm.MethodName) prog_65_method_6_code (3 : Nat) (Option.some Jvm.ClassFile.FieldType.boolean)).before args0 about1 = true := code_word (m := ⟨2, 1⟩) (meth := k2m1) (c := k2c1) (by decide +kernel) rfl rfl rfl (by decide +kernel)
set_option maxRecDepth 65536 in
theorem w_c15 : (Jvm.Cond.code ({ cls := "java/lang/String", name := "equals", desc := "(Ljava/lang/Object;)Z" } : Jvm.MethodName) jdk_42_method_66_code (3 : Nat) (Option.some Jvm.ClassFile.FieldType.boolean)).before args0 about1 = true := code_word (m := ⟨8, 2⟩) (meth := k8m2) (c := k8c2) (by decide +kernel) rfl rfl rfl (by decide +kernel)
set_option maxRecDepth 65536 in
theorem w_c16 : (Jvm.Cond.code ({ cls := "java/lang/StringLatin1", name := "equals", desc := "([B[B)Z" } : Jvm.MethodName) jdk_43_method_13_code (3 : Nat) (Option.some Jvm.ClassFile.FieldType.boolean)).before args0 about1 = true := code_word (m := ⟨11, 1⟩) (meth := k11m1) (c := k11c1) (by decide +kernel) rfl rfl rfl (by decide +kernel)
set_option maxRecDepth 65536 in
theorem w_c17 : (Jvm.Cond.code ({ cls := "java/lang/Integer", name := "valueOf", desc := "(I)Ljava/lang/Integer;" } : Jvm.MethodName) jdk_33_method_22_code (1 : Nat) (Option.some (Jvm.ClassFile.FieldType.object "java/lang/Integer"))).before args0 about1 = true := code_word (m := ⟨13, 0⟩) (meth := k13m0) (c := k13c0) (by decide +kernel) rfl rfl rfl (by decide +kernel)
set_option maxRecDepth 65536 in
theorem w_c18 : (Jvm.Cond.code ({ cls := "java/lang/Integer", name := "<init>", desc := "(I)V" } : Jvm.MethodName) jdk_33_method_23_code (2 : Nat) (Option.none : Option Jvm.ClassFile.FieldType)).before args0 about1 = true := code_word (m := ⟨13, 1⟩) (meth := k13m1) (c := k13c1) (by decide +kernel) rfl rfl rfl (by decide +kernel)
set_option maxRecDepth 65536 in
theorem w_c19 : (Jvm.Cond.code ({ cls := "java/lang/Number", name := "<init>", desc := "()V" } : Jvm.MethodName) jdk_18_method_1_code (1 : Nat) (Option.none : Option Jvm.ClassFile.FieldType)).before args0 about1 = true := code_word (m := ⟨12, 0⟩) (meth := k12m0) (c := k12c0) (by decide +kernel) rfl rfl rfl (by decide +kernel)
def codes1 : List Jvm.Cond := [Jvm.Cond.code x code maxLocals ret, Jvm.Cond.code ({ cls := "com/example/nephila/nephila/usage/RequestEqualsPinLaw", name := "copyField", desc := "(JJIZ)J" } : Jvm.MethodName) method_6_code (8 : Nat) (Option.some Jvm.ClassFile.FieldType.long), Jvm.Cond.code ({ cls := "com/example/nephila/nephila/usage/RequestEqualsPinLaw", name := "str", desc := "(JI)Ljava/lang/String;" } : Jvm.MethodName) method_4_code (4 : Nat) (Option.some (Jvm.ClassFile.FieldType.object "java/lang/String")), Jvm.Cond.code ({ cls := "com/example/nephila/nephila/usage/RequestEqualsPinLaw", name := "len", desc := "(JI)I" } : Jvm.MethodName) method_2_code (3 : Nat) (Option.some Jvm.ClassFile.FieldType.int), Jvm.Cond.code ({ cls := "java/lang/String", name := "<init>", desc := "([C)V" } : Jvm.MethodName) jdk_42_method_3_code (2 : Nat) (Option.none : Option Jvm.ClassFile.FieldType), Jvm.Cond.code ({ cls := "java/lang/String", name := "<init>", desc := "([CIILjava/lang/Void;)V" } : Jvm.MethodName) jdk_42_method_149_code (6 : Nat) (Option.none : Option Jvm.ClassFile.FieldType), Jvm.Cond.code ({ cls := "java/lang/Object", name := "<init>", desc := "()V" } : Jvm.MethodName) object_method_1_code (1 : Nat) (Option.none : Option Jvm.ClassFile.FieldType), Jvm.Cond.code ({ cls := "com/example/nephila/nephila/usage/Request", name := "<init>", desc := "(Ljava/lang/String;Ljava/lang/String;ILjava/lang/String;)V" } : Jvm.MethodName) prog_65_method_1_code (5 : Nat) (Option.none : Option Jvm.ClassFile.FieldType), Jvm.Cond.code ({ cls := "java/util/Objects", name := "requireNonNull", desc := "(Ljava/lang/Object;Ljava/lang/String;)Ljava/lang/Object;" } : Jvm.MethodName) jdk_31_method_11_code (2 : Nat) (Option.some (Jvm.ClassFile.FieldType.object "java/lang/Object")), Jvm.Cond.code ({ cls := "com/example/nephila/nephila/usage/RequestEqualsPinLaw", name := "ch", desc := "(JII)C" } : Jvm.MethodName) method_3_code (4 : Nat) (Option.some Jvm.ClassFile.FieldType.char), Jvm.Cond.code ({ cls := "java/lang/StringUTF16", name := "compress", desc := "([CII)[B" } : Jvm.MethodName) jdk_52_method_16_code (6 : Nat) (Option.some (Jvm.ClassFile.FieldType.array Jvm.ClassFile.FieldType.byte)), Jvm.Cond.code ({ cls := "java/lang/StringUTF16", name := "compress", desc := "([CI[BII)I" } : Jvm.MethodName) jdk_52_method_21_code (7 : Nat) (Option.some Jvm.ClassFile.FieldType.int), Jvm.Cond.code ({ cls := "java/lang/StringUTF16", name := "coderFromArrayLen", desc := "([BI)B" } : Jvm.MethodName) jdk_52_method_15_code (2 : Nat) (Option.some Jvm.ClassFile.FieldType.byte), Jvm.Cond.code ({ cls := "com/example/nephila/nephila/usage/RequestEqualsPinLaw", name := "same", desc := "(JJI)Z" } : Jvm.MethodName) method_5_code (6 : Nat) (Option.some Jvm.ClassFile.FieldType.boolean), Jvm.Cond.code ({ cls := "com/example/nephila/nephila/usage/Request", name := "equals", desc := "(Ljava/lang/Object;)Z" } : Jvm.MethodName) prog_65_method_6_code (3 : Nat) (Option.some Jvm.ClassFile.FieldType.boolean), Jvm.Cond.code ({ cls := "java/lang/String", name := "equals", desc := "(Ljava/lang/Object;)Z" } : Jvm.MethodName) jdk_42_method_66_code (3 : Nat) (Option.some Jvm.ClassFile.FieldType.boolean), Jvm.Cond.code ({ cls := "java/lang/StringLatin1", name := "equals", desc := "([B[B)Z" } : Jvm.MethodName) jdk_43_method_13_code (3 : Nat) (Option.some Jvm.ClassFile.FieldType.boolean), Jvm.Cond.code ({ cls := "java/lang/Integer", name := "valueOf", desc := "(I)Ljava/lang/Integer;" } : Jvm.MethodName) jdk_33_method_22_code (1 : Nat) (Option.some (Jvm.ClassFile.FieldType.object "java/lang/Integer")), Jvm.Cond.code ({ cls := "java/lang/Integer", name := "<init>", desc := "(I)V" } : Jvm.MethodName) jdk_33_method_23_code (2 : Nat) (Option.none : Option Jvm.ClassFile.FieldType), Jvm.Cond.code ({ cls := "java/lang/Number", name := "<init>", desc := "()V" } : Jvm.MethodName) jdk_18_method_1_code (1 : Nat) (Option.none : Option Jvm.ClassFile.FieldType)]
set_option maxRecDepth 65536 in
theorem codes_eq : words1.filter isCode = codes1 := rfl
theorem w_codes : ∀ c ∈ words1.filter isCode, c.before args0 about1 = true := by
  rw [codes_eq]
  intro c hc
  simp only [codes1, List.mem_cons, List.not_mem_nil, or_false] at hc
  rcases hc with rfl | rfl | rfl | rfl | rfl | rfl | rfl | rfl | rfl | rfl | rfl | rfl | rfl | rfl | rfl | rfl | rfl | rfl | rfl | rfl
  · exact w_c0
  · exact w_c1
  · exact w_c2
  · exact w_c3
  · exact w_c4
  · exact w_c5
  · exact w_c6
  · exact w_c7
  · exact w_c8
  · exact w_c9
  · exact w_c10
  · exact w_c11
  · exact w_c12
  · exact w_c13
  · exact w_c14
  · exact w_c15
  · exact w_c16
  · exact w_c17
  · exact w_c18
  · exact w_c19
set_option maxRecDepth 65536 in
theorem w_t1 : (words1.take 24).all (fun c => isCode c || c.before args0 about1) = true := by decide +kernel
set_option maxRecDepth 65536 in
theorem w_t2 : ((words1.drop 24).take 24).all (fun c => isCode c || c.before args0 about1) = true := by decide +kernel
set_option maxRecDepth 65536 in
theorem w_t3 : (((words1.drop 24).drop 24).take 24).all (fun c => isCode c || c.before args0 about1) = true := by decide +kernel
set_option maxRecDepth 65536 in
theorem w_t4 : ((((words1.drop 24).drop 24).drop 24).take 24).all (fun c => isCode c || c.before args0 about1) = true := by decide +kernel
set_option maxRecDepth 65536 in
theorem w_t5 : ((((words1.drop 24).drop 24).drop 24).drop 24).all (fun c => isCode c || c.before args0 about1) = true := by decide +kernel
theorem w_tables : (allAtoms (Jvm.Cond.code x code maxLocals ret :: tables_1)).before args0 about1 = true := by
  rw [allAtoms_all]
  show words1.all (fun c => c.before args0 about1) = true
  refine all_split ?_ w_codes
  rw [← List.take_append_drop 24 words1, List.all_append, w_t1, ← List.take_append_drop 24 (words1.drop 24), List.all_append, w_t2, ← List.take_append_drop 24 ((words1.drop 24).drop 24), List.all_append, w_t3, ← List.take_append_drop 24 (((words1.drop 24).drop 24).drop 24), List.all_append, w_t4, w_t5]
  rfl
set_option maxRecDepth 65536 in
theorem w_rest : rest_1_c.before args0 about1 = true := by decide +kernel
set_option maxRecDepth 65536 in
theorem w_case : (Jvm.Cond.and given_1 narrow_1).before args0 about1 = true := by decide +kernel
set_option maxRecDepth 65536 in
theorem w_consts : constsHeld consts_1 about1 := Jvm.Lit.constsHeldB_iff.mp (by decide +kernel)
theorem w_applies : (headSpec (Jvm.Cond.code x code maxLocals ret :: tables_1) room_1).applies x e0.platform about1 = true :=
  (Spec.applies_iff w_frames).mpr ⟨w_running, w_runnable, w_alone, w_named, w_hears, w_ripe, w_room, w_tables⟩
theorem atStart : AtStart classFile x code maxLocals ret World_1 tables_1 room_1 Calls_1 rest_1 Pre_1 launch0 p0 e0 about1 theMethod args0 below0 :=
  ⟨lists_1, trivial, launch0.admits_env _ _ _, launch0.least_env, fairChoices_fair.cas, fairChoices_fair.clock, w_frames, w_args, w_heap, w_applies, ⟨w_consts, trivial⟩, w_rest, w_case⟩
end start1
theorem witness_1 : WitnessClaimed_1 := ⟨start1.p0, start1.e0, start1.about1, start1.theMethod, start1.args0, start1.below0, start1.atStart⟩
end Jvm.Pilot.@@N@@
