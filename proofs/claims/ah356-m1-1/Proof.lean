import JvmDerived
import JvmDerived.Pilot.@@N@@Statement
import JvmDerived.Pilot.@@N@@Code
set_option linter.unusedVariables false
set_option linter.unusedSimpArgs false
namespace Jvm.Pilot.@@N@@
open Jvm Jvm.ClassFile Sem Op Lib Jvm.Free Jvm.Stand Jvm.LawKit Jvm.RoadKit Bundle Jvm.Free.Fl Jvm.Pilot.@@N@@.Jvm.D

/-- small naturals as ints -/
theorem own_lt {i n : Nat} (h : i < n) (hn : n ≤ 4) : Int32.ofNat i < Int32.ofNat n := by
  rw [Int32.lt_iff_toInt_lt, Int32.toInt_ofNat_of_lt (by omega), Int32.toInt_ofNat_of_lt (by omega)]
  omega
theorem own_nn {n : Nat} (hn : n ≤ 4) : ¬ Int32.ofNat n < 0 := by
  rw [Int32.lt_iff_toInt_lt, Int32.toInt_ofNat_of_lt (by omega), show (0 : Int32).toInt = 0 from rfl]
  omega
theorem own_n32 {n : Nat} (hn : n ≤ 4) : (Int32.ofNat n).toNatClampNeg = n := by
  rw [Int32.toNatClampNeg, Int32.toInt_ofNat_of_lt (by omega)]; rfl
theorem own_one (i : Nat) : Int32.ofNat i + (1 : Int32) = Int32.ofNat (i + 1) := (Int32.ofNat_add i 1).symm
/-- the partial sums, as longs -/
def own_ps (f : Nat → Int64) : Nat → Int64
  | 0 => 0
  | i + 1 => own_ps f i + f i
def own_vals (f : Nat → Int64) (n : Nat) : List Value := (List.range n).map fun j => .double (FP.l2d (f j))
theorem own_at (f : Nat → Int64) {n j : Nat} (h : j < n) (d : Value) : (own_vals f n).getD j d = .double (FP.l2d (f j)) := by simp [own_vals, List.getD_eq_getElem?_getD, h]
def own_small (f : Nat → Int64) : Prop := ∀ j, -2147483648 ≤ (f j).toInt ∧ (f j).toInt < 2147483648
theorem own_fb {f : Nat → Int64} (hf : own_small f) (j : Nat) : B53 (f j) := by have := hf j; constructor <;> omega
theorem own_pr {f : Nat → Int64} (hf : own_small f) : ∀ i : Nat, i ≤ 4 → -2147483648 * (i : Int) ≤ (own_ps f i).toInt ∧ (own_ps f i).toInt ≤ 2147483648 * (i : Int)
  | 0, _ => by simp [own_ps]
  | i + 1, h => by
    obtain ⟨h1, h2⟩ := own_pr hf i (by omega)
    have h3 := hf i
    have hb : B53 (own_ps f i) := by constructor <;> omega
    show -2147483648 * ((i + 1 : Nat) : Int) ≤ (own_ps f i + f i).toInt ∧ (own_ps f i + f i).toInt ≤ 2147483648 * ((i + 1 : Nat) : Int)
    rw [add64 hb (own_fb hf i)]
    omega
theorem own_pb {f : Nat → Int64} (hf : own_small f) {i : Nat} (h : i ≤ 4) : B53 (own_ps f i) := by
  obtain ⟨h1, h2⟩ := own_pr hf i h
  constructor <;> omega
theorem d1_0 : decode prog_57_method_6_code 0 = .ok (.dconst 0, 1) := by decide +kernel
theorem d1_1 : decode prog_57_method_6_code 1 = .ok (.dstore_n 1, 1) := by decide +kernel
theorem d1_2 : decode prog_57_method_6_code 2 = .ok (.aload_n 0, 1) := by decide +kernel
theorem d1_3 : decode prog_57_method_6_code 3 = .ok (.astore_n 3, 1) := by decide +kernel
theorem d1_4 : decode prog_57_method_6_code 4 = .ok (.aload_n 3, 1) := by decide +kernel
theorem d1_5 : decode prog_57_method_6_code 5 = .ok (.arraylength, 1) := by decide +kernel
theorem d1_6 : decode prog_57_method_6_code 6 = .ok (.istore 4, 2) := by decide +kernel
theorem d1_8 : decode prog_57_method_6_code 8 = .ok (.iconst 0, 1) := by decide +kernel
theorem d1_9 : decode prog_57_method_6_code 9 = .ok (.istore 5, 2) := by decide +kernel
theorem d1_11 : decode prog_57_method_6_code 11 = .ok (.iload 5, 2) := by decide +kernel
theorem d1_13 : decode prog_57_method_6_code 13 = .ok (.iload 4, 2) := by decide +kernel
theorem d1_15 : decode prog_57_method_6_code 15 = .ok (.if_icmp .ge 20, 3) := by decide +kernel
theorem d1_18 : decode prog_57_method_6_code 18 = .ok (.aload_n 3, 1) := by decide +kernel
theorem d1_19 : decode prog_57_method_6_code 19 = .ok (.iload 5, 2) := by decide +kernel
theorem d1_21 : decode prog_57_method_6_code 21 = .ok (.daload, 1) := by decide +kernel
theorem d1_22 : decode prog_57_method_6_code 22 = .ok (.dstore 6, 2) := by decide +kernel
theorem d1_24 : decode prog_57_method_6_code 24 = .ok (.dload_n 1, 1) := by decide +kernel
theorem d1_25 : decode prog_57_method_6_code 25 = .ok (.dload 6, 2) := by decide +kernel
theorem d1_27 : decode prog_57_method_6_code 27 = .ok (.dadd, 1) := by decide +kernel
theorem d1_28 : decode prog_57_method_6_code 28 = .ok (.dstore_n 1, 1) := by decide +kernel
theorem d1_29 : decode prog_57_method_6_code 29 = .ok (.iinc 5 1, 3) := by decide +kernel
theorem d1_32 : decode prog_57_method_6_code 32 = .ok (.goto (-21), 3) := by decide +kernel
theorem d1_35 : decode prog_57_method_6_code 35 = .ok (.dload_n 1, 1) := by decide +kernel
theorem d1_36 : decode prog_57_method_6_code 36 = .ok (.dreturn, 1) := by decide +kernel
theorem pn_1 : plainName "com/example/nephila/nephila/rank/Runs" = true := by first | (simp [plainName, overriddenIn]; done) | decide +kernel
theorem pn_0 : plainName "com/example/nephila/nephila/rank/RunsSumPinLaw" = true := by first | (simp [plainName, overriddenIn]; done) | decide +kernel
theorem ef_1 (m : MethodId) (x0 : Addr) : entryFrame m #[(.ref x0)] 8 = mkF m 0 #[.val (.ref x0), .unset, .unset, .unset, .unset, .unset, .unset, .unset] [] := by first | (simp [entryFrame, mkF, argsToLocals, Value.category, maxLocals]; done) | rfl
theorem ef_0 (m : MethodId) (x0 : Int32) (x1 : Int32) (x2 : Int32) (x3 : Int32) (x4 : Int32) : entryFrame m #[(.int x0), (.int x1), (.int x2), (.int x3), (.int x4)] maxLocals = mkF m 0 #[.val (.int x0), .val (.int x1), .val (.int x2), .val (.int x3), .val (.int x4), .unset, .unset, .unset, .unset, .unset, .unset] [] := by first | (simp [entryFrame, mkF, argsToLocals, Value.category, maxLocals]; done) | rfl
theorem pd1 : parseMethodDescriptor "([D)D" = some ⟨[(.array .double)], some .double⟩ := by decide +kernel
set_option maxRecDepth 65536 in
set_option maxHeartbeats 40000000 in
theorem own_turn {p : Program} {l : Launch} {e : Env} {s : State} {m : MethodId} {args : Array Value} {below : List Frame} {meth : Method} {c : Code} {R : Room} {T0 : State} {locs : List Loc} {cells slots : Nat} {Z : State} {h0 : Heap} (o0 : Addr) (cl : Cell) (N i5 : Int32) (S w : Int64) (s6 s7 : Slot)
    (X0 : Stand p l e R s m args below meth c T0 locs cells slots) (hx : p.tables.exec = Jvm.exec) (hZ : Z.Warmed39 s.vm) (hby : c.code = prog_57_method_6_code) (e0 : T0.heap = h0) (Ar : Arr Z h0 o0 cl .double) (Sz : cl.slots.size = N.toNatClampNeg) (hc15 : i5 < N) (hin : ¬ (i5 < 0 ∨ cl.slots.size ≤ i5.toNatClampNeg)) (hat : cl.slots[i5.toNatClampNeg]? = some (.double (FP.l2d w))) (hS : B53 S) (hw1 : B53 w)
    (hs67 : ∀ (S : Int64) (N i5 : Int32) (w : UInt64), storeLocals #[.val (.ref o0), .val (.double (FP.l2d S)), .second, .val (.ref o0), .val (.int N), .val (.int i5), s6, s7] 6 (.double w) = some #[.val (.ref o0), .val (.double (FP.l2d S)), .second, .val (.ref o0), .val (.int N), .val (.int i5), .val (.double w), .second]) :
    ∀ target, Steps p.tables e below (T0.setTop (mkF m 11 #[.val (.ref o0), .val (.double (FP.l2d (S + w))), .second, .val (.ref o0), .val (.int N), .val (.int (i5 + (1 : Int32))), .val (.double (FP.l2d w)), .second] [])) target → Steps p.tables e below (T0.setTop (mkF m 11 #[.val (.ref o0), .val (.double (FP.l2d S)), .second, .val (.ref o0), .val (.int N), .val (.int i5), s6, s7] [])) target := by
  intro target kt
  show Steps p.tables e below (T0.setTop (mkF m 11 #[.val (.ref o0), .val (.double (FP.l2d S)), .second, .val (.ref o0), .val (.int N), .val (.int i5), s6, s7] [])) _
  refine XS.iload X0.here hx rfl (hb hby d1_11) rfl ?_
  show Steps p.tables e below (T0.setTop (mkF m 13 #[.val (.ref o0), .val (.double (FP.l2d S)), .second, .val (.ref o0), .val (.int N), .val (.int i5), s6, s7] [(.int i5)])) _
  refine XS.iload X0.here hx rfl (hb hby d1_13) rfl ?_
  show Steps p.tables e below (T0.setTop (mkF m 15 #[.val (.ref o0), .val (.double (FP.l2d S)), .second, .val (.ref o0), .val (.int N), .val (.int i5), s6, s7] [(.int N), (.int i5)])) _
  refine XS.icmpNo X0.here hx rfl (hb hby d1_15) rfl (tlt hc15).2.1 ?_
  show Steps p.tables e below (T0.setTop (mkF m 18 #[.val (.ref o0), .val (.double (FP.l2d S)), .second, .val (.ref o0), .val (.int N), .val (.int i5), s6, s7] [])) _
  refine XS.aloadN X0.here hx rfl (hb hby d1_18) rfl rfl ?_
  show Steps p.tables e below (T0.setTop (mkF m 19 #[.val (.ref o0), .val (.double (FP.l2d S)), .second, .val (.ref o0), .val (.int N), .val (.int i5), s6, s7] [(.ref o0)])) _
  refine XS.iload X0.here hx rfl (hb hby d1_19) rfl ?_
  show Steps p.tables e below (T0.setTop (mkF m 21 #[.val (.ref o0), .val (.double (FP.l2d S)), .second, .val (.ref o0), .val (.int N), .val (.int i5), s6, s7] [(.int i5), (.ref o0)])) _
  refine X0.daload hx (j := i5) (v := (.double (FP.l2d w))) (by rw [e0]; exact Ar.1) (State.isArrayOf_alike hZ.alike Ar.2.1) Ar.2.2 hin hat (g := (mkF m 21 #[.val (.ref o0), .val (.double (FP.l2d S)), .second, .val (.ref o0), .val (.int N), .val (.int i5), s6, s7] [(.int i5), (.ref o0)])) rfl rfl (hb hby d1_21) _ ?_
  show Steps p.tables e below (T0.setTop (mkF m 22 #[.val (.ref o0), .val (.double (FP.l2d S)), .second, .val (.ref o0), .val (.int N), .val (.int i5), s6, s7] [(.double (FP.l2d w))])) _
  refine XS.dstore X0.here hx rfl (hb hby d1_22) rfl (l' := #[.val (.ref o0), .val (.double (FP.l2d S)), .second, .val (.ref o0), .val (.int N), .val (.int i5), .val (.double (FP.l2d w)), .second]) (hs67 _ _ _ _) ?_
  show Steps p.tables e below (T0.setTop (mkF m 24 #[.val (.ref o0), .val (.double (FP.l2d S)), .second, .val (.ref o0), .val (.int N), .val (.int i5), .val (.double (FP.l2d w)), .second] [])) _
  refine XS.dloadN X0.here hx rfl (hb hby d1_24) rfl ?_
  show Steps p.tables e below (T0.setTop (mkF m 25 #[.val (.ref o0), .val (.double (FP.l2d S)), .second, .val (.ref o0), .val (.int N), .val (.int i5), .val (.double (FP.l2d w)), .second] [(.double (FP.l2d S))])) _
  refine XS.dload X0.here hx rfl (hb hby d1_25) rfl ?_
  show Steps p.tables e below (T0.setTop (mkF m 27 #[.val (.ref o0), .val (.double (FP.l2d S)), .second, .val (.ref o0), .val (.int N), .val (.int i5), .val (.double (FP.l2d w)), .second] [(.double (FP.l2d w)), (.double (FP.l2d S))])) _
  refine XS.daddS X0.here hx rfl (hb hby d1_27) rfl (nn_w (dadd_w hS hw1)) (dadd_w hS hw1) ?_
  show Steps p.tables e below (T0.setTop (mkF m 28 #[.val (.ref o0), .val (.double (FP.l2d S)), .second, .val (.ref o0), .val (.int N), .val (.int i5), .val (.double (FP.l2d w)), .second] [(.double (FP.l2d (S + w)))])) _
  refine XS.dstoreN X0.here hx rfl (hb hby d1_28) rfl (l' := #[.val (.ref o0), .val (.double (FP.l2d (S + w))), .second, .val (.ref o0), .val (.int N), .val (.int i5), .val (.double (FP.l2d w)), .second]) rfl ?_
  show Steps p.tables e below (T0.setTop (mkF m 29 #[.val (.ref o0), .val (.double (FP.l2d (S + w))), .second, .val (.ref o0), .val (.int N), .val (.int i5), .val (.double (FP.l2d w)), .second] [])) _
  refine XS.iinc X0.here hx rfl (hb hby d1_29) rfl (l' := #[.val (.ref o0), .val (.double (FP.l2d (S + w))), .second, .val (.ref o0), .val (.int N), .val (.int (i5 + (1 : Int32))), .val (.double (FP.l2d w)), .second]) rfl ?_
  show Steps p.tables e below (T0.setTop (mkF m 32 #[.val (.ref o0), .val (.double (FP.l2d (S + w))), .second, .val (.ref o0), .val (.int N), .val (.int (i5 + (1 : Int32))), .val (.double (FP.l2d w)), .second] [])) _
  refine XS.goto X0.here hx rfl (pc0 := 32) (pc' := 11) rfl (hb hby d1_32) (by decide) (by decide) ?_
  exact kt
set_option maxRecDepth 65536 in
set_option maxHeartbeats 40000000 in
theorem own_out {p : Program} {l : Launch} {e : Env} {s : State} {m : MethodId} {args : Array Value} {below : List Frame} {meth : Method} {c : Code} {R : Room} {T0 : State} {locs : List Loc} {cells slots : Nat} (o0 : Addr) (N i5 : Int32) (S : Int64) (s6 s7 : Slot)
    (X0 : Stand p l e R s m args below meth c T0 locs cells slots) (hx : p.tables.exec = Jvm.exec) (hby : c.code = prog_57_method_6_code) (hc15 : ¬ (i5 < N)) :
    ∀ target, Steps p.tables e below (T0.setTop (mkF m 35 #[.val (.ref o0), .val (.double (FP.l2d S)), .second, .val (.ref o0), .val (.int N), .val (.int i5), s6, s7] [])) target → Steps p.tables e below (T0.setTop (mkF m 11 #[.val (.ref o0), .val (.double (FP.l2d S)), .second, .val (.ref o0), .val (.int N), .val (.int i5), s6, s7] [])) target := by
  intro target kt
  show Steps p.tables e below (T0.setTop (mkF m 11 #[.val (.ref o0), .val (.double (FP.l2d S)), .second, .val (.ref o0), .val (.int N), .val (.int i5), s6, s7] [])) _
  refine XS.iload X0.here hx rfl (hb hby d1_11) rfl ?_
  show Steps p.tables e below (T0.setTop (mkF m 13 #[.val (.ref o0), .val (.double (FP.l2d S)), .second, .val (.ref o0), .val (.int N), .val (.int i5), s6, s7] [(.int i5)])) _
  refine XS.iload X0.here hx rfl (hb hby d1_13) rfl ?_
  show Steps p.tables e below (T0.setTop (mkF m 15 #[.val (.ref o0), .val (.double (FP.l2d S)), .second, .val (.ref o0), .val (.int N), .val (.int i5), s6, s7] [(.int N), (.int i5)])) _
  refine XS.icmpYes X0.here hx rfl (pc0 := 15) (pc' := 35) rfl (hb hby d1_15) rfl (flt hc15).2.1 (by decide) (by decide) ?_
  exact kt
/-- the loop, whole -/
theorem own_loop {p : Program} {l : Launch} {e : Env} {s : State} {m : MethodId} {args : Array Value} {below : List Frame} {meth : Method} {c : Code} {R : Room} {T0 : State} {locs : List Loc} {cells slots : Nat} {Z : State} {h0 : Heap} (o0 : Addr) (cl : Cell) (f : Nat → Int64) (n : Nat) (hn : n ≤ 4) (hf : own_small f)
    (X0 : Stand p l e R s m args below meth c T0 locs cells slots) (hx : p.tables.exec = Jvm.exec) (hZ : Z.Warmed39 s.vm) (hby : c.code = prog_57_method_6_code) (e0 : T0.heap = h0) (Ar : Arr Z h0 o0 cl .double) (Sz : cl.slots.size = (Int32.ofNat n).toNatClampNeg) (hat : ∀ j, j < n → cl.slots[j]? = some (.double (FP.l2d (f j)))) :
    ∀ (k i : Nat) (s6 s7 : Slot), i + k = n → (∀ (S : Int64) (N i5 : Int32) (w : UInt64), storeLocals #[.val (.ref o0), .val (.double (FP.l2d S)), .second, .val (.ref o0), .val (.int N), .val (.int i5), s6, s7] 6 (.double w) = some #[.val (.ref o0), .val (.double (FP.l2d S)), .second, .val (.ref o0), .val (.int N), .val (.int i5), .val (.double w), .second]) →
      ∃ t6 t7 : Slot, ∀ target, Steps p.tables e below (T0.setTop (mkF m 35 #[.val (.ref o0), .val (.double (FP.l2d (own_ps f n))), .second, .val (.ref o0), .val (.int (Int32.ofNat n)), .val (.int (Int32.ofNat n)), t6, t7] [])) target → Steps p.tables e below (T0.setTop (mkF m 11 #[.val (.ref o0), .val (.double (FP.l2d (own_ps f i))), .second, .val (.ref o0), .val (.int (Int32.ofNat n)), .val (.int (Int32.ofNat i)), s6, s7] [])) target := by
  intro k
  induction k with
  | zero =>
    intro i s6 s7 hi hs
    obtain rfl : i = n := by omega
    exact ⟨s6, s7, own_out o0 (Int32.ofNat i) (Int32.ofNat i) (own_ps f i) s6 s7 X0 hx hby Int32.lt_irrefl⟩
  | succ k ih =>
    intro i s6 s7 hi hs
    obtain ⟨t6, t7, st⟩ := ih (i + 1) (.val (.double (FP.l2d (f i)))) .second (by omega) (fun _ _ _ _ => rfl)
    refine ⟨t6, t7, fun target kt => ?_⟩
    have q := st target kt
    rw [← own_one] at q
    exact own_turn o0 cl (Int32.ofNat n) (Int32.ofNat i) (own_ps f i) (f i) s6 s7 X0 hx hZ hby e0 Ar Sz (own_lt (by omega) hn) (by rw [Sz, own_n32 hn, own_n32 (by omega)]; exact fun q => q.elim (own_nn (by omega)) (fun q => by omega)) (by rw [own_n32 (by omega)]; exact hat i (by omega)) (own_pb hf (by omega)) (own_fb hf i) hs target q
def Q1 (Z : State) (a1 : Addr) (f : Nat → Int64) (n : Nat) (h0 : Heap) (n0 : Nat) (v : Option Value) (h : Heap) (L : List Loc) : Prop := v = some (.double (FP.l2d (own_ps f n))) ∧ Fr n0 L ∧ h = h0
set_option maxRecDepth 65536 in
set_option maxHeartbeats 40000000 in
theorem rm1 (l : Launch) (Z : State) (a0 : Array Value) (ws : List Jvm.Cond) (a1 : Addr) (ka : ClassId) (f : Nat → Int64) (n : Nat) (hn : n ≤ 4) (hf : own_small f) (h0 : Heap) (n0 : Nat) (V : Arv Z h0 a1 ka .double (Int32.ofNat n) (own_vals f n) (.double (FP.l2d 0))) :
    MetFree l (⟨"com/example/nephila/nephila/rank/Runs", "sum", "([D)D"⟩ : MethodName) (head1 (Jvm.Cond.code (⟨"com/example/nephila/nephila/rank/Runs", "sum", "([D)D"⟩ : MethodName) prog_57_method_6_code 8 (some .double) :: ws) ({ frames := 0, cells := 0, slots := 0, locals := 0 } : Room)) (fun a U => a = #[(.ref a1)] ∧ Z.Warmed39 U.vm ∧ U.heap = h0) (fun _ _ _ _ _ => True) (fun _ U o U' => ∃ v L, o = .returned v ∧ Q1 Z a1 f n h0 n0 v U'.heap L ∧ FrameEnd U o U' L ({ frames := 0, cells := 0, slots := 0, locals := 0 } : Room).cells ({ frames := 0, cells := 0, slots := 0, locals := 0 } : Room).slots) := by
  refine MetFree.of_bodySF (plainFor_of_name pn_1) hisR ?_
  intro p e s m args below meth c s₁ Bd hml0 hP hK
  obtain ⟨rfl, hZ, hh⟩ := hP
  have hx := Bd.exec
  have hby := Bd.bytes
  have X0 : Stand p l e ({ frames := 0, cells := 0, slots := 0, locals := 0 } : Room) s m #[(.ref a1)] below meth c s₁ [] 0 0 := Stand.of_body Bd
  have e0 : s₁.heap = h0 := by rw [← hh, Bd.state]; rfl
  have N0 := Fr.nil n0
  obtain ⟨cl, Ar, -, S, M, H, -⟩ := V
  have hat : ∀ j, j < n → cl.slots[j]? = some (.double (FP.l2d (f j))) := fun j hj => by
    have q := H j (by rw [S, own_n32 hn]; exact hj)
    rw [own_at f hj] at q
    exact q
  obtain ⟨t6, t7, st⟩ := own_loop a1 cl f n hn hf X0 hx hZ hby e0 Ar S hat n 0 .unset .unset (by omega) (fun _ _ _ _ => rfl)
  obtain ⟨fs, hr, hrun, hended, hW, hsame⟩ := X0.leave (v := some (.double (FP.l2d (own_ps f n)))) (fun h => by rw [Bd.returns] at h; cases h)
  refine ⟨_, _, castTop (ef_1 m a1) ?_, hrun, hended, _, _, rfl, ?_, ⟨_, rfl⟩, hW, hsame.mono (by decide) (by decide)⟩
  · show Steps p.tables e below (s₁.setTop (mkF m 0 #[.val (.ref a1), .unset, .unset, .unset, .unset, .unset, .unset, .unset] [])) _
    refine XS.dconst0 X0.here hx rfl (hb hby d1_0) (v := FP.l2d 0) l2d_zero.symm ?_
    show Steps p.tables e below (s₁.setTop (mkF m 1 #[.val (.ref a1), .unset, .unset, .unset, .unset, .unset, .unset, .unset] [(.double (FP.l2d 0))])) _
    refine XS.dstoreN X0.here hx rfl (hb hby d1_1) rfl (l' := #[.val (.ref a1), .val (.double (FP.l2d 0)), .second, .unset, .unset, .unset, .unset, .unset]) rfl ?_
    show Steps p.tables e below (s₁.setTop (mkF m 2 #[.val (.ref a1), .val (.double (FP.l2d 0)), .second, .unset, .unset, .unset, .unset, .unset] [])) _
    refine XS.aloadN X0.here hx rfl (hb hby d1_2) rfl rfl ?_
    show Steps p.tables e below (s₁.setTop (mkF m 3 #[.val (.ref a1), .val (.double (FP.l2d 0)), .second, .unset, .unset, .unset, .unset, .unset] [(.ref a1)])) _
    refine XS.astoreN X0.here hx rfl (hb hby d1_3) rfl rfl (l' := #[.val (.ref a1), .val (.double (FP.l2d 0)), .second, .val (.ref a1), .unset, .unset, .unset, .unset]) rfl ?_
    show Steps p.tables e below (s₁.setTop (mkF m 4 #[.val (.ref a1), .val (.double (FP.l2d 0)), .second, .val (.ref a1), .unset, .unset, .unset, .unset] [])) _
    refine XS.aloadN X0.here hx rfl (hb hby d1_4) rfl rfl ?_
    show Steps p.tables e below (s₁.setTop (mkF m 5 #[.val (.ref a1), .val (.double (FP.l2d 0)), .second, .val (.ref a1), .unset, .unset, .unset, .unset] [(.ref a1)])) _
    refine X0.arraylength hx (cell := cl) (by rw [e0]; exact Ar.1) (State.isArrayOf_alike hZ.alike Ar.2.1) (g := (mkF m 5 #[.val (.ref a1), .val (.double (FP.l2d 0)), .second, .val (.ref a1), .unset, .unset, .unset, .unset] [(.ref a1)])) rfl (rest := []) rfl (hb hby d1_5) _ ?_
    rw [len_of S M]
    show Steps p.tables e below (s₁.setTop (mkF m 6 #[.val (.ref a1), .val (.double (FP.l2d 0)), .second, .val (.ref a1), .unset, .unset, .unset, .unset] [(.int (Int32.ofNat n))])) _
    refine XS.istore X0.here hx rfl (hb hby d1_6) rfl (l' := #[.val (.ref a1), .val (.double (FP.l2d 0)), .second, .val (.ref a1), .val (.int (Int32.ofNat n)), .unset, .unset, .unset]) rfl ?_
    show Steps p.tables e below (s₁.setTop (mkF m 8 #[.val (.ref a1), .val (.double (FP.l2d 0)), .second, .val (.ref a1), .val (.int (Int32.ofNat n)), .unset, .unset, .unset] [])) _
    refine XS.iconst X0.here hx rfl (hb hby d1_8) ?_
    show Steps p.tables e below (s₁.setTop (mkF m 9 #[.val (.ref a1), .val (.double (FP.l2d 0)), .second, .val (.ref a1), .val (.int (Int32.ofNat n)), .unset, .unset, .unset] [(.int (0 : Int32))])) _
    refine XS.istore X0.here hx rfl (hb hby d1_9) rfl (l' := #[.val (.ref a1), .val (.double (FP.l2d 0)), .second, .val (.ref a1), .val (.int (Int32.ofNat n)), .val (.int (0 : Int32)), .unset, .unset]) rfl ?_
    show Steps p.tables e below (s₁.setTop (mkF m 11 #[.val (.ref a1), .val (.double (FP.l2d 0)), .second, .val (.ref a1), .val (.int (Int32.ofNat n)), .val (.int (0 : Int32)), .unset, .unset] [])) _
    refine st _ ?_
    show Steps p.tables e below (s₁.setTop (mkF m 35 #[.val (.ref a1), .val (.double (FP.l2d (own_ps f n))), .second, .val (.ref a1), .val (.int (Int32.ofNat n)), .val (.int (Int32.ofNat n)), t6, t7] [])) _
    refine XS.dloadN X0.here hx rfl (hb hby d1_35) rfl ?_
    show Steps p.tables e below (s₁.setTop (mkF m 36 #[.val (.ref a1), .val (.double (FP.l2d (own_ps f n))), .second, .val (.ref a1), .val (.int (Int32.ofNat n)), .val (.int (Int32.ofNat n)), t6, t7] [(.double (FP.l2d (own_ps f n)))])) _
    exact retOut X0 hx (t := .double) Bd.returns rfl (Or.inr (Or.inr (Or.inl ⟨rfl, rfl, _, rfl⟩))) (hb hby d1_36) hr
  · show Q1 Z a1 f n h0 n0 _ s₁.heap _
    rw [e0]
    exact ⟨rfl, N0, rfl⟩
set_option maxRecDepth 65536 in
set_option maxHeartbeats 40000000 in
theorem own_A0 {p : Program} {l : Launch} {e : Env} {s : State} {m : MethodId} {args : Array Value} {below : List Frame} {meth : Method} {c : Code} {T0 : State} {Z : State} {a0 : Array Value} {h0 : Heap} {n0 : Nat} (p1 p2 p3 p4 p5 : Int32)
    (X0 : Stand p l e room_1 s m args below meth c T0 [] 0 0) (hx : p.tables.exec = Jvm.exec) (hZ : Z.Warmed39 s.vm) (hw : ∀ d ∈ tables_1, d.before a0 Z = true) (hby : c.code = code) (hown : s.vm.findClass "com/example/nephila/nephila/rank/RunsSumPinLaw" = some m.cls) (e0 : T0.heap = h0) (Z0 : n0 ≤ h0.size) (hn : (p1 &&& (2147483647 : Int32)) % (5 : Int32) = (0 : Int32)) :
    ∃ (T' : State) (h' : Heap) (a : Addr) (k : ClassId) (L : List Loc), Stand p l e room_1 s m args below meth c T' L 1 0 ∧ T'.heap = h' ∧ Fr n0 L ∧ n0 ≤ h'.size ∧ Arv Z h' a k .double (0 : Int32) [] (.double (FP.l2d 0)) ∧
      ∀ target, Steps p.tables e below (T'.setTop (mkF m 157 #[.val (.int p1), .val (.int p2), .val (.int p3), .val (.int p4), .val (.int p5), .val (.int (0 : Int32)), .val (.ref a), .val (.long (0 : Int64)), .second, .unset, .unset] [])) target → Steps p.tables e below (T0.setTop (mkF m 0 #[.val (.int p1), .val (.int p2), .val (.int p3), .val (.int p4), .val (.int p5), .unset, .unset, .unset, .unset, .unset, .unset] [])) target := by
  have sg1 : ∀ target, Steps p.tables e below (T0.setTop (mkF m 14 #[.val (.int p1), .val (.int p2), .val (.int p3), .val (.int p4), .val (.int p5), .val (.int (0 : Int32)), .unset, .unset, .unset, .unset, .unset] [(.int (0 : Int32))])) target → Steps p.tables e below (T0.setTop (mkF m 0 #[.val (.int p1), .val (.int p2), .val (.int p3), .val (.int p4), .val (.int p5), .unset, .unset, .unset, .unset, .unset, .unset] [])) target := by
    intro target kt
    show Steps p.tables e below (T0.setTop (mkF m 0 #[.val (.int p1), .val (.int p2), .val (.int p3), .val (.int p4), .val (.int p5), .unset, .unset, .unset, .unset, .unset, .unset] [])) _
    refine XS.iloadN X0.here hx rfl (hb hby at_0) rfl ?_
    show Steps p.tables e below (T0.setTop (mkF m 1 #[.val (.int p1), .val (.int p2), .val (.int p3), .val (.int p4), .val (.int p5), .unset, .unset, .unset, .unset, .unset, .unset] [(.int p1)])) _
    refine X0.ldcInt hx hown (mvT hZ (hw _ (List.mem_of_getElem? (i := 0) rfl))) (g := (mkF m 1 #[.val (.int p1), .val (.int p2), .val (.int p3), .val (.int p4), .val (.int p5), .unset, .unset, .unset, .unset, .unset, .unset] [(.int p1)])) rfl (hb hby at_1) _ ?_
    show Steps p.tables e below (T0.setTop (mkF m 3 #[.val (.int p1), .val (.int p2), .val (.int p3), .val (.int p4), .val (.int p5), .unset, .unset, .unset, .unset, .unset, .unset] [(.int (2147483647 : Int32)), (.int p1)])) _
    refine XS.iand X0.here hx rfl (hb hby at_3) rfl ?_
    show Steps p.tables e below (T0.setTop (mkF m 4 #[.val (.int p1), .val (.int p2), .val (.int p3), .val (.int p4), .val (.int p5), .unset, .unset, .unset, .unset, .unset, .unset] [(.int (p1 &&& (2147483647 : Int32)))])) _
    refine XS.iconst X0.here hx rfl (hb hby at_4) ?_
    show Steps p.tables e below (T0.setTop (mkF m 5 #[.val (.int p1), .val (.int p2), .val (.int p3), .val (.int p4), .val (.int p5), .unset, .unset, .unset, .unset, .unset, .unset] [(.int (5 : Int32)), (.int (p1 &&& (2147483647 : Int32)))])) _
    refine iremM X0 hx rfl (hb hby at_5) rfl (by decide) ?_
    show Steps p.tables e below (T0.setTop (mkF m 6 #[.val (.int p1), .val (.int p2), .val (.int p3), .val (.int p4), .val (.int p5), .unset, .unset, .unset, .unset, .unset, .unset] [(.int ((p1 &&& (2147483647 : Int32)) % (5 : Int32)))])) _
    rw [hn]
    show Steps p.tables e below (T0.setTop (mkF m 6 #[.val (.int p1), .val (.int p2), .val (.int p3), .val (.int p4), .val (.int p5), .unset, .unset, .unset, .unset, .unset, .unset] [(.int (0 : Int32))])) _
    refine XS.istore X0.here hx rfl (hb hby at_6) rfl (l' := #[.val (.int p1), .val (.int p2), .val (.int p3), .val (.int p4), .val (.int p5), .val (.int (0 : Int32)), .unset, .unset, .unset, .unset, .unset]) rfl ?_
    show Steps p.tables e below (T0.setTop (mkF m 8 #[.val (.int p1), .val (.int p2), .val (.int p3), .val (.int p4), .val (.int p5), .val (.int (0 : Int32)), .unset, .unset, .unset, .unset, .unset] [])) _
    refine XS.iload X0.here hx rfl (hb hby at_8) rfl ?_
    show Steps p.tables e below (T0.setTop (mkF m 10 #[.val (.int p1), .val (.int p2), .val (.int p3), .val (.int p4), .val (.int p5), .val (.int (0 : Int32)), .unset, .unset, .unset, .unset, .unset] [(.int (0 : Int32))])) _
    refine XS.ifNo X0.here hx rfl (hb hby at_10) rfl (by decide) ?_
    show Steps p.tables e below (T0.setTop (mkF m 13 #[.val (.int p1), .val (.int p2), .val (.int p3), .val (.int p4), .val (.int p5), .val (.int (0 : Int32)), .unset, .unset, .unset, .unset, .unset] [])) _
    refine XS.iconst X0.here hx rfl (hb hby at_13) ?_
    show Steps p.tables e below (T0.setTop (mkF m 14 #[.val (.int p1), .val (.int p2), .val (.int p3), .val (.int p4), .val (.int p5), .val (.int (0 : Int32)), .unset, .unset, .unset, .unset, .unset] [(.int (0 : Int32))])) _
    exact kt
  obtain ⟨T1, h1, k1, X1, e1, E1, A1, st1⟩ := newP X0 hx hZ (hw _ (List.mem_of_getElem? (i := 1) rfl)) e0 (g := (mkF m 14 #[.val (.int p1), .val (.int p2), .val (.int p3), .val (.int p4), .val (.int p5), .val (.int (0 : Int32)), .unset, .unset, .unset, .unset, .unset] [(.int (0 : Int32))])) rfl (hb hby at_14) rfl (by decide : ¬ ((0 : Int32) < (0 : Int32))) (cap := 0) (by decide : (0 : Int32).toNatClampNeg ≤ 0) (by decide) (by decide) (by decide)
  obtain ⟨a1, g1⟩ : ∃ z, z = h0.size := ⟨_, rfl⟩
  rw [← g1] at A1 st1
  have ge1 : n0 ≤ a1 := by omega
  have V0 : Arv Z h1 a1 k1 .double (0 : Int32) [] (.double (FP.l2d 0)) := Arv.newD A1 (by decide)
  have sg2 : ∀ target, Steps p.tables e below (T1.setTop (mkF m 157 #[.val (.int p1), .val (.int p2), .val (.int p3), .val (.int p4), .val (.int p5), .val (.int (0 : Int32)), .val (.ref a1), .val (.long (0 : Int64)), .second, .unset, .unset] [])) target → Steps p.tables e below (T1.setTop (mkF m 16 #[.val (.int p1), .val (.int p2), .val (.int p3), .val (.int p4), .val (.int p5), .val (.int (0 : Int32)), .unset, .unset, .unset, .unset, .unset] [(.ref a1)])) target := by
    intro target kt
    show Steps p.tables e below (T1.setTop (mkF m 16 #[.val (.int p1), .val (.int p2), .val (.int p3), .val (.int p4), .val (.int p5), .val (.int (0 : Int32)), .unset, .unset, .unset, .unset, .unset] [(.ref a1)])) _
    refine XS.astore X1.here hx rfl (hb hby at_16) rfl rfl (l' := #[.val (.int p1), .val (.int p2), .val (.int p3), .val (.int p4), .val (.int p5), .val (.int (0 : Int32)), .val (.ref a1), .unset, .unset, .unset, .unset]) rfl ?_
    show Steps p.tables e below (T1.setTop (mkF m 18 #[.val (.int p1), .val (.int p2), .val (.int p3), .val (.int p4), .val (.int p5), .val (.int (0 : Int32)), .val (.ref a1), .unset, .unset, .unset, .unset] [])) _
    refine XS.lconst X1.here hx rfl (hb hby at_18) ?_
    show Steps p.tables e below (T1.setTop (mkF m 19 #[.val (.int p1), .val (.int p2), .val (.int p3), .val (.int p4), .val (.int p5), .val (.int (0 : Int32)), .val (.ref a1), .unset, .unset, .unset, .unset] [(.long (0 : Int64))])) _
    refine XS.lstore X1.here hx rfl (hb hby at_19) rfl (l' := #[.val (.int p1), .val (.int p2), .val (.int p3), .val (.int p4), .val (.int p5), .val (.int (0 : Int32)), .val (.ref a1), .val (.long (0 : Int64)), .second, .unset, .unset]) rfl ?_
    show Steps p.tables e below (T1.setTop (mkF m 21 #[.val (.int p1), .val (.int p2), .val (.int p3), .val (.int p4), .val (.int p5), .val (.int (0 : Int32)), .val (.ref a1), .val (.long (0 : Int64)), .second, .unset, .unset] [])) _
    refine XS.goto X1.here hx rfl (pc0 := 21) (pc' := 157) rfl (hb hby at_21) (by decide) (by decide) ?_
    show Steps p.tables e below (T1.setTop (mkF m 157 #[.val (.int p1), .val (.int p2), .val (.int p3), .val (.int p4), .val (.int p5), .val (.int (0 : Int32)), .val (.ref a1), .val (.long (0 : Int64)), .second, .unset, .unset] [])) _
    exact kt
  refine ⟨T1, h1, a1, k1, _, X1, e1, Fr.nil n0, (Nat.le_trans Z0 E1.1), V0, fun target kt => ?_⟩
  show Steps p.tables e below (T0.setTop (mkF m 0 #[.val (.int p1), .val (.int p2), .val (.int p3), .val (.int p4), .val (.int p5), .unset, .unset, .unset, .unset, .unset, .unset] [])) _
  refine sg1 _ ?_
  show Steps p.tables e below (T0.setTop (mkF m 14 #[.val (.int p1), .val (.int p2), .val (.int p3), .val (.int p4), .val (.int p5), .val (.int (0 : Int32)), .unset, .unset, .unset, .unset, .unset] [(.int (0 : Int32))])) _
  refine st1 _ ?_
  show Steps p.tables e below (T1.setTop (mkF m 16 #[.val (.int p1), .val (.int p2), .val (.int p3), .val (.int p4), .val (.int p5), .val (.int (0 : Int32)), .unset, .unset, .unset, .unset, .unset] [(.ref a1)])) _
  refine sg2 _ ?_
  exact kt
set_option maxRecDepth 65536 in
set_option maxHeartbeats 40000000 in
theorem own_A1 {p : Program} {l : Launch} {e : Env} {s : State} {m : MethodId} {args : Array Value} {below : List Frame} {meth : Method} {c : Code} {T0 : State} {Z : State} {a0 : Array Value} {h0 : Heap} {n0 : Nat} (p1 p2 p3 p4 p5 : Int32)
    (X0 : Stand p l e room_1 s m args below meth c T0 [] 0 0) (hx : p.tables.exec = Jvm.exec) (hZ : Z.Warmed39 s.vm) (hw : ∀ d ∈ tables_1, d.before a0 Z = true) (hby : c.code = code) (hown : s.vm.findClass "com/example/nephila/nephila/rank/RunsSumPinLaw" = some m.cls) (e0 : T0.heap = h0) (Z0 : n0 ≤ h0.size) (hn : (p1 &&& (2147483647 : Int32)) % (5 : Int32) = (1 : Int32)) :
    ∃ (T' : State) (h' : Heap) (a : Addr) (k : ClassId) (L : List Loc), Stand p l e room_1 s m args below meth c T' L 1 1 ∧ T'.heap = h' ∧ Fr n0 L ∧ n0 ≤ h'.size ∧ Arv Z h' a k .double (1 : Int32) [(.double (FP.l2d (p2).toInt64))] (.double (FP.l2d 0)) ∧
      ∀ target, Steps p.tables e below (T'.setTop (mkF m 157 #[.val (.int p1), .val (.int p2), .val (.int p3), .val (.int p4), .val (.int p5), .val (.int (1 : Int32)), .val (.ref a), .val (.long ((p2).toInt64)), .second, .unset, .unset] [])) target → Steps p.tables e below (T0.setTop (mkF m 0 #[.val (.int p1), .val (.int p2), .val (.int p3), .val (.int p4), .val (.int p5), .unset, .unset, .unset, .unset, .unset, .unset] [])) target := by
  have sg1 : ∀ target, Steps p.tables e below (T0.setTop (mkF m 31 #[.val (.int p1), .val (.int p2), .val (.int p3), .val (.int p4), .val (.int p5), .val (.int (1 : Int32)), .unset, .unset, .unset, .unset, .unset] [(.int (1 : Int32))])) target → Steps p.tables e below (T0.setTop (mkF m 0 #[.val (.int p1), .val (.int p2), .val (.int p3), .val (.int p4), .val (.int p5), .unset, .unset, .unset, .unset, .unset, .unset] [])) target := by
    intro target kt
    show Steps p.tables e below (T0.setTop (mkF m 0 #[.val (.int p1), .val (.int p2), .val (.int p3), .val (.int p4), .val (.int p5), .unset, .unset, .unset, .unset, .unset, .unset] [])) _
    refine XS.iloadN X0.here hx rfl (hb hby at_0) rfl ?_
    show Steps p.tables e below (T0.setTop (mkF m 1 #[.val (.int p1), .val (.int p2), .val (.int p3), .val (.int p4), .val (.int p5), .unset, .unset, .unset, .unset, .unset, .unset] [(.int p1)])) _
    refine X0.ldcInt hx hown (mvT hZ (hw _ (List.mem_of_getElem? (i := 0) rfl))) (g := (mkF m 1 #[.val (.int p1), .val (.int p2), .val (.int p3), .val (.int p4), .val (.int p5), .unset, .unset, .unset, .unset, .unset, .unset] [(.int p1)])) rfl (hb hby at_1) _ ?_
    show Steps p.tables e below (T0.setTop (mkF m 3 #[.val (.int p1), .val (.int p2), .val (.int p3), .val (.int p4), .val (.int p5), .unset, .unset, .unset, .unset, .unset, .unset] [(.int (2147483647 : Int32)), (.int p1)])) _
    refine XS.iand X0.here hx rfl (hb hby at_3) rfl ?_
    show Steps p.tables e below (T0.setTop (mkF m 4 #[.val (.int p1), .val (.int p2), .val (.int p3), .val (.int p4), .val (.int p5), .unset, .unset, .unset, .unset, .unset, .unset] [(.int (p1 &&& (2147483647 : Int32)))])) _
    refine XS.iconst X0.here hx rfl (hb hby at_4) ?_
    show Steps p.tables e below (T0.setTop (mkF m 5 #[.val (.int p1), .val (.int p2), .val (.int p3), .val (.int p4), .val (.int p5), .unset, .unset, .unset, .unset, .unset, .unset] [(.int (5 : Int32)), (.int (p1 &&& (2147483647 : Int32)))])) _
    refine iremM X0 hx rfl (hb hby at_5) rfl (by decide) ?_
    show Steps p.tables e below (T0.setTop (mkF m 6 #[.val (.int p1), .val (.int p2), .val (.int p3), .val (.int p4), .val (.int p5), .unset, .unset, .unset, .unset, .unset, .unset] [(.int ((p1 &&& (2147483647 : Int32)) % (5 : Int32)))])) _
    rw [hn]
    show Steps p.tables e below (T0.setTop (mkF m 6 #[.val (.int p1), .val (.int p2), .val (.int p3), .val (.int p4), .val (.int p5), .unset, .unset, .unset, .unset, .unset, .unset] [(.int (1 : Int32))])) _
    refine XS.istore X0.here hx rfl (hb hby at_6) rfl (l' := #[.val (.int p1), .val (.int p2), .val (.int p3), .val (.int p4), .val (.int p5), .val (.int (1 : Int32)), .unset, .unset, .unset, .unset, .unset]) rfl ?_
    show Steps p.tables e below (T0.setTop (mkF m 8 #[.val (.int p1), .val (.int p2), .val (.int p3), .val (.int p4), .val (.int p5), .val (.int (1 : Int32)), .unset, .unset, .unset, .unset, .unset] [])) _
    refine XS.iload X0.here hx rfl (hb hby at_8) rfl ?_
    show Steps p.tables e below (T0.setTop (mkF m 10 #[.val (.int p1), .val (.int p2), .val (.int p3), .val (.int p4), .val (.int p5), .val (.int (1 : Int32)), .unset, .unset, .unset, .unset, .unset] [(.int (1 : Int32))])) _
    refine XS.ifYes X0.here hx rfl (pc0 := 10) (pc' := 24) rfl (hb hby at_10) rfl (by decide) (by decide) (by decide) ?_
    show Steps p.tables e below (T0.setTop (mkF m 24 #[.val (.int p1), .val (.int p2), .val (.int p3), .val (.int p4), .val (.int p5), .val (.int (1 : Int32)), .unset, .unset, .unset, .unset, .unset] [])) _
    refine XS.iload X0.here hx rfl (hb hby at_24) rfl ?_
    show Steps p.tables e below (T0.setTop (mkF m 26 #[.val (.int p1), .val (.int p2), .val (.int p3), .val (.int p4), .val (.int p5), .val (.int (1 : Int32)), .unset, .unset, .unset, .unset, .unset] [(.int (1 : Int32))])) _
    refine XS.iconst X0.here hx rfl (hb hby at_26) ?_
    show Steps p.tables e below (T0.setTop (mkF m 27 #[.val (.int p1), .val (.int p2), .val (.int p3), .val (.int p4), .val (.int p5), .val (.int (1 : Int32)), .unset, .unset, .unset, .unset, .unset] [(.int (1 : Int32)), (.int (1 : Int32))])) _
    refine XS.icmpNo X0.here hx rfl (hb hby at_27) rfl (by decide) ?_
    show Steps p.tables e below (T0.setTop (mkF m 30 #[.val (.int p1), .val (.int p2), .val (.int p3), .val (.int p4), .val (.int p5), .val (.int (1 : Int32)), .unset, .unset, .unset, .unset, .unset] [])) _
    refine XS.iconst X0.here hx rfl (hb hby at_30) ?_
    show Steps p.tables e below (T0.setTop (mkF m 31 #[.val (.int p1), .val (.int p2), .val (.int p3), .val (.int p4), .val (.int p5), .val (.int (1 : Int32)), .unset, .unset, .unset, .unset, .unset] [(.int (1 : Int32))])) _
    exact kt
  obtain ⟨T1, h1, k1, X1, e1, E1, A1, st1⟩ := newP X0 hx hZ (hw _ (List.mem_of_getElem? (i := 1) rfl)) e0 (g := (mkF m 31 #[.val (.int p1), .val (.int p2), .val (.int p3), .val (.int p4), .val (.int p5), .val (.int (1 : Int32)), .unset, .unset, .unset, .unset, .unset] [(.int (1 : Int32))])) rfl (hb hby at_31) rfl (by decide : ¬ ((1 : Int32) < (0 : Int32))) (cap := 1) (by decide : (1 : Int32).toNatClampNeg ≤ 1) (by decide) (by decide) (by decide)
  obtain ⟨a1, g1⟩ : ∃ z, z = h0.size := ⟨_, rfl⟩
  rw [← g1] at A1 st1
  have ge1 : n0 ≤ a1 := by omega
  have V0 : Arv Z h1 a1 k1 .double (1 : Int32) [] (.double (FP.l2d 0)) := Arv.newD A1 (by decide)
  have sg2 : ∀ target, Steps p.tables e below (T1.setTop (mkF m 37 #[.val (.int p1), .val (.int p2), .val (.int p3), .val (.int p4), .val (.int p5), .val (.int (1 : Int32)), .unset, .unset, .unset, .unset, .unset] [(.double (FP.l2d (p2).toInt64)), (.int (0 : Int32)), (.ref a1), (.ref a1)])) target → Steps p.tables e below (T1.setTop (mkF m 33 #[.val (.int p1), .val (.int p2), .val (.int p3), .val (.int p4), .val (.int p5), .val (.int (1 : Int32)), .unset, .unset, .unset, .unset, .unset] [(.ref a1)])) target := by
    intro target kt
    show Steps p.tables e below (T1.setTop (mkF m 33 #[.val (.int p1), .val (.int p2), .val (.int p3), .val (.int p4), .val (.int p5), .val (.int (1 : Int32)), .unset, .unset, .unset, .unset, .unset] [(.ref a1)])) _
    refine XS.dup X1.here hx rfl (hb hby at_33) rfl rfl ?_
    show Steps p.tables e below (T1.setTop (mkF m 34 #[.val (.int p1), .val (.int p2), .val (.int p3), .val (.int p4), .val (.int p5), .val (.int (1 : Int32)), .unset, .unset, .unset, .unset, .unset] [(.ref a1), (.ref a1)])) _
    refine XS.iconst X1.here hx rfl (hb hby at_34) ?_
    show Steps p.tables e below (T1.setTop (mkF m 35 #[.val (.int p1), .val (.int p2), .val (.int p3), .val (.int p4), .val (.int p5), .val (.int (1 : Int32)), .unset, .unset, .unset, .unset, .unset] [(.int (0 : Int32)), (.ref a1), (.ref a1)])) _
    refine XS.iloadN X1.here hx rfl (hb hby at_35) rfl ?_
    show Steps p.tables e below (T1.setTop (mkF m 36 #[.val (.int p1), .val (.int p2), .val (.int p3), .val (.int p4), .val (.int p5), .val (.int (1 : Int32)), .unset, .unset, .unset, .unset, .unset] [(.int p2), (.int (0 : Int32)), (.ref a1), (.ref a1)])) _
    refine XS.i2dS X1.here hx rfl (hb hby at_36) rfl (i2d_w _) ?_
    show Steps p.tables e below (T1.setTop (mkF m 37 #[.val (.int p1), .val (.int p2), .val (.int p3), .val (.int p4), .val (.int p5), .val (.int (1 : Int32)), .unset, .unset, .unset, .unset, .unset] [(.double (FP.l2d (p2).toInt64)), (.int (0 : Int32)), (.ref a1), (.ref a1)])) _
    exact kt
  have W0 := V0.pad (pad_rep [] (.double (FP.l2d 0)) 1)
  obtain ⟨c0, B0, q0, S0, M0, H0, U0⟩ := W0
  obtain ⟨T2, h2, X2, e2, R2, st2⟩ := stD X1 hx hZ e1 B0 (j := (0 : Int32)) (inb_of S0 ⟨by decide, by decide⟩) (g := (mkF m 37 #[.val (.int p1), .val (.int p2), .val (.int p3), .val (.int p4), .val (.int p5), .val (.int (1 : Int32)), .unset, .unset, .unset, .unset, .unset] [(.double (FP.l2d (p2).toInt64)), (.int (0 : Int32)), (.ref a1), (.ref a1)])) rfl rfl (hb hby at_37)
  have V1 : Arv Z h2 a1 k1 .double (1 : Int32) [(.double (FP.l2d (p2).toInt64))] (.double (FP.l2d 0)) := Arv.set B0 q0 S0 M0 H0 U0 rfl R2 0 rfl (Nat.le_of_ble_eq_true rfl)
  have N1 := Fr.snoc X2 (Fr.nil n0) ge1
  have sg3 : ∀ target, Steps p.tables e below (T2.setTop (mkF m 157 #[.val (.int p1), .val (.int p2), .val (.int p3), .val (.int p4), .val (.int p5), .val (.int (1 : Int32)), .val (.ref a1), .val (.long ((p2).toInt64)), .second, .unset, .unset] [])) target → Steps p.tables e below (T2.setTop (mkF m 38 #[.val (.int p1), .val (.int p2), .val (.int p3), .val (.int p4), .val (.int p5), .val (.int (1 : Int32)), .unset, .unset, .unset, .unset, .unset] [(.ref a1)])) target := by
    intro target kt
    show Steps p.tables e below (T2.setTop (mkF m 38 #[.val (.int p1), .val (.int p2), .val (.int p3), .val (.int p4), .val (.int p5), .val (.int (1 : Int32)), .unset, .unset, .unset, .unset, .unset] [(.ref a1)])) _
    refine XS.astore X2.here hx rfl (hb hby at_38) rfl rfl (l' := #[.val (.int p1), .val (.int p2), .val (.int p3), .val (.int p4), .val (.int p5), .val (.int (1 : Int32)), .val (.ref a1), .unset, .unset, .unset, .unset]) rfl ?_
    show Steps p.tables e below (T2.setTop (mkF m 40 #[.val (.int p1), .val (.int p2), .val (.int p3), .val (.int p4), .val (.int p5), .val (.int (1 : Int32)), .val (.ref a1), .unset, .unset, .unset, .unset] [])) _
    refine XS.iloadN X2.here hx rfl (hb hby at_40) rfl ?_
    show Steps p.tables e below (T2.setTop (mkF m 41 #[.val (.int p1), .val (.int p2), .val (.int p3), .val (.int p4), .val (.int p5), .val (.int (1 : Int32)), .val (.ref a1), .unset, .unset, .unset, .unset] [(.int p2)])) _
    refine XS.i2l X2.here hx rfl (hb hby at_41) rfl ?_
    show Steps p.tables e below (T2.setTop (mkF m 42 #[.val (.int p1), .val (.int p2), .val (.int p3), .val (.int p4), .val (.int p5), .val (.int (1 : Int32)), .val (.ref a1), .unset, .unset, .unset, .unset] [(.long ((p2).toInt64))])) _
    refine XS.lstore X2.here hx rfl (hb hby at_42) rfl (l' := #[.val (.int p1), .val (.int p2), .val (.int p3), .val (.int p4), .val (.int p5), .val (.int (1 : Int32)), .val (.ref a1), .val (.long ((p2).toInt64)), .second, .unset, .unset]) rfl ?_
    show Steps p.tables e below (T2.setTop (mkF m 44 #[.val (.int p1), .val (.int p2), .val (.int p3), .val (.int p4), .val (.int p5), .val (.int (1 : Int32)), .val (.ref a1), .val (.long ((p2).toInt64)), .second, .unset, .unset] [])) _
    refine XS.goto X2.here hx rfl (pc0 := 44) (pc' := 157) rfl (hb hby at_44) (by decide) (by decide) ?_
    show Steps p.tables e below (T2.setTop (mkF m 157 #[.val (.int p1), .val (.int p2), .val (.int p3), .val (.int p4), .val (.int p5), .val (.int (1 : Int32)), .val (.ref a1), .val (.long ((p2).toInt64)), .second, .unset, .unset] [])) _
    exact kt
  refine ⟨T2, h2, a1, k1, _, X2, e2, N1, (Nat.le_trans (Nat.le_trans Z0 E1.1) (Keep.of_wr R2).1), V1, fun target kt => ?_⟩
  show Steps p.tables e below (T0.setTop (mkF m 0 #[.val (.int p1), .val (.int p2), .val (.int p3), .val (.int p4), .val (.int p5), .unset, .unset, .unset, .unset, .unset, .unset] [])) _
  refine sg1 _ ?_
  show Steps p.tables e below (T0.setTop (mkF m 31 #[.val (.int p1), .val (.int p2), .val (.int p3), .val (.int p4), .val (.int p5), .val (.int (1 : Int32)), .unset, .unset, .unset, .unset, .unset] [(.int (1 : Int32))])) _
  refine st1 _ ?_
  show Steps p.tables e below (T1.setTop (mkF m 33 #[.val (.int p1), .val (.int p2), .val (.int p3), .val (.int p4), .val (.int p5), .val (.int (1 : Int32)), .unset, .unset, .unset, .unset, .unset] [(.ref a1)])) _
  refine sg2 _ ?_
  show Steps p.tables e below (T1.setTop (mkF m 37 #[.val (.int p1), .val (.int p2), .val (.int p3), .val (.int p4), .val (.int p5), .val (.int (1 : Int32)), .unset, .unset, .unset, .unset, .unset] [(.double (FP.l2d (p2).toInt64)), (.int (0 : Int32)), (.ref a1), (.ref a1)])) _
  refine st2 _ ?_
  show Steps p.tables e below (T2.setTop (mkF m 38 #[.val (.int p1), .val (.int p2), .val (.int p3), .val (.int p4), .val (.int p5), .val (.int (1 : Int32)), .unset, .unset, .unset, .unset, .unset] [(.ref a1)])) _
  refine sg3 _ ?_
  exact kt
set_option maxRecDepth 65536 in
set_option maxHeartbeats 40000000 in
theorem own_A2 {p : Program} {l : Launch} {e : Env} {s : State} {m : MethodId} {args : Array Value} {below : List Frame} {meth : Method} {c : Code} {T0 : State} {Z : State} {a0 : Array Value} {h0 : Heap} {n0 : Nat} (p1 p2 p3 p4 p5 : Int32)
    (X0 : Stand p l e room_1 s m args below meth c T0 [] 0 0) (hx : p.tables.exec = Jvm.exec) (hZ : Z.Warmed39 s.vm) (hw : ∀ d ∈ tables_1, d.before a0 Z = true) (hby : c.code = code) (hown : s.vm.findClass "com/example/nephila/nephila/rank/RunsSumPinLaw" = some m.cls) (e0 : T0.heap = h0) (Z0 : n0 ≤ h0.size) (hn : (p1 &&& (2147483647 : Int32)) % (5 : Int32) = (2 : Int32)) :
    ∃ (T' : State) (h' : Heap) (a : Addr) (k : ClassId) (L : List Loc), Stand p l e room_1 s m args below meth c T' L 1 2 ∧ T'.heap = h' ∧ Fr n0 L ∧ n0 ≤ h'.size ∧ Arv Z h' a k .double (2 : Int32) [(.double (FP.l2d (p2).toInt64)), (.double (FP.l2d (p3).toInt64))] (.double (FP.l2d 0)) ∧
      ∀ target, Steps p.tables e below (T'.setTop (mkF m 157 #[.val (.int p1), .val (.int p2), .val (.int p3), .val (.int p4), .val (.int p5), .val (.int (2 : Int32)), .val (.ref a), .val (.long (((p2).toInt64) + ((p3).toInt64))), .second, .unset, .unset] [])) target → Steps p.tables e below (T0.setTop (mkF m 0 #[.val (.int p1), .val (.int p2), .val (.int p3), .val (.int p4), .val (.int p5), .unset, .unset, .unset, .unset, .unset, .unset] [])) target := by
  have sg1 : ∀ target, Steps p.tables e below (T0.setTop (mkF m 54 #[.val (.int p1), .val (.int p2), .val (.int p3), .val (.int p4), .val (.int p5), .val (.int (2 : Int32)), .unset, .unset, .unset, .unset, .unset] [(.int (2 : Int32))])) target → Steps p.tables e below (T0.setTop (mkF m 0 #[.val (.int p1), .val (.int p2), .val (.int p3), .val (.int p4), .val (.int p5), .unset, .unset, .unset, .unset, .unset, .unset] [])) target := by
    intro target kt
    show Steps p.tables e below (T0.setTop (mkF m 0 #[.val (.int p1), .val (.int p2), .val (.int p3), .val (.int p4), .val (.int p5), .unset, .unset, .unset, .unset, .unset, .unset] [])) _
    refine XS.iloadN X0.here hx rfl (hb hby at_0) rfl ?_
    show Steps p.tables e below (T0.setTop (mkF m 1 #[.val (.int p1), .val (.int p2), .val (.int p3), .val (.int p4), .val (.int p5), .unset, .unset, .unset, .unset, .unset, .unset] [(.int p1)])) _
    refine X0.ldcInt hx hown (mvT hZ (hw _ (List.mem_of_getElem? (i := 0) rfl))) (g := (mkF m 1 #[.val (.int p1), .val (.int p2), .val (.int p3), .val (.int p4), .val (.int p5), .unset, .unset, .unset, .unset, .unset, .unset] [(.int p1)])) rfl (hb hby at_1) _ ?_
    show Steps p.tables e below (T0.setTop (mkF m 3 #[.val (.int p1), .val (.int p2), .val (.int p3), .val (.int p4), .val (.int p5), .unset, .unset, .unset, .unset, .unset, .unset] [(.int (2147483647 : Int32)), (.int p1)])) _
    refine XS.iand X0.here hx rfl (hb hby at_3) rfl ?_
    show Steps p.tables e below (T0.setTop (mkF m 4 #[.val (.int p1), .val (.int p2), .val (.int p3), .val (.int p4), .val (.int p5), .unset, .unset, .unset, .unset, .unset, .unset] [(.int (p1 &&& (2147483647 : Int32)))])) _
    refine XS.iconst X0.here hx rfl (hb hby at_4) ?_
    show Steps p.tables e below (T0.setTop (mkF m 5 #[.val (.int p1), .val (.int p2), .val (.int p3), .val (.int p4), .val (.int p5), .unset, .unset, .unset, .unset, .unset, .unset] [(.int (5 : Int32)), (.int (p1 &&& (2147483647 : Int32)))])) _
    refine iremM X0 hx rfl (hb hby at_5) rfl (by decide) ?_
    show Steps p.tables e below (T0.setTop (mkF m 6 #[.val (.int p1), .val (.int p2), .val (.int p3), .val (.int p4), .val (.int p5), .unset, .unset, .unset, .unset, .unset, .unset] [(.int ((p1 &&& (2147483647 : Int32)) % (5 : Int32)))])) _
    rw [hn]
    show Steps p.tables e below (T0.setTop (mkF m 6 #[.val (.int p1), .val (.int p2), .val (.int p3), .val (.int p4), .val (.int p5), .unset, .unset, .unset, .unset, .unset, .unset] [(.int (2 : Int32))])) _
    refine XS.istore X0.here hx rfl (hb hby at_6) rfl (l' := #[.val (.int p1), .val (.int p2), .val (.int p3), .val (.int p4), .val (.int p5), .val (.int (2 : Int32)), .unset, .unset, .unset, .unset, .unset]) rfl ?_
    show Steps p.tables e below (T0.setTop (mkF m 8 #[.val (.int p1), .val (.int p2), .val (.int p3), .val (.int p4), .val (.int p5), .val (.int (2 : Int32)), .unset, .unset, .unset, .unset, .unset] [])) _
    refine XS.iload X0.here hx rfl (hb hby at_8) rfl ?_
    show Steps p.tables e below (T0.setTop (mkF m 10 #[.val (.int p1), .val (.int p2), .val (.int p3), .val (.int p4), .val (.int p5), .val (.int (2 : Int32)), .unset, .unset, .unset, .unset, .unset] [(.int (2 : Int32))])) _
    refine XS.ifYes X0.here hx rfl (pc0 := 10) (pc' := 24) rfl (hb hby at_10) rfl (by decide) (by decide) (by decide) ?_
    show Steps p.tables e below (T0.setTop (mkF m 24 #[.val (.int p1), .val (.int p2), .val (.int p3), .val (.int p4), .val (.int p5), .val (.int (2 : Int32)), .unset, .unset, .unset, .unset, .unset] [])) _
    refine XS.iload X0.here hx rfl (hb hby at_24) rfl ?_
    show Steps p.tables e below (T0.setTop (mkF m 26 #[.val (.int p1), .val (.int p2), .val (.int p3), .val (.int p4), .val (.int p5), .val (.int (2 : Int32)), .unset, .unset, .unset, .unset, .unset] [(.int (2 : Int32))])) _
    refine XS.iconst X0.here hx rfl (hb hby at_26) ?_
    show Steps p.tables e below (T0.setTop (mkF m 27 #[.val (.int p1), .val (.int p2), .val (.int p3), .val (.int p4), .val (.int p5), .val (.int (2 : Int32)), .unset, .unset, .unset, .unset, .unset] [(.int (1 : Int32)), (.int (2 : Int32))])) _
    refine XS.icmpYes X0.here hx rfl (pc0 := 27) (pc' := 47) rfl (hb hby at_27) rfl (by decide) (by decide) (by decide) ?_
    show Steps p.tables e below (T0.setTop (mkF m 47 #[.val (.int p1), .val (.int p2), .val (.int p3), .val (.int p4), .val (.int p5), .val (.int (2 : Int32)), .unset, .unset, .unset, .unset, .unset] [])) _
    refine XS.iload X0.here hx rfl (hb hby at_47) rfl ?_
    show Steps p.tables e below (T0.setTop (mkF m 49 #[.val (.int p1), .val (.int p2), .val (.int p3), .val (.int p4), .val (.int p5), .val (.int (2 : Int32)), .unset, .unset, .unset, .unset, .unset] [(.int (2 : Int32))])) _
    refine XS.iconst X0.here hx rfl (hb hby at_49) ?_
    show Steps p.tables e below (T0.setTop (mkF m 50 #[.val (.int p1), .val (.int p2), .val (.int p3), .val (.int p4), .val (.int p5), .val (.int (2 : Int32)), .unset, .unset, .unset, .unset, .unset] [(.int (2 : Int32)), (.int (2 : Int32))])) _
    refine XS.icmpNo X0.here hx rfl (hb hby at_50) rfl (by decide) ?_
    show Steps p.tables e below (T0.setTop (mkF m 53 #[.val (.int p1), .val (.int p2), .val (.int p3), .val (.int p4), .val (.int p5), .val (.int (2 : Int32)), .unset, .unset, .unset, .unset, .unset] [])) _
    refine XS.iconst X0.here hx rfl (hb hby at_53) ?_
    show Steps p.tables e below (T0.setTop (mkF m 54 #[.val (.int p1), .val (.int p2), .val (.int p3), .val (.int p4), .val (.int p5), .val (.int (2 : Int32)), .unset, .unset, .unset, .unset, .unset] [(.int (2 : Int32))])) _
    exact kt
  obtain ⟨T1, h1, k1, X1, e1, E1, A1, st1⟩ := newP X0 hx hZ (hw _ (List.mem_of_getElem? (i := 1) rfl)) e0 (g := (mkF m 54 #[.val (.int p1), .val (.int p2), .val (.int p3), .val (.int p4), .val (.int p5), .val (.int (2 : Int32)), .unset, .unset, .unset, .unset, .unset] [(.int (2 : Int32))])) rfl (hb hby at_54) rfl (by decide : ¬ ((2 : Int32) < (0 : Int32))) (cap := 2) (by decide : (2 : Int32).toNatClampNeg ≤ 2) (by decide) (by decide) (by decide)
  obtain ⟨a1, g1⟩ : ∃ z, z = h0.size := ⟨_, rfl⟩
  rw [← g1] at A1 st1
  have ge1 : n0 ≤ a1 := by omega
  have V0 : Arv Z h1 a1 k1 .double (2 : Int32) [] (.double (FP.l2d 0)) := Arv.newD A1 (by decide)
  have sg2 : ∀ target, Steps p.tables e below (T1.setTop (mkF m 60 #[.val (.int p1), .val (.int p2), .val (.int p3), .val (.int p4), .val (.int p5), .val (.int (2 : Int32)), .unset, .unset, .unset, .unset, .unset] [(.double (FP.l2d (p2).toInt64)), (.int (0 : Int32)), (.ref a1), (.ref a1)])) target → Steps p.tables e below (T1.setTop (mkF m 56 #[.val (.int p1), .val (.int p2), .val (.int p3), .val (.int p4), .val (.int p5), .val (.int (2 : Int32)), .unset, .unset, .unset, .unset, .unset] [(.ref a1)])) target := by
    intro target kt
    show Steps p.tables e below (T1.setTop (mkF m 56 #[.val (.int p1), .val (.int p2), .val (.int p3), .val (.int p4), .val (.int p5), .val (.int (2 : Int32)), .unset, .unset, .unset, .unset, .unset] [(.ref a1)])) _
    refine XS.dup X1.here hx rfl (hb hby at_56) rfl rfl ?_
    show Steps p.tables e below (T1.setTop (mkF m 57 #[.val (.int p1), .val (.int p2), .val (.int p3), .val (.int p4), .val (.int p5), .val (.int (2 : Int32)), .unset, .unset, .unset, .unset, .unset] [(.ref a1), (.ref a1)])) _
    refine XS.iconst X1.here hx rfl (hb hby at_57) ?_
    show Steps p.tables e below (T1.setTop (mkF m 58 #[.val (.int p1), .val (.int p2), .val (.int p3), .val (.int p4), .val (.int p5), .val (.int (2 : Int32)), .unset, .unset, .unset, .unset, .unset] [(.int (0 : Int32)), (.ref a1), (.ref a1)])) _
    refine XS.iloadN X1.here hx rfl (hb hby at_58) rfl ?_
    show Steps p.tables e below (T1.setTop (mkF m 59 #[.val (.int p1), .val (.int p2), .val (.int p3), .val (.int p4), .val (.int p5), .val (.int (2 : Int32)), .unset, .unset, .unset, .unset, .unset] [(.int p2), (.int (0 : Int32)), (.ref a1), (.ref a1)])) _
    refine XS.i2dS X1.here hx rfl (hb hby at_59) rfl (i2d_w _) ?_
    show Steps p.tables e below (T1.setTop (mkF m 60 #[.val (.int p1), .val (.int p2), .val (.int p3), .val (.int p4), .val (.int p5), .val (.int (2 : Int32)), .unset, .unset, .unset, .unset, .unset] [(.double (FP.l2d (p2).toInt64)), (.int (0 : Int32)), (.ref a1), (.ref a1)])) _
    exact kt
  have W0 := V0.pad (pad_rep [] (.double (FP.l2d 0)) 1)
  obtain ⟨c0, B0, q0, S0, M0, H0, U0⟩ := W0
  obtain ⟨T2, h2, X2, e2, R2, st2⟩ := stD X1 hx hZ e1 B0 (j := (0 : Int32)) (inb_of S0 ⟨by decide, by decide⟩) (g := (mkF m 60 #[.val (.int p1), .val (.int p2), .val (.int p3), .val (.int p4), .val (.int p5), .val (.int (2 : Int32)), .unset, .unset, .unset, .unset, .unset] [(.double (FP.l2d (p2).toInt64)), (.int (0 : Int32)), (.ref a1), (.ref a1)])) rfl rfl (hb hby at_60)
  have V1 : Arv Z h2 a1 k1 .double (2 : Int32) [(.double (FP.l2d (p2).toInt64))] (.double (FP.l2d 0)) := Arv.set B0 q0 S0 M0 H0 U0 rfl R2 0 rfl (Nat.le_of_ble_eq_true rfl)
  have N1 := Fr.snoc X2 (Fr.nil n0) ge1
  have sg3 : ∀ target, Steps p.tables e below (T2.setTop (mkF m 65 #[.val (.int p1), .val (.int p2), .val (.int p3), .val (.int p4), .val (.int p5), .val (.int (2 : Int32)), .unset, .unset, .unset, .unset, .unset] [(.double (FP.l2d (p3).toInt64)), (.int (1 : Int32)), (.ref a1), (.ref a1)])) target → Steps p.tables e below (T2.setTop (mkF m 61 #[.val (.int p1), .val (.int p2), .val (.int p3), .val (.int p4), .val (.int p5), .val (.int (2 : Int32)), .unset, .unset, .unset, .unset, .unset] [(.ref a1)])) target := by
    intro target kt
    show Steps p.tables e below (T2.setTop (mkF m 61 #[.val (.int p1), .val (.int p2), .val (.int p3), .val (.int p4), .val (.int p5), .val (.int (2 : Int32)), .unset, .unset, .unset, .unset, .unset] [(.ref a1)])) _
    refine XS.dup X2.here hx rfl (hb hby at_61) rfl rfl ?_
    show Steps p.tables e below (T2.setTop (mkF m 62 #[.val (.int p1), .val (.int p2), .val (.int p3), .val (.int p4), .val (.int p5), .val (.int (2 : Int32)), .unset, .unset, .unset, .unset, .unset] [(.ref a1), (.ref a1)])) _
    refine XS.iconst X2.here hx rfl (hb hby at_62) ?_
    show Steps p.tables e below (T2.setTop (mkF m 63 #[.val (.int p1), .val (.int p2), .val (.int p3), .val (.int p4), .val (.int p5), .val (.int (2 : Int32)), .unset, .unset, .unset, .unset, .unset] [(.int (1 : Int32)), (.ref a1), (.ref a1)])) _
    refine XS.iloadN X2.here hx rfl (hb hby at_63) rfl ?_
    show Steps p.tables e below (T2.setTop (mkF m 64 #[.val (.int p1), .val (.int p2), .val (.int p3), .val (.int p4), .val (.int p5), .val (.int (2 : Int32)), .unset, .unset, .unset, .unset, .unset] [(.int p3), (.int (1 : Int32)), (.ref a1), (.ref a1)])) _
    refine XS.i2dS X2.here hx rfl (hb hby at_64) rfl (i2d_w _) ?_
    show Steps p.tables e below (T2.setTop (mkF m 65 #[.val (.int p1), .val (.int p2), .val (.int p3), .val (.int p4), .val (.int p5), .val (.int (2 : Int32)), .unset, .unset, .unset, .unset, .unset] [(.double (FP.l2d (p3).toInt64)), (.int (1 : Int32)), (.ref a1), (.ref a1)])) _
    exact kt
  have W1 := V1.pad (pad_rep [(.double (FP.l2d (p2).toInt64))] (.double (FP.l2d 0)) 1)
  obtain ⟨c1, B1, q1, S1, M1, H1, U1⟩ := W1
  obtain ⟨T3, h3, X3, e3, R3, st3⟩ := stD X2 hx hZ e2 B1 (j := (1 : Int32)) (inb_of S1 ⟨by decide, by decide⟩) (g := (mkF m 65 #[.val (.int p1), .val (.int p2), .val (.int p3), .val (.int p4), .val (.int p5), .val (.int (2 : Int32)), .unset, .unset, .unset, .unset, .unset] [(.double (FP.l2d (p3).toInt64)), (.int (1 : Int32)), (.ref a1), (.ref a1)])) rfl rfl (hb hby at_65)
  have V2 : Arv Z h3 a1 k1 .double (2 : Int32) [(.double (FP.l2d (p2).toInt64)), (.double (FP.l2d (p3).toInt64))] (.double (FP.l2d 0)) := Arv.set B1 q1 S1 M1 H1 U1 rfl R3 1 rfl (Nat.le_of_ble_eq_true rfl)
  have N2 := Fr.snoc X3 (N1) ge1
  have sg4 : ∀ target, Steps p.tables e below (T3.setTop (mkF m 157 #[.val (.int p1), .val (.int p2), .val (.int p3), .val (.int p4), .val (.int p5), .val (.int (2 : Int32)), .val (.ref a1), .val (.long (((p2).toInt64) + ((p3).toInt64))), .second, .unset, .unset] [])) target → Steps p.tables e below (T3.setTop (mkF m 66 #[.val (.int p1), .val (.int p2), .val (.int p3), .val (.int p4), .val (.int p5), .val (.int (2 : Int32)), .unset, .unset, .unset, .unset, .unset] [(.ref a1)])) target := by
    intro target kt
    show Steps p.tables e below (T3.setTop (mkF m 66 #[.val (.int p1), .val (.int p2), .val (.int p3), .val (.int p4), .val (.int p5), .val (.int (2 : Int32)), .unset, .unset, .unset, .unset, .unset] [(.ref a1)])) _
    refine XS.astore X3.here hx rfl (hb hby at_66) rfl rfl (l' := #[.val (.int p1), .val (.int p2), .val (.int p3), .val (.int p4), .val (.int p5), .val (.int (2 : Int32)), .val (.ref a1), .unset, .unset, .unset, .unset]) rfl ?_
    show Steps p.tables e below (T3.setTop (mkF m 68 #[.val (.int p1), .val (.int p2), .val (.int p3), .val (.int p4), .val (.int p5), .val (.int (2 : Int32)), .val (.ref a1), .unset, .unset, .unset, .unset] [])) _
    refine XS.iloadN X3.here hx rfl (hb hby at_68) rfl ?_
    show Steps p.tables e below (T3.setTop (mkF m 69 #[.val (.int p1), .val (.int p2), .val (.int p3), .val (.int p4), .val (.int p5), .val (.int (2 : Int32)), .val (.ref a1), .unset, .unset, .unset, .unset] [(.int p2)])) _
    refine XS.i2l X3.here hx rfl (hb hby at_69) rfl ?_
    show Steps p.tables e below (T3.setTop (mkF m 70 #[.val (.int p1), .val (.int p2), .val (.int p3), .val (.int p4), .val (.int p5), .val (.int (2 : Int32)), .val (.ref a1), .unset, .unset, .unset, .unset] [(.long ((p2).toInt64))])) _
    refine XS.iloadN X3.here hx rfl (hb hby at_70) rfl ?_
    show Steps p.tables e below (T3.setTop (mkF m 71 #[.val (.int p1), .val (.int p2), .val (.int p3), .val (.int p4), .val (.int p5), .val (.int (2 : Int32)), .val (.ref a1), .unset, .unset, .unset, .unset] [(.int p3), (.long ((p2).toInt64))])) _
    refine XS.i2l X3.here hx rfl (hb hby at_71) rfl ?_
    show Steps p.tables e below (T3.setTop (mkF m 72 #[.val (.int p1), .val (.int p2), .val (.int p3), .val (.int p4), .val (.int p5), .val (.int (2 : Int32)), .val (.ref a1), .unset, .unset, .unset, .unset] [(.long ((p3).toInt64)), (.long ((p2).toInt64))])) _
    refine XS.ladd X3.here hx rfl (hb hby at_72) rfl ?_
    show Steps p.tables e below (T3.setTop (mkF m 73 #[.val (.int p1), .val (.int p2), .val (.int p3), .val (.int p4), .val (.int p5), .val (.int (2 : Int32)), .val (.ref a1), .unset, .unset, .unset, .unset] [(.long (((p2).toInt64) + ((p3).toInt64)))])) _
    refine XS.lstore X3.here hx rfl (hb hby at_73) rfl (l' := #[.val (.int p1), .val (.int p2), .val (.int p3), .val (.int p4), .val (.int p5), .val (.int (2 : Int32)), .val (.ref a1), .val (.long (((p2).toInt64) + ((p3).toInt64))), .second, .unset, .unset]) rfl ?_
    show Steps p.tables e below (T3.setTop (mkF m 75 #[.val (.int p1), .val (.int p2), .val (.int p3), .val (.int p4), .val (.int p5), .val (.int (2 : Int32)), .val (.ref a1), .val (.long (((p2).toInt64) + ((p3).toInt64))), .second, .unset, .unset] [])) _
    refine XS.goto X3.here hx rfl (pc0 := 75) (pc' := 157) rfl (hb hby at_75) (by decide) (by decide) ?_
    show Steps p.tables e below (T3.setTop (mkF m 157 #[.val (.int p1), .val (.int p2), .val (.int p3), .val (.int p4), .val (.int p5), .val (.int (2 : Int32)), .val (.ref a1), .val (.long (((p2).toInt64) + ((p3).toInt64))), .second, .unset, .unset] [])) _
    exact kt
  refine ⟨T3, h3, a1, k1, _, X3, e3, N2, (Nat.le_trans (Nat.le_trans (Nat.le_trans Z0 E1.1) (Keep.of_wr R2).1) (Keep.of_wr R3).1), V2, fun target kt => ?_⟩
  show Steps p.tables e below (T0.setTop (mkF m 0 #[.val (.int p1), .val (.int p2), .val (.int p3), .val (.int p4), .val (.int p5), .unset, .unset, .unset, .unset, .unset, .unset] [])) _
  refine sg1 _ ?_
  show Steps p.tables e below (T0.setTop (mkF m 54 #[.val (.int p1), .val (.int p2), .val (.int p3), .val (.int p4), .val (.int p5), .val (.int (2 : Int32)), .unset, .unset, .unset, .unset, .unset] [(.int (2 : Int32))])) _
  refine st1 _ ?_
  show Steps p.tables e below (T1.setTop (mkF m 56 #[.val (.int p1), .val (.int p2), .val (.int p3), .val (.int p4), .val (.int p5), .val (.int (2 : Int32)), .unset, .unset, .unset, .unset, .unset] [(.ref a1)])) _
  refine sg2 _ ?_
  show Steps p.tables e below (T1.setTop (mkF m 60 #[.val (.int p1), .val (.int p2), .val (.int p3), .val (.int p4), .val (.int p5), .val (.int (2 : Int32)), .unset, .unset, .unset, .unset, .unset] [(.double (FP.l2d (p2).toInt64)), (.int (0 : Int32)), (.ref a1), (.ref a1)])) _
  refine st2 _ ?_
  show Steps p.tables e below (T2.setTop (mkF m 61 #[.val (.int p1), .val (.int p2), .val (.int p3), .val (.int p4), .val (.int p5), .val (.int (2 : Int32)), .unset, .unset, .unset, .unset, .unset] [(.ref a1)])) _
  refine sg3 _ ?_
  show Steps p.tables e below (T2.setTop (mkF m 65 #[.val (.int p1), .val (.int p2), .val (.int p3), .val (.int p4), .val (.int p5), .val (.int (2 : Int32)), .unset, .unset, .unset, .unset, .unset] [(.double (FP.l2d (p3).toInt64)), (.int (1 : Int32)), (.ref a1), (.ref a1)])) _
  refine st3 _ ?_
  show Steps p.tables e below (T3.setTop (mkF m 66 #[.val (.int p1), .val (.int p2), .val (.int p3), .val (.int p4), .val (.int p5), .val (.int (2 : Int32)), .unset, .unset, .unset, .unset, .unset] [(.ref a1)])) _
  refine sg4 _ ?_
  exact kt
set_option maxRecDepth 65536 in
set_option maxHeartbeats 40000000 in
theorem own_A3 {p : Program} {l : Launch} {e : Env} {s : State} {m : MethodId} {args : Array Value} {below : List Frame} {meth : Method} {c : Code} {T0 : State} {Z : State} {a0 : Array Value} {h0 : Heap} {n0 : Nat} (p1 p2 p3 p4 p5 : Int32)
    (X0 : Stand p l e room_1 s m args below meth c T0 [] 0 0) (hx : p.tables.exec = Jvm.exec) (hZ : Z.Warmed39 s.vm) (hw : ∀ d ∈ tables_1, d.before a0 Z = true) (hby : c.code = code) (hown : s.vm.findClass "com/example/nephila/nephila/rank/RunsSumPinLaw" = some m.cls) (e0 : T0.heap = h0) (Z0 : n0 ≤ h0.size) (hn : (p1 &&& (2147483647 : Int32)) % (5 : Int32) = (3 : Int32)) :
    ∃ (T' : State) (h' : Heap) (a : Addr) (k : ClassId) (L : List Loc), Stand p l e room_1 s m args below meth c T' L 1 3 ∧ T'.heap = h' ∧ Fr n0 L ∧ n0 ≤ h'.size ∧ Arv Z h' a k .double (3 : Int32) [(.double (FP.l2d (p2).toInt64)), (.double (FP.l2d (p3).toInt64)), (.double (FP.l2d (p4).toInt64))] (.double (FP.l2d 0)) ∧
      ∀ target, Steps p.tables e below (T'.setTop (mkF m 157 #[.val (.int p1), .val (.int p2), .val (.int p3), .val (.int p4), .val (.int p5), .val (.int (3 : Int32)), .val (.ref a), .val (.long ((((p2).toInt64) + ((p3).toInt64)) + ((p4).toInt64))), .second, .unset, .unset] [])) target → Steps p.tables e below (T0.setTop (mkF m 0 #[.val (.int p1), .val (.int p2), .val (.int p3), .val (.int p4), .val (.int p5), .unset, .unset, .unset, .unset, .unset, .unset] [])) target := by
  have sg1 : ∀ target, Steps p.tables e below (T0.setTop (mkF m 85 #[.val (.int p1), .val (.int p2), .val (.int p3), .val (.int p4), .val (.int p5), .val (.int (3 : Int32)), .unset, .unset, .unset, .unset, .unset] [(.int (3 : Int32))])) target → Steps p.tables e below (T0.setTop (mkF m 0 #[.val (.int p1), .val (.int p2), .val (.int p3), .val (.int p4), .val (.int p5), .unset, .unset, .unset, .unset, .unset, .unset] [])) target := by
    intro target kt
    show Steps p.tables e below (T0.setTop (mkF m 0 #[.val (.int p1), .val (.int p2), .val (.int p3), .val (.int p4), .val (.int p5), .unset, .unset, .unset, .unset, .unset, .unset] [])) _
    refine XS.iloadN X0.here hx rfl (hb hby at_0) rfl ?_
    show Steps p.tables e below (T0.setTop (mkF m 1 #[.val (.int p1), .val (.int p2), .val (.int p3), .val (.int p4), .val (.int p5), .unset, .unset, .unset, .unset, .unset, .unset] [(.int p1)])) _
    refine X0.ldcInt hx hown (mvT hZ (hw _ (List.mem_of_getElem? (i := 0) rfl))) (g := (mkF m 1 #[.val (.int p1), .val (.int p2), .val (.int p3), .val (.int p4), .val (.int p5), .unset, .unset, .unset, .unset, .unset, .unset] [(.int p1)])) rfl (hb hby at_1) _ ?_
    show Steps p.tables e below (T0.setTop (mkF m 3 #[.val (.int p1), .val (.int p2), .val (.int p3), .val (.int p4), .val (.int p5), .unset, .unset, .unset, .unset, .unset, .unset] [(.int (2147483647 : Int32)), (.int p1)])) _
    refine XS.iand X0.here hx rfl (hb hby at_3) rfl ?_
    show Steps p.tables e below (T0.setTop (mkF m 4 #[.val (.int p1), .val (.int p2), .val (.int p3), .val (.int p4), .val (.int p5), .unset, .unset, .unset, .unset, .unset, .unset] [(.int (p1 &&& (2147483647 : Int32)))])) _
    refine XS.iconst X0.here hx rfl (hb hby at_4) ?_
    show Steps p.tables e below (T0.setTop (mkF m 5 #[.val (.int p1), .val (.int p2), .val (.int p3), .val (.int p4), .val (.int p5), .unset, .unset, .unset, .unset, .unset, .unset] [(.int (5 : Int32)), (.int (p1 &&& (2147483647 : Int32)))])) _
    refine iremM X0 hx rfl (hb hby at_5) rfl (by decide) ?_
    show Steps p.tables e below (T0.setTop (mkF m 6 #[.val (.int p1), .val (.int p2), .val (.int p3), .val (.int p4), .val (.int p5), .unset, .unset, .unset, .unset, .unset, .unset] [(.int ((p1 &&& (2147483647 : Int32)) % (5 : Int32)))])) _
    rw [hn]
    show Steps p.tables e below (T0.setTop (mkF m 6 #[.val (.int p1), .val (.int p2), .val (.int p3), .val (.int p4), .val (.int p5), .unset, .unset, .unset, .unset, .unset, .unset] [(.int (3 : Int32))])) _
    refine XS.istore X0.here hx rfl (hb hby at_6) rfl (l' := #[.val (.int p1), .val (.int p2), .val (.int p3), .val (.int p4), .val (.int p5), .val (.int (3 : Int32)), .unset, .unset, .unset, .unset, .unset]) rfl ?_
    show Steps p.tables e below (T0.setTop (mkF m 8 #[.val (.int p1), .val (.int p2), .val (.int p3), .val (.int p4), .val (.int p5), .val (.int (3 : Int32)), .unset, .unset, .unset, .unset, .unset] [])) _
    refine XS.iload X0.here hx rfl (hb hby at_8) rfl ?_
    show Steps p.tables e below (T0.setTop (mkF m 10 #[.val (.int p1), .val (.int p2), .val (.int p3), .val (.int p4), .val (.int p5), .val (.int (3 : Int32)), .unset, .unset, .unset, .unset, .unset] [(.int (3 : Int32))])) _
    refine XS.ifYes X0.here hx rfl (pc0 := 10) (pc' := 24) rfl (hb hby at_10) rfl (by decide) (by decide) (by decide) ?_
    show Steps p.tables e below (T0.setTop (mkF m 24 #[.val (.int p1), .val (.int p2), .val (.int p3), .val (.int p4), .val (.int p5), .val (.int (3 : Int32)), .unset, .unset, .unset, .unset, .unset] [])) _
    refine XS.iload X0.here hx rfl (hb hby at_24) rfl ?_
    show Steps p.tables e below (T0.setTop (mkF m 26 #[.val (.int p1), .val (.int p2), .val (.int p3), .val (.int p4), .val (.int p5), .val (.int (3 : Int32)), .unset, .unset, .unset, .unset, .unset] [(.int (3 : Int32))])) _
    refine XS.iconst X0.here hx rfl (hb hby at_26) ?_
    show Steps p.tables e below (T0.setTop (mkF m 27 #[.val (.int p1), .val (.int p2), .val (.int p3), .val (.int p4), .val (.int p5), .val (.int (3 : Int32)), .unset, .unset, .unset, .unset, .unset] [(.int (1 : Int32)), (.int (3 : Int32))])) _
    refine XS.icmpYes X0.here hx rfl (pc0 := 27) (pc' := 47) rfl (hb hby at_27) rfl (by decide) (by decide) (by decide) ?_
    show Steps p.tables e below (T0.setTop (mkF m 47 #[.val (.int p1), .val (.int p2), .val (.int p3), .val (.int p4), .val (.int p5), .val (.int (3 : Int32)), .unset, .unset, .unset, .unset, .unset] [])) _
    refine XS.iload X0.here hx rfl (hb hby at_47) rfl ?_
    show Steps p.tables e below (T0.setTop (mkF m 49 #[.val (.int p1), .val (.int p2), .val (.int p3), .val (.int p4), .val (.int p5), .val (.int (3 : Int32)), .unset, .unset, .unset, .unset, .unset] [(.int (3 : Int32))])) _
    refine XS.iconst X0.here hx rfl (hb hby at_49) ?_
    show Steps p.tables e below (T0.setTop (mkF m 50 #[.val (.int p1), .val (.int p2), .val (.int p3), .val (.int p4), .val (.int p5), .val (.int (3 : Int32)), .unset, .unset, .unset, .unset, .unset] [(.int (2 : Int32)), (.int (3 : Int32))])) _
    refine XS.icmpYes X0.here hx rfl (pc0 := 50) (pc' := 78) rfl (hb hby at_50) rfl (by decide) (by decide) (by decide) ?_
    show Steps p.tables e below (T0.setTop (mkF m 78 #[.val (.int p1), .val (.int p2), .val (.int p3), .val (.int p4), .val (.int p5), .val (.int (3 : Int32)), .unset, .unset, .unset, .unset, .unset] [])) _
    refine XS.iload X0.here hx rfl (hb hby at_78) rfl ?_
    show Steps p.tables e below (T0.setTop (mkF m 80 #[.val (.int p1), .val (.int p2), .val (.int p3), .val (.int p4), .val (.int p5), .val (.int (3 : Int32)), .unset, .unset, .unset, .unset, .unset] [(.int (3 : Int32))])) _
    refine XS.iconst X0.here hx rfl (hb hby at_80) ?_
    show Steps p.tables e below (T0.setTop (mkF m 81 #[.val (.int p1), .val (.int p2), .val (.int p3), .val (.int p4), .val (.int p5), .val (.int (3 : Int32)), .unset, .unset, .unset, .unset, .unset] [(.int (3 : Int32)), (.int (3 : Int32))])) _
    refine XS.icmpNo X0.here hx rfl (hb hby at_81) rfl (by decide) ?_
    show Steps p.tables e below (T0.setTop (mkF m 84 #[.val (.int p1), .val (.int p2), .val (.int p3), .val (.int p4), .val (.int p5), .val (.int (3 : Int32)), .unset, .unset, .unset, .unset, .unset] [])) _
    refine XS.iconst X0.here hx rfl (hb hby at_84) ?_
    show Steps p.tables e below (T0.setTop (mkF m 85 #[.val (.int p1), .val (.int p2), .val (.int p3), .val (.int p4), .val (.int p5), .val (.int (3 : Int32)), .unset, .unset, .unset, .unset, .unset] [(.int (3 : Int32))])) _
    exact kt
  obtain ⟨T1, h1, k1, X1, e1, E1, A1, st1⟩ := newP X0 hx hZ (hw _ (List.mem_of_getElem? (i := 1) rfl)) e0 (g := (mkF m 85 #[.val (.int p1), .val (.int p2), .val (.int p3), .val (.int p4), .val (.int p5), .val (.int (3 : Int32)), .unset, .unset, .unset, .unset, .unset] [(.int (3 : Int32))])) rfl (hb hby at_85) rfl (by decide : ¬ ((3 : Int32) < (0 : Int32))) (cap := 3) (by decide : (3 : Int32).toNatClampNeg ≤ 3) (by decide) (by decide) (by decide)
  obtain ⟨a1, g1⟩ : ∃ z, z = h0.size := ⟨_, rfl⟩
  rw [← g1] at A1 st1
  have ge1 : n0 ≤ a1 := by omega
  have V0 : Arv Z h1 a1 k1 .double (3 : Int32) [] (.double (FP.l2d 0)) := Arv.newD A1 (by decide)
  have sg2 : ∀ target, Steps p.tables e below (T1.setTop (mkF m 91 #[.val (.int p1), .val (.int p2), .val (.int p3), .val (.int p4), .val (.int p5), .val (.int (3 : Int32)), .unset, .unset, .unset, .unset, .unset] [(.double (FP.l2d (p2).toInt64)), (.int (0 : Int32)), (.ref a1), (.ref a1)])) target → Steps p.tables e below (T1.setTop (mkF m 87 #[.val (.int p1), .val (.int p2), .val (.int p3), .val (.int p4), .val (.int p5), .val (.int (3 : Int32)), .unset, .unset, .unset, .unset, .unset] [(.ref a1)])) target := by
    intro target kt
    show Steps p.tables e below (T1.setTop (mkF m 87 #[.val (.int p1), .val (.int p2), .val (.int p3), .val (.int p4), .val (.int p5), .val (.int (3 : Int32)), .unset, .unset, .unset, .unset, .unset] [(.ref a1)])) _
    refine XS.dup X1.here hx rfl (hb hby at_87) rfl rfl ?_
    show Steps p.tables e below (T1.setTop (mkF m 88 #[.val (.int p1), .val (.int p2), .val (.int p3), .val (.int p4), .val (.int p5), .val (.int (3 : Int32)), .unset, .unset, .unset, .unset, .unset] [(.ref a1), (.ref a1)])) _
    refine XS.iconst X1.here hx rfl (hb hby at_88) ?_
    show Steps p.tables e below (T1.setTop (mkF m 89 #[.val (.int p1), .val (.int p2), .val (.int p3), .val (.int p4), .val (.int p5), .val (.int (3 : Int32)), .unset, .unset, .unset, .unset, .unset] [(.int (0 : Int32)), (.ref a1), (.ref a1)])) _
    refine XS.iloadN X1.here hx rfl (hb hby at_89) rfl ?_
    show Steps p.tables e below (T1.setTop (mkF m 90 #[.val (.int p1), .val (.int p2), .val (.int p3), .val (.int p4), .val (.int p5), .val (.int (3 : Int32)), .unset, .unset, .unset, .unset, .unset] [(.int p2), (.int (0 : Int32)), (.ref a1), (.ref a1)])) _
    refine XS.i2dS X1.here hx rfl (hb hby at_90) rfl (i2d_w _) ?_
    show Steps p.tables e below (T1.setTop (mkF m 91 #[.val (.int p1), .val (.int p2), .val (.int p3), .val (.int p4), .val (.int p5), .val (.int (3 : Int32)), .unset, .unset, .unset, .unset, .unset] [(.double (FP.l2d (p2).toInt64)), (.int (0 : Int32)), (.ref a1), (.ref a1)])) _
    exact kt
  have W0 := V0.pad (pad_rep [] (.double (FP.l2d 0)) 1)
  obtain ⟨c0, B0, q0, S0, M0, H0, U0⟩ := W0
  obtain ⟨T2, h2, X2, e2, R2, st2⟩ := stD X1 hx hZ e1 B0 (j := (0 : Int32)) (inb_of S0 ⟨by decide, by decide⟩) (g := (mkF m 91 #[.val (.int p1), .val (.int p2), .val (.int p3), .val (.int p4), .val (.int p5), .val (.int (3 : Int32)), .unset, .unset, .unset, .unset, .unset] [(.double (FP.l2d (p2).toInt64)), (.int (0 : Int32)), (.ref a1), (.ref a1)])) rfl rfl (hb hby at_91)
  have V1 : Arv Z h2 a1 k1 .double (3 : Int32) [(.double (FP.l2d (p2).toInt64))] (.double (FP.l2d 0)) := Arv.set B0 q0 S0 M0 H0 U0 rfl R2 0 rfl (Nat.le_of_ble_eq_true rfl)
  have N1 := Fr.snoc X2 (Fr.nil n0) ge1
  have sg3 : ∀ target, Steps p.tables e below (T2.setTop (mkF m 96 #[.val (.int p1), .val (.int p2), .val (.int p3), .val (.int p4), .val (.int p5), .val (.int (3 : Int32)), .unset, .unset, .unset, .unset, .unset] [(.double (FP.l2d (p3).toInt64)), (.int (1 : Int32)), (.ref a1), (.ref a1)])) target → Steps p.tables e below (T2.setTop (mkF m 92 #[.val (.int p1), .val (.int p2), .val (.int p3), .val (.int p4), .val (.int p5), .val (.int (3 : Int32)), .unset, .unset, .unset, .unset, .unset] [(.ref a1)])) target := by
    intro target kt
    show Steps p.tables e below (T2.setTop (mkF m 92 #[.val (.int p1), .val (.int p2), .val (.int p3), .val (.int p4), .val (.int p5), .val (.int (3 : Int32)), .unset, .unset, .unset, .unset, .unset] [(.ref a1)])) _
    refine XS.dup X2.here hx rfl (hb hby at_92) rfl rfl ?_
    show Steps p.tables e below (T2.setTop (mkF m 93 #[.val (.int p1), .val (.int p2), .val (.int p3), .val (.int p4), .val (.int p5), .val (.int (3 : Int32)), .unset, .unset, .unset, .unset, .unset] [(.ref a1), (.ref a1)])) _
    refine XS.iconst X2.here hx rfl (hb hby at_93) ?_
    show Steps p.tables e below (T2.setTop (mkF m 94 #[.val (.int p1), .val (.int p2), .val (.int p3), .val (.int p4), .val (.int p5), .val (.int (3 : Int32)), .unset, .unset, .unset, .unset, .unset] [(.int (1 : Int32)), (.ref a1), (.ref a1)])) _
    refine XS.iloadN X2.here hx rfl (hb hby at_94) rfl ?_
    show Steps p.tables e below (T2.setTop (mkF m 95 #[.val (.int p1), .val (.int p2), .val (.int p3), .val (.int p4), .val (.int p5), .val (.int (3 : Int32)), .unset, .unset, .unset, .unset, .unset] [(.int p3), (.int (1 : Int32)), (.ref a1), (.ref a1)])) _
    refine XS.i2dS X2.here hx rfl (hb hby at_95) rfl (i2d_w _) ?_
    show Steps p.tables e below (T2.setTop (mkF m 96 #[.val (.int p1), .val (.int p2), .val (.int p3), .val (.int p4), .val (.int p5), .val (.int (3 : Int32)), .unset, .unset, .unset, .unset, .unset] [(.double (FP.l2d (p3).toInt64)), (.int (1 : Int32)), (.ref a1), (.ref a1)])) _
    exact kt
  have W1 := V1.pad (pad_rep [(.double (FP.l2d (p2).toInt64))] (.double (FP.l2d 0)) 1)
  obtain ⟨c1, B1, q1, S1, M1, H1, U1⟩ := W1
  obtain ⟨T3, h3, X3, e3, R3, st3⟩ := stD X2 hx hZ e2 B1 (j := (1 : Int32)) (inb_of S1 ⟨by decide, by decide⟩) (g := (mkF m 96 #[.val (.int p1), .val (.int p2), .val (.int p3), .val (.int p4), .val (.int p5), .val (.int (3 : Int32)), .unset, .unset, .unset, .unset, .unset] [(.double (FP.l2d (p3).toInt64)), (.int (1 : Int32)), (.ref a1), (.ref a1)])) rfl rfl (hb hby at_96)
  have V2 : Arv Z h3 a1 k1 .double (3 : Int32) [(.double (FP.l2d (p2).toInt64)), (.double (FP.l2d (p3).toInt64))] (.double (FP.l2d 0)) := Arv.set B1 q1 S1 M1 H1 U1 rfl R3 1 rfl (Nat.le_of_ble_eq_true rfl)
  have N2 := Fr.snoc X3 (N1) ge1
  have sg4 : ∀ target, Steps p.tables e below (T3.setTop (mkF m 101 #[.val (.int p1), .val (.int p2), .val (.int p3), .val (.int p4), .val (.int p5), .val (.int (3 : Int32)), .unset, .unset, .unset, .unset, .unset] [(.double (FP.l2d (p4).toInt64)), (.int (2 : Int32)), (.ref a1), (.ref a1)])) target → Steps p.tables e below (T3.setTop (mkF m 97 #[.val (.int p1), .val (.int p2), .val (.int p3), .val (.int p4), .val (.int p5), .val (.int (3 : Int32)), .unset, .unset, .unset, .unset, .unset] [(.ref a1)])) target := by
    intro target kt
    show Steps p.tables e below (T3.setTop (mkF m 97 #[.val (.int p1), .val (.int p2), .val (.int p3), .val (.int p4), .val (.int p5), .val (.int (3 : Int32)), .unset, .unset, .unset, .unset, .unset] [(.ref a1)])) _
    refine XS.dup X3.here hx rfl (hb hby at_97) rfl rfl ?_
    show Steps p.tables e below (T3.setTop (mkF m 98 #[.val (.int p1), .val (.int p2), .val (.int p3), .val (.int p4), .val (.int p5), .val (.int (3 : Int32)), .unset, .unset, .unset, .unset, .unset] [(.ref a1), (.ref a1)])) _
    refine XS.iconst X3.here hx rfl (hb hby at_98) ?_
    show Steps p.tables e below (T3.setTop (mkF m 99 #[.val (.int p1), .val (.int p2), .val (.int p3), .val (.int p4), .val (.int p5), .val (.int (3 : Int32)), .unset, .unset, .unset, .unset, .unset] [(.int (2 : Int32)), (.ref a1), (.ref a1)])) _
    refine XS.iloadN X3.here hx rfl (hb hby at_99) rfl ?_
    show Steps p.tables e below (T3.setTop (mkF m 100 #[.val (.int p1), .val (.int p2), .val (.int p3), .val (.int p4), .val (.int p5), .val (.int (3 : Int32)), .unset, .unset, .unset, .unset, .unset] [(.int p4), (.int (2 : Int32)), (.ref a1), (.ref a1)])) _
    refine XS.i2dS X3.here hx rfl (hb hby at_100) rfl (i2d_w _) ?_
    show Steps p.tables e below (T3.setTop (mkF m 101 #[.val (.int p1), .val (.int p2), .val (.int p3), .val (.int p4), .val (.int p5), .val (.int (3 : Int32)), .unset, .unset, .unset, .unset, .unset] [(.double (FP.l2d (p4).toInt64)), (.int (2 : Int32)), (.ref a1), (.ref a1)])) _
    exact kt
  have W2 := V2.pad (pad_rep [(.double (FP.l2d (p2).toInt64)), (.double (FP.l2d (p3).toInt64))] (.double (FP.l2d 0)) 1)
  obtain ⟨c2, B2, q2, S2, M2, H2, U2⟩ := W2
  obtain ⟨T4, h4, X4, e4, R4, st4⟩ := stD X3 hx hZ e3 B2 (j := (2 : Int32)) (inb_of S2 ⟨by decide, by decide⟩) (g := (mkF m 101 #[.val (.int p1), .val (.int p2), .val (.int p3), .val (.int p4), .val (.int p5), .val (.int (3 : Int32)), .unset, .unset, .unset, .unset, .unset] [(.double (FP.l2d (p4).toInt64)), (.int (2 : Int32)), (.ref a1), (.ref a1)])) rfl rfl (hb hby at_101)
  have V3 : Arv Z h4 a1 k1 .double (3 : Int32) [(.double (FP.l2d (p2).toInt64)), (.double (FP.l2d (p3).toInt64)), (.double (FP.l2d (p4).toInt64))] (.double (FP.l2d 0)) := Arv.set B2 q2 S2 M2 H2 U2 rfl R4 2 rfl (Nat.le_of_ble_eq_true rfl)
  have N3 := Fr.snoc X4 (N2) ge1
  have sg5 : ∀ target, Steps p.tables e below (T4.setTop (mkF m 157 #[.val (.int p1), .val (.int p2), .val (.int p3), .val (.int p4), .val (.int p5), .val (.int (3 : Int32)), .val (.ref a1), .val (.long ((((p2).toInt64) + ((p3).toInt64)) + ((p4).toInt64))), .second, .unset, .unset] [])) target → Steps p.tables e below (T4.setTop (mkF m 102 #[.val (.int p1), .val (.int p2), .val (.int p3), .val (.int p4), .val (.int p5), .val (.int (3 : Int32)), .unset, .unset, .unset, .unset, .unset] [(.ref a1)])) target := by
    intro target kt
    show Steps p.tables e below (T4.setTop (mkF m 102 #[.val (.int p1), .val (.int p2), .val (.int p3), .val (.int p4), .val (.int p5), .val (.int (3 : Int32)), .unset, .unset, .unset, .unset, .unset] [(.ref a1)])) _
    refine XS.astore X4.here hx rfl (hb hby at_102) rfl rfl (l' := #[.val (.int p1), .val (.int p2), .val (.int p3), .val (.int p4), .val (.int p5), .val (.int (3 : Int32)), .val (.ref a1), .unset, .unset, .unset, .unset]) rfl ?_
    show Steps p.tables e below (T4.setTop (mkF m 104 #[.val (.int p1), .val (.int p2), .val (.int p3), .val (.int p4), .val (.int p5), .val (.int (3 : Int32)), .val (.ref a1), .unset, .unset, .unset, .unset] [])) _
    refine XS.iloadN X4.here hx rfl (hb hby at_104) rfl ?_
    show Steps p.tables e below (T4.setTop (mkF m 105 #[.val (.int p1), .val (.int p2), .val (.int p3), .val (.int p4), .val (.int p5), .val (.int (3 : Int32)), .val (.ref a1), .unset, .unset, .unset, .unset] [(.int p2)])) _
    refine XS.i2l X4.here hx rfl (hb hby at_105) rfl ?_
    show Steps p.tables e below (T4.setTop (mkF m 106 #[.val (.int p1), .val (.int p2), .val (.int p3), .val (.int p4), .val (.int p5), .val (.int (3 : Int32)), .val (.ref a1), .unset, .unset, .unset, .unset] [(.long ((p2).toInt64))])) _
    refine XS.iloadN X4.here hx rfl (hb hby at_106) rfl ?_
    show Steps p.tables e below (T4.setTop (mkF m 107 #[.val (.int p1), .val (.int p2), .val (.int p3), .val (.int p4), .val (.int p5), .val (.int (3 : Int32)), .val (.ref a1), .unset, .unset, .unset, .unset] [(.int p3), (.long ((p2).toInt64))])) _
    refine XS.i2l X4.here hx rfl (hb hby at_107) rfl ?_
    show Steps p.tables e below (T4.setTop (mkF m 108 #[.val (.int p1), .val (.int p2), .val (.int p3), .val (.int p4), .val (.int p5), .val (.int (3 : Int32)), .val (.ref a1), .unset, .unset, .unset, .unset] [(.long ((p3).toInt64)), (.long ((p2).toInt64))])) _
    refine XS.ladd X4.here hx rfl (hb hby at_108) rfl ?_
    show Steps p.tables e below (T4.setTop (mkF m 109 #[.val (.int p1), .val (.int p2), .val (.int p3), .val (.int p4), .val (.int p5), .val (.int (3 : Int32)), .val (.ref a1), .unset, .unset, .unset, .unset] [(.long (((p2).toInt64) + ((p3).toInt64)))])) _
    refine XS.iloadN X4.here hx rfl (hb hby at_109) rfl ?_
    show Steps p.tables e below (T4.setTop (mkF m 110 #[.val (.int p1), .val (.int p2), .val (.int p3), .val (.int p4), .val (.int p5), .val (.int (3 : Int32)), .val (.ref a1), .unset, .unset, .unset, .unset] [(.int p4), (.long (((p2).toInt64) + ((p3).toInt64)))])) _
    refine XS.i2l X4.here hx rfl (hb hby at_110) rfl ?_
    show Steps p.tables e below (T4.setTop (mkF m 111 #[.val (.int p1), .val (.int p2), .val (.int p3), .val (.int p4), .val (.int p5), .val (.int (3 : Int32)), .val (.ref a1), .unset, .unset, .unset, .unset] [(.long ((p4).toInt64)), (.long (((p2).toInt64) + ((p3).toInt64)))])) _
    refine XS.ladd X4.here hx rfl (hb hby at_111) rfl ?_
    show Steps p.tables e below (T4.setTop (mkF m 112 #[.val (.int p1), .val (.int p2), .val (.int p3), .val (.int p4), .val (.int p5), .val (.int (3 : Int32)), .val (.ref a1), .unset, .unset, .unset, .unset] [(.long ((((p2).toInt64) + ((p3).toInt64)) + ((p4).toInt64)))])) _
    refine XS.lstore X4.here hx rfl (hb hby at_112) rfl (l' := #[.val (.int p1), .val (.int p2), .val (.int p3), .val (.int p4), .val (.int p5), .val (.int (3 : Int32)), .val (.ref a1), .val (.long ((((p2).toInt64) + ((p3).toInt64)) + ((p4).toInt64))), .second, .unset, .unset]) rfl ?_
    show Steps p.tables e below (T4.setTop (mkF m 114 #[.val (.int p1), .val (.int p2), .val (.int p3), .val (.int p4), .val (.int p5), .val (.int (3 : Int32)), .val (.ref a1), .val (.long ((((p2).toInt64) + ((p3).toInt64)) + ((p4).toInt64))), .second, .unset, .unset] [])) _
    refine XS.goto X4.here hx rfl (pc0 := 114) (pc' := 157) rfl (hb hby at_114) (by decide) (by decide) ?_
    show Steps p.tables e below (T4.setTop (mkF m 157 #[.val (.int p1), .val (.int p2), .val (.int p3), .val (.int p4), .val (.int p5), .val (.int (3 : Int32)), .val (.ref a1), .val (.long ((((p2).toInt64) + ((p3).toInt64)) + ((p4).toInt64))), .second, .unset, .unset] [])) _
    exact kt
  refine ⟨T4, h4, a1, k1, _, X4, e4, N3, (Nat.le_trans (Nat.le_trans (Nat.le_trans (Nat.le_trans Z0 E1.1) (Keep.of_wr R2).1) (Keep.of_wr R3).1) (Keep.of_wr R4).1), V3, fun target kt => ?_⟩
  show Steps p.tables e below (T0.setTop (mkF m 0 #[.val (.int p1), .val (.int p2), .val (.int p3), .val (.int p4), .val (.int p5), .unset, .unset, .unset, .unset, .unset, .unset] [])) _
  refine sg1 _ ?_
  show Steps p.tables e below (T0.setTop (mkF m 85 #[.val (.int p1), .val (.int p2), .val (.int p3), .val (.int p4), .val (.int p5), .val (.int (3 : Int32)), .unset, .unset, .unset, .unset, .unset] [(.int (3 : Int32))])) _
  refine st1 _ ?_
  show Steps p.tables e below (T1.setTop (mkF m 87 #[.val (.int p1), .val (.int p2), .val (.int p3), .val (.int p4), .val (.int p5), .val (.int (3 : Int32)), .unset, .unset, .unset, .unset, .unset] [(.ref a1)])) _
  refine sg2 _ ?_
  show Steps p.tables e below (T1.setTop (mkF m 91 #[.val (.int p1), .val (.int p2), .val (.int p3), .val (.int p4), .val (.int p5), .val (.int (3 : Int32)), .unset, .unset, .unset, .unset, .unset] [(.double (FP.l2d (p2).toInt64)), (.int (0 : Int32)), (.ref a1), (.ref a1)])) _
  refine st2 _ ?_
  show Steps p.tables e below (T2.setTop (mkF m 92 #[.val (.int p1), .val (.int p2), .val (.int p3), .val (.int p4), .val (.int p5), .val (.int (3 : Int32)), .unset, .unset, .unset, .unset, .unset] [(.ref a1)])) _
  refine sg3 _ ?_
  show Steps p.tables e below (T2.setTop (mkF m 96 #[.val (.int p1), .val (.int p2), .val (.int p3), .val (.int p4), .val (.int p5), .val (.int (3 : Int32)), .unset, .unset, .unset, .unset, .unset] [(.double (FP.l2d (p3).toInt64)), (.int (1 : Int32)), (.ref a1), (.ref a1)])) _
  refine st3 _ ?_
  show Steps p.tables e below (T3.setTop (mkF m 97 #[.val (.int p1), .val (.int p2), .val (.int p3), .val (.int p4), .val (.int p5), .val (.int (3 : Int32)), .unset, .unset, .unset, .unset, .unset] [(.ref a1)])) _
  refine sg4 _ ?_
  show Steps p.tables e below (T3.setTop (mkF m 101 #[.val (.int p1), .val (.int p2), .val (.int p3), .val (.int p4), .val (.int p5), .val (.int (3 : Int32)), .unset, .unset, .unset, .unset, .unset] [(.double (FP.l2d (p4).toInt64)), (.int (2 : Int32)), (.ref a1), (.ref a1)])) _
  refine st4 _ ?_
  show Steps p.tables e below (T4.setTop (mkF m 102 #[.val (.int p1), .val (.int p2), .val (.int p3), .val (.int p4), .val (.int p5), .val (.int (3 : Int32)), .unset, .unset, .unset, .unset, .unset] [(.ref a1)])) _
  refine sg5 _ ?_
  exact kt
set_option maxRecDepth 65536 in
set_option maxHeartbeats 40000000 in
theorem own_A4 {p : Program} {l : Launch} {e : Env} {s : State} {m : MethodId} {args : Array Value} {below : List Frame} {meth : Method} {c : Code} {T0 : State} {Z : State} {a0 : Array Value} {h0 : Heap} {n0 : Nat} (p1 p2 p3 p4 p5 : Int32)
    (X0 : Stand p l e room_1 s m args below meth c T0 [] 0 0) (hx : p.tables.exec = Jvm.exec) (hZ : Z.Warmed39 s.vm) (hw : ∀ d ∈ tables_1, d.before a0 Z = true) (hby : c.code = code) (hown : s.vm.findClass "com/example/nephila/nephila/rank/RunsSumPinLaw" = some m.cls) (e0 : T0.heap = h0) (Z0 : n0 ≤ h0.size) (hn : (p1 &&& (2147483647 : Int32)) % (5 : Int32) = (4 : Int32)) :
    ∃ (T' : State) (h' : Heap) (a : Addr) (k : ClassId) (L : List Loc), Stand p l e room_1 s m args below meth c T' L 1 4 ∧ T'.heap = h' ∧ Fr n0 L ∧ n0 ≤ h'.size ∧ Arv Z h' a k .double (4 : Int32) [(.double (FP.l2d (p2).toInt64)), (.double (FP.l2d (p3).toInt64)), (.double (FP.l2d (p4).toInt64)), (.double (FP.l2d (p5).toInt64))] (.double (FP.l2d 0)) ∧
      ∀ target, Steps p.tables e below (T'.setTop (mkF m 157 #[.val (.int p1), .val (.int p2), .val (.int p3), .val (.int p4), .val (.int p5), .val (.int (4 : Int32)), .val (.ref a), .val (.long (((((p2).toInt64) + ((p3).toInt64)) + ((p4).toInt64)) + ((p5).toInt64))), .second, .unset, .unset] [])) target → Steps p.tables e below (T0.setTop (mkF m 0 #[.val (.int p1), .val (.int p2), .val (.int p3), .val (.int p4), .val (.int p5), .unset, .unset, .unset, .unset, .unset, .unset] [])) target := by
  have sg1 : ∀ target, Steps p.tables e below (T0.setTop (mkF m 118 #[.val (.int p1), .val (.int p2), .val (.int p3), .val (.int p4), .val (.int p5), .val (.int (4 : Int32)), .unset, .unset, .unset, .unset, .unset] [(.int (4 : Int32))])) target → Steps p.tables e below (T0.setTop (mkF m 0 #[.val (.int p1), .val (.int p2), .val (.int p3), .val (.int p4), .val (.int p5), .unset, .unset, .unset, .unset, .unset, .unset] [])) target := by
    intro target kt
    show Steps p.tables e below (T0.setTop (mkF m 0 #[.val (.int p1), .val (.int p2), .val (.int p3), .val (.int p4), .val (.int p5), .unset, .unset, .unset, .unset, .unset, .unset] [])) _
    refine XS.iloadN X0.here hx rfl (hb hby at_0) rfl ?_
    show Steps p.tables e below (T0.setTop (mkF m 1 #[.val (.int p1), .val (.int p2), .val (.int p3), .val (.int p4), .val (.int p5), .unset, .unset, .unset, .unset, .unset, .unset] [(.int p1)])) _
    refine X0.ldcInt hx hown (mvT hZ (hw _ (List.mem_of_getElem? (i := 0) rfl))) (g := (mkF m 1 #[.val (.int p1), .val (.int p2), .val (.int p3), .val (.int p4), .val (.int p5), .unset, .unset, .unset, .unset, .unset, .unset] [(.int p1)])) rfl (hb hby at_1) _ ?_
    show Steps p.tables e below (T0.setTop (mkF m 3 #[.val (.int p1), .val (.int p2), .val (.int p3), .val (.int p4), .val (.int p5), .unset, .unset, .unset, .unset, .unset, .unset] [(.int (2147483647 : Int32)), (.int p1)])) _
    refine XS.iand X0.here hx rfl (hb hby at_3) rfl ?_
    show Steps p.tables e below (T0.setTop (mkF m 4 #[.val (.int p1), .val (.int p2), .val (.int p3), .val (.int p4), .val (.int p5), .unset, .unset, .unset, .unset, .unset, .unset] [(.int (p1 &&& (2147483647 : Int32)))])) _
    refine XS.iconst X0.here hx rfl (hb hby at_4) ?_
    show Steps p.tables e below (T0.setTop (mkF m 5 #[.val (.int p1), .val (.int p2), .val (.int p3), .val (.int p4), .val (.int p5), .unset, .unset, .unset, .unset, .unset, .unset] [(.int (5 : Int32)), (.int (p1 &&& (2147483647 : Int32)))])) _
    refine iremM X0 hx rfl (hb hby at_5) rfl (by decide) ?_
    show Steps p.tables e below (T0.setTop (mkF m 6 #[.val (.int p1), .val (.int p2), .val (.int p3), .val (.int p4), .val (.int p5), .unset, .unset, .unset, .unset, .unset, .unset] [(.int ((p1 &&& (2147483647 : Int32)) % (5 : Int32)))])) _
    rw [hn]
    show Steps p.tables e below (T0.setTop (mkF m 6 #[.val (.int p1), .val (.int p2), .val (.int p3), .val (.int p4), .val (.int p5), .unset, .unset, .unset, .unset, .unset, .unset] [(.int (4 : Int32))])) _
    refine XS.istore X0.here hx rfl (hb hby at_6) rfl (l' := #[.val (.int p1), .val (.int p2), .val (.int p3), .val (.int p4), .val (.int p5), .val (.int (4 : Int32)), .unset, .unset, .unset, .unset, .unset]) rfl ?_
    show Steps p.tables e below (T0.setTop (mkF m 8 #[.val (.int p1), .val (.int p2), .val (.int p3), .val (.int p4), .val (.int p5), .val (.int (4 : Int32)), .unset, .unset, .unset, .unset, .unset] [])) _
    refine XS.iload X0.here hx rfl (hb hby at_8) rfl ?_
    show Steps p.tables e below (T0.setTop (mkF m 10 #[.val (.int p1), .val (.int p2), .val (.int p3), .val (.int p4), .val (.int p5), .val (.int (4 : Int32)), .unset, .unset, .unset, .unset, .unset] [(.int (4 : Int32))])) _
    refine XS.ifYes X0.here hx rfl (pc0 := 10) (pc' := 24) rfl (hb hby at_10) rfl (by decide) (by decide) (by decide) ?_
    show Steps p.tables e below (T0.setTop (mkF m 24 #[.val (.int p1), .val (.int p2), .val (.int p3), .val (.int p4), .val (.int p5), .val (.int (4 : Int32)), .unset, .unset, .unset, .unset, .unset] [])) _
    refine XS.iload X0.here hx rfl (hb hby at_24) rfl ?_
    show Steps p.tables e below (T0.setTop (mkF m 26 #[.val (.int p1), .val (.int p2), .val (.int p3), .val (.int p4), .val (.int p5), .val (.int (4 : Int32)), .unset, .unset, .unset, .unset, .unset] [(.int (4 : Int32))])) _
    refine XS.iconst X0.here hx rfl (hb hby at_26) ?_
    show Steps p.tables e below (T0.setTop (mkF m 27 #[.val (.int p1), .val (.int p2), .val (.int p3), .val (.int p4), .val (.int p5), .val (.int (4 : Int32)), .unset, .unset, .unset, .unset, .unset] [(.int (1 : Int32)), (.int (4 : Int32))])) _
    refine XS.icmpYes X0.here hx rfl (pc0 := 27) (pc' := 47) rfl (hb hby at_27) rfl (by decide) (by decide) (by decide) ?_
    show Steps p.tables e below (T0.setTop (mkF m 47 #[.val (.int p1), .val (.int p2), .val (.int p3), .val (.int p4), .val (.int p5), .val (.int (4 : Int32)), .unset, .unset, .unset, .unset, .unset] [])) _
    refine XS.iload X0.here hx rfl (hb hby at_47) rfl ?_
    show Steps p.tables e below (T0.setTop (mkF m 49 #[.val (.int p1), .val (.int p2), .val (.int p3), .val (.int p4), .val (.int p5), .val (.int (4 : Int32)), .unset, .unset, .unset, .unset, .unset] [(.int (4 : Int32))])) _
    refine XS.iconst X0.here hx rfl (hb hby at_49) ?_
    show Steps p.tables e below (T0.setTop (mkF m 50 #[.val (.int p1), .val (.int p2), .val (.int p3), .val (.int p4), .val (.int p5), .val (.int (4 : Int32)), .unset, .unset, .unset, .unset, .unset] [(.int (2 : Int32)), (.int (4 : Int32))])) _
    refine XS.icmpYes X0.here hx rfl (pc0 := 50) (pc' := 78) rfl (hb hby at_50) rfl (by decide) (by decide) (by decide) ?_
    show Steps p.tables e below (T0.setTop (mkF m 78 #[.val (.int p1), .val (.int p2), .val (.int p3), .val (.int p4), .val (.int p5), .val (.int (4 : Int32)), .unset, .unset, .unset, .unset, .unset] [])) _
    refine XS.iload X0.here hx rfl (hb hby at_78) rfl ?_
    show Steps p.tables e below (T0.setTop (mkF m 80 #[.val (.int p1), .val (.int p2), .val (.int p3), .val (.int p4), .val (.int p5), .val (.int (4 : Int32)), .unset, .unset, .unset, .unset, .unset] [(.int (4 : Int32))])) _
    refine XS.iconst X0.here hx rfl (hb hby at_80) ?_
    show Steps p.tables e below (T0.setTop (mkF m 81 #[.val (.int p1), .val (.int p2), .val (.int p3), .val (.int p4), .val (.int p5), .val (.int (4 : Int32)), .unset, .unset, .unset, .unset, .unset] [(.int (3 : Int32)), (.int (4 : Int32))])) _
    refine XS.icmpYes X0.here hx rfl (pc0 := 81) (pc' := 117) rfl (hb hby at_81) rfl (by decide) (by decide) (by decide) ?_
    show Steps p.tables e below (T0.setTop (mkF m 117 #[.val (.int p1), .val (.int p2), .val (.int p3), .val (.int p4), .val (.int p5), .val (.int (4 : Int32)), .unset, .unset, .unset, .unset, .unset] [])) _
    refine XS.iconst X0.here hx rfl (hb hby at_117) ?_
    show Steps p.tables e below (T0.setTop (mkF m 118 #[.val (.int p1), .val (.int p2), .val (.int p3), .val (.int p4), .val (.int p5), .val (.int (4 : Int32)), .unset, .unset, .unset, .unset, .unset] [(.int (4 : Int32))])) _
    exact kt
  obtain ⟨T1, h1, k1, X1, e1, E1, A1, st1⟩ := newP X0 hx hZ (hw _ (List.mem_of_getElem? (i := 1) rfl)) e0 (g := (mkF m 118 #[.val (.int p1), .val (.int p2), .val (.int p3), .val (.int p4), .val (.int p5), .val (.int (4 : Int32)), .unset, .unset, .unset, .unset, .unset] [(.int (4 : Int32))])) rfl (hb hby at_118) rfl (by decide : ¬ ((4 : Int32) < (0 : Int32))) (cap := 4) (by decide : (4 : Int32).toNatClampNeg ≤ 4) (by decide) (by decide) (by decide)
  obtain ⟨a1, g1⟩ : ∃ z, z = h0.size := ⟨_, rfl⟩
  rw [← g1] at A1 st1
  have ge1 : n0 ≤ a1 := by omega
  have V0 : Arv Z h1 a1 k1 .double (4 : Int32) [] (.double (FP.l2d 0)) := Arv.newD A1 (by decide)
  have sg2 : ∀ target, Steps p.tables e below (T1.setTop (mkF m 124 #[.val (.int p1), .val (.int p2), .val (.int p3), .val (.int p4), .val (.int p5), .val (.int (4 : Int32)), .unset, .unset, .unset, .unset, .unset] [(.double (FP.l2d (p2).toInt64)), (.int (0 : Int32)), (.ref a1), (.ref a1)])) target → Steps p.tables e below (T1.setTop (mkF m 120 #[.val (.int p1), .val (.int p2), .val (.int p3), .val (.int p4), .val (.int p5), .val (.int (4 : Int32)), .unset, .unset, .unset, .unset, .unset] [(.ref a1)])) target := by
    intro target kt
    show Steps p.tables e below (T1.setTop (mkF m 120 #[.val (.int p1), .val (.int p2), .val (.int p3), .val (.int p4), .val (.int p5), .val (.int (4 : Int32)), .unset, .unset, .unset, .unset, .unset] [(.ref a1)])) _
    refine XS.dup X1.here hx rfl (hb hby at_120) rfl rfl ?_
    show Steps p.tables e below (T1.setTop (mkF m 121 #[.val (.int p1), .val (.int p2), .val (.int p3), .val (.int p4), .val (.int p5), .val (.int (4 : Int32)), .unset, .unset, .unset, .unset, .unset] [(.ref a1), (.ref a1)])) _
    refine XS.iconst X1.here hx rfl (hb hby at_121) ?_
    show Steps p.tables e below (T1.setTop (mkF m 122 #[.val (.int p1), .val (.int p2), .val (.int p3), .val (.int p4), .val (.int p5), .val (.int (4 : Int32)), .unset, .unset, .unset, .unset, .unset] [(.int (0 : Int32)), (.ref a1), (.ref a1)])) _
    refine XS.iloadN X1.here hx rfl (hb hby at_122) rfl ?_
    show Steps p.tables e below (T1.setTop (mkF m 123 #[.val (.int p1), .val (.int p2), .val (.int p3), .val (.int p4), .val (.int p5), .val (.int (4 : Int32)), .unset, .unset, .unset, .unset, .unset] [(.int p2), (.int (0 : Int32)), (.ref a1), (.ref a1)])) _
    refine XS.i2dS X1.here hx rfl (hb hby at_123) rfl (i2d_w _) ?_
    show Steps p.tables e below (T1.setTop (mkF m 124 #[.val (.int p1), .val (.int p2), .val (.int p3), .val (.int p4), .val (.int p5), .val (.int (4 : Int32)), .unset, .unset, .unset, .unset, .unset] [(.double (FP.l2d (p2).toInt64)), (.int (0 : Int32)), (.ref a1), (.ref a1)])) _
    exact kt
  have W0 := V0.pad (pad_rep [] (.double (FP.l2d 0)) 1)
  obtain ⟨c0, B0, q0, S0, M0, H0, U0⟩ := W0
  obtain ⟨T2, h2, X2, e2, R2, st2⟩ := stD X1 hx hZ e1 B0 (j := (0 : Int32)) (inb_of S0 ⟨by decide, by decide⟩) (g := (mkF m 124 #[.val (.int p1), .val (.int p2), .val (.int p3), .val (.int p4), .val (.int p5), .val (.int (4 : Int32)), .unset, .unset, .unset, .unset, .unset] [(.double (FP.l2d (p2).toInt64)), (.int (0 : Int32)), (.ref a1), (.ref a1)])) rfl rfl (hb hby at_124)
  have V1 : Arv Z h2 a1 k1 .double (4 : Int32) [(.double (FP.l2d (p2).toInt64))] (.double (FP.l2d 0)) := Arv.set B0 q0 S0 M0 H0 U0 rfl R2 0 rfl (Nat.le_of_ble_eq_true rfl)
  have N1 := Fr.snoc X2 (Fr.nil n0) ge1
  have sg3 : ∀ target, Steps p.tables e below (T2.setTop (mkF m 129 #[.val (.int p1), .val (.int p2), .val (.int p3), .val (.int p4), .val (.int p5), .val (.int (4 : Int32)), .unset, .unset, .unset, .unset, .unset] [(.double (FP.l2d (p3).toInt64)), (.int (1 : Int32)), (.ref a1), (.ref a1)])) target → Steps p.tables e below (T2.setTop (mkF m 125 #[.val (.int p1), .val (.int p2), .val (.int p3), .val (.int p4), .val (.int p5), .val (.int (4 : Int32)), .unset, .unset, .unset, .unset, .unset] [(.ref a1)])) target := by
    intro target kt
    show Steps p.tables e below (T2.setTop (mkF m 125 #[.val (.int p1), .val (.int p2), .val (.int p3), .val (.int p4), .val (.int p5), .val (.int (4 : Int32)), .unset, .unset, .unset, .unset, .unset] [(.ref a1)])) _
    refine XS.dup X2.here hx rfl (hb hby at_125) rfl rfl ?_
    show Steps p.tables e below (T2.setTop (mkF m 126 #[.val (.int p1), .val (.int p2), .val (.int p3), .val (.int p4), .val (.int p5), .val (.int (4 : Int32)), .unset, .unset, .unset, .unset, .unset] [(.ref a1), (.ref a1)])) _
    refine XS.iconst X2.here hx rfl (hb hby at_126) ?_
    show Steps p.tables e below (T2.setTop (mkF m 127 #[.val (.int p1), .val (.int p2), .val (.int p3), .val (.int p4), .val (.int p5), .val (.int (4 : Int32)), .unset, .unset, .unset, .unset, .unset] [(.int (1 : Int32)), (.ref a1), (.ref a1)])) _
    refine XS.iloadN X2.here hx rfl (hb hby at_127) rfl ?_
    show Steps p.tables e below (T2.setTop (mkF m 128 #[.val (.int p1), .val (.int p2), .val (.int p3), .val (.int p4), .val (.int p5), .val (.int (4 : Int32)), .unset, .unset, .unset, .unset, .unset] [(.int p3), (.int (1 : Int32)), (.ref a1), (.ref a1)])) _
    refine XS.i2dS X2.here hx rfl (hb hby at_128) rfl (i2d_w _) ?_
    show Steps p.tables e below (T2.setTop (mkF m 129 #[.val (.int p1), .val (.int p2), .val (.int p3), .val (.int p4), .val (.int p5), .val (.int (4 : Int32)), .unset, .unset, .unset, .unset, .unset] [(.double (FP.l2d (p3).toInt64)), (.int (1 : Int32)), (.ref a1), (.ref a1)])) _
    exact kt
  have W1 := V1.pad (pad_rep [(.double (FP.l2d (p2).toInt64))] (.double (FP.l2d 0)) 1)
  obtain ⟨c1, B1, q1, S1, M1, H1, U1⟩ := W1
  obtain ⟨T3, h3, X3, e3, R3, st3⟩ := stD X2 hx hZ e2 B1 (j := (1 : Int32)) (inb_of S1 ⟨by decide, by decide⟩) (g := (mkF m 129 #[.val (.int p1), .val (.int p2), .val (.int p3), .val (.int p4), .val (.int p5), .val (.int (4 : Int32)), .unset, .unset, .unset, .unset, .unset] [(.double (FP.l2d (p3).toInt64)), (.int (1 : Int32)), (.ref a1), (.ref a1)])) rfl rfl (hb hby at_129)
  have V2 : Arv Z h3 a1 k1 .double (4 : Int32) [(.double (FP.l2d (p2).toInt64)), (.double (FP.l2d (p3).toInt64))] (.double (FP.l2d 0)) := Arv.set B1 q1 S1 M1 H1 U1 rfl R3 1 rfl (Nat.le_of_ble_eq_true rfl)
  have N2 := Fr.snoc X3 (N1) ge1
  have sg4 : ∀ target, Steps p.tables e below (T3.setTop (mkF m 134 #[.val (.int p1), .val (.int p2), .val (.int p3), .val (.int p4), .val (.int p5), .val (.int (4 : Int32)), .unset, .unset, .unset, .unset, .unset] [(.double (FP.l2d (p4).toInt64)), (.int (2 : Int32)), (.ref a1), (.ref a1)])) target → Steps p.tables e below (T3.setTop (mkF m 130 #[.val (.int p1), .val (.int p2), .val (.int p3), .val (.int p4), .val (.int p5), .val (.int (4 : Int32)), .unset, .unset, .unset, .unset, .unset] [(.ref a1)])) target := by
    intro target kt
    show Steps p.tables e below (T3.setTop (mkF m 130 #[.val (.int p1), .val (.int p2), .val (.int p3), .val (.int p4), .val (.int p5), .val (.int (4 : Int32)), .unset, .unset, .unset, .unset, .unset] [(.ref a1)])) _
    refine XS.dup X3.here hx rfl (hb hby at_130) rfl rfl ?_
    show Steps p.tables e below (T3.setTop (mkF m 131 #[.val (.int p1), .val (.int p2), .val (.int p3), .val (.int p4), .val (.int p5), .val (.int (4 : Int32)), .unset, .unset, .unset, .unset, .unset] [(.ref a1), (.ref a1)])) _
    refine XS.iconst X3.here hx rfl (hb hby at_131) ?_
    show Steps p.tables e below (T3.setTop (mkF m 132 #[.val (.int p1), .val (.int p2), .val (.int p3), .val (.int p4), .val (.int p5), .val (.int (4 : Int32)), .unset, .unset, .unset, .unset, .unset] [(.int (2 : Int32)), (.ref a1), (.ref a1)])) _
    refine XS.iloadN X3.here hx rfl (hb hby at_132) rfl ?_
    show Steps p.tables e below (T3.setTop (mkF m 133 #[.val (.int p1), .val (.int p2), .val (.int p3), .val (.int p4), .val (.int p5), .val (.int (4 : Int32)), .unset, .unset, .unset, .unset, .unset] [(.int p4), (.int (2 : Int32)), (.ref a1), (.ref a1)])) _
    refine XS.i2dS X3.here hx rfl (hb hby at_133) rfl (i2d_w _) ?_
    show Steps p.tables e below (T3.setTop (mkF m 134 #[.val (.int p1), .val (.int p2), .val (.int p3), .val (.int p4), .val (.int p5), .val (.int (4 : Int32)), .unset, .unset, .unset, .unset, .unset] [(.double (FP.l2d (p4).toInt64)), (.int (2 : Int32)), (.ref a1), (.ref a1)])) _
    exact kt
  have W2 := V2.pad (pad_rep [(.double (FP.l2d (p2).toInt64)), (.double (FP.l2d (p3).toInt64))] (.double (FP.l2d 0)) 1)
  obtain ⟨c2, B2, q2, S2, M2, H2, U2⟩ := W2
  obtain ⟨T4, h4, X4, e4, R4, st4⟩ := stD X3 hx hZ e3 B2 (j := (2 : Int32)) (inb_of S2 ⟨by decide, by decide⟩) (g := (mkF m 134 #[.val (.int p1), .val (.int p2), .val (.int p3), .val (.int p4), .val (.int p5), .val (.int (4 : Int32)), .unset, .unset, .unset, .unset, .unset] [(.double (FP.l2d (p4).toInt64)), (.int (2 : Int32)), (.ref a1), (.ref a1)])) rfl rfl (hb hby at_134)
  have V3 : Arv Z h4 a1 k1 .double (4 : Int32) [(.double (FP.l2d (p2).toInt64)), (.double (FP.l2d (p3).toInt64)), (.double (FP.l2d (p4).toInt64))] (.double (FP.l2d 0)) := Arv.set B2 q2 S2 M2 H2 U2 rfl R4 2 rfl (Nat.le_of_ble_eq_true rfl)
  have N3 := Fr.snoc X4 (N2) ge1
  have sg5 : ∀ target, Steps p.tables e below (T4.setTop (mkF m 140 #[.val (.int p1), .val (.int p2), .val (.int p3), .val (.int p4), .val (.int p5), .val (.int (4 : Int32)), .unset, .unset, .unset, .unset, .unset] [(.double (FP.l2d (p5).toInt64)), (.int (3 : Int32)), (.ref a1), (.ref a1)])) target → Steps p.tables e below (T4.setTop (mkF m 135 #[.val (.int p1), .val (.int p2), .val (.int p3), .val (.int p4), .val (.int p5), .val (.int (4 : Int32)), .unset, .unset, .unset, .unset, .unset] [(.ref a1)])) target := by
    intro target kt
    show Steps p.tables e below (T4.setTop (mkF m 135 #[.val (.int p1), .val (.int p2), .val (.int p3), .val (.int p4), .val (.int p5), .val (.int (4 : Int32)), .unset, .unset, .unset, .unset, .unset] [(.ref a1)])) _
    refine XS.dup X4.here hx rfl (hb hby at_135) rfl rfl ?_
    show Steps p.tables e below (T4.setTop (mkF m 136 #[.val (.int p1), .val (.int p2), .val (.int p3), .val (.int p4), .val (.int p5), .val (.int (4 : Int32)), .unset, .unset, .unset, .unset, .unset] [(.ref a1), (.ref a1)])) _
    refine XS.iconst X4.here hx rfl (hb hby at_136) ?_
    show Steps p.tables e below (T4.setTop (mkF m 137 #[.val (.int p1), .val (.int p2), .val (.int p3), .val (.int p4), .val (.int p5), .val (.int (4 : Int32)), .unset, .unset, .unset, .unset, .unset] [(.int (3 : Int32)), (.ref a1), (.ref a1)])) _
    refine XS.iload X4.here hx rfl (hb hby at_137) rfl ?_
    show Steps p.tables e below (T4.setTop (mkF m 139 #[.val (.int p1), .val (.int p2), .val (.int p3), .val (.int p4), .val (.int p5), .val (.int (4 : Int32)), .unset, .unset, .unset, .unset, .unset] [(.int p5), (.int (3 : Int32)), (.ref a1), (.ref a1)])) _
    refine XS.i2dS X4.here hx rfl (hb hby at_139) rfl (i2d_w _) ?_
    show Steps p.tables e below (T4.setTop (mkF m 140 #[.val (.int p1), .val (.int p2), .val (.int p3), .val (.int p4), .val (.int p5), .val (.int (4 : Int32)), .unset, .unset, .unset, .unset, .unset] [(.double (FP.l2d (p5).toInt64)), (.int (3 : Int32)), (.ref a1), (.ref a1)])) _
    exact kt
  have W3 := V3.pad (pad_rep [(.double (FP.l2d (p2).toInt64)), (.double (FP.l2d (p3).toInt64)), (.double (FP.l2d (p4).toInt64))] (.double (FP.l2d 0)) 1)
  obtain ⟨c3, B3, q3, S3, M3, H3, U3⟩ := W3
  obtain ⟨T5, h5, X5, e5, R5, st5⟩ := stD X4 hx hZ e4 B3 (j := (3 : Int32)) (inb_of S3 ⟨by decide, by decide⟩) (g := (mkF m 140 #[.val (.int p1), .val (.int p2), .val (.int p3), .val (.int p4), .val (.int p5), .val (.int (4 : Int32)), .unset, .unset, .unset, .unset, .unset] [(.double (FP.l2d (p5).toInt64)), (.int (3 : Int32)), (.ref a1), (.ref a1)])) rfl rfl (hb hby at_140)
  have V4 : Arv Z h5 a1 k1 .double (4 : Int32) [(.double (FP.l2d (p2).toInt64)), (.double (FP.l2d (p3).toInt64)), (.double (FP.l2d (p4).toInt64)), (.double (FP.l2d (p5).toInt64))] (.double (FP.l2d 0)) := Arv.set B3 q3 S3 M3 H3 U3 rfl R5 3 rfl (Nat.le_of_ble_eq_true rfl)
  have N4 := Fr.snoc X5 (N3) ge1
  have sg6 : ∀ target, Steps p.tables e below (T5.setTop (mkF m 157 #[.val (.int p1), .val (.int p2), .val (.int p3), .val (.int p4), .val (.int p5), .val (.int (4 : Int32)), .val (.ref a1), .val (.long (((((p2).toInt64) + ((p3).toInt64)) + ((p4).toInt64)) + ((p5).toInt64))), .second, .unset, .unset] [])) target → Steps p.tables e below (T5.setTop (mkF m 141 #[.val (.int p1), .val (.int p2), .val (.int p3), .val (.int p4), .val (.int p5), .val (.int (4 : Int32)), .unset, .unset, .unset, .unset, .unset] [(.ref a1)])) target := by
    intro target kt
    show Steps p.tables e below (T5.setTop (mkF m 141 #[.val (.int p1), .val (.int p2), .val (.int p3), .val (.int p4), .val (.int p5), .val (.int (4 : Int32)), .unset, .unset, .unset, .unset, .unset] [(.ref a1)])) _
    refine XS.astore X5.here hx rfl (hb hby at_141) rfl rfl (l' := #[.val (.int p1), .val (.int p2), .val (.int p3), .val (.int p4), .val (.int p5), .val (.int (4 : Int32)), .val (.ref a1), .unset, .unset, .unset, .unset]) rfl ?_
    show Steps p.tables e below (T5.setTop (mkF m 143 #[.val (.int p1), .val (.int p2), .val (.int p3), .val (.int p4), .val (.int p5), .val (.int (4 : Int32)), .val (.ref a1), .unset, .unset, .unset, .unset] [])) _
    refine XS.iloadN X5.here hx rfl (hb hby at_143) rfl ?_
    show Steps p.tables e below (T5.setTop (mkF m 144 #[.val (.int p1), .val (.int p2), .val (.int p3), .val (.int p4), .val (.int p5), .val (.int (4 : Int32)), .val (.ref a1), .unset, .unset, .unset, .unset] [(.int p2)])) _
    refine XS.i2l X5.here hx rfl (hb hby at_144) rfl ?_
    show Steps p.tables e below (T5.setTop (mkF m 145 #[.val (.int p1), .val (.int p2), .val (.int p3), .val (.int p4), .val (.int p5), .val (.int (4 : Int32)), .val (.ref a1), .unset, .unset, .unset, .unset] [(.long ((p2).toInt64))])) _
    refine XS.iloadN X5.here hx rfl (hb hby at_145) rfl ?_
    show Steps p.tables e below (T5.setTop (mkF m 146 #[.val (.int p1), .val (.int p2), .val (.int p3), .val (.int p4), .val (.int p5), .val (.int (4 : Int32)), .val (.ref a1), .unset, .unset, .unset, .unset] [(.int p3), (.long ((p2).toInt64))])) _
    refine XS.i2l X5.here hx rfl (hb hby at_146) rfl ?_
    show Steps p.tables e below (T5.setTop (mkF m 147 #[.val (.int p1), .val (.int p2), .val (.int p3), .val (.int p4), .val (.int p5), .val (.int (4 : Int32)), .val (.ref a1), .unset, .unset, .unset, .unset] [(.long ((p3).toInt64)), (.long ((p2).toInt64))])) _
    refine XS.ladd X5.here hx rfl (hb hby at_147) rfl ?_
    show Steps p.tables e below (T5.setTop (mkF m 148 #[.val (.int p1), .val (.int p2), .val (.int p3), .val (.int p4), .val (.int p5), .val (.int (4 : Int32)), .val (.ref a1), .unset, .unset, .unset, .unset] [(.long (((p2).toInt64) + ((p3).toInt64)))])) _
    refine XS.iloadN X5.here hx rfl (hb hby at_148) rfl ?_
    show Steps p.tables e below (T5.setTop (mkF m 149 #[.val (.int p1), .val (.int p2), .val (.int p3), .val (.int p4), .val (.int p5), .val (.int (4 : Int32)), .val (.ref a1), .unset, .unset, .unset, .unset] [(.int p4), (.long (((p2).toInt64) + ((p3).toInt64)))])) _
    refine XS.i2l X5.here hx rfl (hb hby at_149) rfl ?_
    show Steps p.tables e below (T5.setTop (mkF m 150 #[.val (.int p1), .val (.int p2), .val (.int p3), .val (.int p4), .val (.int p5), .val (.int (4 : Int32)), .val (.ref a1), .unset, .unset, .unset, .unset] [(.long ((p4).toInt64)), (.long (((p2).toInt64) + ((p3).toInt64)))])) _
    refine XS.ladd X5.here hx rfl (hb hby at_150) rfl ?_
    show Steps p.tables e below (T5.setTop (mkF m 151 #[.val (.int p1), .val (.int p2), .val (.int p3), .val (.int p4), .val (.int p5), .val (.int (4 : Int32)), .val (.ref a1), .unset, .unset, .unset, .unset] [(.long ((((p2).toInt64) + ((p3).toInt64)) + ((p4).toInt64)))])) _
    refine XS.iload X5.here hx rfl (hb hby at_151) rfl ?_
    show Steps p.tables e below (T5.setTop (mkF m 153 #[.val (.int p1), .val (.int p2), .val (.int p3), .val (.int p4), .val (.int p5), .val (.int (4 : Int32)), .val (.ref a1), .unset, .unset, .unset, .unset] [(.int p5), (.long ((((p2).toInt64) + ((p3).toInt64)) + ((p4).toInt64)))])) _
    refine XS.i2l X5.here hx rfl (hb hby at_153) rfl ?_
    show Steps p.tables e below (T5.setTop (mkF m 154 #[.val (.int p1), .val (.int p2), .val (.int p3), .val (.int p4), .val (.int p5), .val (.int (4 : Int32)), .val (.ref a1), .unset, .unset, .unset, .unset] [(.long ((p5).toInt64)), (.long ((((p2).toInt64) + ((p3).toInt64)) + ((p4).toInt64)))])) _
    refine XS.ladd X5.here hx rfl (hb hby at_154) rfl ?_
    show Steps p.tables e below (T5.setTop (mkF m 155 #[.val (.int p1), .val (.int p2), .val (.int p3), .val (.int p4), .val (.int p5), .val (.int (4 : Int32)), .val (.ref a1), .unset, .unset, .unset, .unset] [(.long (((((p2).toInt64) + ((p3).toInt64)) + ((p4).toInt64)) + ((p5).toInt64)))])) _
    refine XS.lstore X5.here hx rfl (hb hby at_155) rfl (l' := #[.val (.int p1), .val (.int p2), .val (.int p3), .val (.int p4), .val (.int p5), .val (.int (4 : Int32)), .val (.ref a1), .val (.long (((((p2).toInt64) + ((p3).toInt64)) + ((p4).toInt64)) + ((p5).toInt64))), .second, .unset, .unset]) rfl ?_
    show Steps p.tables e below (T5.setTop (mkF m 157 #[.val (.int p1), .val (.int p2), .val (.int p3), .val (.int p4), .val (.int p5), .val (.int (4 : Int32)), .val (.ref a1), .val (.long (((((p2).toInt64) + ((p3).toInt64)) + ((p4).toInt64)) + ((p5).toInt64))), .second, .unset, .unset] [])) _
    exact kt
  refine ⟨T5, h5, a1, k1, _, X5, e5, N4, (Nat.le_trans (Nat.le_trans (Nat.le_trans (Nat.le_trans (Nat.le_trans Z0 E1.1) (Keep.of_wr R2).1) (Keep.of_wr R3).1) (Keep.of_wr R4).1) (Keep.of_wr R5).1), V4, fun target kt => ?_⟩
  show Steps p.tables e below (T0.setTop (mkF m 0 #[.val (.int p1), .val (.int p2), .val (.int p3), .val (.int p4), .val (.int p5), .unset, .unset, .unset, .unset, .unset, .unset] [])) _
  refine sg1 _ ?_
  show Steps p.tables e below (T0.setTop (mkF m 118 #[.val (.int p1), .val (.int p2), .val (.int p3), .val (.int p4), .val (.int p5), .val (.int (4 : Int32)), .unset, .unset, .unset, .unset, .unset] [(.int (4 : Int32))])) _
  refine st1 _ ?_
  show Steps p.tables e below (T1.setTop (mkF m 120 #[.val (.int p1), .val (.int p2), .val (.int p3), .val (.int p4), .val (.int p5), .val (.int (4 : Int32)), .unset, .unset, .unset, .unset, .unset] [(.ref a1)])) _
  refine sg2 _ ?_
  show Steps p.tables e below (T1.setTop (mkF m 124 #[.val (.int p1), .val (.int p2), .val (.int p3), .val (.int p4), .val (.int p5), .val (.int (4 : Int32)), .unset, .unset, .unset, .unset, .unset] [(.double (FP.l2d (p2).toInt64)), (.int (0 : Int32)), (.ref a1), (.ref a1)])) _
  refine st2 _ ?_
  show Steps p.tables e below (T2.setTop (mkF m 125 #[.val (.int p1), .val (.int p2), .val (.int p3), .val (.int p4), .val (.int p5), .val (.int (4 : Int32)), .unset, .unset, .unset, .unset, .unset] [(.ref a1)])) _
  refine sg3 _ ?_
  show Steps p.tables e below (T2.setTop (mkF m 129 #[.val (.int p1), .val (.int p2), .val (.int p3), .val (.int p4), .val (.int p5), .val (.int (4 : Int32)), .unset, .unset, .unset, .unset, .unset] [(.double (FP.l2d (p3).toInt64)), (.int (1 : Int32)), (.ref a1), (.ref a1)])) _
  refine st3 _ ?_
  show Steps p.tables e below (T3.setTop (mkF m 130 #[.val (.int p1), .val (.int p2), .val (.int p3), .val (.int p4), .val (.int p5), .val (.int (4 : Int32)), .unset, .unset, .unset, .unset, .unset] [(.ref a1)])) _
  refine sg4 _ ?_
  show Steps p.tables e below (T3.setTop (mkF m 134 #[.val (.int p1), .val (.int p2), .val (.int p3), .val (.int p4), .val (.int p5), .val (.int (4 : Int32)), .unset, .unset, .unset, .unset, .unset] [(.double (FP.l2d (p4).toInt64)), (.int (2 : Int32)), (.ref a1), (.ref a1)])) _
  refine st4 _ ?_
  show Steps p.tables e below (T4.setTop (mkF m 135 #[.val (.int p1), .val (.int p2), .val (.int p3), .val (.int p4), .val (.int p5), .val (.int (4 : Int32)), .unset, .unset, .unset, .unset, .unset] [(.ref a1)])) _
  refine sg5 _ ?_
  show Steps p.tables e below (T4.setTop (mkF m 140 #[.val (.int p1), .val (.int p2), .val (.int p3), .val (.int p4), .val (.int p5), .val (.int (4 : Int32)), .unset, .unset, .unset, .unset, .unset] [(.double (FP.l2d (p5).toInt64)), (.int (3 : Int32)), (.ref a1), (.ref a1)])) _
  refine st5 _ ?_
  show Steps p.tables e below (T5.setTop (mkF m 141 #[.val (.int p1), .val (.int p2), .val (.int p3), .val (.int p4), .val (.int p5), .val (.int (4 : Int32)), .unset, .unset, .unset, .unset, .unset] [(.ref a1)])) _
  refine sg6 _ ?_
  exact kt
set_option maxRecDepth 65536 in
set_option maxHeartbeats 40000000 in
theorem own_B {p : Program} {l : Launch} {e : Env} {s : State} {m : MethodId} {args : Array Value} {below : List Frame} {meth : Method} {c : Code} {T0 : State} {Z : State} {a0 : Array Value} {h0 : Heap} {n0 : Nat} {L : List Loc} {cells slots : Nat} (p1 p2 p3 p4 p5 : Int32) (f : Nat → Int64) (n : Nat) (hn : n ≤ 4) (hf : own_small f) (a : Addr) (k : ClassId)
    (X0 : Stand p l e room_1 s m args below meth c T0 L cells slots) (hx : p.tables.exec = Jvm.exec) (hZ : Z.Warmed39 s.vm) (hw : ∀ d ∈ tables_1, d.before a0 Z = true) (hby : c.code = code) (hml : c.maxLocals = 11) (hown : s.vm.findClass "com/example/nephila/nephila/rank/RunsSumPinLaw" = some m.cls) (e0 : T0.heap = h0) (N0 : Fr n0 L) (hc : cells + 0 ≤ room_1.cells) (hl : slots + 0 ≤ room_1.slots) (V : Arv Z h0 a k .double (Int32.ofNat n) (own_vals f n) (.double (FP.l2d 0))) :
    ∃ (T' : State) (L' : List Loc) (Ls : Array Slot), Stand p l e room_1 s m args below meth c T' L' cells slots ∧ Fr n0 L' ∧
      ∀ target, Steps p.tables e below (T'.setTop (mkF m 178 Ls [.int (1 : Int32)])) target → Steps p.tables e below (T0.setTop (mkF m 157 #[.val (.int p1), .val (.int p2), .val (.int p3), .val (.int p4), .val (.int p5), .val (.int (Int32.ofNat n)), .val (.ref a), .val (.long (own_ps f n)), .second, .unset, .unset] [])) target := by
  have sg1 : ∀ target, Steps p.tables e below (T0.setTop (mkF m 159 #[.val (.int p1), .val (.int p2), .val (.int p3), .val (.int p4), .val (.int p5), .val (.int (Int32.ofNat n)), .val (.ref a), .val (.long (own_ps f n)), .second, .unset, .unset] [(.ref a)])) target → Steps p.tables e below (T0.setTop (mkF m 157 #[.val (.int p1), .val (.int p2), .val (.int p3), .val (.int p4), .val (.int p5), .val (.int (Int32.ofNat n)), .val (.ref a), .val (.long (own_ps f n)), .second, .unset, .unset] [])) target := by
    intro target kt
    show Steps p.tables e below (T0.setTop (mkF m 157 #[.val (.int p1), .val (.int p2), .val (.int p3), .val (.int p4), .val (.int p5), .val (.int (Int32.ofNat n)), .val (.ref a), .val (.long (own_ps f n)), .second, .unset, .unset] [])) _
    refine XS.aload X0.here hx rfl (hb hby at_157) rfl rfl ?_
    show Steps p.tables e below (T0.setTop (mkF m 159 #[.val (.int p1), .val (.int p2), .val (.int p3), .val (.int p4), .val (.int p5), .val (.int (Int32.ofNat n)), .val (.ref a), .val (.long (own_ps f n)), .second, .unset, .unset] [(.ref a)])) _
    exact kt
  obtain ⟨_, _, ⟨T1, L1, k1, n1⟩, -, X1, ⟨Lc1, hQ1, l1, y1, z1⟩, st1⟩ := Jvm.LawKit.callS X0 hx (y := (⟨"com/example/nephila/nephila/rank/Runs", "sum", "([D)D"⟩ : MethodName)) hown (mvT hZ (hw _ (List.mem_of_getElem? (i := 2) rfl))) (mvT hZ (hw _ (List.mem_of_getElem? (i := 3) rfl))) (mvT hZ (hw _ (List.mem_of_getElem? (i := 4) rfl))) (mvT hZ (hw _ (List.mem_of_getElem? (i := 5) rfl))) (by decide) (backOf (W := 0) (rm1 l Z a0 [] a k f n hn hf h0 n0 V) hZ (hw _ (List.mem_of_getElem? (i := 5) rfl)) (hw _ (List.mem_of_getElem? (i := 4) rfl)) (by decide) (by decide)) (g := (mkF m 159 #[.val (.int p1), .val (.int p2), .val (.int p3), .val (.int p4), .val (.int p5), .val (.int (Int32.ofNat n)), .val (.ref a), .val (.long (own_ps f n)), .second, .unset, .unset] [(.ref a)])) rfl (by rw [hml]; rfl) (argsL := [(.ref a)]) (rest := []) (lenOf pd1 rfl) rfl (by show 2 * 0 + _ ≤ _; exact Nat.le_of_eq rfl) (hb hby at_159) (fun _ _ => ⟨rfl, e0, hc, hl⟩)
  dsimp only [Pt.U, Pt.locs, Pt.cells, Pt.slots] at X1 l1 y1 z1 st1 hQ1
  subst l1 y1 z1
  obtain ⟨rfl, N1, e1⟩ := hQ1
  have sg2 : ∀ target, Steps p.tables e below (T1.setTop (mkF m 178 #[.val (.int p1), .val (.int p2), .val (.int p3), .val (.int p4), .val (.int p5), .val (.int (Int32.ofNat n)), .val (.ref a), .val (.long (own_ps f n)), .second, .val (.double (FP.l2d (own_ps f n))), .second] [(.int (1 : Int32))])) target → Steps p.tables e below (T1.setTop (mkF m 162 #[.val (.int p1), .val (.int p2), .val (.int p3), .val (.int p4), .val (.int p5), .val (.int (Int32.ofNat n)), .val (.ref a), .val (.long (own_ps f n)), .second, .unset, .unset] [(.double (FP.l2d (own_ps f n)))])) target := by
    intro target kt
    show Steps p.tables e below (T1.setTop (mkF m 162 #[.val (.int p1), .val (.int p2), .val (.int p3), .val (.int p4), .val (.int p5), .val (.int (Int32.ofNat n)), .val (.ref a), .val (.long (own_ps f n)), .second, .unset, .unset] [(.double (FP.l2d (own_ps f n)))])) _
    refine XS.dstore X1.here hx rfl (hb hby at_162) rfl (l' := #[.val (.int p1), .val (.int p2), .val (.int p3), .val (.int p4), .val (.int p5), .val (.int (Int32.ofNat n)), .val (.ref a), .val (.long (own_ps f n)), .second, .val (.double (FP.l2d (own_ps f n))), .second]) rfl ?_
    show Steps p.tables e below (T1.setTop (mkF m 164 #[.val (.int p1), .val (.int p2), .val (.int p3), .val (.int p4), .val (.int p5), .val (.int (Int32.ofNat n)), .val (.ref a), .val (.long (own_ps f n)), .second, .val (.double (FP.l2d (own_ps f n))), .second] [])) _
    refine XS.dload X1.here hx rfl (hb hby at_164) rfl ?_
    show Steps p.tables e below (T1.setTop (mkF m 166 #[.val (.int p1), .val (.int p2), .val (.int p3), .val (.int p4), .val (.int p5), .val (.int (Int32.ofNat n)), .val (.ref a), .val (.long (own_ps f n)), .second, .val (.double (FP.l2d (own_ps f n))), .second] [(.double (FP.l2d (own_ps f n)))])) _
    refine XS.lload X1.here hx rfl (hb hby at_166) rfl ?_
    show Steps p.tables e below (T1.setTop (mkF m 168 #[.val (.int p1), .val (.int p2), .val (.int p3), .val (.int p4), .val (.int p5), .val (.int (Int32.ofNat n)), .val (.ref a), .val (.long (own_ps f n)), .second, .val (.double (FP.l2d (own_ps f n))), .second] [(.long (own_ps f n)), (.double (FP.l2d (own_ps f n)))])) _
    refine XS.l2dS X1.here hx rfl (hb hby at_168) rfl rfl ?_
    show Steps p.tables e below (T1.setTop (mkF m 169 #[.val (.int p1), .val (.int p2), .val (.int p3), .val (.int p4), .val (.int p5), .val (.int (Int32.ofNat n)), .val (.ref a), .val (.long (own_ps f n)), .second, .val (.double (FP.l2d (own_ps f n))), .second] [(.double (FP.l2d (own_ps f n))), (.double (FP.l2d (own_ps f n)))])) _
    refine XS.dcmpS X1.here hx rfl (hb hby at_169) rfl (dcmpV_self (nn_w rfl) _) ?_
    show Steps p.tables e below (T1.setTop (mkF m 170 #[.val (.int p1), .val (.int p2), .val (.int p3), .val (.int p4), .val (.int p5), .val (.int (Int32.ofNat n)), .val (.ref a), .val (.long (own_ps f n)), .second, .val (.double (FP.l2d (own_ps f n))), .second] [(.int (0 : Int32))])) _
    refine XS.ifNo X1.here hx rfl (hb hby at_170) rfl (by decide) ?_
    show Steps p.tables e below (T1.setTop (mkF m 173 #[.val (.int p1), .val (.int p2), .val (.int p3), .val (.int p4), .val (.int p5), .val (.int (Int32.ofNat n)), .val (.ref a), .val (.long (own_ps f n)), .second, .val (.double (FP.l2d (own_ps f n))), .second] [])) _
    refine XS.iconst X1.here hx rfl (hb hby at_173) ?_
    show Steps p.tables e below (T1.setTop (mkF m 174 #[.val (.int p1), .val (.int p2), .val (.int p3), .val (.int p4), .val (.int p5), .val (.int (Int32.ofNat n)), .val (.ref a), .val (.long (own_ps f n)), .second, .val (.double (FP.l2d (own_ps f n))), .second] [(.int (1 : Int32))])) _
    refine XS.goto X1.here hx rfl (pc0 := 174) (pc' := 178) rfl (hb hby at_174) (by decide) (by decide) ?_
    show Steps p.tables e below (T1.setTop (mkF m 178 #[.val (.int p1), .val (.int p2), .val (.int p3), .val (.int p4), .val (.int p5), .val (.int (Int32.ofNat n)), .val (.ref a), .val (.long (own_ps f n)), .second, .val (.double (FP.l2d (own_ps f n))), .second] [(.int (1 : Int32))])) _
    exact kt
  refine ⟨T1, _, #[.val (.int p1), .val (.int p2), .val (.int p3), .val (.int p4), .val (.int p5), .val (.int (Int32.ofNat n)), .val (.ref a), .val (.long (own_ps f n)), .second, .val (.double (FP.l2d (own_ps f n))), .second], X1, Fr.app N0 N1, fun target kt => ?_⟩
  show Steps p.tables e below (T0.setTop (mkF m 157 #[.val (.int p1), .val (.int p2), .val (.int p3), .val (.int p4), .val (.int p5), .val (.int (Int32.ofNat n)), .val (.ref a), .val (.long (own_ps f n)), .second, .unset, .unset] [])) _
  refine sg1 _ ?_
  show Steps p.tables e below (T0.setTop (mkF m 159 #[.val (.int p1), .val (.int p2), .val (.int p3), .val (.int p4), .val (.int p5), .val (.int (Int32.ofNat n)), .val (.ref a), .val (.long (own_ps f n)), .second, .unset, .unset] [(.ref a)])) _
  refine st1 _ ?_
  show Steps p.tables e below (T1.setTop (mkF m 162 #[.val (.int p1), .val (.int p2), .val (.int p3), .val (.int p4), .val (.int p5), .val (.int (Int32.ofNat n)), .val (.ref a), .val (.long (own_ps f n)), .second, .unset, .unset] [(.double (FP.l2d (own_ps f n)))])) _
  refine sg2 _ ?_
  exact kt
theorem own_mod (x : Int32) : (x &&& (2147483647 : Int32)) % (5 : Int32) = 0 ∨ (x &&& (2147483647 : Int32)) % (5 : Int32) = 1 ∨ (x &&& (2147483647 : Int32)) % (5 : Int32) = 2 ∨ (x &&& (2147483647 : Int32)) % (5 : Int32) = 3 ∨ (x &&& (2147483647 : Int32)) % (5 : Int32) = 4 := by
  have h0 := c_and x 2147483647 (by decide)
  have h := (c_irem (x &&& (2147483647 : Int32)) 5 5 rfl).1 h0.1
  have e0 : (0 : Int32).toInt = 0 := rfl
  have e1 : (1 : Int32).toInt = 1 := rfl
  have e2 : (2 : Int32).toInt = 2 := rfl
  have e3 : (3 : Int32).toInt = 3 := rfl
  have e4 : (4 : Int32).toInt = 4 := rfl
  simp only [← Int32.toInt_inj]
  omega
def own_f (a b c d : Int32) (j : Nat) : Int64 := match j with
  | 0 => a.toInt64 | 1 => b.toInt64 | 2 => c.toInt64 | 3 => d.toInt64 | _ => 0
theorem own_fs (a b c d : Int32) : own_small (own_f a b c d) := fun j => by
  have h1 := rng32 a
  have h2 := rng32 b
  have h3 := rng32 c
  have h4 := rng32 d
  match j with
  | 0 => show _ ≤ a.toInt64.toInt ∧ a.toInt64.toInt < _; rw [c_i2l]; exact h1
  | 1 => show _ ≤ b.toInt64.toInt ∧ b.toInt64.toInt < _; rw [c_i2l]; exact h2
  | 2 => show _ ≤ c.toInt64.toInt ∧ c.toInt64.toInt < _; rw [c_i2l]; exact h3
  | 3 => show _ ≤ d.toInt64.toInt ∧ d.toInt64.toInt < _; rw [c_i2l]; exact h4
  | j + 4 => show _ ≤ (0 : Int64).toInt ∧ (0 : Int64).toInt < _; decide
def Q0 (n0 : Nat) (v : Option Value) (L : List Loc) : Prop := v = some (.int 1) ∧ Fr n0 L
set_option maxRecDepth 65536 in
set_option maxHeartbeats 40000000 in
theorem rm0 (l : Launch) (Z : State) (a0 : Array Value) (hw : ∀ d ∈ tables_1, d.before a0 Z = true) (ws : List Jvm.Cond) (p1 p2 p3 p4 p5 : Int32) (h0 : Heap) (n0 : Nat) (Z0 : n0 ≤ h0.size) :
    MetFree l x (head1 (Jvm.Cond.code x code maxLocals ret :: ws) room_1) (fun a U => a = #[(.int p1), (.int p2), (.int p3), (.int p4), (.int p5)] ∧ Z.Warmed39 U.vm ∧ U.heap = h0) (fun _ _ _ _ _ => True) (fun _ U o U' => ∃ v L, o = .returned v ∧ Q0 n0 v L ∧ FrameEnd U o U' L 1 4) := by
  refine MetFree.of_bodySF (plainFor_of_name pn_0) hisR ?_
  intro p e s m args below meth c s₁ Bd hml0 hP hK
  obtain ⟨rfl, hZ, hh⟩ := hP
  have hx := Bd.exec
  have hby := Bd.bytes
  have hml : c.maxLocals = 11 := hml0
  have hown : s.vm.findClass "com/example/nephila/nephila/rank/RunsSumPinLaw" = some m.cls := findClass_of_methodNamed Bd.named
  have X0 : Stand p l e room_1 s m #[(.int p1), (.int p2), (.int p3), (.int p4), (.int p5)] below meth c s₁ [] 0 0 := Stand.of_body Bd
  have e0 : s₁.heap = h0 := by rw [← hh, Bd.state]; rfl
  have key : ∃ (T' : State) (L' : List Loc) (Ls : Array Slot), Stand p l e room_1 s m #[(.int p1), (.int p2), (.int p3), (.int p4), (.int p5)] below meth c T' L' 1 4 ∧ Fr n0 L' ∧ ∀ target, Steps p.tables e below (T'.setTop (mkF m 178 Ls [.int (1 : Int32)])) target → Steps p.tables e below (s₁.setTop (mkF m 0 #[.val (.int p1), .val (.int p2), .val (.int p3), .val (.int p4), .val (.int p5), .unset, .unset, .unset, .unset, .unset, .unset] [])) target := by
    rcases own_mod p1 with hn | hn | hn | hn | hn
    · obtain ⟨T1, h1, a1, k1, L1, X1, e1, N1, Z1, V1, st1⟩ := own_A0 (n0 := n0) p1 p2 p3 p4 p5 X0 hx hZ hw hby hown e0 Z0 hn
      have he : own_ps (own_f p2 p3 p4 p5) 0 = 0 := rfl
      obtain ⟨T2, L2, Ls, X2, N2, st2⟩ := own_B (n0 := n0) p1 p2 p3 p4 p5 (own_f p2 p3 p4 p5) 0 (by decide) (own_fs p2 p3 p4 p5) a1 k1 X1 hx hZ hw hby hml hown e1 N1 (by decide) (by decide) V1
      refine ⟨T2, L2, Ls, X2.more (by decide) (by decide), N2, fun target kt => st1 target ?_⟩
      have q := st2 target kt
      rw [he] at q
      exact q
    · obtain ⟨T1, h1, a1, k1, L1, X1, e1, N1, Z1, V1, st1⟩ := own_A1 (n0 := n0) p1 p2 p3 p4 p5 X0 hx hZ hw hby hown e0 Z0 hn
      have he : own_ps (own_f p2 p3 p4 p5) 1 = p2.toInt64 := Int64.zero_add _
      obtain ⟨T2, L2, Ls, X2, N2, st2⟩ := own_B (n0 := n0) p1 p2 p3 p4 p5 (own_f p2 p3 p4 p5) 1 (by decide) (own_fs p2 p3 p4 p5) a1 k1 X1 hx hZ hw hby hml hown e1 N1 (by decide) (by decide) V1
      refine ⟨T2, L2, Ls, X2.more (by decide) (by decide), N2, fun target kt => st1 target ?_⟩
      have q := st2 target kt
      rw [he] at q
      exact q
    · obtain ⟨T1, h1, a1, k1, L1, X1, e1, N1, Z1, V1, st1⟩ := own_A2 (n0 := n0) p1 p2 p3 p4 p5 X0 hx hZ hw hby hown e0 Z0 hn
      have he : own_ps (own_f p2 p3 p4 p5) 2 = p2.toInt64 + p3.toInt64 := by show 0 + p2.toInt64 + p3.toInt64 = _; rw [Int64.zero_add]
      obtain ⟨T2, L2, Ls, X2, N2, st2⟩ := own_B (n0 := n0) p1 p2 p3 p4 p5 (own_f p2 p3 p4 p5) 2 (by decide) (own_fs p2 p3 p4 p5) a1 k1 X1 hx hZ hw hby hml hown e1 N1 (by decide) (by decide) V1
      refine ⟨T2, L2, Ls, X2.more (by decide) (by decide), N2, fun target kt => st1 target ?_⟩
      have q := st2 target kt
      rw [he] at q
      exact q
    · obtain ⟨T1, h1, a1, k1, L1, X1, e1, N1, Z1, V1, st1⟩ := own_A3 (n0 := n0) p1 p2 p3 p4 p5 X0 hx hZ hw hby hown e0 Z0 hn
      have he : own_ps (own_f p2 p3 p4 p5) 3 = p2.toInt64 + p3.toInt64 + p4.toInt64 := by show 0 + p2.toInt64 + p3.toInt64 + p4.toInt64 = _; rw [Int64.zero_add]
      obtain ⟨T2, L2, Ls, X2, N2, st2⟩ := own_B (n0 := n0) p1 p2 p3 p4 p5 (own_f p2 p3 p4 p5) 3 (by decide) (own_fs p2 p3 p4 p5) a1 k1 X1 hx hZ hw hby hml hown e1 N1 (by decide) (by decide) V1
      refine ⟨T2, L2, Ls, X2.more (by decide) (by decide), N2, fun target kt => st1 target ?_⟩
      have q := st2 target kt
      rw [he] at q
      exact q
    · obtain ⟨T1, h1, a1, k1, L1, X1, e1, N1, Z1, V1, st1⟩ := own_A4 (n0 := n0) p1 p2 p3 p4 p5 X0 hx hZ hw hby hown e0 Z0 hn
      have he : own_ps (own_f p2 p3 p4 p5) 4 = p2.toInt64 + p3.toInt64 + p4.toInt64 + p5.toInt64 := by show 0 + p2.toInt64 + p3.toInt64 + p4.toInt64 + p5.toInt64 = _; rw [Int64.zero_add]
      obtain ⟨T2, L2, Ls, X2, N2, st2⟩ := own_B (n0 := n0) p1 p2 p3 p4 p5 (own_f p2 p3 p4 p5) 4 (by decide) (own_fs p2 p3 p4 p5) a1 k1 X1 hx hZ hw hby hml hown e1 N1 (by decide) (by decide) V1
      refine ⟨T2, L2, Ls, X2.more (by decide) (by decide), N2, fun target kt => st1 target ?_⟩
      have q := st2 target kt
      rw [he] at q
      exact q
  obtain ⟨T1, L1, Ls, X1, N1, st1⟩ := key
  obtain ⟨fs, hr, hrun, hended, hW, hsame⟩ := X1.leave (v := some (.int (1 : Int32))) (fun h => by rw [Bd.returns] at h; cases h)
  refine ⟨_, _, castTop (ef_0 m p1 p2 p3 p4 p5) (st1 _ ?_), hrun, hended, _, _, rfl, ⟨rfl, N1⟩, ⟨_, rfl⟩, hW, hsame⟩
  exact retN X1 hx (t := .boolean) Bd.returns (by simp) (hb hby at_178) hr
set_option maxRecDepth 65536 in
set_option maxHeartbeats 40000000 in
theorem comes_1 {Post : Tables → Env → Array Value → State → Outcome → State → Prop} (hpost : ∀ tb e args s v u, (limb_1_1.after args s (.returned v) u = true ∧ limb_1_2.after args s (.returned v) u = true ∧ True) → FrameEnd s (.returned v) u (Jvm.fieldLocs frame_1_writes args s ++ Jvm.arrayLocs frame_1_arrays args s ++ Jvm.staticLocs frame_1_statics s) 16 128 → Post tb e args s (.returned v) u) :
    ArmFor flags0 classFile x code maxLocals ret World_1 tables_1 room_1 Calls_1 rest_1 Pre_1 Post := by
  intro l hfl _ _ p e ha hc hk s m args below hf hA hF happ hP
  obtain ⟨hcalls, hrest, hpre⟩ := hP
  obtain ⟨-, -, -, hnamed, -, -, -, hat⟩ := (Spec.applies_iff hf).mp happ
  obtain ⟨hg, hn⟩ := and_e (Cond.before_iff.mp (show (Jvm.Cond.and given_1 narrow_1).before args s = true from hpre))
  obtain ⟨h1, h2⟩ := and_e hg
  obtain ⟨h3, h4⟩ := and_e h2
  obtain ⟨h5, h6⟩ := and_e h4
  obtain ⟨h7, h8⟩ := and_e h6
  obtain ⟨h9, h10⟩ := and_e h8
  obtain ⟨w0, w1, w2, w3, w4, rfl⟩ : ∃ w0 w1 w2 w3 w4 : Value, args = #[w0, w1, w2, w3, w4] := by
    have hs : args.size = 5 := by simpa [Cond.value, given_1] using h1
    obtain ⟨L⟩ := args
    match L, hs with
    | [w0, w1, w2, w3, w4], _ => exact ⟨w0, w1, w2, w3, w4, rfl⟩
  have hw := fun d (hd : d ∈ tables_1) => atoms_spec (ws := Jvm.Cond.code x code maxLocals ret :: tables_1) hat d (List.mem_cons_of_mem _ hd)
  obtain ⟨i0, e0⟩ := is_v h3
  obtain rfl : w0 = (.int i0) := Option.some.inj e0
  obtain ⟨i1, e1⟩ := is_v h5
  obtain rfl : w1 = (.int i1) := Option.some.inj e1
  obtain ⟨i2, e2⟩ := is_v h7
  obtain rfl : w2 = (.int i2) := Option.some.inj e2
  obtain ⟨i3, e3⟩ := is_v h9
  obtain rfl : w3 = (.int i3) := Option.some.inj e3
  obtain ⟨i4, e4⟩ := is_v h10
  obtain rfl : w4 = (.int i4) := Option.some.inj e4
  obtain ⟨n, o, h1, h2, h3, _, L, rfl, ⟨rfl, N⟩, hq⟩ := rm0 l s _ hw tables_1 i0 i1 i2 i3 i4 s.heap s.heap.size (Nat.le_refl _) p e ha hc hk s m _ below hf ((Spec.applies_iff_loose hf).mp happ).1 ⟨rfl, State.Warmed39.refl s, rfl⟩ trivial
  refine ⟨n, _, h1, h2, h3, hpost _ _ _ _ _ _ ⟨Cond.after_iff.mpr rfl, Cond.after_iff.mpr (eq_i res_at (Term.int_eval (1)) rfl), trivial⟩ ⟨hq.1, hq.2.1, (hq.2.2.sift fun y hy => Or.inr (N y hy)).mono (by decide) (by decide)⟩⟩
theorem main_1_1 : Claimed_1_1 := comes_1 fun _ _ _ _ _ _ h hF => ⟨h.1, hF⟩
theorem main_1_2 : Claimed_1_2 := comes_1 fun _ _ _ _ _ _ h hF => ⟨h.2.1, hF⟩
end Jvm.Pilot.@@N@@
namespace Jvm.Pilot.@@N@@
open Jvm Jvm.ClassFile Sem Op Lib Jvm.Free Jvm.Stand Jvm.Pilot.@@N@@.Jvm.D
/-! MADE BY PROGRAM (witnessworld.py) out of the Statement's table words and the real class files: 9 classes; the members and pool entries that the words name. The judged class is class 1, her method 1. -/
namespace start1
open Jvm.ClassFile
def u (s : String) : CpInfo := .utf8 (stringToUtf16 s)
/-- a pool by its gaps: so many unusable entries, then the entry; so many at the end -/
def gap : Nat → List CpInfo → List CpInfo
  | 0, r => r
  | n + 1, r => .unusable :: gap n r
def poolList (es : List (Nat × CpInfo)) (last : Nat) : List CpInfo := es.foldr (fun e r => gap e.1 (e.2 :: r)) (gap last [])
def pool (es : List (Nat × CpInfo)) (last : Nat) : Array CpInfo := ⟨poolList es last⟩
def fileOf (pool : Array CpInfo) (this : Nat) (attrs : Array Attribute := #[]) (ms : Array MethodInfo := #[]) (fl : Nat := 33) (sup : Nat := 0) (ifs : Array Nat := #[]) (fds : Array FieldInfo := #[]) : ClassFile where
  minorVersion := 0
  majorVersion := 65
  constantPool := pool
  accessFlags := fl
  thisClass := this
  superClass := sup
  interfaces := ifs
  fields := fds
  methods := ms
  attributes := attrs
def plain (name : String) (sup : Option ClassId) : Class where
  name := name
  kind := .ordinary
  loader := none
  accessFlags := 33
  super := sup
  interfaces := #[]
  cf := none
  fields := #[]
  methods := #[]
  instanceTypes := #[]
  staticTypes := #[]
  resolved := #[]
  callSites := []
  init := .initialized
  statics := none
  mirror := none

def pool0 : Array CpInfo := pool [(5, u "<init>"), (0, u "()V"), (1, .class_ 10), (1, u "java/lang/Object")] 113

def k0m0 : Method := { name := "<init>", desc := "()V", sig := { parameters := [], returnType := none }, accessFlags := 1, code := none }
/-- java/lang/Object -/
def k0 : Class := { plain "java/lang/Object" none with
  accessFlags := 33
  interfaces := #[]
  cf := some (fileOf pool0 8 #[] #[{ accessFlags := 1, nameIndex := 5, descriptorIndex := 6, attributes := #[] }] 33 0 #[] #[])
  fields := #[]
  methods := #[k0m0]
  instanceTypes := #[]
  staticTypes := #[]
  resolved := Array.replicate 124 none
  statics := none }

def pool1 : Array CpInfo := pool [(2, .class_ 4), (1, u "java/lang/Object"), (0, u "<init>"), (0, u "()V"), (0, .integer 2147483647), (0, .methodref 9 10), (0, .class_ 11), (0, .nameAndType 12 13), (0, u "com/example/nephila/nephila/rank/Runs"), (0, u "sum"), (0, u "([D)D"), (0, .class_ 15), (0, u "com/example/nephila/nephila/rank/RunsSumPinLaw"), (2, u "law"), (0, u "(IIIII)Z")] 5

def k1m0 : Method := { name := "<init>", desc := "()V", sig := { parameters := [], returnType := none }, accessFlags := 1, code := none }
def k1c1 : Code := { maxStack := 5, maxLocals := 11, code := code, exceptionTable := #[], attributes := #[] }
def k1m1 : Method := { name := "law", desc := "(IIIII)Z", sig := { parameters := [.int, .int, .int, .int, .int], returnType := some .boolean }, accessFlags := 9, code := some k1c1 }
/-- com/example/nephila/nephila/rank/RunsSumPinLaw -/
def k1 : Class := { plain "com/example/nephila/nephila/rank/RunsSumPinLaw" (some 0) with
  accessFlags := 49
  interfaces := #[]
  cf := some (fileOf pool1 14 #[] #[{ accessFlags := 1, nameIndex := 5, descriptorIndex := 6, attributes := #[] }, { accessFlags := 9, nameIndex := 18, descriptorIndex := 19, attributes := #[] }] 49 2 #[] #[])
  fields := #[]
  methods := #[k1m0, k1m1]
  instanceTypes := #[]
  staticTypes := #[]
  resolved := Array.replicate 25 none
  statics := none }

def pool2 : Array CpInfo := pool [(2, .class_ 4), (1, u "java/lang/Object"), (3, .class_ 10), (1, u "com/example/nephila/nephila/rank/Runs"), (0, u "nodeCount"), (0, u "I"), (4, u "count"), (20, u "LENGTH"), (9, u "sum"), (0, u "([D)D")] 5

def k2c0 : Code := { maxStack := 4, maxLocals := 8, code := prog_57_method_6_code, exceptionTable := #[], attributes := #[] }
def k2m0 : Method := { name := "sum", desc := "([D)D", sig := { parameters := [(.array .double)], returnType := some .double }, accessFlags := 8, code := some k2c0 }
/-- com/example/nephila/nephila/rank/Runs -/
def k2 : Class := { plain "com/example/nephila/nephila/rank/Runs" (some 0) with
  accessFlags := 32
  interfaces := #[]
  cf := some (fileOf pool2 8 #[] #[{ accessFlags := 8, nameIndex := 48, descriptorIndex := 49, attributes := #[] }] 32 2 #[] #[{ accessFlags := 24, nameIndex := 38, descriptorIndex := 12, attributes := #[] }, { accessFlags := 18, nameIndex := 11, descriptorIndex := 12, attributes := #[] }, { accessFlags := 18, nameIndex := 17, descriptorIndex := 12, attributes := #[] }])
  fields := #[{ name := "LENGTH", type := .int, accessFlags := 24, slot := 0, constantValue := 0 }, { name := "nodeCount", type := .int, accessFlags := 18, slot := 0, constantValue := 0 }, { name := "count", type := .int, accessFlags := 18, slot := 1, constantValue := 0 }]
  methods := #[k2m0]
  instanceTypes := #[.int, .int]
  staticTypes := #[.int]
  resolved := Array.replicate 55 none
  statics := none }

def pool3 : Array CpInfo := pool [(1, u "java/lang/Cloneable"), (0, .class_ 1), (0, u "java/lang/Object"), (0, .class_ 3)] 3

/-- java/lang/Cloneable -/
def k3 : Class := { plain "java/lang/Cloneable" (some 0) with
  accessFlags := 1537
  interfaces := #[]
  cf := some (fileOf pool3 2 #[] #[] 1537 4 #[] #[])
  fields := #[]
  methods := #[]
  instanceTypes := #[]
  staticTypes := #[]
  resolved := Array.replicate 8 none
  statics := none }

def pool4 : Array CpInfo := pool [(1, u "java/io/Serializable"), (0, .class_ 1), (0, u "java/lang/Object"), (0, .class_ 3)] 3

/-- java/io/Serializable -/
def k4 : Class := { plain "java/io/Serializable" (some 0) with
  accessFlags := 1537
  interfaces := #[]
  cf := some (fileOf pool4 2 #[] #[] 1537 4 #[] #[])
  fields := #[]
  methods := #[]
  instanceTypes := #[]
  staticTypes := #[]
  resolved := Array.replicate 8 none
  statics := none }

/-- the primitive byte -/
def k5 : Class := { plain "byte" none with kind := .primitive 'B', accessFlags := 0x411 }
/-- [B -/
def k6 : Class := { plain "[B" (some 0) with kind := .array 5 .byte, interfaces := #[3, 4], accessFlags := 1041 }

/-- the primitive double -/
def k7 : Class := { plain "double" none with kind := .primitive 'D', accessFlags := 0x411 }
/-- [D -/
def k8 : Class := { plain "[D" (some 0) with kind := .array 7 .double, interfaces := #[3, 4], accessFlags := 1041 }

def heap : Heap := #[]
def classes : Array Class := #[k0, k1, k2, k3, k4, k5, k6, k7, k8]
def interned : List (Array UInt16 × Addr) := []
def slotsUsed : Nat := 0
def theMethod : MethodId := ⟨1, 1⟩
def args0 : Array Value := #[.int 5, .int 7, .int 3, .int 11, .int 2]
def aboutOver (below : List Frame) : State where
  vm := { classes := classes, interned := interned.toArray }
  heap := heap
  slotsUsed := slotsUsed
  threads := #[{ frames := .invoking theMethod args0 :: below }]
def below0 : List Frame := [.native { method := ⟨0, 0⟩, args := #[] }]
def about1 : State := aboutOver below0
def p0 : Program := .bare "" "" ""
def e0 : Env := launch0.env 0 0 0
theorem w_frames : about1.frames = Frame.invoking theMethod args0 :: below0 := rfl
set_option maxRecDepth 65536 in
theorem w_args : argsFit about1.vm theMethod args0 = true := by decide +kernel
set_option maxRecDepth 65536 in
theorem w_heap : heapFits about1 = true := by decide +kernel
set_option maxRecDepth 65536 in
theorem w_runnable : about1.curStatus? = some .runnable := by decide +kernel
set_option maxRecDepth 65536 in
theorem w_alone : about1.alone = true := by decide +kernel
set_option maxRecDepth 65536 in
theorem w_named : about1.methodNamed? x = some theMethod := by decide +kernel
set_option maxRecDepth 65536 in
theorem w_hears : about1.hears theMethod below0 = true := by decide +kernel
set_option maxRecDepth 65536 in
theorem w_ripe : about1.ripe theMethod args0 below0 = true := by decide +kernel
theorem w_running : about1.status = .running := rfl
set_option maxRecDepth 65536 in
theorem w_room : about1.hasRoom e0.platform room_1 = true :=
  launch0.hasRoom_least _ room_1 (by decide +kernel) (by decide +kernel) (by decide +kernel) (by decide +kernel) (by decide +kernel) (by decide +kernel)
theorem allAtoms_all (ts : List Jvm.Cond) (a : Array Jvm.Value) (st : Jvm.State) : (allAtoms ts).before a st = ts.all (fun c => c.before a st) := by
  induction ts with
  | nil => rfl
  | cons c t ih =>
    show (Jvm.Cond.and c (allAtoms t)).before a st = _
    rw [Jvm.Cond.before_and, ih, List.all_cons]
def words1 : List Jvm.Cond := Jvm.Cond.code x code maxLocals ret :: tables_1
/-- a 'code' word, met by the world's own term for the bytes: nothing is compared byte by byte -/
theorem code_word {y : MethodName} {bytes : ByteArray} {mx : Nat} {rt : Option FieldType} {a : Array Value} {s : State} {m : MethodId} {meth : Method} {c : Code} (h1 : s.methodNamed? y = some m) (h2 : s.vm.method? m = some meth) (h3 : meth.code = some c) (h4 : c.code = bytes)
    (h5 : (c.maxLocals == mx && c.exceptionTable.isEmpty && decide (c.maxStack ≤ mostOperands) && decide (meth.sig.returnType = rt) && !meth.locks && decide (parseMethodDescriptor y.desc = some meth.sig)) = true) : (Jvm.Cond.code y bytes mx rt).before a s = true := by
  simp only [Bool.and_eq_true, beq_iff_eq, Bool.not_eq_true', decide_eq_true_eq] at h5
  obtain ⟨⟨⟨⟨⟨g1, g2⟩, g3⟩, g4⟩, g5⟩, g6⟩ := h5
  simp [Cond.before, Cond.holds, Cond.value, h1, h2, h3, h4, g1, g2, g3, g4, g5, g6]
def isCode : Jvm.Cond → Bool
  | .code _ _ _ _ => true
  | _ => false
theorem all_split {L : List Jvm.Cond} {P : Jvm.Cond → Bool} (h1 : L.all (fun c => isCode c || P c) = true) (h2 : ∀ c ∈ L.filter isCode, P c = true) : L.all P = true := by
  refine List.all_eq_true.mpr fun c hc => ?_
  have h := List.all_eq_true.mp h1 c hc
  rcases Bool.eq_false_or_eq_true (isCode c) with hi | hi
  · exact h2 c (List.mem_filter.mpr ⟨hc, hi⟩)
  · simpa [hi] using h
set_option maxRecDepth 65536 in
theorem w_c0 : (Jvm.Cond.code x code maxLocals ret).before args0 about1 = true := code_word (m := ⟨1, 1⟩) (meth := k1m1) (c := k1c1) (by decide +kernel) rfl rfl rfl (by decide +kernel)
set_option maxRecDepth 65536 in
theorem w_c1 : (Jvm.Cond.code ({ cls := "com/example/nephila/nephila/rank/Runs", name := "sum", desc := "([D)D" } : Jvm.MethodName) prog_57_method_6_code (8 : Nat) (Option.some Jvm.ClassFile.FieldType.double)).before args0 about1 = true := code_word (m := ⟨2, 0⟩) (meth := k2m0) (c := k2c0) (by decide +kernel) rfl rfl rfl (by decide +kernel)
def codes1 : List Jvm.Cond := [Jvm.Cond.code x code maxLocals ret, Jvm.Cond.code ({ cls := "com/example/nephila/nephila/rank/Runs", name := "sum", desc := "([D)D" } : Jvm.MethodName) prog_57_method_6_code (8 : Nat) (Option.some Jvm.ClassFile.FieldType.double)]
set_option maxRecDepth 65536 in
theorem codes_eq : words1.filter isCode = codes1 := rfl
theorem w_codes : ∀ c ∈ words1.filter isCode, c.before args0 about1 = true := by
  rw [codes_eq]
  intro c hc
  simp only [codes1, List.mem_cons, List.not_mem_nil, or_false] at hc
  rcases hc with rfl | rfl
  · exact w_c0
  · exact w_c1
set_option maxRecDepth 65536 in
theorem w_t1 : words1.all (fun c => isCode c || c.before args0 about1) = true := by decide +kernel
theorem w_tables : (allAtoms (Jvm.Cond.code x code maxLocals ret :: tables_1)).before args0 about1 = true := by
  rw [allAtoms_all]
  show words1.all (fun c => c.before args0 about1) = true
  refine all_split ?_ w_codes
  rw [w_t1]
set_option maxRecDepth 65536 in
theorem w_case : (Jvm.Cond.and given_1 narrow_1).before args0 about1 = true := by decide +kernel
theorem w_applies : (headSpec (Jvm.Cond.code x code maxLocals ret :: tables_1) room_1).applies x e0.platform about1 = true :=
  (Spec.applies_iff w_frames).mpr ⟨w_running, w_runnable, w_alone, w_named, w_hears, w_ripe, w_room, w_tables⟩
theorem atStart : AtStart classFile x code maxLocals ret World_1 tables_1 room_1 Calls_1 rest_1 Pre_1 launch0 p0 e0 about1 theMethod args0 below0 :=
  ⟨lists_1, trivial, launch0.admits_env _ _ _, launch0.least_env, fairChoices_fair.cas, fairChoices_fair.clock, w_frames, w_args, w_heap, w_applies, trivial, trivial, w_case⟩
end start1
theorem witness_1 : WitnessClaimed_1 := ⟨start1.p0, start1.e0, start1.about1, start1.theMethod, start1.args0, start1.below0, start1.atStart⟩
end Jvm.Pilot.@@N@@
