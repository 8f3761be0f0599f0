import JvmDerived
import JvmDerived.Pilot.@@N@@Statement
import JvmDerived.Pilot.@@N@@Code
set_option linter.unusedVariables false
set_option linter.unusedSimpArgs false
namespace Jvm.RoadKit
open Sem ClassFile Op Lib Jvm.Stand Jvm.Free Jvm.LawKit
section New
variable {p : Program} {l : Launch} {e : Env} {R : Room} {s : State} {m : MethodId} {args : Array Value} {below : List Frame} {meth : Method} {c : Code} {T : State} {locs : List Loc} {cells slots : Nat}
theorem own_retI (X : Stand p l e R s m args below meth c T locs cells slots) (hx : p.tables.exec = Jvm.exec) {pc : Nat} {Ls : Array Slot} {z : Int32} {rest : List Value} (hret : meth.sig.returnType = some .int) (hd : decode c.code pc = .ok (.ireturn, 1)) {fs : List Frame}
    (hl : ∀ (f : JFrame) (acts : List Action), f.method = m → f.locked = none → f.entered = [] → (doReturn e (T.setTop f) acts (some (.int z))).1 = T.setFrames fs) : Steps p.tables e below (T.setTop (mkF m pc Ls (.int z :: rest))) (T.setFrames fs) :=
  retOut X hx hret rfl (Or.inl ⟨rfl, Or.inl rfl, z, rfl⟩) hd hl
theorem own_retJ (X : Stand p l e R s m args below meth c T locs cells slots) (hx : p.tables.exec = Jvm.exec) {pc : Nat} {Ls : Array Slot} {z : Int64} {rest : List Value} (hret : meth.sig.returnType = some .long) (hd : decode c.code pc = .ok (.lreturn, 1)) {fs : List Frame}
    (hl : ∀ (f : JFrame) (acts : List Action), f.method = m → f.locked = none → f.entered = [] → (doReturn e (T.setTop f) acts (some (.long z))).1 = T.setFrames fs) : Steps p.tables e below (T.setTop (mkF m pc Ls (.long z :: rest))) (T.setFrames fs) :=
  retOut X hx hret rfl (Or.inr (Or.inl ⟨rfl, rfl, z, rfl⟩)) hd hl
end New
/-- the rest of a walk: from here the run comes to an end with Q -/
def own_Fin (p : Program) (e : Env) (below : List Frame) (A : State) (Q : Outcome → State → Prop) : Prop :=
  ∃ t o, Steps p.tables e below A t ∧ t.status = .running ∧ Ended t below o ∧ Q o t
theorem own_go {p : Program} {e : Env} {below : List Frame} {A B : State} {Q : Outcome → State → Prop} (st : ∀ t, Steps p.tables e below A t → Steps p.tables e below B t) (k : own_Fin p e below A Q) : own_Fin p e below B Q := by
  obtain ⟨t, o, h, r⟩ := k; exact ⟨t, o, st t h, r⟩
theorem own_start {p : Program} {e : Env} {below : List Frame} {T : State} {g g' : JFrame} {Q : Outcome → State → Prop} (q : g = g') (k : own_Fin p e below (T.setTop g') Q) :
    ∃ t o, Steps p.tables e below (T.setTop g) t ∧ t.status = .running ∧ Ended t below o ∧ Q o t := by subst q; exact k
theorem own_cat {v : Value} (h : v.isRef = true) : v.category = 1 := by cases v <;> simp [Value.isRef] at h <;> rfl
theorem own_st1 {l l' : Array Slot} {i : Nat} {v : Value} (hold : (match l[i]? with | some .unset => true | some (.val w) => w.category == 1 | _ => false) = true) (hv : v.isRef = true) (e : l.setIfInBounds i (.val v) = l') : storeLocals l i v = some l' := by
  subst e
  cases h : l[i]? with
  | none => simp [h] at hold
  | some o =>
    refine Jvm.Free.XS.store1 h ?_ (own_cat hv)
    cases o with
    | unset => exact Or.inl rfl
    | second => simp [h] at hold
    | val w => simp [h] at hold; exact Or.inr ⟨w, rfl, hold⟩
theorem own_st2 {l l' : Array Slot} {i : Nat} {v : Value} {o : Slot} (hold : l[i]? = some o) (ho : One o) (hv : v.category = 1) (e : l.setIfInBounds i (.val v) = l') : storeLocals l i v = some l' := by
  subst e; exact Jvm.Free.XS.store1 hold ho hv
theorem own_fitR {v : Value} {C : String} (h : v.isRef = true) : fits (.object C) v = true := by cases v <;> simp [Value.isRef, fits] at h ⊢
theorem own_osz {Z : State} {n0 : Nat} {h : Heap} (O : Old Z n0 h) : n0 ≤ h.size := O.1 ▸ O.2.1
def own_bi (P : Prop) [Decidable P] : Int32 := if P then 1 else 0
theorem own_bi1 {P : Prop} [Decidable P] (h : P) : own_bi P = 1 := if_pos h
theorem own_bi0 {P : Prop} [Decidable P] (h : ¬ P) : own_bi P = 0 := if_neg h
theorem own_bz {P : Prop} [Decidable P] (h : ¬ P) : own_bi P = 0 := if_neg h
theorem own_bn {P : Prop} [Decidable P] (h : P) : ¬ own_bi P = 0 := by rw [own_bi1 h]; decide
theorem own_narb {P : Prop} [Decidable P] : nar .boolean (own_bi P) = own_bi P := by unfold own_bi; split <;> decide
theorem own_narbi (P : Prop) [Decidable P] : narrow .boolean (.int (own_bi P)) = .int (own_bi P) := by unfold own_bi; split <;> rfl
theorem own_fitbi (P : Prop) [Decidable P] : fits .boolean (.int (own_bi P)) = true := by unfold own_bi; split <;> rfl
theorem own_e1 {P : Prop} [Decidable P] (h : P) : ¬ own_bi P = 0 := by rw [own_bi1 h]; decide
theorem own_e0 {P : Prop} [Decidable P] (h : ¬ P) : ¬ own_bi P = 1 := by rw [own_bi0 h]; decide
theorem own_retB {p : Program} {l : Launch} {e : Env} {R : Room} {s : State} {m : MethodId} {args : Array Value} {below : List Frame} {meth : Method} {c : Code} {T : State} {locs : List Loc} {cells slots : Nat} (X : Stand p l e R s m args below meth c T locs cells slots) (hx : p.tables.exec = Jvm.exec) {pc : Nat} {Ls : Array Slot} {P : Prop} [Decidable P] {rest : List Value} (hret : meth.sig.returnType = some .boolean) (hd : decode c.code pc = .ok (.ireturn, 1)) {fs : List Frame}
    (hl : ∀ (f : JFrame) (acts : List Action), f.method = m → f.locked = none → f.entered = [] → (doReturn e (T.setTop f) acts (some (.int (own_bi P)))).1 = T.setFrames fs) : Steps p.tables e below (T.setTop (mkF m pc Ls (.int (own_bi P) :: rest))) (T.setFrames fs) :=
  retN X hx (t := .boolean) hret (by simp) hd (by rw [own_narb]; exact hl)
theorem own_eqv {args : Array Value} {f s : State} {o : Option Outcome} {idx : List Nat} {a b : Term} {v : Value} (h : (Cond.eq a b).value args f o s idx = some true) (hb : b.eval args f o idx s = some v) (hk : (match v with | .int _ => true | .long _ => true | .ref _ => true | .null => true | _ => false) = true) : a.eval args f o idx s = some v := by
  obtain ⟨x, y, h1, h2, h3, h4⟩ := cmp_v (Or.inl h)
  rw [hb] at h2; cases h2
  rw [h1]
  cases x <;> cases v <;> simp [Kin, Value.isRef] at h3 h4 hk <;> simp [Cond.value, h1, hb] at h ⊢ <;> exact h
theorem own_eqBi {v : Option Value} {P : Prop} [Decidable P] (h : (v = some (.int 1) ∧ P) ∨ (v = some (.int 0) ∧ ¬ P)) : v = some (.int (own_bi P)) := by
  rcases h with ⟨h, q⟩ | ⟨h, q⟩
  · rw [h, own_bi1 q]
  · rw [h, own_bi0 q]
theorem own_up {cs : List Int32} (h : ∀ c ∈ cs, ¬ c < 0 ∧ ¬ (255 : Int32) < c) : ∀ c ∈ cs, ¬ c < 0 ∧ ¬ (65535 : Int32) < c := fun c hc => ⟨(h c hc).1, fun q => (h c hc).2 (by
  rw [Int32.lt_iff_toInt_lt] at q ⊢
  have e1 : (65535 : Int32).toInt = 65535 := by decide
  have e2 : (255 : Int32).toInt = 255 := by decide
  omega)⟩
theorem own_narid {a : Int32} (h : ¬ a < 0 ∧ ¬ (255 : Int32) < a) : nar .char a = a := by
  have e0 : (0 : Int32).toInt = 0 := by decide
  have e2 : (255 : Int32).toInt = 255 := by decide
  obtain ⟨h1, h2⟩ := h
  rw [Int32.lt_iff_toInt_lt] at h1 h2
  have q := c_i2c a
  rw [← Int32.toInt_inj]
  show a.toUInt32.toUInt16.toUInt32.toInt32.toInt = a.toInt
  omega
theorem own_nez {args : Array Value} {f s : State} {o : Option Outcome} {idx : List Nat} {t : Term} {z : Int32} (ev : t.eval args f o idx s = some (.int z)) (h : (Cond.not (Cond.eq t (Term.int 0))).value args f o s idx = some true) : ¬ z = 0 := by
  intro q; subst q; have h' := not_v h; simp [Cond.value, ev, Term.eval] at h'
theorem own_notOf {Z : State} {a0 : Array Value} {C O K : String} {n : Nat} (w : (Cond.superclass C O).before a0 Z = true) (w0 : (Cond.noSuperclass O).before a0 Z = true) (wi : (Cond.instantiable K n).before a0 Z = true) (hn : C ≠ K) (ho : O ≠ K) : ∃ c t, Z.vm.findClass C = some c ∧ Z.vm.findClass K = some t ∧ Z.vm.assignable c t = false := by
  obtain ⟨t, kt, g0, g2, g5, g7, -⟩ := Cond.instantiable_spec wi
  obtain ⟨c, h0⟩ := found_sup w
  obtain ⟨p, k, kp, h1, h2, h3, h4, h5, -, h7⟩ := Cond.superclass_spec h0 w
  obtain ⟨c', k', j1, j2, j3, -, -⟩ := Cond.noSuperclass_spec w0
  cases j1.symm.trans h1
  have ne := ids_ne h0 g0 hn
  have neo := ids_ne h1 g0 ho
  have g7' : kt.isInterface = false := by cases h : kt.isInterface <;> simp [h] at g7 ⊢
  have hs : ∀ fuel, Z.vm.isSubclassAux fuel c t = false := by
    intro fuel
    cases fuel with
    | zero => rfl
    | succ f =>
      cases f with
      | zero => simp [Vm.isSubclassAux, ne, h2, h4]
      | succ f => simp [Vm.isSubclassAux, ne, h2, h4, neo, j2, j3]
  refine ⟨c, t, h0, g0, ?_⟩
  show Z.vm.assignableAux (255 + 1) c t = false
  simp [Vm.assignableAux, ne, h2, g2, h5, g5, g7', Vm.isSubclass, hs]
theorem own_selS {args : Array Value} {s : State} {y w z : MethodName} {C : String} (h : (Cond.selects C w z).before args s = true) (e : z.cls = y.cls) (hpriv : s.PrivateAt y) (hinst : (Cond.instanceMethod y).before args s = true) (hy : y.cls ≠ "java/lang/invoke/MethodHandle" ∧ y.cls ≠ "java/lang/invoke/VarHandle") : (Cond.selects y.cls y y).before args s = true := by
  obtain ⟨c2, r2, m2, q1, q2, q3, q4, kP, hkP, hkPi⟩ := Cond.selects_spec h
  exact selects_self_of_private (c := m2.cls) (by rw [← e]; exact findClass_of_methodNamed q3) hkP hkPi hpriv hinst hy
theorem own_same {args : Array Value} {s : State} {y w z : MethodName} {C : String} (hinst : (Cond.instanceMethod y).before args s = true) (h : (Cond.selects C w z).before args s = true) (e : z.cls = y.cls) (hy : y.cls ≠ "java/lang/invoke/MethodHandle" ∧ y.cls ≠ "java/lang/invoke/VarHandle") : (Cond.sameMethod y.cls y.cls y.name y.desc).before args s = true := by
  obtain ⟨c2, r2, m2, q1, q2, q3, q4, kP, hkP, hkPi⟩ := Cond.selects_spec h
  obtain ⟨mk, methM, hnamed, hmethM, -, -⟩ := Cond.instanceMethod_spec hinst
  have hf : s.methodFound? y.cls y.name y.desc = some mk := State.methodFound?_of_named hnamed hy
  have hc : s.vm.findClass y.cls = some m2.cls := by rw [← e]; exact findClass_of_methodNamed q3
  have hn : s.methodNamed? ⟨y.cls, y.name, y.desc⟩ = some mk := hnamed
  simp [Cond.before, Cond.holds, Cond.value, hc, hf, hn, hkP, hkPi]
theorem own_nf {args : Array Value} {s : State} {y w z : MethodName} {C : String} (h : (Cond.selects C w z).before args s = true) (e : z.cls = y.cls) : NotFace s y := fun r0 h0 => by
  obtain ⟨c2, r2, m2, q1, q2, q3, q4, kP, hkP, hkPi⟩ := Cond.selects_spec h
  have a := findClass_of_methodNamed q3
  have b := findClass_of_methodNamed h0
  rw [e] at a
  have hc : m2.cls = r0.cls := Option.some.inj (a.symm.trans b)
  exact ⟨kP, by rw [← hc]; exact hkP, hkPi⟩
theorem own_selI {args : Array Value} {s : State} {y : MethodName} {n : Nat} (h : (Cond.instantiable y.cls n).before args s = true) (hpriv : s.PrivateAt y) (hinst : (Cond.instanceMethod y).before args s = true) (hy : y.cls ≠ "java/lang/invoke/MethodHandle" ∧ y.cls ≠ "java/lang/invoke/VarHandle") : (Cond.selects y.cls y y).before args s = true := by
  obtain ⟨c, k, h1, h2, h3, h4, -⟩ := Cond.instantiable_spec h
  exact selects_self_of_private h1 h2 (by cases hq : k.isInterface <;> simp [hq] at h4 ⊢) hpriv hinst hy
theorem own_selP {args : Array Value} {s : State} {y : MethodName} {S : String} (h : (Cond.superclass y.cls S).before args s = true) (hpriv : s.PrivateAt y) (hinst : (Cond.instanceMethod y).before args s = true) (hy : y.cls ≠ "java/lang/invoke/MethodHandle" ∧ y.cls ≠ "java/lang/invoke/VarHandle") : (Cond.selects y.cls y y).before args s = true := by
  obtain ⟨c, hc⟩ := found_sup h
  obtain ⟨p, k, kp, h1, h2, h3, h4, h5, h6, h7⟩ := Cond.superclass_spec hc h
  exact selects_self_of_private hc h2 h7 hpriv hinst hy
end Jvm.RoadKit
/- laws to paste: Road.backV (cut by pick.py; bodies as the Statement names them) -/
namespace Jvm.Pilot.@@N@@
namespace StrChars
open Jvm Sem ClassFile Op Lib Jvm.Stand Jvm.Free.XT Jvm.Free.ALB Jvm.Free.JM Jvm.Free
open Jvm.Lib.Cold (StaticIs)
/-- a char array whose places are chars -/
def Ch (a : Addr) (A : Cell) (U : State) : Prop := Arr .char a A U ∧ Typed .char A
theorem Ch.mv {a : Addr} {A : Cell} {U U' : State} (h : Ch a A U) (hal : U.vm.Alike U'.vm) (hh : U'.heap = U.heap) : Ch a A U' := ⟨h.1.mv hal hh, h.2⟩
theorem Ch.keep {a : Addr} {A : Cell} {U U' : State} (h : Ch a A U) (hal : U.vm.Alike U'.vm) (hk : U'.heap[a]? = some A) : Ch a A U' := ⟨h.1.keep hal hk, h.2⟩
/-- what place i of a char[]'s cell holds -/
def cv (A : Cell) (i : Nat) : Int32 := match A.slots[i]? with | some (.int x) => x | _ => 0
theorem Ch.get {a : Addr} {A : Cell} {U : State} (h : Ch a A U) {i : Nat} (hi : i < A.slots.size) : A.slots[i]? = some (.int (cv A i)) := by
  have e := Array.getElem?_eq_getElem hi
  have f := h.2 i _ e
  unfold cv; rw [e]
  generalize A.slots[i] = v at f
  cases v <;> simp [fits] at f ⊢
/-- the byte that i2b leaves of a char -/
def lo8 (x : Int32) : Int32 := x.toInt8.toInt32
theorem fits_lo8 (y : Int32) : fits .byte (.int (lo8 y)) = true := by
  have h1 := y.toInt8.le_toInt
  have h2 := y.toInt8.toInt_lt
  simp only [lo8, fits, Bool.and_eq_true, decide_eq_true_eq, Int32.le_iff_toInt_le, Int8.toInt_toInt32, show (-128 : Int32).toInt = -128 from by decide, show (127 : Int32).toInt = 127 from by decide]
  omega
/-- A' is A but that each place j of lo .. hi - 1 holds f j -/
def Laid (A A' : Cell) (lo hi : Nat) (f : Nat → Value) : Prop := A'.cls = A.cls ∧ A'.vm = A.vm ∧ A'.slots.size = A.slots.size ∧ ∀ i, A'.slots[i]? = if lo ≤ i ∧ i < hi then some (f i) else A.slots[i]?
theorem Laid.zero (A : Cell) (lo : Nat) (f : Nat → Value) : Laid A A lo (lo + 0) f := ⟨rfl, rfl, rfl, fun i => by rw [if_neg (by omega)]⟩
theorem Laid.step {A Ak : Cell} {lo k : Nat} {f : Nat → Value} {v : Value} (h : Laid A Ak lo k f) (hlo : lo ≤ k) (hk : k < Ak.slots.size) (hv : v = f k) : Laid A (Ak.setSlot k v) lo (k + 1) f := by
  refine ⟨h.1, h.2.1, by simpa [Cell.setSlot] using h.2.2.1, fun i => ?_⟩
  by_cases e : k = i
  · subst e; rw [Cell.slots_setSlot_self v hk, if_pos (by omega), hv]
  · rw [Cell.slots_setSlot_ne v e, h.2.2.2 i]
    by_cases q : lo ≤ i ∧ i < k
    · rw [if_pos q, if_pos (by omega)]
    · rw [if_neg q, if_neg (by omega)]
def U16 : String := "java/lang/StringUTF16"
namespace Cmp5
def yN : MethodName := ⟨"java/lang/StringUTF16", "compress", "([CI[BII)I"⟩
abbrev yB : ByteArray := jdk_52_method_21_code
theorem d0 : decode yB 0 = .ok (.iconst 0, 1) := by decide +kernel
theorem d1 : decode yB 1 = .ok (.istore 5, 2) := by decide +kernel
theorem d3 : decode yB 3 = .ok (.iload 5, 2) := by decide +kernel
theorem d5 : decode yB 5 = .ok (.iload 4, 2) := by decide +kernel
theorem d7 : decode yB 7 = .ok (.if_icmp (.ge) 37, 3) := by decide +kernel
theorem d10 : decode yB 10 = .ok (.aload_n 0, 1) := by decide +kernel
theorem d11 : decode yB 11 = .ok (.iload_n 1, 1) := by decide +kernel
theorem d12 : decode yB 12 = .ok (.caload, 1) := by decide +kernel
theorem d13 : decode yB 13 = .ok (.istore 6, 2) := by decide +kernel
theorem d15 : decode yB 15 = .ok (.iload 6, 2) := by decide +kernel
theorem d17 : decode yB 17 = .ok (.sipush 255, 3) := by decide +kernel
theorem d20 : decode yB 20 = .ok (.if_icmp (.le) 6, 3) := by decide +kernel
theorem d26 : decode yB 26 = .ok (.aload_n 2, 1) := by decide +kernel
theorem d27 : decode yB 27 = .ok (.iload_n 3, 1) := by decide +kernel
theorem d28 : decode yB 28 = .ok (.iload 6, 2) := by decide +kernel
theorem d30 : decode yB 30 = .ok (.i2b, 1) := by decide +kernel
theorem d31 : decode yB 31 = .ok (.bastore, 1) := by decide +kernel
theorem d32 : decode yB 32 = .ok (.iinc 1 1, 3) := by decide +kernel
theorem d35 : decode yB 35 = .ok (.iinc 3 1, 3) := by decide +kernel
theorem d38 : decode yB 38 = .ok (.iinc 5 1, 3) := by decide +kernel
theorem d41 : decode yB 41 = .ok (.goto (-38), 3) := by decide +kernel
theorem d44 : decode yB 44 = .ok (.iload 4, 2) := by decide +kernel
theorem d46 : decode yB 46 = .ok (.ireturn, 1) := by decide +kernel
def site : List Cond := []
def tab : Cond := tabOf yN yB 7 (some .int) site
def P (b : Addr) (A : Cell) (d : Addr) (B : Cell) (o q len : Nat) (args : Array Value) (s : State) : Prop := args = #[.ref b, .int (Int32.ofNat o), .ref d, .int (Int32.ofNat q), .int (Int32.ofNat len)] ∧ Ch b A s ∧ Arr .byte d B s ∧ b ≠ d ∧ o + len ≤ A.slots.size ∧ q + len ≤ B.slots.size ∧ ∀ i, i < len → ¬ 255 < cv A (o + i)
def E (b : Addr) (A : Cell) (d : Addr) (B : Cell) (o q len : Nat) (r : Option Value) (s u : State) : Prop := r = some (.int (Int32.ofNat len)) ∧ ∃ B', Put d B' s u ∧ Laid B B' q (q + len) (fun j => Value.int (lo8 (cv A (o + (j - q)))))
/-- no char of the range above 255: len; the places written hold each char's low byte -/
theorem law (l : Launch) (b : Addr) (A : Cell) (d : Addr) (B : Cell) (o q len : Nat) : Law l yN 5 5 0 0 yB 7 (some .int) site (P b A d B o q len) (E b A d B o q len) (copyLocs d q len) 0 0 := by
  refine Law.of_walk (plainFor_of_name (by decide +kernel)) (by decide +kernel) (by decide +kernel) (by decide) (fun _ _ h => by rw [h.1]; rfl) (fun _ U U' hal hh h => ⟨h.1, h.2.1.mv hal hh, h.2.2.1.mv hal hh, h.2.2.2⟩) (fun r U U' V V' h1 hal h2 h => ⟨h.1, h.2.elim fun B' q => ⟨B', q.1.mv h1 h2, q.2⟩⟩) ?_
  intro p e s m args below meth c s₁ X0 hexec hbytes hml hret hlk hnm hown hh0 W hP
  obtain ⟨rfl, hA, hB, hne, l1, l2, hp⟩ := hP
  have c1 : Steps p.tables e below (s₁.setTop (entryFrame m #[.ref b, .int (Int32.ofNat o), .ref d, .int (Int32.ofNat q), .int (Int32.ofNat len)] 7)) (s₁.setTop (mkF m 0 #[.val (.ref b), .val (.int (Int32.ofNat o)), .val (.ref d), .val (.int (Int32.ofNat q)), .val (.int (Int32.ofNat len)), .unset, .unset] [])) := entry rfl
  have hA0 := hA.1.mv X0.warmed.alike hh0
  have hB0 := hB.mv X0.warmed.alike hh0
  have a31 := hA.1.2.2.2
  have c2 : Steps p.tables e below (s₁.setTop (entryFrame m #[.ref b, .int (Int32.ofNat o), .ref d, .int (Int32.ofNat q), .int (Int32.ofNat len)] 7)) (s₁.setTop (mkF m 3 #[.val (.ref b), .val (.int (Int32.ofNat o)), .val (.ref d), .val (.int (Int32.ofNat q)), .val (.int (Int32.ofNat len)), .val (.int 0), .unset] [])) := c1.trans (by
    refine iconstV X0.here hexec rfl 0 (hb hbytes d0) (by decide) ?_
    refine XS.istore X0.here hexec rfl (hb hbytes d1) rfl rfl ?_
    exact Steps.refl _)
  have loop : ∀ (r i : Nat), i + r = len → ∀ (z : Slot), (z = .unset ∨ ∃ w, z = .val w ∧ w.category = 1) → ∀ (Tl : State) (Bk : Cell), Stand p l e { frames := 0, locals := 0, cells := 0, slots := 0 } s m #[.ref b, .int (Int32.ofNat o), .ref d, .int (Int32.ofNat q), .int (Int32.ofNat len)] below meth c Tl ([] ++ copyLocs d q i) 0 0 → Put d Bk s₁ Tl → Laid B Bk q (q + i) (fun j => Value.int (lo8 (cv A (o + (j - q))))) →
      Steps p.tables e below (s₁.setTop (entryFrame m #[.ref b, .int (Int32.ofNat o), .ref d, .int (Int32.ofNat q), .int (Int32.ofNat len)] 7)) (Tl.setTop (mkF m 3 #[.val (.ref b), .val (.int (Int32.ofNat (o + i))), .val (.ref d), .val (.int (Int32.ofNat (q + i))), .val (.int (Int32.ofNat len)), .val (.int (Int32.ofNat i)), z] [])) → ∃ (T' : State) (B' : Cell) (z' : Slot), Stand p l e { frames := 0, locals := 0, cells := 0, slots := 0 } s m #[.ref b, .int (Int32.ofNat o), .ref d, .int (Int32.ofNat q), .int (Int32.ofNat len)] below meth c T' ([] ++ copyLocs d q len) 0 0 ∧ Put d B' s₁ T' ∧ Laid B B' q (q + len) (fun j => Value.int (lo8 (cv A (o + (j - q))))) ∧
      Steps p.tables e below (s₁.setTop (entryFrame m #[.ref b, .int (Int32.ofNat o), .ref d, .int (Int32.ofNat q), .int (Int32.ofNat len)] 7)) (T'.setTop (mkF m 3 #[.val (.ref b), .val (.int (Int32.ofNat (o + len))), .val (.ref d), .val (.int (Int32.ofNat (q + len))), .val (.int (Int32.ofNat len)), .val (.int (Int32.ofNat len)), z'] [])) := by
    intro r
    induction r with
    | zero =>
      intro i hi z hz Tl Bk Xl pl fl cl
      have hil : i = len := by omega
      rw [hil] at Xl fl cl
      exact ⟨Tl, Bk, z, Xl, pl, fl, cl⟩
    | succ r ih =>
      intro i hi z hz Tl Bk Xl pl fl cl
      have all := X0.warmed.alike.symm.trans Xl.warmed.alike
      have hAl := hA0.keep all (pl.other hne hA0.1)
      have hBk := hB0.like all pl.1 fl.1 fl.2.1 fl.2.2.1
      have hlt : q + i < Bk.slots.size := by rw [fl.2.2.1]; omega
      have c3 : Steps p.tables e below (s₁.setTop (entryFrame m #[.ref b, .int (Int32.ofNat o), .ref d, .int (Int32.ofNat q), .int (Int32.ofNat len)] 7)) (Tl.setTop (mkF m 12 #[.val (.ref b), .val (.int (Int32.ofNat (o + i))), .val (.ref d), .val (.int (Int32.ofNat (q + i))), .val (.int (Int32.ofNat len)), .val (.int (Int32.ofNat i)), z] [.int (Int32.ofNat (o + i)), .ref b])) := cl.trans (by
        refine XS.iload Xl.here hexec rfl (hb hbytes d3) rfl ?_
        refine XS.iload Xl.here hexec rfl (hb hbytes d5) rfl ?_
        refine XS.icmpNo Xl.here hexec rfl (hb hbytes d7) rfl (ii_ge_f (lt32 (by omega) (by omega))) ?_
        refine XS.aloadN Xl.here hexec rfl (hb hbytes d10) rfl rfl ?_
        refine XS.iloadN Xl.here hexec rfl (hb hbytes d11) rfl ?_
        exact Steps.refl _)
      have c4 : Steps p.tables e below (s₁.setTop (entryFrame m #[.ref b, .int (Int32.ofNat o), .ref d, .int (Int32.ofNat q), .int (Int32.ofNat len)] 7)) (Tl.setTop (mkF m 13 #[.val (.ref b), .val (.int (Int32.ofNat (o + i))), .val (.ref d), .val (.int (Int32.ofNat (q + i))), .val (.int (Int32.ofNat len)), .val (.int (Int32.ofNat i)), z] [.int (cv A (o + i))])) := c3.trans (by
        refine Xl.aget hexec hAl rfl (hA.get (i := o + i) (by omega)) rfl rfl (hb hbytes d12) ?_
        exact Steps.refl _)
      have c5 : Steps p.tables e below (s₁.setTop (entryFrame m #[.ref b, .int (Int32.ofNat o), .ref d, .int (Int32.ofNat q), .int (Int32.ofNat len)] 7)) (Tl.setTop (mkF m 15 #[.val (.ref b), .val (.int (Int32.ofNat (o + i))), .val (.ref d), .val (.int (Int32.ofNat (q + i))), .val (.int (Int32.ofNat len)), .val (.int (Int32.ofNat i)), .val (.int (cv A (o + i)))] [])) := c4.trans (by
        refine XS.istoreS Xl.here hexec rfl (hb hbytes d13) rfl rfl hz ?_
        exact Steps.refl _)
      have c6 : Steps p.tables e below (s₁.setTop (entryFrame m #[.ref b, .int (Int32.ofNat o), .ref d, .int (Int32.ofNat q), .int (Int32.ofNat len)] 7)) (Tl.setTop (mkF m 31 #[.val (.ref b), .val (.int (Int32.ofNat (o + i))), .val (.ref d), .val (.int (Int32.ofNat (q + i))), .val (.int (Int32.ofNat len)), .val (.int (Int32.ofNat i)), .val (.int (cv A (o + i)))] [.int (lo8 (cv A (o + i))), .int (Int32.ofNat (q + i)), .ref d])) := c5.trans (by
        refine XS.iload Xl.here hexec rfl (hb hbytes d15) rfl ?_
        refine sipushV Xl.here hexec rfl 255 (hb hbytes d17) (by decide) ?_
        refine XS.icmpYes Xl.here hexec rfl (pc0 := 20) rfl (hb hbytes d20) rfl (ii_le_t (hp i (by omega))) (by decide) rfl ?_
        refine XS.aloadN Xl.here hexec rfl (hb hbytes d26) rfl rfl ?_
        refine XS.iloadN Xl.here hexec rfl (hb hbytes d27) rfl ?_
        refine XS.iload Xl.here hexec rfl (hb hbytes d28) rfl ?_
        refine i2b Xl.here hexec rfl (hb hbytes d30) rfl ?_
        exact Steps.refl _)
      obtain ⟨T7, X7, p7, st7⟩ := Xl.aput hexec hBk rfl hlt rfl (fits_lo8 (cv A (o + i))) (g := (mkF m 31 #[.val (.ref b), .val (.int (Int32.ofNat (o + i))), .val (.ref d), .val (.int (Int32.ofNat (q + i))), .val (.int (Int32.ofNat len)), .val (.int (Int32.ofNat i)), .val (.int (cv A (o + i)))] [.int (lo8 (cv A (o + i))), .int (Int32.ofNat (q + i)), .ref d])) rfl (rest := []) rfl (hb hbytes d31)
      have c8 : Steps p.tables e below (s₁.setTop (entryFrame m #[.ref b, .int (Int32.ofNat o), .ref d, .int (Int32.ofNat q), .int (Int32.ofNat len)] 7)) (T7.setTop (mkF m 32 #[.val (.ref b), .val (.int (Int32.ofNat (o + i))), .val (.ref d), .val (.int (Int32.ofNat (q + i))), .val (.int (Int32.ofNat len)), .val (.int (Int32.ofNat i)), .val (.int (cv A (o + i)))] [])) := c6.trans (st7 _ (Steps.refl _))
      have c9 : Steps p.tables e below (s₁.setTop (entryFrame m #[.ref b, .int (Int32.ofNat o), .ref d, .int (Int32.ofNat q), .int (Int32.ofNat len)] 7)) (T7.setTop (mkF m 3 #[.val (.ref b), .val (.int (Int32.ofNat (o + i) + 1)), .val (.ref d), .val (.int (Int32.ofNat (q + i) + 1)), .val (.int (Int32.ofNat len)), .val (.int (Int32.ofNat i + 1)), .val (.int (cv A (o + i)))] [])) := c8.trans (by
        refine iincV X7.here hexec rfl 1 (hb hbytes d32) (by decide) rfl rfl ?_
        refine iincV X7.here hexec rfl 1 (hb hbytes d35) (by decide) rfl rfl ?_
        refine iincV X7.here hexec rfl 1 (hb hbytes d38) (by decide) rfl rfl ?_
        refine XS.goto X7.here hexec rfl (pc0 := 41) rfl (hb hbytes d41) (by decide) rfl ?_
        exact Steps.refl _)
      have c10 : Steps p.tables e below (s₁.setTop (entryFrame m #[.ref b, .int (Int32.ofNat o), .ref d, .int (Int32.ofNat q), .int (Int32.ofNat len)] 7)) (T7.setTop (mkF m 3 #[.val (.ref b), .val (.int (Int32.ofNat (o + (i + 1)))), .val (.ref d), .val (.int (Int32.ofNat (q + (i + 1)))), .val (.int (Int32.ofNat len)), .val (.int (Int32.ofNat (i + 1))), .val (.int (cv A (o + i)))] [])) := by
        have := c9
        rw [succ32, succ32, succ32] at this
        exact this
      exact ih (i + 1) (by omega) _ (Or.inr ⟨_, rfl, rfl⟩) T7 _ (by rw [copyLocs_step, ← List.append_assoc]; exact X7) (pl.trans p7) (fl.step (by omega) hlt (by simp)) c10
  obtain ⟨T9, B9, z9, X9, p9, f9, g9⟩ := loop len 0 (by omega) .unset (Or.inl rfl) s₁ B (by simpa [copyLocs] using X0) ⟨hB0.1, fun _ _ => rfl, rfl⟩ (Laid.zero _ _ _) c2
  have c11 : Steps p.tables e below (s₁.setTop (entryFrame m #[.ref b, .int (Int32.ofNat o), .ref d, .int (Int32.ofNat q), .int (Int32.ofNat len)] 7)) (T9.setTop (mkF m 46 #[.val (.ref b), .val (.int (Int32.ofNat (o + len))), .val (.ref d), .val (.int (Int32.ofNat (q + len))), .val (.int (Int32.ofNat len)), .val (.int (Int32.ofNat len)), z9] [.int (Int32.ofNat len)])) := g9.trans (by
    refine XS.iload X9.here hexec rfl (hb hbytes d3) rfl ?_
    refine XS.iload X9.here hexec rfl (hb hbytes d5) rfl ?_
    refine XS.icmpYes X9.here hexec rfl (pc0 := 7) rfl (hb hbytes d7) rfl (ii_ge_t (nlt32 (by omega) (Nat.le_refl _))) (by decide) rfl ?_
    refine XS.iload X9.here hexec rfl (hb hbytes d44) rfl ?_
    exact Steps.refl _)
  exact ⟨T9, some (.int (Int32.ofNat len)), _, _, _, X9, by simp, rfl, rfl, (fun h => by cases h), ⟨rfl, B9, p9.from hh0, f9⟩, fun fs hl => c11.trans (X9.ireturnOut hexec hret rfl (Or.inl rfl) (hb hbytes d46) hl)⟩
end Cmp5
namespace Cmp3
def yN : MethodName := ⟨"java/lang/StringUTF16", "compress", "([CII)[B"⟩
abbrev yB : ByteArray := jdk_52_method_16_code
theorem d0 : decode yB 0 = .ok (.iload_n 2, 1) := by decide +kernel
theorem d1 : decode yB 1 = .ok (.newarray .byte, 2) := by decide +kernel
theorem d3 : decode yB 3 = .ok (.astore_n 3, 1) := by decide +kernel
theorem d4 : decode yB 4 = .ok (.aload_n 0, 1) := by decide +kernel
theorem d5 : decode yB 5 = .ok (.iload_n 1, 1) := by decide +kernel
theorem d6 : decode yB 6 = .ok (.aload_n 3, 1) := by decide +kernel
theorem d7 : decode yB 7 = .ok (.iconst 0, 1) := by decide +kernel
theorem d8 : decode yB 8 = .ok (.iload_n 2, 1) := by decide +kernel
theorem d9 : decode yB 9 = .ok (.invokestatic 115, 3) := by decide +kernel
theorem d12 : decode yB 12 = .ok (.istore 4, 2) := by decide +kernel
theorem d14 : decode yB 14 = .ok (.iload 4, 2) := by decide +kernel
theorem d16 : decode yB 16 = .ok (.iload_n 2, 1) := by decide +kernel
theorem d17 : decode yB 17 = .ok (.if_icmp (.eq) 40, 3) := by decide +kernel
theorem d57 : decode yB 57 = .ok (.aload_n 3, 1) := by decide +kernel
theorem d58 : decode yB 58 = .ok (.areturn, 1) := by decide +kernel
def site : List Cond := [.arrayClass .byte, Cmp5.tab] ++ staticW U16 115 Cmp5.yN
def tab : Cond := tabOf yN yB 6 (some (.array .byte)) site
def P (b : Addr) (A : Cell) (o len : Nat) (args : Array Value) (s : State) : Prop := args = #[.ref b, .int (Int32.ofNat o), .int (Int32.ofNat len)] ∧ Ch b A s ∧ o + len ≤ A.slots.size ∧ len ≤ 536870912 ∧ ∀ i, i < len → ¬ 255 < cv A (o + i)
def E (b : Addr) (A : Cell) (o len : Nat) (r : Option Value) (s u : State) : Prop := NewArr .byte "[B" len (fun j => .int (lo8 (cv A (o + j)))) r s u ∧ u.heap.size = s.heap.size + 1
/-- no char of the range above 255: a new byte[] of their low bytes -/
theorem law (l : Launch) (b : Addr) (A : Cell) (o len : Nat) : Law l yN 3 3 1 18 yB 6 (some (.array .byte)) site (P b A o len) (E b A o len) [] 1 len := by
  refine Law.of_walk (plainFor_of_name (by decide +kernel)) (by decide +kernel) (by decide +kernel) (by decide) (fun _ _ h => by rw [h.1]; rfl) (fun _ U U' hal hh h => ⟨h.1, h.2.1.mv hal hh, h.2.2⟩) (fun r U U' V V' h1 hal h2 h => ⟨NewArr.mv r U U' V V' h1 hal h2 h.1, by rw [h1, h2]; exact h.2⟩) ?_
  intro p e s m args below meth c s₁ X0 hexec hbytes hml hret hlk hnm hown hh0 W hP
  obtain ⟨rfl, hA, l1, l2, hp⟩ := hP
  have a31 := hA.1.2.2.2
  have c1 : Steps p.tables e below (s₁.setTop (entryFrame m #[.ref b, .int (Int32.ofNat o), .int (Int32.ofNat len)] 6)) (s₁.setTop (mkF m 0 #[.val (.ref b), .val (.int (Int32.ofNat o)), .val (.int (Int32.ofNat len)), .unset, .unset, .unset] [])) := entry rfl
  have c2 : Steps p.tables e below (s₁.setTop (entryFrame m #[.ref b, .int (Int32.ofNat o), .int (Int32.ofNat len)] 6)) (s₁.setTop (mkF m 1 #[.val (.ref b), .val (.int (Int32.ofNat o)), .val (.int (Int32.ofNat len)), .unset, .unset, .unset] [.int (Int32.ofNat len)])) := c1.trans (by
    refine XS.iloadN X0.here hexec rfl (hb hbytes d0) rfl ?_
    exact Steps.refl _)
  obtain ⟨T3, B3, X3, ba3, bs3, bv3, bh3, bf3, st3⟩ := X0.anew hexec (atype := .byte) (wk W (.arrayClass .byte)) rfl (by show len * 1 ≤ _; omega) (by omega) (g := (mkF m 1 #[.val (.ref b), .val (.int (Int32.ofNat o)), .val (.int (Int32.ofNat len)), .unset, .unset, .unset] [.int (Int32.ofNat len)])) rfl (hb hbytes d1) (rest := []) rfl (Nat.le_refl _) (by show 0 + len ≤ len; omega)
  rw [hh0] at ba3 st3
  have kp3 : XT.Kept s T3 := (XT.Kept.of_eq hh0).push bh3
  have hA3 := hA.keep X3.warmed.alike (kp3 _ _ hA.1.1)
  have hne : b ≠ s.heap.size := hA.1.ne
  have c4 : Steps p.tables e below (s₁.setTop (entryFrame m #[.ref b, .int (Int32.ofNat o), .int (Int32.ofNat len)] 6)) (T3.setTop (mkF m 3 #[.val (.ref b), .val (.int (Int32.ofNat o)), .val (.int (Int32.ofNat len)), .unset, .unset, .unset] [.ref s.heap.size])) := c2.trans (st3 _ (Steps.refl _))
  have c5 : Steps p.tables e below (s₁.setTop (entryFrame m #[.ref b, .int (Int32.ofNat o), .int (Int32.ofNat len)] 6)) (T3.setTop (mkF m 9 #[.val (.ref b), .val (.int (Int32.ofNat o)), .val (.int (Int32.ofNat len)), .val (.ref s.heap.size), .unset, .unset] [.int (Int32.ofNat len), .int 0, .ref s.heap.size, .int (Int32.ofNat o), .ref b])) := c4.trans (by
    refine XS.astoreN X3.here hexec rfl (hb hbytes d3) rfl rfl rfl ?_
    refine XS.aloadN X3.here hexec rfl (hb hbytes d4) rfl rfl ?_
    refine XS.iloadN X3.here hexec rfl (hb hbytes d5) rfl ?_
    refine XS.aloadN X3.here hexec rfl (hb hbytes d6) rfl rfl ?_
    refine iconstV X3.here hexec rfl 0 (hb hbytes d7) (by decide) ?_
    refine XS.iloadN X3.here hexec rfl (hb hbytes d8) rfl ?_
    exact Steps.refl _)
  obtain ⟨v6, T6, X6, E6, g6⟩ := X3.callS hexec (Cmp5.law l b A s.heap.size B3 o 0 len) hown (wks W (staticW U16 115 Cmp5.yN)) (wk W Cmp5.tab) (W := 0) (Nat.le_of_ble_eq_true rfl) (Nat.le_of_ble_eq_true rfl) (Nat.le_refl _) (by show 0 + len + 0 ≤ len; omega) (g := (mkF m 9 #[.val (.ref b), .val (.int (Int32.ofNat o)), .val (.int (Int32.ofNat len)), .val (.ref s.heap.size), .unset, .unset] [.int (Int32.ofNat len), .int (Int32.ofNat 0), .ref s.heap.size, .int (Int32.ofNat o), .ref b])) rfl (by rw [hml]; rfl) c5 (argsL := [.ref b, .int (Int32.ofNat o), .ref s.heap.size, .int (Int32.ofNat 0), .int (Int32.ofNat len)]) (rest := []) rfl rfl (by show 2 * 0 + 0 ≤ _; decide) (hb hbytes d9) (⟨rfl, hA3, ba3, hne, l1, by rw [bs3]; simp, hp⟩)
  obtain ⟨rfl, B6, p6, f6⟩ := E6
  have c7 : Steps p.tables e below (s₁.setTop (entryFrame m #[.ref b, .int (Int32.ofNat o), .int (Int32.ofNat len)] 6)) (T6.setTop (mkF m 12 #[.val (.ref b), .val (.int (Int32.ofNat o)), .val (.int (Int32.ofNat len)), .val (.ref s.heap.size), .unset, .unset] [.int (Int32.ofNat len)])) := g6
  have c8 : Steps p.tables e below (s₁.setTop (entryFrame m #[.ref b, .int (Int32.ofNat o), .int (Int32.ofNat len)] 6)) (T6.setTop (mkF m 58 #[.val (.ref b), .val (.int (Int32.ofNat o)), .val (.int (Int32.ofNat len)), .val (.ref s.heap.size), .val (.int (Int32.ofNat len)), .unset] [.ref s.heap.size])) := c7.trans (by
    refine XS.istore X6.here hexec rfl (hb hbytes d12) rfl rfl ?_
    refine XS.iload X6.here hexec rfl (hb hbytes d14) rfl ?_
    refine XS.iloadN X6.here hexec rfl (hb hbytes d16) rfl ?_
    refine XS.icmpYes X6.here hexec rfl (pc0 := 17) rfl (hb hbytes d17) rfl (ii_eq_t rfl) (by decide) rfl ?_
    refine XS.aloadN X6.here hexec rfl (hb hbytes d57) rfl rfl ?_
    exact Steps.refl _)
  have X8 := X6.wide (L' := []) (cells' := 1) (slots' := len) (fun x hx hlt => by
    simp only [List.nil_append, copyLocs, List.mem_map, List.mem_range] at hx
    obtain ⟨i, -, rfl⟩ := hx
    exact absurd hlt (Nat.lt_irrefl _)) (Nat.le_refl _) (by omega)
  exact ⟨T6, some (.ref s.heap.size), _, _, _, X8, rfl, rfl, rfl, (fun h => by cases h), ⟨⟨rfl, B6, ba3.like (X3.warmed.alike.symm.trans X6.warmed.alike) p6.1 f6.1 f6.2.1 f6.2.2.1, f6.2.1.trans bv3, by rw [X6.warmed.alike.findClass, f6.1]; exact bf3, by rw [f6.2.2.1, bs3]; simp, fun j hj => by rw [f6.2.2.2 j, if_pos (by omega)]; rfl, kp3.put p6 (Nat.le_refl _)⟩, by rw [p6.2.2, bh3, hh0]; simp⟩, fun fs hl => c8.trans (X8.areturnOut hexec rfl hret rfl (hb hbytes d58) hl)⟩
end Cmp3
namespace CodL
def yN : MethodName := ⟨"java/lang/StringUTF16", "coderFromArrayLen", "([BI)B"⟩
abbrev yB : ByteArray := jdk_52_method_15_code
theorem d0 : decode yB 0 = .ok (.iload_n 1, 1) := by decide +kernel
theorem d1 : decode yB 1 = .ok (.aload_n 0, 1) := by decide +kernel
theorem d2 : decode yB 2 = .ok (.arraylength, 1) := by decide +kernel
theorem d3 : decode yB 3 = .ok (.isub, 1) := by decide +kernel
theorem d4 : decode yB 4 = .ok (.bipush 31, 2) := by decide +kernel
theorem d6 : decode yB 6 = .ok (.iushr, 1) := by decide +kernel
theorem d7 : decode yB 7 = .ok (.i2b, 1) := by decide +kernel
theorem d8 : decode yB 8 = .ok (.ireturn, 1) := by decide +kernel
def site : List Cond := []
def tab : Cond := tabOf yN yB 2 (some .byte) site
def P (d : Addr) (B : Cell) (args : Array Value) (s : State) : Prop := args = #[.ref d, .int (Int32.ofNat B.slots.size)] ∧ Arr .byte d B s
def E (r : Option Value) (s u : State) : Prop := XT.PureE (some (.int 0)) r s u
/-- an array as long as the number of chars: LATIN1 -/
theorem law (l : Launch) (d : Addr) (B : Cell) : Law l yN 2 2 0 0 yB 2 (some .byte) site (P d B) E [] 0 0 := by
  refine Law.of_walk (plainFor_of_name (by decide +kernel)) (by decide +kernel) (by decide +kernel) (by decide) (fun _ _ h => by rw [h.1]; rfl) (fun _ U U' hal hh h => ⟨h.1, h.2.mv hal hh⟩) (fun r U U' V V' h1 hal h2 h => XT.PureE.mv r U U' V V' h1 hal h2 h) ?_
  intro p e s m args below meth c s₁ X0 hexec hbytes hml hret hlk hnm hown hh0 W hP
  obtain ⟨rfl, hB⟩ := hP
  have hB0 := hB.mv X0.warmed.alike hh0
  have c1 : Steps p.tables e below (s₁.setTop (entryFrame m #[.ref d, .int (Int32.ofNat B.slots.size)] 2)) (s₁.setTop (mkF m 0 #[.val (.ref d), .val (.int (Int32.ofNat B.slots.size))] [])) := entry rfl
  have c2 : Steps p.tables e below (s₁.setTop (entryFrame m #[.ref d, .int (Int32.ofNat B.slots.size)] 2)) (s₁.setTop (mkF m 2 #[.val (.ref d), .val (.int (Int32.ofNat B.slots.size))] [.ref d, .int (Int32.ofNat B.slots.size)])) := c1.trans (by
    refine XS.iloadN X0.here hexec rfl (hb hbytes d0) rfl ?_
    refine XS.aloadN X0.here hexec rfl (hb hbytes d1) rfl rfl ?_
    exact Steps.refl _)
  have c3 : Steps p.tables e below (s₁.setTop (entryFrame m #[.ref d, .int (Int32.ofNat B.slots.size)] 2)) (s₁.setTop (mkF m 8 #[.val (.ref d), .val (.int (Int32.ofNat B.slots.size))] [.int (lo8 (ushr (Int32.ofNat B.slots.size - Int32.ofNat B.slots.size) 31))])) := c2.trans (by
    refine X0.alen hexec hB0 rfl rfl (hb hbytes d2) ?_
    refine XS.isub X0.here hexec rfl (hb hbytes d3) rfl ?_
    refine bipushV X0.here hexec rfl 31 (hb hbytes d4) (by decide) ?_
    refine iushr X0.here hexec rfl (hb hbytes d6) rfl ?_
    refine i2b X0.here hexec rfl (hb hbytes d7) rfl ?_
    exact Steps.refl _)
  have e0 : lo8 (ushr (Int32.ofNat B.slots.size - Int32.ofNat B.slots.size) 31) = 0 := by rw [Int32.sub_self]; decide
  rw [e0] at c3
  exact ⟨s₁, some (.int 0), _, _, _, X0, rfl, rfl, rfl, (fun h => by cases h), ⟨rfl, hh0⟩, fun fs hl => c3.trans (X0.ireturnOut hexec hret rfl (Or.inr (Or.inr (Or.inl rfl))) (hb hbytes d8) hl)⟩
end CodL
/-- the String at a is Latin-1 over a new byte[] (the heap's one new cell): the low bytes of the len chars of A from o on; every cell but a is kept -/
def Got (a : Addr) (D : Cell) (fV fC : Field) (A : Cell) (o len : Nat) (r : Option Value) (s u : State) : Prop := r = none ∧ ∃ D' V : Cell, Blank "java/lang/String" a D' u ∧ Same D D' [fV.slot, fC.slot] ∧ D'.slots[fV.slot]? = some (.ref s.heap.size) ∧ D'.slots[fC.slot]? = some (.int 0) ∧ Arr .byte s.heap.size V u ∧ V.vm = .none ∧ u.vm.findClass "[B" = some V.cls ∧ V.slots.size = len ∧ (∀ j, j < len → V.slots[j]? = some (.int (lo8 (cv A (o + j))))) ∧ (∀ (y : Addr) (c : Cell), y ≠ a → s.heap[y]? = some c → u.heap[y]? = some c) ∧ u.heap.size = s.heap.size + 1
theorem Got.mv {a : Addr} {D A : Cell} {fV fC : Field} {o len : Nat} : ∀ r (U U' V V' : State), U'.heap = U.heap → V.vm.Alike V'.vm → V'.heap = V.heap → Got a D fV fC A o len r U V → Got a D fV fC A o len r U' V' :=
  fun r U U' V V' h1 hal h2 ⟨e0, D', X, a1, a2, a3, a4, a5, a6, a7, a8, a9, a10, a11⟩ => ⟨e0, D', X, a1.mv hal h2, a2, by rw [h1]; exact a3, a4, by rw [h1]; exact a5.mv hal h2, a6, by rw [hal.findClass]; exact a7, a8, a9, by rw [h1, h2]; exact a10, by rw [h1, h2]; exact a11⟩
namespace New4
def yN : MethodName := ⟨"java/lang/String", "<init>", "([CIILjava/lang/Void;)V"⟩
abbrev yB : ByteArray := jdk_42_method_149_code
theorem d0 : decode yB 0 = .ok (.aload_n 0, 1) := by decide +kernel
theorem d1 : decode yB 1 = .ok (.invokespecial 1, 3) := by decide +kernel
theorem d4 : decode yB 4 = .ok (.iload_n 3, 1) := by decide +kernel
theorem d5 : decode yB 5 = .ok (.ifCond (.ne) 22, 3) := by decide +kernel
theorem d27 : decode yB 27 = .ok (.getstatic 38, 3) := by decide +kernel
theorem d30 : decode yB 30 = .ok (.ifCond (.eq) 28, 3) := by decide +kernel
theorem d33 : decode yB 33 = .ok (.aload_n 1, 1) := by decide +kernel
theorem d34 : decode yB 34 = .ok (.iload_n 2, 1) := by decide +kernel
theorem d35 : decode yB 35 = .ok (.iload_n 3, 1) := by decide +kernel
theorem d36 : decode yB 36 = .ok (.invokestatic 177, 3) := by decide +kernel
theorem d39 : decode yB 39 = .ok (.astore 5, 2) := by decide +kernel
theorem d41 : decode yB 41 = .ok (.aload_n 0, 1) := by decide +kernel
theorem d42 : decode yB 42 = .ok (.aload 5, 2) := by decide +kernel
theorem d44 : decode yB 44 = .ok (.iload_n 3, 1) := by decide +kernel
theorem d45 : decode yB 45 = .ok (.invokestatic 47, 3) := by decide +kernel
theorem d48 : decode yB 48 = .ok (.putfield 15, 3) := by decide +kernel
theorem d51 : decode yB 51 = .ok (.aload_n 0, 1) := by decide +kernel
theorem d52 : decode yB 52 = .ok (.aload 5, 2) := by decide +kernel
theorem d54 : decode yB 54 = .ok (.putfield 9, 3) := by decide +kernel
theorem d57 : decode yB 57 = .ok (.return_, 1) := by decide +kernel
def site : List Cond := [.fieldLink "java/lang/String" 38 "java/lang/String" "COMPACT_STRINGS" "Z", Cmp3.tab, CodL.tab, .laysFinal "java/lang/String" "java/lang/String" "value" "[B", .fieldLink "java/lang/String" 9 "java/lang/String" "value" "[B", .laysFinal "java/lang/String" "java/lang/String" "coder" "B", .fieldLink "java/lang/String" 15 "java/lang/String" "coder" "B"] ++ objW "java/lang/String" 1 ++ staticW "java/lang/String" 177 Cmp3.yN ++ staticW "java/lang/String" 47 CodL.yN
def tab : Cond := tabOf yN yB 6 none site
def P (a : Addr) (D : Cell) (fV fC : Field) (b : Addr) (A : Cell) (z : Int32) (o len : Nat) (args : Array Value) (s : State) : Prop := args = #[.ref a, .ref b, .int (Int32.ofNat o), .int (Int32.ofNat len), .null] ∧ Blank "java/lang/String" a D s ∧ Found "java/lang/String" "value" "[B" fV s ∧ Found "java/lang/String" "coder" "B" fC s ∧ Ch b A s ∧ StaticIs s "java/lang/String" "COMPACT_STRINGS" "Z" (.int z) ∧ ¬ z = 0 ∧ 0 < len ∧ o + len ≤ A.slots.size ∧ len ≤ 536870912 ∧ ∀ i, i < len → ¬ 255 < cv A (o + i)
def E (a : Addr) (D : Cell) (fV fC : Field) (A : Cell) (o len : Nat) (r : Option Value) (s u : State) : Prop := Got a D fV fC A o len r s u
/-- len > 0, no char of the range above 255: a Latin-1 String of their low bytes -/
theorem law (l : Launch) (a : Addr) (D : Cell) (fV fC : Field) (b : Addr) (A : Cell) (z : Int32) (o len : Nat) : Law l yN 5 4 2 35 yB 6 none site (P a D fV fC b A z o len) (E a D fV fC A o len) [⟨a, fC.slot⟩, ⟨a, fV.slot⟩] 1 len := by
  refine Law.of_walk (plainFor_of_name (by decide +kernel)) (by decide +kernel) (by decide +kernel) (by decide) (fun _ _ h => by rw [h.1]; rfl) (fun _ U U' hal hh h => ⟨h.1, h.2.1.mv hal hh, h.2.2.1.al hal, h.2.2.2.1.al hal, h.2.2.2.2.1.mv hal hh, h.2.2.2.2.2.1.there hal hh, h.2.2.2.2.2.2⟩) (fun r U U' V V' h1 hal h2 h => Got.mv r U U' V V' h1 hal h2 h) ?_
  intro p e s m args below meth c s₁ X0 hexec hbytes hml hret hlk hnm hown hh0 W hP
  obtain ⟨rfl, hB, f1, f2, hA, s1, hz, l0, l1, l2, hp⟩ := hP
  have a31 := hA.1.2.2.2
  have c1 : Steps p.tables e below (s₁.setTop (entryFrame m #[.ref a, .ref b, .int (Int32.ofNat o), .int (Int32.ofNat len), .null] 6)) (s₁.setTop (mkF m 0 #[.val (.ref a), .val (.ref b), .val (.int (Int32.ofNat o)), .val (.int (Int32.ofNat len)), .val .null, .unset] [])) := entry rfl
  have c2 : Steps p.tables e below (s₁.setTop (entryFrame m #[.ref a, .ref b, .int (Int32.ofNat o), .int (Int32.ofNat len), .null] 6)) (s₁.setTop (mkF m 1 #[.val (.ref a), .val (.ref b), .val (.int (Int32.ofNat o)), .val (.int (Int32.ofNat len)), .val .null, .unset] [.ref a])) := c1.trans (by
    refine XS.aloadN X0.here hexec rfl (hb hbytes d0) rfl rfl ?_
    exact Steps.refl _)
  obtain ⟨T3, X3, q3, st3⟩ := X0.oinit hexec hown (wks W (objW "java/lang/String" 1)) (g := (mkF m 1 #[.val (.ref a), .val (.ref b), .val (.int (Int32.ofNat o)), .val (.int (Int32.ofNat len)), .val .null, .unset] [.ref a])) rfl (by rw [hml]; rfl) (rest := []) rfl (hb hbytes d1) (W := 0) (by show 2 * 0 + 0 ≤ _; decide) (Nat.le_of_ble_eq_true rfl) (Nat.le_of_ble_eq_true rfl)
  have hh3 := q3.trans hh0
  have c4 : Steps p.tables e below (s₁.setTop (entryFrame m #[.ref a, .ref b, .int (Int32.ofNat o), .int (Int32.ofNat len), .null] 6)) (T3.setTop (mkF m 27 #[.val (.ref a), .val (.ref b), .val (.int (Int32.ofNat o)), .val (.int (Int32.ofNat len)), .val .null, .unset] [])) := (c2.trans (st3 _ (Steps.refl _))).trans (by
    refine XS.iloadN X3.here hexec rfl (hb hbytes d4) rfl ?_
    refine XS.ifYes X3.here hexec rfl (pc0 := 5) rfl (hb hbytes d5) rfl (i0_ne_t (nz32 (by omega) l0)) (by decide) rfl ?_
    exact Steps.refl _)
  obtain ⟨T5, X5, q5, st5⟩ := X3.sget hexec hown (wk W (.fieldLink "java/lang/String" 38 "java/lang/String" "COMPACT_STRINGS" "Z")) s1 (fun _ _ h => by rw [hh3]; exact h) (g := (mkF m 27 #[.val (.ref a), .val (.ref b), .val (.int (Int32.ofNat o)), .val (.int (Int32.ofNat len)), .val .null, .unset] [])) rfl (hb hbytes d27)
  have hh5 := q5.trans hh3
  have c6 : Steps p.tables e below (s₁.setTop (entryFrame m #[.ref a, .ref b, .int (Int32.ofNat o), .int (Int32.ofNat len), .null] 6)) (T5.setTop (mkF m 30 #[.val (.ref a), .val (.ref b), .val (.int (Int32.ofNat o)), .val (.int (Int32.ofNat len)), .val .null, .unset] [.int z])) := c4.trans (st5 _ (Steps.refl _))
  have c7 : Steps p.tables e below (s₁.setTop (entryFrame m #[.ref a, .ref b, .int (Int32.ofNat o), .int (Int32.ofNat len), .null] 6)) (T5.setTop (mkF m 36 #[.val (.ref a), .val (.ref b), .val (.int (Int32.ofNat o)), .val (.int (Int32.ofNat len)), .val .null, .unset] [.int (Int32.ofNat len), .int (Int32.ofNat o), .ref b])) := c6.trans (by
    refine XS.ifNo X5.here hexec rfl (hb hbytes d30) rfl (i0_eq_f hz) ?_
    refine XS.aloadN X5.here hexec rfl (hb hbytes d33) rfl rfl ?_
    refine XS.iloadN X5.here hexec rfl (hb hbytes d34) rfl ?_
    refine XS.iloadN X5.here hexec rfl (hb hbytes d35) rfl ?_
    exact Steps.refl _)
  obtain ⟨v8, T8, X8, E8, g8⟩ := X5.callS hexec (Cmp3.law l b A o len) hown (wks W (staticW "java/lang/String" 177 Cmp3.yN)) (wk W Cmp3.tab) (W := 0) (Nat.le_of_ble_eq_true rfl) (Nat.le_of_ble_eq_true rfl) (Nat.le_refl _) (by show 0 + len ≤ len; omega) (g := (mkF m 36 #[.val (.ref a), .val (.ref b), .val (.int (Int32.ofNat o)), .val (.int (Int32.ofNat len)), .val .null, .unset] [.int (Int32.ofNat len), .int (Int32.ofNat o), .ref b])) rfl (by rw [hml]; rfl) c7 (argsL := [.ref b, .int (Int32.ofNat o), .int (Int32.ofNat len)]) (rest := []) rfl rfl (by show 2 * 0 + 0 ≤ _; decide) (hb hbytes d36) (⟨rfl, hA.mv X5.warmed.alike hh5, l1, l2, hp⟩)
  obtain ⟨e8, z8⟩ := E8
  obtain ⟨rfl, N, n1, n2, n3, n4, n5, n6⟩ := NewArr.mv _ T5 s _ _ hh5.symm (Vm.Alike.refl _) rfl e8
  rw [hh5] at z8
  have hB1 := hB.keep X8.warmed.alike (n6 _ _ hB.1)
  have hne : s.heap.size ≠ a := (Nat.ne_of_lt (Array.getElem?_eq_some_iff.mp hB.1).1).symm
  have c9 : Steps p.tables e below (s₁.setTop (entryFrame m #[.ref a, .ref b, .int (Int32.ofNat o), .int (Int32.ofNat len), .null] 6)) (T8.setTop (mkF m 39 #[.val (.ref a), .val (.ref b), .val (.int (Int32.ofNat o)), .val (.int (Int32.ofNat len)), .val .null, .unset] [.ref s.heap.size])) := g8
  have c10 : Steps p.tables e below (s₁.setTop (entryFrame m #[.ref a, .ref b, .int (Int32.ofNat o), .int (Int32.ofNat len), .null] 6)) (T8.setTop (mkF m 45 #[.val (.ref a), .val (.ref b), .val (.int (Int32.ofNat o)), .val (.int (Int32.ofNat len)), .val .null, .val (.ref s.heap.size)] [.int (Int32.ofNat N.slots.size), .ref s.heap.size, .ref a])) := by
    have hc : Steps p.tables e below (s₁.setTop (entryFrame m #[.ref a, .ref b, .int (Int32.ofNat o), .int (Int32.ofNat len), .null] 6)) (T8.setTop (mkF m 45 #[.val (.ref a), .val (.ref b), .val (.int (Int32.ofNat o)), .val (.int (Int32.ofNat len)), .val .null, .val (.ref s.heap.size)] [.int (Int32.ofNat len), .ref s.heap.size, .ref a])) := c9.trans (by
      refine XS.astore X8.here hexec rfl (hb hbytes d39) rfl rfl rfl ?_
      refine XS.aloadN X8.here hexec rfl (hb hbytes d41) rfl rfl ?_
      refine XS.aload X8.here hexec rfl (hb hbytes d42) rfl rfl ?_
      refine XS.iloadN X8.here hexec rfl (hb hbytes d44) rfl ?_
      exact Steps.refl _)
    rw [n4]; exact hc
  obtain ⟨v11, T11, X11, E11, g11⟩ := X8.callS hexec (CodL.law l s.heap.size N) hown (wks W (staticW "java/lang/String" 47 CodL.yN)) (wk W CodL.tab) (W := 1) (Nat.le_of_ble_eq_true rfl) (Nat.le_of_ble_eq_true rfl) (Nat.le_refl _) (by show 0 + len + 0 ≤ len; omega) (g := (mkF m 45 #[.val (.ref a), .val (.ref b), .val (.int (Int32.ofNat o)), .val (.int (Int32.ofNat len)), .val .null, .val (.ref s.heap.size)] [.int (Int32.ofNat N.slots.size), .ref s.heap.size, .ref a])) rfl (by rw [hml]; rfl) c10 (argsL := [.ref s.heap.size, .int (Int32.ofNat N.slots.size)]) (rest := [.ref a]) rfl rfl (by show 2 * 0 + (1 + 0) ≤ _; decide) (hb hbytes d45) (⟨rfl, n1⟩)
  obtain ⟨rfl, q11⟩ := E11
  have hB11 := hB1.mv (X8.warmed.alike.symm.trans X11.warmed.alike) q11
  have c12 : Steps p.tables e below (s₁.setTop (entryFrame m #[.ref a, .ref b, .int (Int32.ofNat o), .int (Int32.ofNat len), .null] 6)) (T11.setTop (mkF m 48 #[.val (.ref a), .val (.ref b), .val (.int (Int32.ofNat o)), .val (.int (Int32.ofNat len)), .val .null, .val (.ref s.heap.size)] [.int 0, .ref a])) := g11
  obtain ⟨T13, X13, p13, bl13, sl13, st13⟩ := X11.finit hexec hown (wk W (.fieldLink "java/lang/String" 15 "java/lang/String" "coder" "B")) (Or.inr ⟨_, (wk W (.laysFinal "java/lang/String" "java/lang/String" "coder" "B"))⟩) (Or.inl ⟨rfl, hnm⟩) f2 (Or.inl rfl) hB11 (t := .byte) (by decide +kernel) rfl (g := (mkF m 48 #[.val (.ref a), .val (.ref b), .val (.int (Int32.ofNat o)), .val (.int (Int32.ofNat len)), .val .null, .val (.ref s.heap.size)] [.int 0, .ref a])) rfl (rest := []) rfl (hb hbytes d48)
  have c14 : Steps p.tables e below (s₁.setTop (entryFrame m #[.ref a, .ref b, .int (Int32.ofNat o), .int (Int32.ofNat len), .null] 6)) (T13.setTop (mkF m 54 #[.val (.ref a), .val (.ref b), .val (.int (Int32.ofNat o)), .val (.int (Int32.ofNat len)), .val .null, .val (.ref s.heap.size)] [.ref s.heap.size, .ref a])) := (c12.trans (st13 _ (Steps.refl _))).trans (by
    refine XS.aloadN X13.here hexec rfl (hb hbytes d51) rfl rfl ?_
    refine XS.aload X13.here hexec rfl (hb hbytes d52) rfl rfl ?_
    exact Steps.refl _)
  obtain ⟨T15, X15, p15, bl15, sl15, st15⟩ := X13.finit hexec hown (wk W (.fieldLink "java/lang/String" 9 "java/lang/String" "value" "[B")) (Or.inr ⟨_, (wk W (.laysFinal "java/lang/String" "java/lang/String" "value" "[B"))⟩) (Or.inl ⟨rfl, hnm⟩) f1 (Or.inl rfl) bl13 (t := (.array .byte)) (by decide +kernel) rfl (g := (mkF m 54 #[.val (.ref a), .val (.ref b), .val (.int (Int32.ofNat o)), .val (.int (Int32.ofNat len)), .val .null, .val (.ref s.heap.size)] [.ref s.heap.size, .ref a])) rfl (rest := []) rfl (hb hbytes d54)
  have c16 : Steps p.tables e below (s₁.setTop (entryFrame m #[.ref a, .ref b, .int (Int32.ofNat o), .int (Int32.ofNat len), .null] 6)) (T15.setTop (mkF m 57 #[.val (.ref a), .val (.ref b), .val (.int (Int32.ofNat o)), .val (.int (Int32.ofNat len)), .val .null, .val (.ref s.heap.size)] [])) := c14.trans (st15 _ (Steps.refl _))
  have ap := apart (Or.inr ⟨_, (wk W (.laysFinal "java/lang/String" "java/lang/String" "value" "[B"))⟩) (Or.inr ⟨_, (wk W (.laysFinal "java/lang/String" "java/lang/String" "coder" "B"))⟩) f1 f2 (t₁ := .array .byte) (t₂ := .byte) (by decide +kernel) (by decide +kernel) (by decide)
  have al := X8.warmed.alike.symm.trans X15.warmed.alike
  have n7 : T11.heap[s.heap.size]? = some N := by rw [q11]; exact n1.1
  exact ⟨T15, none, _, _, _, X15, by simp, rfl, by omega, (fun _ => rfl), ⟨rfl, _, N, bl15, ((Same.refl D _).set _ (by simp)).set _ (by simp), sl15, (Cell.slots_setSlot_ne _ ap).trans sl13, n1.keep al (p15.other hne (p13.other hne n7)), n2, by rw [al.findClass]; exact n3, n4, n5, fun y c h1 h2 => p15.other h1 (p13.other h1 (by rw [q11]; exact n6 y c h2)), by rw [p15.2.2, p13.2.2, q11]; exact z8⟩, fun fs hl => c16.trans (X15.returnOut hexec hret (hb hbytes d57) hl)⟩
end New4
namespace New1
def yN : MethodName := ⟨"java/lang/String", "<init>", "([C)V"⟩
abbrev yB : ByteArray := jdk_42_method_3_code
theorem d0 : decode yB 0 = .ok (.aload_n 0, 1) := by decide +kernel
theorem d1 : decode yB 1 = .ok (.aload_n 1, 1) := by decide +kernel
theorem d2 : decode yB 2 = .ok (.iconst 0, 1) := by decide +kernel
theorem d3 : decode yB 3 = .ok (.aload_n 1, 1) := by decide +kernel
theorem d4 : decode yB 4 = .ok (.arraylength, 1) := by decide +kernel
theorem d5 : decode yB 5 = .ok (.aconst_null, 1) := by decide +kernel
theorem d6 : decode yB 6 = .ok (.invokespecial 27, 3) := by decide +kernel
theorem d9 : decode yB 9 = .ok (.return_, 1) := by decide +kernel
def site : List Cond := [New4.tab] ++ initW "java/lang/String" 27 New4.yN
def tab : Cond := tabOf yN yB 2 none site
def P (a : Addr) (D : Cell) (fV fC : Field) (b : Addr) (A : Cell) (z : Int32) (args : Array Value) (s : State) : Prop := args = #[.ref a, .ref b] ∧ Blank "java/lang/String" a D s ∧ Found "java/lang/String" "value" "[B" fV s ∧ Found "java/lang/String" "coder" "B" fC s ∧ Ch b A s ∧ StaticIs s "java/lang/String" "COMPACT_STRINGS" "Z" (.int z) ∧ ¬ z = 0 ∧ 0 < A.slots.size ∧ A.slots.size ≤ 536870912 ∧ ∀ i, i < A.slots.size → ¬ 255 < cv A i
def E (a : Addr) (D : Cell) (fV fC : Field) (A : Cell) (r : Option Value) (s u : State) : Prop := Got a D fV fC A 0 A.slots.size r s u
/-- new String(chars), not empty, no char above 255: a Latin-1 String of their low bytes -/
theorem law (l : Launch) (a : Addr) (D : Cell) (fV fC : Field) (b : Addr) (A : Cell) (z : Int32) : Law l yN 2 1 3 52 yB 2 none site (P a D fV fC b A z) (E a D fV fC A) [⟨a, fC.slot⟩, ⟨a, fV.slot⟩] 1 A.slots.size := by
  refine Law.of_walk (plainFor_of_name (by decide +kernel)) (by decide +kernel) (by decide +kernel) (by decide) (fun _ _ h => by rw [h.1]; rfl) (fun _ U U' hal hh h => ⟨h.1, h.2.1.mv hal hh, h.2.2.1.al hal, h.2.2.2.1.al hal, h.2.2.2.2.1.mv hal hh, h.2.2.2.2.2.1.there hal hh, h.2.2.2.2.2.2⟩) (fun r U U' V V' h1 hal h2 h => Got.mv r U U' V V' h1 hal h2 h) ?_
  intro p e s m args below meth c s₁ X0 hexec hbytes hml hret hlk hnm hown hh0 W hP
  obtain ⟨rfl, hB, f1, f2, hA, s1, hz, l0, l2, hp⟩ := hP
  have c1 : Steps p.tables e below (s₁.setTop (entryFrame m #[.ref a, .ref b] 2)) (s₁.setTop (mkF m 0 #[.val (.ref a), .val (.ref b)] [])) := entry rfl
  have c2 : Steps p.tables e below (s₁.setTop (entryFrame m #[.ref a, .ref b] 2)) (s₁.setTop (mkF m 6 #[.val (.ref a), .val (.ref b)] [.null, .int (Int32.ofNat A.slots.size), .int 0, .ref b, .ref a])) := c1.trans (by
    refine XS.aloadN X0.here hexec rfl (hb hbytes d0) rfl rfl ?_
    refine XS.aloadN X0.here hexec rfl (hb hbytes d1) rfl rfl ?_
    refine iconstV X0.here hexec rfl 0 (hb hbytes d2) (by decide) ?_
    refine XS.aloadN X0.here hexec rfl (hb hbytes d3) rfl rfl ?_
    refine X0.alen hexec (hA.1.mv X0.warmed.alike hh0) rfl rfl (hb hbytes d4) ?_
    refine XS.aconstNull X0.here hexec rfl (hb hbytes d5) ?_
    exact Steps.refl _)
  obtain ⟨v3, T3, X3, E3, g3⟩ := X0.callN hexec (New4.law l a D fV fC b A z 0 A.slots.size) rfl hown (wks W (initW "java/lang/String" 27 New4.yN)) (W New4.tab (by simp only [site, List.mem_cons, List.mem_append, true_or, or_true])) (W := 0) (Nat.le_of_ble_eq_true rfl) (Nat.le_of_ble_eq_true rfl) (Nat.le_refl _) (by show 0 + A.slots.size ≤ A.slots.size; omega) (g := (mkF m 6 #[.val (.ref a), .val (.ref b)] [.null, .int (Int32.ofNat A.slots.size), .int (Int32.ofNat 0), .ref b, .ref a])) rfl (by rw [hml]; rfl) c2 (argsL := [.ref b, .int (Int32.ofNat 0), .int (Int32.ofNat A.slots.size), .null]) (rest := []) rfl rfl (by show 2 * 0 + 0 ≤ _; decide) (hb hbytes d6) (⟨rfl, hB.mv X0.warmed.alike hh0, f1.al X0.warmed.alike, f2.al X0.warmed.alike, hA.mv X0.warmed.alike hh0, s1.there X0.warmed.alike hh0, hz, l0, by omega, l2, fun i hi => by rw [Nat.zero_add]; exact hp i hi⟩)
  have e0 := Got.mv _ s₁ s _ _ hh0.symm (Vm.Alike.refl _) rfl E3
  obtain rfl := e0.1
  have c4 : Steps p.tables e below (s₁.setTop (entryFrame m #[.ref a, .ref b] 2)) (T3.setTop (mkF m 9 #[.val (.ref a), .val (.ref b)] [])) := g3
  exact ⟨T3, none, _, _, _, X3, by simp, rfl, by omega, (fun _ => rfl), e0, fun fs hl => c4.trans (X3.returnOut hexec hret (hb hbytes d9) hl)⟩
theorem pays {l : Launch} {R : Room} {p : Program} {e : Env} {below : List Frame} {s : State} {sargs : Array Value} {len W : Nat} (a : Addr) (D : Cell) (fV fC : Field) (b : Addr) (A : Cell) (z : Int32) (htab : tab.before sargs s = true) (hfr : 4 ≤ R.frames) (hlo : W + 65 ≤ R.locals) :
    Back l R p e below s sargs yN len W (fun A₁ a₁ => A₁.cells + 1 ≤ R.cells ∧ A₁.slots + A.slots.size ≤ R.slots ∧ P a D fV fC b A z a₁ A₁.U) (fun A₁ _ v₁ B₁ => E a D fV fC A v₁ A₁.U B₁.U ∧ B₁.locs = A₁.locs ++ [⟨a, fC.slot⟩, ⟨a, fV.slot⟩] ∧ B₁.cells = A₁.cells + 1 ∧ B₁.slots = A₁.slots + A.slots.size) :=
  (law l a D fV fC b A z).pays htab hfr (by omega)
end New1
end StrChars
namespace StrChars.Road
open Jvm Sem ClassFile Op Lib Jvm.Stand Jvm.Free Jvm.Free.XT
open Jvm.Lib.Cold (StaticIs)
abbrev ST : String := "java/lang/String"
/-- every table word that New1's law asks, flat -/
abbrev words : List Jvm.Cond := [.code New1.yN New1.yB 2 none, .initialized ST, .methodLink ST 27 New4.yN, .instanceMethod New4.yN,
  .code New4.yN New4.yB 6 none, .fieldLink ST 38 ST "COMPACT_STRINGS" "Z", .laysFinal ST ST "value" "[B", .fieldLink ST 9 ST "value" "[B", .laysFinal ST ST "coder" "B", .fieldLink ST 15 ST "coder" "B",
  .methodLink ST 1 Lib.objectInit, .instanceMethod Lib.objectInit, .code Lib.objectInit ⟨#[0xb1]⟩ 1 none, .methodLink ST 177 Cmp3.yN, .static Cmp3.yN, .methodLink ST 47 CodL.yN, .static CodL.yN,
  .code Cmp3.yN Cmp3.yB 6 (some (.array .byte)), .initialized U16, .arrayClass .byte, .methodLink U16 115 Cmp5.yN, .static Cmp5.yN, .code Cmp5.yN Cmp5.yB 7 (some .int), .code CodL.yN CodL.yB 2 (some .byte)]
theorem tab_of {a : Array Value} {s : State} (h : ∀ w ∈ words, w.before a s = true) : New1.tab.before a s = true := by
  have h5 : Cmp5.tab.before a s = true := unparts (wk h (.code Cmp5.yN Cmp5.yB 7 (some .int))) (wks h (.initialized Cmp5.yN.cls :: Cmp5.site))
  have hc : CodL.tab.before a s = true := unparts (wk h (.code CodL.yN CodL.yB 2 (some .byte))) (wks h (.initialized CodL.yN.cls :: CodL.site))
  have q5 : ∀ w ∈ Cmp5.tab :: words, w.before a s = true := fun w hw => (List.mem_cons.mp hw).elim (fun e => e ▸ h5) (h w)
  have h3 : Cmp3.tab.before a s = true := unparts (wk q5 (.code Cmp3.yN Cmp3.yB 6 (some (.array .byte)))) (wks q5 (.initialized Cmp3.yN.cls :: Cmp3.site))
  have q3 : ∀ w ∈ Cmp3.tab :: CodL.tab :: words, w.before a s = true := fun w hw => (List.mem_cons.mp hw).elim (fun e => e ▸ h3) fun hw => (List.mem_cons.mp hw).elim (fun e => e ▸ hc) (h w)
  have h4 : New4.tab.before a s = true := unparts (wk q3 (.code New4.yN New4.yB 6 none)) (wks q3 (.initialized New4.yN.cls :: New4.site))
  have q4 : ∀ w ∈ New4.tab :: words, w.before a s = true := fun w hw => (List.mem_cons.mp hw).elim (fun e => e ▸ h4) (h w)
  exact unparts (wk q4 (.code New1.yN New1.yB 2 none)) (wks q4 (.initialized New1.yN.cls :: New1.site))
/-- the words ride from the start Z to the walk's own state -/
theorem moved {Z s : State} {a0 args : Array Value} (hZ : Z.Warmed39 s.vm) (hw : ∀ d ∈ words, d.before a0 Z = true) : ∀ d ∈ words, d.before args s = true := fun d hd => by
  have q := hw d hd
  have t : ∀ d ∈ words, d = .arrayClass .byte ∨ (d.onTables && d.keepsFace) = true := by decide +kernel
  rcases t d hd with rfl | t
  · exact RoadKit.mvA hZ q
  · exact RoadKit.mv hZ q t
/-- WHAT COMES BACK, over the tables of the start Z: h the heap at the call, h' behind it -/
def Q (Z : State) (x : Addr) (A : Cell) (h : Heap) (v : Option Value) (h' : Heap) (L : List Loc) : Prop := v = none ∧ (∀ y ∈ L, y.base = x) ∧ RoadKit.Keep h h' [x] ∧ h'.size = h.size + 1 ∧ RoadKit.Exa Z h' x ST ∧ RoadKit.Fld Z h' x ST "value" "[B" (.ref h.size) ∧ RoadKit.Fld Z h' x ST "coder" "B" (.int 0) ∧
  (∃ V : Cell, RoadKit.Arr Z h' h.size V .byte ∧ V.vm = .none ∧ Z.vm.findClass "[B" = some V.cls ∧ V.slots.size = A.slots.size ∧ ∀ j, j < A.slots.size → V.slots[j]? = some (.int (lo8 (cv A j)))) ∧
  ∀ (O n d : String) (w : Value), RoadKit.Fld Z h x O n d w → RoadKit.slotOf Z O n d ≠ RoadKit.slotOf Z ST "value" "[B" → RoadKit.slotOf Z O n d ≠ RoadKit.slotOf Z ST "coder" "B" → RoadKit.Fld Z h' x O n d w
/-- **new String(chars) AT A CALL, IN THE ROAD'S FORM**: for specialBack behind newO: x the fresh String, b the char[] with the cell A -/
theorem back {p : Program} {l : Launch} {e : Env} {R : Room} {s : State} {args : Array Value} {below : List Frame} {len W : Nat} {Z : State} {a0 : Array Value} {h : Heap} (hZ : Z.Warmed39 s.vm) (hw : ∀ d ∈ words, d.before a0 Z = true) {kI : Nat} (wi : (Jvm.Cond.instantiable ST kI).before a0 Z = true)
    {x b : Addr} {A : Cell} {z : Int32} {v0 c0 : Value} (E : RoadKit.Exa Z h x ST) (V : RoadKit.Fld Z h x ST "value" "[B" v0) (C : RoadKit.Fld Z h x ST "coder" "B" c0) (K : RoadKit.Arr Z h b A .char) (hty : Typed .char A) (S : RoadKit.Sta Z h ST "COMPACT_STRINGS" "Z" (.int z)) (hz : ¬ z = 0)
    (l0 : 0 < A.slots.size) (l2 : A.slots.size ≤ 536870912) (hp : ∀ i, i < A.slots.size → ¬ 255 < cv A i) (hfr : 4 ≤ R.frames) (hlo : W + 65 ≤ R.locals) :
    Back l R p e below s args New1.yN len W (fun P a => a = #[.ref x, .ref b] ∧ P.U.heap = h ∧ P.cells + 1 ≤ R.cells ∧ P.slots + A.slots.size ≤ R.slots)
      (fun P _ v B => ∃ L, Q Z x A h v B.U.heap L ∧ B.locs = P.locs ++ L ∧ B.cells = P.cells + 1 ∧ B.slots = P.slots + A.slots.size) := by
  intro m meth c P g ig mk a X hg hsize hdg hW hn hp'
  obtain ⟨rfl, rfl, r1, r2⟩ := hp'
  have al : Z.vm.Alike P.U.vm := hZ.alike.trans X.warmed.alike
  obtain ⟨D, cfV, kV, iV, fV, hD, gV, stV, knV, obV, asV, slV⟩ := id V
  obtain ⟨D', cfC, kC, iC, fC, hD', gC, stC, -, -, asC, slC⟩ := id C
  cases hD.symm.trans hD'
  obtain ⟨D2, kD, e1, e2, e3, e4, e5⟩ := id E
  cases hD.symm.trans e1
  obtain ⟨c2, k2, i1, i2, i3, -⟩ := Cond.instantiable_spec wi
  cases e2.symm.trans i1
  cases e3.symm.trans i2
  obtain ⟨kU, u1, u2⟩ := al.2.2 _ _ e3
  have hB : Blank ST x D P.U := ⟨hD, ⟨knV, fun q hq => by rw [hq] at obV; cases obV⟩, by rw [al.findClass]; exact e2, kU, u1, by rw [u2]; exact i3, by rw [u2]; exact e5 i3⟩
  have F1 : Found ST "value" "[B" fV P.U := ⟨SBG.found_only al ⟨cfV, kV, iV, gV⟩, stV⟩
  have F2 : Found ST "coder" "B" fC P.U := ⟨SBG.found_only al ⟨cfC, kC, iC, gC⟩, stC⟩
  have hA : Ch b A P.U := ⟨⟨K.1, State.isArrayOf_alike al K.2.1, K.2.2, by omega⟩, hty⟩
  have hS : StaticIs P.U ST "COMPACT_STRINGS" "Z" (.int z) := by
    obtain ⟨cfS, iS, kS, fS, st, cS, t1, t2, t3, t4, t5, t6, t7⟩ := S
    exact StaticIs.there (s := { Z with heap := P.U.heap }) ⟨cfS, iS, kS, fS, st, cS, t1, t2, t3, t4, t5, (fun q => by rw [q] at t6; cases t6), t7⟩ al rfl
  obtain ⟨v, B, X', ⟨⟨hv, E', V', q1, q2, q3, q4, q5, q6, q7, q8, q9, q10, q11⟩, hl, hc, hs⟩, st⟩ := New1.pays x D fV fC b A z (tab_of (moved hZ hw)) hfr hlo m meth c P g ig mk _ X hg hsize hdg hW hn ⟨r1, r2, rfl, hB, F1, F2, hA, hS, hz, l0, l2, hp⟩
  have al' : Z.vm.Alike B.U.vm := hZ.alike.trans X'.warmed.alike
  have hsz : E'.slots.size = D.slots.size := by
    obtain ⟨-, -, -, kB, w1, w2, w3⟩ := q1
    obtain ⟨kB', y1, y2⟩ := al'.2.2 _ _ e3
    rw [q2.2.1] at w1
    cases w1.symm.trans y1
    rw [w3, e5 i3, y2]
  refine ⟨v, B, X', ⟨_, ⟨hv, ?_, ⟨by omega, fun y cy hy hn' => q10 y cy (by simpa using hn') hy, fun y cy hy => ?_⟩, q11, ⟨E', _, q1.1, by rw [q2.2.1]; exact e2, by rw [q2.2.1]; exact e3, by rw [q2.1]; exact obV, fun _ => by rw [hsz]; exact e5 i3⟩,
    ⟨E', cfV, kV, iV, fV, q1.1, gV, stV, by rw [q2.1]; exact knV, by rw [q2.1]; exact obV, by rw [q2.2.1]; exact asV, q3⟩, ⟨E', cfC, kC, iC, fC, q1.1, gC, stC, by rw [q2.1]; exact knV, by rw [q2.1]; exact obV, by rw [q2.2.1]; exact asC, q4⟩,
    ⟨V', ⟨q5.1, State.isArrayOf_alike al'.symm q5.2.1, q5.2.2.1⟩, q6, by rw [← al'.findClass]; exact q7, q8, fun j hj => by have := q9 j hj; rwa [Nat.zero_add] at this⟩, fun O n d w F n1 n2 => ?_⟩, hl, hc, hs⟩, st⟩
  · intro y hy
    simp only [List.mem_cons, List.not_mem_nil, or_false] at hy
    rcases hy with rfl | rfl <;> rfl
  · by_cases q : y = x
    · subst q
      cases hD.symm.trans hy
      exact ⟨E', q1.1, q2.2.1, q2.1, hsz⟩
    · exact ⟨cy, q10 y cy q hy, rfl, rfl, rfl⟩
  · obtain ⟨D3, cf, k, i, f, g1, g2, g3, g4, g5, g6, g7⟩ := F
    cases hD.symm.trans g1
    simp only [RoadKit.slotOf, g2, gV, gC, Option.map_some, Option.getD_some] at n1 n2
    exact ⟨E', cf, k, i, f, q1.1, g2, g3, by rw [q2.1]; exact g4, by rw [q2.1]; exact g5, by rw [q2.2.1]; exact g6, by rw [q2.2.2 f.slot (by simp [n1, n2])]; exact g7⟩
end StrChars.Road
namespace StrChars.Road
open Jvm Sem ClassFile Op Lib Jvm.Stand Jvm.Free Jvm.Free.XT
/-- WHAT COMES BACK, the byte[] as a list of values -/
def QA (Z : State) (x : Addr) (zn : Int32) (cs : List Int32) (h : Heap) (v : Option Value) (h' : Heap) (L : List Loc) : Prop := v = none ∧ (∀ y ∈ L, y.base = x) ∧ RoadKit.Keep h h' [x] ∧ h'.size = h.size + 1 ∧ RoadKit.Exa Z h' x ST ∧ RoadKit.Fld Z h' x ST "value" "[B" (.ref h.size) ∧ RoadKit.Fld Z h' x ST "coder" "B" (.int 0) ∧
  (∃ kb, Z.vm.findClass "[B" = some kb ∧ RoadKit.Arv Z h' h.size kb .byte zn (cs.map fun c => .int (lo8 c)) (.int 0)) ∧
  ∀ (O n d : String) (w : Value), RoadKit.Fld Z h x O n d w → RoadKit.slotOf Z O n d ≠ RoadKit.slotOf Z ST "value" "[B" → RoadKit.slotOf Z O n d ≠ RoadKit.slotOf Z ST "coder" "B" → RoadKit.Fld Z h' x O n d w
/-- **new String(chars) AT A CALL, THE ARRAYS AS LISTS**: the char[] at b holds cs, not empty, no char above 255 -/
theorem backArv {p : Program} {l : Launch} {e : Env} {R : Room} {s : State} {args : Array Value} {below : List Frame} {len W : Nat} {Z : State} {a0 : Array Value} {h : Heap} (hZ : Z.Warmed39 s.vm) (hw : ∀ d ∈ words, d.before a0 Z = true) {kI : Nat} (wi : (Jvm.Cond.instantiable ST kI).before a0 Z = true)
    {x b : Addr} {k : ClassId} {zn z : Int32} {cs : List Int32} {dv v0 c0 : Value} (E : RoadKit.Exa Z h x ST) (V : RoadKit.Fld Z h x ST "value" "[B" v0) (C : RoadKit.Fld Z h x ST "coder" "B" c0) (K : RoadKit.Arv Z h b k .char zn (cs.map Value.int) dv) (S : RoadKit.Sta Z h ST "COMPACT_STRINGS" "Z" (.int z)) (hz : ¬ z = 0)
    (hlen : zn.toNatClampNeg = cs.length) (h0 : 0 < cs.length) (hbig : cs.length ≤ 536870912) (hall : ∀ c ∈ cs, ¬ 255 < c) (hfr : 4 ≤ R.frames) (hlo : W + 65 ≤ R.locals) :
    Back l R p e below s args New1.yN len W (fun P a => a = #[.ref x, .ref b] ∧ P.U.heap = h ∧ P.cells + 1 ≤ R.cells ∧ P.slots + cs.length ≤ R.slots)
      (fun P _ v B => ∃ L, QA Z x zn cs h v B.U.heap L ∧ B.locs = P.locs ++ L ∧ B.cells = P.cells + 1 ∧ B.slots = P.slots + cs.length) := by
  obtain ⟨A, K1, K2, K3, K4, K5, K6⟩ := K
  have e : A.slots.size = cs.length := K3.trans hlen
  have hat : ∀ (i : Nat) (hi : i < cs.length), A.slots[i]? = some (.int cs[i]) := fun i hi => by rw [K5 i (by omega)]; simp [List.getD_eq_getElem?_getD, hi]
  have hcv : ∀ (i : Nat) (hi : i < cs.length), cv A i = cs[i] := fun i hi => by unfold cv; rw [hat i hi]
  have hty : Typed .char A := fun i v hv => by
    have hi : i < A.slots.size := (Array.getElem?_eq_some_iff.mp hv).1
    have q := K5 i hi
    rw [hv] at q
    rw [Option.some.inj q]
    exact K6 i hi
  refine Back.mono (back hZ hw wi E V C K1 hty S hz (by omega) (by omega) (fun i hi => by rw [hcv i (by omega)]; exact hall _ (List.getElem_mem _)) hfr hlo) (fun P a hp => ⟨hp.1, hp.2.1, hp.2.2.1, by rw [e]; exact hp.2.2.2⟩) (fun P a v B hp hq => ?_)
  obtain ⟨L, ⟨q1, q2, q3, q4, q5, q6, q7, ⟨V', v1, v2, v3, v4, v5⟩, q9⟩, hl, hc, hs⟩ := hq
  refine ⟨L, ⟨q1, q2, q3, q4, q5, q6, q7, ⟨V'.cls, v3, V', v1, rfl, by rw [v4, e, hlen], K4, fun i hi => ?_, fun i hi => ?_⟩, q9⟩, hl, hc, by rw [hs, e]⟩
  · have hi' : i < cs.length := by omega
    rw [v5 i (by omega), hcv i hi']; simp [List.getD_eq_getElem?_getD, hi']
  · have hi' : i < cs.length := by omega
    simp only [List.getD_eq_getElem?_getD, List.getElem?_map, List.getElem?_eq_getElem hi', Option.map_some, Option.getD_some]
    exact fits_lo8 _
end StrChars.Road
namespace StrChars.Road
open Jvm Sem ClassFile Op Lib Jvm.Stand Jvm.Free Jvm.Free.XT
/-- WHAT COMES BACK, in the writer's own shape -/
def QV (Z : State) (x : Addr) (N : Int32) (bs : List Int32) (h : Heap) (n0 : Nat) (v : Option Value) (h' : Heap) (L : List Loc) : Prop := v = none ∧ RoadKit.Fr n0 L ∧ RoadKit.Keep h h' [x] ∧ RoadKit.Exa Z h' x ST ∧ RoadKit.Fld Z h' x ST "coder" "B" (.int 0) ∧
  ∃ (t : Addr) (kb : ClassId), n0 ≤ t ∧ h.size ≤ t ∧ ¬ t = x ∧ RoadKit.Fld Z h' x ST "value" "[B" (.ref t) ∧ RoadKit.Arv Z h' t kb .byte N (bs.map Value.int) (.int 0)
/-- **new String(chars) AT A CALL, FOR THE WRITER**: a char[] of n known ints, each 0 to 255 -/
theorem backV {p : Program} {l : Launch} {e : Env} {R : Room} {s : State} {args : Array Value} {below : List Frame} {len W : Nat} {Z : State} {a0 : Array Value} {h : Heap} (hZ : Z.Warmed39 s.vm) (hw : ∀ d ∈ words, d.before a0 Z = true) {kI : Nat} (wi : (Jvm.Cond.instantiable ST kI).before a0 Z = true)
    {x b : Addr} {kC : ClassId} {cs bs : List Int32} {d v0 c0 : Value} {z N : Int32} {n n0 : Nat} (hx0 : n0 ≤ x) (hh0 : n0 ≤ h.size) (E : RoadKit.Exa Z h x ST) (V : RoadKit.Fld Z h x ST "value" "[B" v0) (C : RoadKit.Fld Z h x ST "coder" "B" c0) (K : RoadKit.Arv Z h b kC .char N (cs.map Value.int) d) (S : RoadKit.Sta Z h ST "COMPACT_STRINGS" "Z" (.int z)) (hz : ¬ z = 0)
    (hn : cs.length = n) (hN : N = Int32.ofNat n) (l0 : 0 < n) (l2 : n ≤ 4000) (hp : ∀ c ∈ cs, ¬ c < 0 ∧ ¬ (255 : Int32) < c) (hb : bs = cs.map (fun c => c.toInt8.toInt32)) (hfr : 4 ≤ R.frames) (hlo : W + 65 ≤ R.locals) :
    Back l R p e below s args (⟨"java/lang/String", "<init>", "([C)V"⟩ : MethodName) len W (fun P a => a = #[.ref x, .ref b] ∧ P.U.heap = h ∧ P.cells + 1 ≤ R.cells ∧ P.slots + n ≤ R.slots)
      (fun P _ v B => ∃ L, QV Z x N bs h n0 v B.U.heap L ∧ B.locs = P.locs ++ L ∧ B.cells = P.cells + 1 ∧ B.slots = P.slots + n) := by
  subst hn hN hb
  refine Back.mono (backArv hZ hw wi E V C K S hz (n32 (by omega)) l0 (by omega) (fun c hc => (hp c hc).2) hfr hlo) (fun P a hp => hp) (fun P a v B hp hq => ?_)
  obtain ⟨L, ⟨q1, q2, q3, q4, q5, q6, q7, ⟨kb, v1, v2⟩, q9⟩, hl, hc, hs⟩ := hq
  exact ⟨L, ⟨q1, fun y hy => by rw [q2 y hy]; exact hx0, q3, q5, q7, h.size, kb, hh0, Nat.le_refl _, Nat.ne_of_gt E.lt, q6, by rw [List.map_map]; exact v2⟩, hl, hc, hs⟩
end StrChars.Road
end Jvm.Pilot.@@N@@
namespace Jvm.Pilot.@@N@@
open Jvm Jvm.ClassFile Sem Op Lib Jvm.Free Jvm.Stand Jvm.LawKit Jvm.RoadKit Bundle Jvm.Pilot.@@N@@.Jvm.D
theorem ow {Z : State} {a0 : Array Value} (hw : ∀ d ∈ tables_1, d.before a0 Z = true) (i : Nat) {d : Jvm.Cond} (h : tables_1[i]? = some d := by rfl) : d.before a0 Z = true := hw d (List.mem_of_getElem? h)
theorem own_wI {Z : State} {a0 : Array Value} (hw : ∀ d ∈ tables_1, d.before a0 Z = true) : ∀ d ∈ StrChars.Road.words, d.before a0 Z = true := fun d hd => hw d ((by decide +kernel : ∀ d ∈ StrChars.Road.words, d ∈ tables_1) d hd)
def own_pick (k : Int32) (a w v : Addr) : Value := if (k &&& (3 : Int32)) = (0 : Int32) then .ref a else if (k &&& (3 : Int32)) = (1 : Int32) then .ref w else if (k &&& (3 : Int32)) = (2 : Int32) then .ref v else .null
theorem own_pickR (k : Int32) (a w v : Addr) : (own_pick k a w v).isRef = true := by unfold own_pick; split; rfl; split; rfl; split <;> rfl
def own_Tm (Z : State) (h : Heap) (t : Value) : Prop := t = .null ∨ ∃ b, t = .ref b ∧ Ins Z h b "com/example/horn1/horn1/term/Term" true
theorem own_tm {Z : State} {a0 : Array Value} {h : Heap} (hw : ∀ d ∈ tables_1, d.before a0 Z = true) {a w v : Addr} (Ea : Exa Z h a "com/example/horn1/horn1/term/Atom") (Ew : Exa Z h w "com/example/horn1/horn1/term/Var") (Ev : Exa Z h v "com/example/horn1/horn1/term/Var") (k : Int32) : own_Tm Z h (own_pick k a w v) := by
  unfold own_pick
  split
  · exact Or.inr ⟨_, rfl, Ins.of_exa Ea (ow hw 68)⟩
  split
  · exact Or.inr ⟨_, rfl, Ins.of_exa Ew (ow hw 74)⟩
  split
  · exact Or.inr ⟨_, rfl, Ins.of_exa Ev (ow hw 74)⟩
  · exact Or.inl rfl
theorem own_c255 (x : Int32) : ¬ nar .char ((x &&& (255 : Int32)).toUInt32.toUInt16.toUInt32.toInt32) < 0 ∧ ¬ (255 : Int32) < nar .char ((x &&& (255 : Int32)).toUInt32.toUInt16.toUInt32.toInt32) := by
  have h1 := c_mask x 255 8 (by decide) (by decide)
  show ¬ ((x &&& (255 : Int32)).toUInt32.toUInt16.toUInt32.toInt32).toUInt32.toUInt16.toUInt32.toInt32 < 0 ∧ ¬ (255 : Int32) < ((x &&& (255 : Int32)).toUInt32.toUInt16.toUInt32.toInt32).toUInt32.toUInt16.toUInt32.toInt32
  rw [i2c_mask x, i2c_mask x, Int32.lt_iff_toInt_lt, Int32.lt_iff_toInt_lt]
  have e0 : (0 : Int32).toInt = 0 := by decide
  have e1 : (255 : Int32).toInt = 255 := by decide
  omega
theorem own_hp (x y : Int32) : ∀ c ∈ ([nar .char ((x &&& (255 : Int32)).toUInt32.toUInt16.toUInt32.toInt32), nar .char ((y &&& (255 : Int32)).toUInt32.toUInt16.toUInt32.toInt32)] : List Int32), ¬ c < 0 ∧ ¬ (255 : Int32) < c := by
  intro c hc
  simp only [List.mem_cons, List.not_mem_nil, or_false] at hc
  rcases hc with rfl | rfl
  · exact own_c255 x
  · exact own_c255 y
theorem d8_0 : decode prog_124_method_1_code 0 = .ok (.aload_n 0, 1) := by decide +kernel
theorem d8_1 : decode prog_124_method_1_code 1 = .ok (.invokespecial 1, 3) := by decide +kernel
theorem d8_4 : decode prog_124_method_1_code 4 = .ok (.return_, 1) := by decide +kernel
theorem pn_0 : plainName "com/example/horn1/horn1/term/Term" = true := by first | (simp [plainName, overriddenIn]; done) | decide +kernel
theorem ef_rm8 (m : MethodId) (x0 : Addr) : entryFrame m #[(.ref x0)] 1 = mkF m 0 #[.val (.ref x0)] [] := by first | (simp [entryFrame, mkF, argsToLocals, Value.category]; done) | rfl
def Qrm8 (Z : State) (b : Addr) (h0 : Heap) (n0 : Nat) (v : Option Value) (h : Heap) (L : List Loc) : Prop := v = none ∧ Fr n0 L ∧ h = h0
set_option maxRecDepth 65536 in
set_option maxHeartbeats 40000000 in
theorem rm8 (l : Launch) (Z : State) (a0 : Array Value) (hw : ∀ d ∈ tables_1, d.before a0 Z = true) (ws : List Jvm.Cond) (b : Addr) (h0 : Heap) (n0 : Nat) :
    MetFree l (⟨"com/example/horn1/horn1/term/Term", "<init>", "()V"⟩ : MethodName) (head1 (Jvm.Cond.code (⟨"com/example/horn1/horn1/term/Term", "<init>", "()V"⟩ : MethodName) prog_124_method_1_code 1 none :: ws) ({ frames := 1, cells := 0, slots := 0, locals := 12 } : Room)) (fun a' U' => a' = #[(.ref b)] ∧ Z.Warmed39 U'.vm ∧ U'.heap = h0) (fun _ _ _ _ _ => True) (fun _ U' o' W' => ∃ v' L', o' = .returned v' ∧ Qrm8 Z b h0 n0 v' W'.heap L' ∧ FrameEnd U' o' W' L' ({ frames := 1, cells := 0, slots := 0, locals := 12 } : Room).cells ({ frames := 1, cells := 0, slots := 0, locals := 12 } : Room).slots) := by
  refine MetFree.of_bodySF (plainFor_of_name pn_0) hisR ?_
  intro p e s m args below meth c s₁ Bd hml0 hP hK
  obtain ⟨rfl, hZ, hh⟩ := hP
  have hx := Bd.exec
  have hby := Bd.bytes
  have hml : c.maxLocals = 1 := hml0
  have hown : s.vm.findClass "com/example/horn1/horn1/term/Term" = some m.cls := findClass_of_methodNamed Bd.named
  have hnm := (name_of_methodNamed Bd.named Bd.method).1
  have X0 : Stand p l e ({ frames := 1, cells := 0, slots := 0, locals := 12 } : Room) s m #[(.ref b)] below meth c s₁ [] 0 0 := Stand.of_body Bd
  have e0 : s₁.heap = h0 := by rw [← hh, Bd.state]; rfl
  have N0 := Fr.nil n0
  refine own_start (ef_rm8 m b) (Q := fun o' t' => ∃ v' L', o' = .returned v' ∧ Qrm8 Z b h0 n0 v' t'.heap L' ∧ FrameEnd s o' t' L' ({ frames := 1, cells := 0, slots := 0, locals := 12 } : Room).cells ({ frames := 1, cells := 0, slots := 0, locals := 12 } : Room).slots) ?_
  show own_Fin p e below (s₁.setTop (mkF m 0 #[.val (.ref b)] [])) _
  refine own_go (fun _ k => XS.aloadN X0.here hx rfl (hb hby d8_0) rfl rfl k) ?_
  show own_Fin p e below (s₁.setTop (mkF m 1 #[.val (.ref b)] [(.ref b)])) _
  obtain ⟨T1, X1, e1, st1⟩ := initO X0 hx hZ hown (ow hw 41) (ow hw 15) (ow hw 16) e0 (g := (mkF m 1 #[.val (.ref b)] [(.ref b)])) rfl (by rw [hml]; rfl) rfl (hb hby d8_1) (by decide) (W := 0) (by show 2 * 0 + _ ≤ _; exact Nat.le_of_eq rfl) (by decide)
  refine own_go (fun _ k => st1 _ k) ?_
  show own_Fin p e below (T1.setTop (mkF m 4 #[.val (.ref b)] [])) _
  obtain ⟨fs, hr, hrun, hended, hW, hsame⟩ := X1.leave (v := none) (fun _ => rfl)
  refine ⟨_, _, ?_, hrun, hended, _, _, rfl, ?_, ⟨_, rfl⟩, hW, hsame.mono (by decide) (by decide)⟩
  ·exact X1.returnOut hx Bd.returns (hb hby d8_4) hr
  ·show Qrm8 Z b h0 n0 _ T1.heap _
   rw [e1]
   exact ⟨rfl, N0, rfl⟩
theorem d7_0 : decode prog_119_method_1_code 0 = .ok (.aload_n 0, 1) := by decide +kernel
theorem d7_1 : decode prog_119_method_1_code 1 = .ok (.invokespecial 1, 3) := by decide +kernel
theorem pd_0 : parseMethodDescriptor "()V" = some ⟨[], none⟩ := by decide +kernel
theorem d7_4 : decode prog_119_method_1_code 4 = .ok (.aload_n 0, 1) := by decide +kernel
theorem d7_5 : decode prog_119_method_1_code 5 = .ok (.aload_n 1, 1) := by decide +kernel
theorem d7_6 : decode prog_119_method_1_code 6 = .ok (.putfield 7, 3) := by decide +kernel
theorem d7_9 : decode prog_119_method_1_code 9 = .ok (.return_, 1) := by decide +kernel
theorem pn_1 : plainName "com/example/horn1/horn1/term/Atom" = true := by first | (simp [plainName, overriddenIn]; done) | decide +kernel
theorem ef_rm7 (m : MethodId) (x0 : Addr) (x1 : Addr) : entryFrame m #[(.ref x0), (.ref x1)] 2 = mkF m 0 #[.val (.ref x0), .val (.ref x1)] [] := by first | (simp [entryFrame, mkF, argsToLocals, Value.category]; done) | rfl
def Qrm7 (Z : State) (b : Addr) (s_ : Addr) (h0 : Heap) (n0 : Nat) (v : Option Value) (h : Heap) (L : List Loc) : Prop := v = none ∧ Fr n0 L ∧ Keep h0 h [b] ∧ Exa Z h b "com/example/horn1/horn1/term/Atom"
set_option maxRecDepth 65536 in
set_option maxHeartbeats 40000000 in
theorem rm7 (l : Launch) (Z : State) (a0 : Array Value) (hw : ∀ d ∈ tables_1, d.before a0 Z = true) (ws : List Jvm.Cond) (b : Addr) (s_ : Addr) (h0 : Heap) (n0 : Nat) (O : Old Z n0 h0) (E_b : Exa Z h0 b "com/example/horn1/horn1/term/Atom") (F_b_Atom_name : Fld Z h0 b "com/example/horn1/horn1/term/Atom" "name" "Ljava/lang/String;" .null) (g_b : n0 ≤ b) :
    MetFree l (⟨"com/example/horn1/horn1/term/Atom", "<init>", "(Ljava/lang/String;)V"⟩ : MethodName) (head1 (Jvm.Cond.code (⟨"com/example/horn1/horn1/term/Atom", "<init>", "(Ljava/lang/String;)V"⟩ : MethodName) prog_119_method_1_code 2 none :: ws) ({ frames := 2, cells := 0, slots := 0, locals := 24 } : Room)) (fun a' U' => a' = #[(.ref b), (.ref s_)] ∧ Z.Warmed39 U'.vm ∧ U'.heap = h0) (fun _ _ _ _ _ => True) (fun _ U' o' W' => ∃ v' L', o' = .returned v' ∧ Qrm7 Z b s_ h0 n0 v' W'.heap L' ∧ FrameEnd U' o' W' L' ({ frames := 2, cells := 0, slots := 0, locals := 24 } : Room).cells ({ frames := 2, cells := 0, slots := 0, locals := 24 } : Room).slots) := by
  refine MetFree.of_bodySF (plainFor_of_name pn_1) hisR ?_
  intro p e s m args below meth c s₁ Bd hml0 hP hK
  obtain ⟨rfl, hZ, hh⟩ := hP
  have hx := Bd.exec
  have hby := Bd.bytes
  have hml : c.maxLocals = 2 := hml0
  have hown : s.vm.findClass "com/example/horn1/horn1/term/Atom" = some m.cls := findClass_of_methodNamed Bd.named
  have hnm := (name_of_methodNamed Bd.named Bd.method).1
  have X0 : Stand p l e ({ frames := 2, cells := 0, slots := 0, locals := 24 } : Room) s m #[(.ref b), (.ref s_)] below meth c s₁ [] 0 0 := Stand.of_body Bd
  have e0 : s₁.heap = h0 := by rw [← hh, Bd.state]; rfl
  have N0 := Fr.nil n0
  have K0 := Keep.refl h0 [b]
  refine own_start (ef_rm7 m b s_) (Q := fun o' t' => ∃ v' L', o' = .returned v' ∧ Qrm7 Z b s_ h0 n0 v' t'.heap L' ∧ FrameEnd s o' t' L' ({ frames := 2, cells := 0, slots := 0, locals := 24 } : Room).cells ({ frames := 2, cells := 0, slots := 0, locals := 24 } : Room).slots) ?_
  show own_Fin p e below (s₁.setTop (mkF m 0 #[.val (.ref b), .val (.ref s_)] [])) _
  refine own_go (fun _ k => XS.aloadN X0.here hx rfl (hb hby d7_0) rfl rfl k) ?_
  show own_Fin p e below (s₁.setTop (mkF m 1 #[.val (.ref b), .val (.ref s_)] [(.ref b)])) _
  obtain ⟨_, _, ⟨T3, L3, k3, n3⟩, -, X3, ⟨Lc3, hQ3, l3, y3, z3⟩, st3⟩ := X0.specialBack hx (y := (⟨"com/example/horn1/horn1/term/Term", "<init>", "()V"⟩ : MethodName)) rfl hown (mvT hZ (ow hw 36)) (mvT hZ (ow hw 37)) (mvT hZ (ow hw 40)) (by decide) (backOf (W := 0) (rm8 l Z a0 hw [] b h0 n0 ) hZ (ow hw 40) (ow hw 39) (by decide) (by decide)) (g := (mkF m 1 #[.val (.ref b), .val (.ref s_)] [(.ref b)])) rfl (by rw [hml]; rfl) (Steps.refl _) (a := b) (argsL := []) (rest := []) (lenOf pd_0 rfl) rfl (by show 2 * 0 + _ ≤ _; exact Nat.le_of_eq rfl) (hb hby d7_1) (fun _ _ => ⟨rfl, e0, (by decide : 0 + 0 ≤ _), (by decide : 0 + 0 ≤ _)⟩)
  dsimp only [Pt.U, Pt.locs, Pt.cells, Pt.slots] at X3 l3 y3 z3 st3 hQ3
  subst l3 y3 z3
  obtain ⟨rfl, N3q, e3⟩ := hQ3
  refine own_go (fun _ k => st3.trans k) ?_
  have N3 := Fr.app N0 N3q
  show own_Fin p e below (T3.setTop (mkF m 4 #[.val (.ref b), .val (.ref s_)] [])) _
  refine own_go (fun _ k => XS.aloadN X3.here hx rfl (hb hby d7_4) rfl rfl (XS.aloadN X3.here hx rfl (hb hby d7_5) rfl rfl k)) ?_
  show own_Fin p e below (T3.setTop (mkF m 6 #[.val (.ref b), .val (.ref s_)] [(.ref s_), (.ref b)])) _
  obtain ⟨T4, h4, X4, e4, W4, st4⟩ := putF X3 hx hZ hown (host := "") (Or.inl (ow hw 42)) Via.refl e3 F_b_Atom_name E_b (Or.inr ⟨(ow hw 43), rfl, hnm⟩) (ow hw 2) (ty := (.object "java/lang/String")) (by decide) rfl rfl (g := (mkF m 6 #[.val (.ref b), .val (.ref s_)] [(.ref s_), (.ref b)])) rfl rfl (hb hby d7_6)
  refine own_go (fun _ k => st4 _ k) ?_
  have E_b := E_b.wr W4
  have O := O.wr W4 g_b
  have K5 := K0.wr W4 (Or.inl (List.mem_of_getElem? (i := 0) rfl))
  have F_b_Atom_name := F_b_Atom_name.same W4
  have N4 := Fr.snoc X4 N3 g_b
  show own_Fin p e below (T4.setTop (mkF m 9 #[.val (.ref b), .val (.ref s_)] [])) _
  obtain ⟨fs, hr, hrun, hended, hW, hsame⟩ := X4.leave (v := none) (fun _ => rfl)
  refine ⟨_, _, ?_, hrun, hended, _, _, rfl, ?_, ⟨_, rfl⟩, hW, hsame.mono (by decide) (by decide)⟩
  ·exact X4.returnOut hx Bd.returns (hb hby d7_9) hr
  ·show Qrm7 Z b s_ h0 n0 _ T4.heap _
   rw [e4]
   exact ⟨rfl, N4, K5, E_b⟩
theorem d9_0 : decode prog_125_method_1_code 0 = .ok (.aload_n 0, 1) := by decide +kernel
theorem d9_1 : decode prog_125_method_1_code 1 = .ok (.invokespecial 1, 3) := by decide +kernel
theorem d9_4 : decode prog_125_method_1_code 4 = .ok (.return_, 1) := by decide +kernel
theorem pn_2 : plainName "com/example/horn1/horn1/term/Var" = true := by first | (simp [plainName, overriddenIn]; done) | decide +kernel
theorem ef_rm9 (m : MethodId) (x0 : Addr) : entryFrame m #[(.ref x0)] 1 = mkF m 0 #[.val (.ref x0)] [] := by first | (simp [entryFrame, mkF, argsToLocals, Value.category]; done) | rfl
def Qrm9 (Z : State) (b : Addr) (h0 : Heap) (n0 : Nat) (v : Option Value) (h : Heap) (L : List Loc) : Prop := v = none ∧ Fr n0 L ∧ h = h0
set_option maxRecDepth 65536 in
set_option maxHeartbeats 40000000 in
theorem rm9 (l : Launch) (Z : State) (a0 : Array Value) (hw : ∀ d ∈ tables_1, d.before a0 Z = true) (ws : List Jvm.Cond) (b : Addr) (h0 : Heap) (n0 : Nat) :
    MetFree l (⟨"com/example/horn1/horn1/term/Var", "<init>", "()V"⟩ : MethodName) (head1 (Jvm.Cond.code (⟨"com/example/horn1/horn1/term/Var", "<init>", "()V"⟩ : MethodName) prog_125_method_1_code 1 none :: ws) ({ frames := 2, cells := 0, slots := 0, locals := 24 } : Room)) (fun a' U' => a' = #[(.ref b)] ∧ Z.Warmed39 U'.vm ∧ U'.heap = h0) (fun _ _ _ _ _ => True) (fun _ U' o' W' => ∃ v' L', o' = .returned v' ∧ Qrm9 Z b h0 n0 v' W'.heap L' ∧ FrameEnd U' o' W' L' ({ frames := 2, cells := 0, slots := 0, locals := 24 } : Room).cells ({ frames := 2, cells := 0, slots := 0, locals := 24 } : Room).slots) := by
  refine MetFree.of_bodySF (plainFor_of_name pn_2) hisR ?_
  intro p e s m args below meth c s₁ Bd hml0 hP hK
  obtain ⟨rfl, hZ, hh⟩ := hP
  have hx := Bd.exec
  have hby := Bd.bytes
  have hml : c.maxLocals = 1 := hml0
  have hown : s.vm.findClass "com/example/horn1/horn1/term/Var" = some m.cls := findClass_of_methodNamed Bd.named
  have hnm := (name_of_methodNamed Bd.named Bd.method).1
  have X0 : Stand p l e ({ frames := 2, cells := 0, slots := 0, locals := 24 } : Room) s m #[(.ref b)] below meth c s₁ [] 0 0 := Stand.of_body Bd
  have e0 : s₁.heap = h0 := by rw [← hh, Bd.state]; rfl
  have N0 := Fr.nil n0
  refine own_start (ef_rm9 m b) (Q := fun o' t' => ∃ v' L', o' = .returned v' ∧ Qrm9 Z b h0 n0 v' t'.heap L' ∧ FrameEnd s o' t' L' ({ frames := 2, cells := 0, slots := 0, locals := 24 } : Room).cells ({ frames := 2, cells := 0, slots := 0, locals := 24 } : Room).slots) ?_
  show own_Fin p e below (s₁.setTop (mkF m 0 #[.val (.ref b)] [])) _
  refine own_go (fun _ k => XS.aloadN X0.here hx rfl (hb hby d9_0) rfl rfl k) ?_
  show own_Fin p e below (s₁.setTop (mkF m 1 #[.val (.ref b)] [(.ref b)])) _
  obtain ⟨_, _, ⟨T7, L7, k7, n7⟩, -, X7, ⟨Lc7, hQ7, l7, y7, z7⟩, st7⟩ := X0.specialBack hx (y := (⟨"com/example/horn1/horn1/term/Term", "<init>", "()V"⟩ : MethodName)) rfl hown (mvT hZ (ow hw 50)) (mvT hZ (ow hw 37)) (mvT hZ (ow hw 40)) (by decide) (backOf (W := 0) (rm8 l Z a0 hw [] b h0 n0 ) hZ (ow hw 40) (ow hw 39) (by decide) (by decide)) (g := (mkF m 1 #[.val (.ref b)] [(.ref b)])) rfl (by rw [hml]; rfl) (Steps.refl _) (a := b) (argsL := []) (rest := []) (lenOf pd_0 rfl) rfl (by show 2 * 0 + _ ≤ _; exact Nat.le_of_eq rfl) (hb hby d9_1) (fun _ _ => ⟨rfl, e0, (by decide : 0 + 0 ≤ _), (by decide : 0 + 0 ≤ _)⟩)
  dsimp only [Pt.U, Pt.locs, Pt.cells, Pt.slots] at X7 l7 y7 z7 st7 hQ7
  subst l7 y7 z7
  obtain ⟨rfl, N7q, e7⟩ := hQ7
  refine own_go (fun _ k => st7.trans k) ?_
  have N7 := Fr.app N0 N7q
  show own_Fin p e below (T7.setTop (mkF m 4 #[.val (.ref b)] [])) _
  obtain ⟨fs, hr, hrun, hended, hW, hsame⟩ := X7.leave (v := none) (fun _ => rfl)
  refine ⟨_, _, ?_, hrun, hended, _, _, rfl, ?_, ⟨_, rfl⟩, hW, hsame.mono (by decide) (by decide)⟩
  ·exact X7.returnOut hx Bd.returns (hb hby d9_4) hr
  ·show Qrm9 Z b h0 n0 _ T7.heap _
   rw [e7]
   exact ⟨rfl, N7, rfl⟩
theorem d10_0 : decode method_2_code 0 = .ok (.iload_n 0, 1) := by decide +kernel
theorem d10_1 : decode method_2_code 1 = .ok (.iconst 3, 1) := by decide +kernel
theorem d10_2 : decode method_2_code 2 = .ok (.iand, 1) := by decide +kernel
theorem d10_3 : decode method_2_code 3 = .ok (.istore 4, 2) := by decide +kernel
theorem d10_5 : decode method_2_code 5 = .ok (.iload 4, 2) := by decide +kernel
theorem d10_7 : decode method_2_code 7 = .ok (.ifCond .ne 5, 3) := by decide +kernel
theorem d10_10 : decode method_2_code 10 = .ok (.aload_n 1, 1) := by decide +kernel
theorem d10_11 : decode method_2_code 11 = .ok (.areturn, 1) := by decide +kernel
theorem d10_12 : decode method_2_code 12 = .ok (.iload 4, 2) := by decide +kernel
theorem d10_14 : decode method_2_code 14 = .ok (.iconst 1, 1) := by decide +kernel
theorem d10_15 : decode method_2_code 15 = .ok (.if_icmp .ne 5, 3) := by decide +kernel
theorem d10_18 : decode method_2_code 18 = .ok (.aload_n 2, 1) := by decide +kernel
theorem d10_19 : decode method_2_code 19 = .ok (.areturn, 1) := by decide +kernel
theorem d10_20 : decode method_2_code 20 = .ok (.iload 4, 2) := by decide +kernel
theorem d10_22 : decode method_2_code 22 = .ok (.iconst 2, 1) := by decide +kernel
theorem d10_23 : decode method_2_code 23 = .ok (.if_icmp .ne 5, 3) := by decide +kernel
theorem d10_26 : decode method_2_code 26 = .ok (.aload_n 3, 1) := by decide +kernel
theorem d10_27 : decode method_2_code 27 = .ok (.areturn, 1) := by decide +kernel
theorem d10_28 : decode method_2_code 28 = .ok (.aconst_null, 1) := by decide +kernel
theorem d10_29 : decode method_2_code 29 = .ok (.areturn, 1) := by decide +kernel
theorem pn_3 : plainName "com/example/horn1/horn1/term/VarValuePinLaw" = true := by first | (simp [plainName, overriddenIn]; done) | decide +kernel
theorem ef_rm10 (m : MethodId) (x0 : Int32) (x1 : Addr) (x2 : Addr) (x3 : Addr) : entryFrame m #[(.int x0), (.ref x1), (.ref x2), (.ref x3)] 5 = mkF m 0 #[.val (.int x0), .val (.ref x1), .val (.ref x2), .val (.ref x3), .unset] [] := by first | (simp [entryFrame, mkF, argsToLocals, Value.category]; done) | rfl
def Qrm10 (Z : State) (k_ : Int32) (a : Addr) (w : Addr) (v_ : Addr) (h0 : Heap) (n0 : Nat) (v : Option Value) (h : Heap) (L : List Loc) : Prop := v = some (own_pick k_ a w v_) ∧ Fr n0 L ∧ h = h0
set_option maxRecDepth 65536 in
set_option maxHeartbeats 40000000 in
theorem rm10 (l : Launch) (Z : State) (a0 : Array Value) (hw : ∀ d ∈ tables_1, d.before a0 Z = true) (ws : List Jvm.Cond) (k_ : Int32) (a : Addr) (w : Addr) (v_ : Addr) (h0 : Heap) (n0 : Nat) :
    MetFree l (⟨"com/example/horn1/horn1/term/VarValuePinLaw", "pick", "(ILcom/example/horn1/horn1/term/Atom;Lcom/example/horn1/horn1/term/Var;Lcom/example/horn1/horn1/term/Var;)Lcom/example/horn1/horn1/term/Term;"⟩ : MethodName) (head1 (Jvm.Cond.code (⟨"com/example/horn1/horn1/term/VarValuePinLaw", "pick", "(ILcom/example/horn1/horn1/term/Atom;Lcom/example/horn1/horn1/term/Var;Lcom/example/horn1/horn1/term/Var;)Lcom/example/horn1/horn1/term/Term;"⟩ : MethodName) method_2_code 5 (some (.object "com/example/horn1/horn1/term/Term")) :: ws) ({ frames := 0, cells := 0, slots := 0, locals := 0 } : Room)) (fun a' U' => a' = #[(.int k_), (.ref a), (.ref w), (.ref v_)] ∧ Z.Warmed39 U'.vm ∧ U'.heap = h0) (fun _ _ _ _ _ => True) (fun _ U' o' W' => ∃ v' L', o' = .returned v' ∧ Qrm10 Z k_ a w v_ h0 n0 v' W'.heap L' ∧ FrameEnd U' o' W' L' ({ frames := 0, cells := 0, slots := 0, locals := 0 } : Room).cells ({ frames := 0, cells := 0, slots := 0, locals := 0 } : Room).slots) := by
  refine MetFree.of_bodySF (plainFor_of_name pn_3) hisR ?_
  intro p e s m args below meth c s₁ Bd hml0 hP hK
  obtain ⟨rfl, hZ, hh⟩ := hP
  have hx := Bd.exec
  have hby := Bd.bytes
  have hml : c.maxLocals = 5 := hml0
  have hown : s.vm.findClass "com/example/horn1/horn1/term/VarValuePinLaw" = some m.cls := findClass_of_methodNamed Bd.named
  have hnm := (name_of_methodNamed Bd.named Bd.method).1
  have X0 : Stand p l e ({ frames := 0, cells := 0, slots := 0, locals := 0 } : Room) s m #[(.int k_), (.ref a), (.ref w), (.ref v_)] below meth c s₁ [] 0 0 := Stand.of_body Bd
  have e0 : s₁.heap = h0 := by rw [← hh, Bd.state]; rfl
  have N0 := Fr.nil n0
  refine own_start (ef_rm10 m k_ a w v_) (Q := fun o' t' => ∃ v' L', o' = .returned v' ∧ Qrm10 Z k_ a w v_ h0 n0 v' t'.heap L' ∧ FrameEnd s o' t' L' ({ frames := 0, cells := 0, slots := 0, locals := 0 } : Room).cells ({ frames := 0, cells := 0, slots := 0, locals := 0 } : Room).slots) ?_
  show own_Fin p e below (s₁.setTop (mkF m 0 #[.val (.int k_), .val (.ref a), .val (.ref w), .val (.ref v_), .unset] [])) _
  refine own_go (fun _ k => XS.iloadN X0.here hx rfl (hb hby d10_0) rfl (XS.iconst X0.here hx rfl (hb hby d10_1) (XS.iand X0.here hx rfl (hb hby d10_2) rfl (XS.istore X0.here hx rfl (hb hby d10_3) rfl (l' := #[.val (.int k_), .val (.ref a), .val (.ref w), .val (.ref v_), .val (.int (k_ &&& (3 : Int32)))]) rfl (XS.iload X0.here hx rfl (hb hby d10_5) rfl k))))) ?_
  show own_Fin p e below (s₁.setTop (mkF m 7 #[.val (.int k_), .val (.ref a), .val (.ref w), .val (.ref v_), .val (.int (k_ &&& (3 : Int32)))] [(.int (k_ &&& (3 : Int32)))])) _
  by_cases hc7_9 : (k_ &&& (3 : Int32)) = (0 : Int32)
  ·refine own_go (fun _ k => XS.ifNo X0.here hx rfl (hb hby d10_7) rfl ((if0 _ _).trans (teq hc7_9).2) (XS.aloadN X0.here hx rfl (hb hby d10_10) rfl rfl k)) ?_
   show own_Fin p e below (s₁.setTop (mkF m 11 #[.val (.int k_), .val (.ref a), .val (.ref w), .val (.ref v_), .val (.int (k_ &&& (3 : Int32)))] [(.ref a)])) _
   obtain ⟨fs, hr, hrun, hended, hW, hsame⟩ := X0.leave (v := some (.ref a)) (fun h => by rw [Bd.returns] at h; cases h)
   refine ⟨_, _, ?_, hrun, hended, _, _, rfl, ?_, ⟨_, rfl⟩, hW, hsame.mono (by decide) (by decide)⟩
   ·exact X0.areturnOut hx rfl Bd.returns rfl (hb hby d10_11) hr
   ·show Qrm10 Z k_ a w v_ h0 n0 _ s₁.heap _
    rw [e0]
    exact ⟨(by simp [own_pick, *]), N0, rfl⟩
  ·refine own_go (fun _ k => XS.ifYes X0.here hx rfl (pc0 := 7) (pc' := 12) rfl (hb hby d10_7) rfl ((if0 _ _).trans (feq hc7_9).2) (by decide) (by decide) (XS.iload X0.here hx rfl (hb hby d10_12) rfl (XS.iconst X0.here hx rfl (hb hby d10_14) k))) ?_
   show own_Fin p e below (s₁.setTop (mkF m 15 #[.val (.int k_), .val (.ref a), .val (.ref w), .val (.ref v_), .val (.int (k_ &&& (3 : Int32)))] [(.int 1), (.int (k_ &&& (3 : Int32)))])) _
   by_cases hc15_11 : (k_ &&& (3 : Int32)) = (1 : Int32)
   ·refine own_go (fun _ k => XS.icmpNo X0.here hx rfl (hb hby d10_15) rfl (teq hc15_11).2 (XS.aloadN X0.here hx rfl (hb hby d10_18) rfl rfl k)) ?_
    show own_Fin p e below (s₁.setTop (mkF m 19 #[.val (.int k_), .val (.ref a), .val (.ref w), .val (.ref v_), .val (.int (k_ &&& (3 : Int32)))] [(.ref w)])) _
    obtain ⟨fs, hr, hrun, hended, hW, hsame⟩ := X0.leave (v := some (.ref w)) (fun h => by rw [Bd.returns] at h; cases h)
    refine ⟨_, _, ?_, hrun, hended, _, _, rfl, ?_, ⟨_, rfl⟩, hW, hsame.mono (by decide) (by decide)⟩
    ·exact X0.areturnOut hx rfl Bd.returns rfl (hb hby d10_19) hr
    ·show Qrm10 Z k_ a w v_ h0 n0 _ s₁.heap _
     rw [e0]
     exact ⟨(by simp [own_pick, *]), N0, rfl⟩
   ·refine own_go (fun _ k => XS.icmpYes X0.here hx rfl (pc0 := 15) (pc' := 20) rfl (hb hby d10_15) rfl (feq hc15_11).2 (by decide) (by decide) (XS.iload X0.here hx rfl (hb hby d10_20) rfl (XS.iconst X0.here hx rfl (hb hby d10_22) k))) ?_
    show own_Fin p e below (s₁.setTop (mkF m 23 #[.val (.int k_), .val (.ref a), .val (.ref w), .val (.ref v_), .val (.int (k_ &&& (3 : Int32)))] [(.int 2), (.int (k_ &&& (3 : Int32)))])) _
    by_cases hc23_13 : (k_ &&& (3 : Int32)) = (2 : Int32)
    ·refine own_go (fun _ k => XS.icmpNo X0.here hx rfl (hb hby d10_23) rfl (teq hc23_13).2 (XS.aloadN X0.here hx rfl (hb hby d10_26) rfl rfl k)) ?_
     show own_Fin p e below (s₁.setTop (mkF m 27 #[.val (.int k_), .val (.ref a), .val (.ref w), .val (.ref v_), .val (.int (k_ &&& (3 : Int32)))] [(.ref v_)])) _
     obtain ⟨fs, hr, hrun, hended, hW, hsame⟩ := X0.leave (v := some (.ref v_)) (fun h => by rw [Bd.returns] at h; cases h)
     refine ⟨_, _, ?_, hrun, hended, _, _, rfl, ?_, ⟨_, rfl⟩, hW, hsame.mono (by decide) (by decide)⟩
     ·exact X0.areturnOut hx rfl Bd.returns rfl (hb hby d10_27) hr
     ·show Qrm10 Z k_ a w v_ h0 n0 _ s₁.heap _
      rw [e0]
      exact ⟨(by simp [own_pick, *]), N0, rfl⟩
    ·refine own_go (fun _ k => XS.icmpYes X0.here hx rfl (pc0 := 23) (pc' := 28) rfl (hb hby d10_23) rfl (feq hc23_13).2 (by decide) (by decide) (XS.aconstNull X0.here hx rfl (hb hby d10_28) k)) ?_
     show own_Fin p e below (s₁.setTop (mkF m 29 #[.val (.int k_), .val (.ref a), .val (.ref w), .val (.ref v_), .val (.int (k_ &&& (3 : Int32)))] [.null])) _
     obtain ⟨fs, hr, hrun, hended, hW, hsame⟩ := X0.leave (v := some .null) (fun h => by rw [Bd.returns] at h; cases h)
     refine ⟨_, _, ?_, hrun, hended, _, _, rfl, ?_, ⟨_, rfl⟩, hW, hsame.mono (by decide) (by decide)⟩
     ·exact X0.areturnOut hx rfl Bd.returns rfl (hb hby d10_29) hr
     ·show Qrm10 Z k_ a w v_ h0 n0 _ s₁.heap _
      rw [e0]
      exact ⟨(by simp [own_pick, *]), N0, rfl⟩
theorem d11_0 : decode prog_125_method_4_code 0 = .ok (.aload_n 0, 1) := by decide +kernel
theorem d11_1 : decode prog_125_method_4_code 1 = .ok (.getfield 7, 3) := by decide +kernel
theorem d11_4 : decode prog_125_method_4_code 4 = .ok (.astore_n 2, 1) := by decide +kernel
theorem d11_5 : decode prog_125_method_4_code 5 = .ok (.aload_n 2, 1) := by decide +kernel
theorem d11_6 : decode prog_125_method_4_code 6 = .ok (.instanceof 2, 3) := by decide +kernel
theorem d11_9 : decode prog_125_method_4_code 9 = .ok (.ifCond .eq 12, 3) := by decide +kernel
theorem d11_21 : decode prog_125_method_4_code 21 = .ok (.aconst_null, 1) := by decide +kernel
theorem d11_22 : decode prog_125_method_4_code 22 = .ok (.areturn, 1) := by decide +kernel
theorem ef_rmVN (m : MethodId) (x0 : Addr) : entryFrame m #[(.ref x0)] 3 = mkF m 0 #[.val (.ref x0), .unset, .unset] [] := by first | (simp [entryFrame, mkF, argsToLocals, Value.category]; done) | rfl
def QrmVN (Z : State) (a : Addr) (h0 : Heap) (n0 : Nat) (v : Option Value) (h : Heap) (L : List Loc) : Prop := v = some .null ∧ Fr n0 L ∧ h = h0
set_option maxRecDepth 65536 in
set_option maxHeartbeats 40000000 in
theorem rmVN (l : Launch) (Z : State) (a0 : Array Value) (hw : ∀ d ∈ tables_1, d.before a0 Z = true) (ws : List Jvm.Cond) (a : Addr) (h0 : Heap) (n0 : Nat) (O : Old Z n0 h0) (F_a_Var_value : Fld Z h0 a "com/example/horn1/horn1/term/Var" "value" "Ljava/lang/Object;" .null) :
    MetFree l (⟨"com/example/horn1/horn1/term/Var", "value", "()Lcom/example/horn1/horn1/term/Term;"⟩ : MethodName) (head1 (Jvm.Cond.code (⟨"com/example/horn1/horn1/term/Var", "value", "()Lcom/example/horn1/horn1/term/Term;"⟩ : MethodName) prog_125_method_4_code 3 (some (.object "com/example/horn1/horn1/term/Term")) :: ws) ({ frames := 0, cells := 0, slots := 0, locals := 0 } : Room)) (fun a' U' => a' = #[(.ref a)] ∧ Z.Warmed39 U'.vm ∧ U'.heap = h0) (fun _ _ _ _ _ => True) (fun _ U' o' W' => ∃ v' L', o' = .returned v' ∧ QrmVN Z a h0 n0 v' W'.heap L' ∧ FrameEnd U' o' W' L' ({ frames := 0, cells := 0, slots := 0, locals := 0 } : Room).cells ({ frames := 0, cells := 0, slots := 0, locals := 0 } : Room).slots) := by
  refine MetFree.of_bodySF (plainFor_of_name pn_2) hisR ?_
  intro p e s m args below meth c s₁ Bd hml0 hP hK
  obtain ⟨rfl, hZ, hh⟩ := hP
  have hx := Bd.exec
  have hby := Bd.bytes
  have hml : c.maxLocals = 3 := hml0
  have hown : s.vm.findClass "com/example/horn1/horn1/term/Var" = some m.cls := findClass_of_methodNamed Bd.named
  have hnm := (name_of_methodNamed Bd.named Bd.method).1
  have X0 : Stand p l e ({ frames := 0, cells := 0, slots := 0, locals := 0 } : Room) s m #[(.ref a)] below meth c s₁ [] 0 0 := Stand.of_body Bd
  have e0 : s₁.heap = h0 := by rw [← hh, Bd.state]; rfl
  have N0 := Fr.nil n0
  refine own_start (ef_rmVN m a) (Q := fun o' t' => ∃ v' L', o' = .returned v' ∧ QrmVN Z a h0 n0 v' t'.heap L' ∧ FrameEnd s o' t' L' ({ frames := 0, cells := 0, slots := 0, locals := 0 } : Room).cells ({ frames := 0, cells := 0, slots := 0, locals := 0 } : Room).slots) ?_
  show own_Fin p e below (s₁.setTop (mkF m 0 #[.val (.ref a), .unset, .unset] [])) _
  refine own_go (fun _ k => XS.aloadN X0.here hx rfl (hb hby d11_0) rfl rfl k) ?_
  show own_Fin p e below (s₁.setTop (mkF m 1 #[.val (.ref a), .unset, .unset] [(.ref a)])) _
  obtain ⟨T16, X16, e16, st16⟩ := getF X0 hx hZ hown (host := "") (Or.inl (ow hw 60)) Via.refl e0 F_a_Var_value (g := (mkF m 1 #[.val (.ref a), .unset, .unset] [(.ref a)])) rfl rfl (hb hby d11_1)
  refine own_go (fun _ k => st16 _ k) ?_
  show own_Fin p e below (T16.setTop (mkF m 4 #[.val (.ref a), .unset, .unset] [.null])) _
  refine own_go (fun _ k => XS.astoreN X16.here hx rfl (hb hby d11_4) rfl rfl (l' := #[.val (.ref a), .unset, .val .null]) rfl (XS.aloadN X16.here hx rfl (hb hby d11_5) rfl rfl k)) ?_
  show own_Fin p e below (T16.setTop (mkF m 6 #[.val (.ref a), .unset, .val .null] [.null])) _
  refine own_go (fun _ k => X16.instanceofNull hx (g := (mkF m 6 #[.val (.ref a), .unset, .val .null] [.null])) rfl rfl (hb hby d11_6) _ k) ?_
  show own_Fin p e below (T16.setTop (mkF m 9 #[.val (.ref a), .unset, .val .null] [(.int 0)])) _
  refine own_go (fun _ k => XS.ifYes X16.here hx rfl (pc0 := 9) (pc' := 21) rfl (hb hby d11_9) rfl ((if0 _ _).trans (teq (by decide : (0 : Int32) = (0 : Int32))).1) (by decide) (by decide) (XS.aconstNull X16.here hx rfl (hb hby d11_21) k)) ?_
  show own_Fin p e below (T16.setTop (mkF m 22 #[.val (.ref a), .unset, .val .null] [.null])) _
  obtain ⟨fs, hr, hrun, hended, hW, hsame⟩ := X16.leave (v := some .null) (fun h => by rw [Bd.returns] at h; cases h)
  refine ⟨_, _, ?_, hrun, hended, _, _, rfl, ?_, ⟨_, rfl⟩, hW, hsame.mono (by decide) (by decide)⟩
  ·exact X16.areturnOut hx rfl Bd.returns rfl (hb hby d11_22) hr
  ·show QrmVN Z a h0 n0 _ T16.heap _
   rw [e16]
   exact ⟨rfl, N0, rfl⟩
theorem d11_12 : decode prog_125_method_4_code 12 = .ok (.aload_n 2, 1) := by decide +kernel
theorem d11_13 : decode prog_125_method_4_code 13 = .ok (.checkcast 2, 3) := by decide +kernel
theorem d11_16 : decode prog_125_method_4_code 16 = .ok (.astore_n 1, 1) := by decide +kernel
theorem d11_17 : decode prog_125_method_4_code 17 = .ok (.aload_n 1, 1) := by decide +kernel
theorem d11_18 : decode prog_125_method_4_code 18 = .ok (.goto 4, 3) := by decide +kernel
theorem ef_rmVR (m : MethodId) (x0 : Addr) : entryFrame m #[(.ref x0)] 3 = mkF m 0 #[.val (.ref x0), .unset, .unset] [] := by first | (simp [entryFrame, mkF, argsToLocals, Value.category]; done) | rfl
def QrmVR (Z : State) (a : Addr) (b : Addr) (h0 : Heap) (n0 : Nat) (v : Option Value) (h : Heap) (L : List Loc) : Prop := v = some (.ref b) ∧ Fr n0 L ∧ h = h0
set_option maxRecDepth 65536 in
set_option maxHeartbeats 40000000 in
theorem rmVR (l : Launch) (Z : State) (a0 : Array Value) (hw : ∀ d ∈ tables_1, d.before a0 Z = true) (ws : List Jvm.Cond) (a : Addr) (b : Addr) (h0 : Heap) (n0 : Nat) (O : Old Z n0 h0) (F_a_Var_value : Fld Z h0 a "com/example/horn1/horn1/term/Var" "value" "Ljava/lang/Object;" (.ref b)) (hI : Ins Z h0 b "com/example/horn1/horn1/term/Term" true) :
    MetFree l (⟨"com/example/horn1/horn1/term/Var", "value", "()Lcom/example/horn1/horn1/term/Term;"⟩ : MethodName) (head1 (Jvm.Cond.code (⟨"com/example/horn1/horn1/term/Var", "value", "()Lcom/example/horn1/horn1/term/Term;"⟩ : MethodName) prog_125_method_4_code 3 (some (.object "com/example/horn1/horn1/term/Term")) :: ws) ({ frames := 0, cells := 0, slots := 0, locals := 0 } : Room)) (fun a' U' => a' = #[(.ref a)] ∧ Z.Warmed39 U'.vm ∧ U'.heap = h0) (fun _ _ _ _ _ => True) (fun _ U' o' W' => ∃ v' L', o' = .returned v' ∧ QrmVR Z a b h0 n0 v' W'.heap L' ∧ FrameEnd U' o' W' L' ({ frames := 0, cells := 0, slots := 0, locals := 0 } : Room).cells ({ frames := 0, cells := 0, slots := 0, locals := 0 } : Room).slots) := by
  refine MetFree.of_bodySF (plainFor_of_name pn_2) hisR ?_
  intro p e s m args below meth c s₁ Bd hml0 hP hK
  obtain ⟨rfl, hZ, hh⟩ := hP
  have hx := Bd.exec
  have hby := Bd.bytes
  have hml : c.maxLocals = 3 := hml0
  have hown : s.vm.findClass "com/example/horn1/horn1/term/Var" = some m.cls := findClass_of_methodNamed Bd.named
  have hnm := (name_of_methodNamed Bd.named Bd.method).1
  have X0 : Stand p l e ({ frames := 0, cells := 0, slots := 0, locals := 0 } : Room) s m #[(.ref a)] below meth c s₁ [] 0 0 := Stand.of_body Bd
  have e0 : s₁.heap = h0 := by rw [← hh, Bd.state]; rfl
  have N0 := Fr.nil n0
  refine own_start (ef_rmVR m a) (Q := fun o' t' => ∃ v' L', o' = .returned v' ∧ QrmVR Z a b h0 n0 v' t'.heap L' ∧ FrameEnd s o' t' L' ({ frames := 0, cells := 0, slots := 0, locals := 0 } : Room).cells ({ frames := 0, cells := 0, slots := 0, locals := 0 } : Room).slots) ?_
  show own_Fin p e below (s₁.setTop (mkF m 0 #[.val (.ref a), .unset, .unset] [])) _
  refine own_go (fun _ k => XS.aloadN X0.here hx rfl (hb hby d11_0) rfl rfl k) ?_
  show own_Fin p e below (s₁.setTop (mkF m 1 #[.val (.ref a), .unset, .unset] [(.ref a)])) _
  obtain ⟨T19, X19, e19, st19⟩ := getF X0 hx hZ hown (host := "") (Or.inl (ow hw 60)) Via.refl e0 F_a_Var_value (g := (mkF m 1 #[.val (.ref a), .unset, .unset] [(.ref a)])) rfl rfl (hb hby d11_1)
  refine own_go (fun _ k => st19 _ k) ?_
  show own_Fin p e below (T19.setTop (mkF m 4 #[.val (.ref a), .unset, .unset] [(.ref b)])) _
  refine own_go (fun _ k => XS.astoreN X19.here hx rfl (hb hby d11_4) rfl rfl (l' := #[.val (.ref a), .unset, .val (.ref b)]) rfl (XS.aloadN X19.here hx rfl (hb hby d11_5) rfl rfl k)) ?_
  show own_Fin p e below (T19.setTop (mkF m 6 #[.val (.ref a), .unset, .val (.ref b)] [(.ref b)])) _
  obtain ⟨T20, X20, e20, st20⟩ := instY X19 hx hZ hown (ow hw 67) e19 hI (g := (mkF m 6 #[.val (.ref a), .unset, .val (.ref b)] [(.ref b)])) rfl rfl (hb hby d11_6)
  refine own_go (fun _ k => st20 _ k) ?_
  show own_Fin p e below (T20.setTop (mkF m 9 #[.val (.ref a), .unset, .val (.ref b)] [(.int 1)])) _
  refine own_go (fun _ k => XS.ifNo X20.here hx rfl (hb hby d11_9) rfl ((if0 _ _).trans (feq (by decide : ¬ ((1 : Int32) = (0 : Int32)))).1) (XS.aloadN X20.here hx rfl (hb hby d11_12) rfl rfl k)) ?_
  show own_Fin p e below (T20.setTop (mkF m 13 #[.val (.ref a), .unset, .val (.ref b)] [(.ref b)])) _
  obtain ⟨T21, X21, e21, st21⟩ := castY X20 hx hZ hown (ow hw 67) e20 hI (g := (mkF m 13 #[.val (.ref a), .unset, .val (.ref b)] [(.ref b)])) rfl rfl (hb hby d11_13)
  refine own_go (fun _ k => st21 _ k) ?_
  show own_Fin p e below (T21.setTop (mkF m 16 #[.val (.ref a), .unset, .val (.ref b)] [(.ref b)])) _
  refine own_go (fun _ k => XS.astoreN X21.here hx rfl (hb hby d11_16) rfl rfl (l' := #[.val (.ref a), .val (.ref b), .val (.ref b)]) rfl (XS.aloadN X21.here hx rfl (hb hby d11_17) rfl rfl (XS.goto X21.here hx rfl (pc0 := 18) (pc' := 22) rfl (hb hby d11_18) (by decide) (by decide) k))) ?_
  show own_Fin p e below (T21.setTop (mkF m 22 #[.val (.ref a), .val (.ref b), .val (.ref b)] [(.ref b)])) _
  obtain ⟨fs, hr, hrun, hended, hW, hsame⟩ := X21.leave (v := some (.ref b)) (fun h => by rw [Bd.returns] at h; cases h)
  refine ⟨_, _, ?_, hrun, hended, _, _, rfl, ?_, ⟨_, rfl⟩, hW, hsame.mono (by decide) (by decide)⟩
  ·exact X21.areturnOut hx rfl Bd.returns rfl (hb hby d11_22) hr
  ·show QrmVR Z a b h0 n0 _ T21.heap _
   rw [e21]
   exact ⟨rfl, N0, rfl⟩
def QrmVX (Z : State) (a : Addr) (t : Value) (h0 : Heap) (n0 : Nat) (v : Option Value) (h : Heap) (L : List Loc) : Prop := v = some t ∧ Fr n0 L ∧ h = h0
theorem rmVX (l : Launch) (Z : State) (a0 : Array Value) (hw : ∀ d ∈ tables_1, d.before a0 Z = true) (ws : List Jvm.Cond) (a : Addr) (t : Value) (h0 : Heap) (n0 : Nat) (O : Old Z n0 h0) (F : Fld Z h0 a "com/example/horn1/horn1/term/Var" "value" "Ljava/lang/Object;" t) (htm : own_Tm Z h0 t) :
    MetFree l (⟨"com/example/horn1/horn1/term/Var", "value", "()Lcom/example/horn1/horn1/term/Term;"⟩ : MethodName) (head1 (Jvm.Cond.code (⟨"com/example/horn1/horn1/term/Var", "value", "()Lcom/example/horn1/horn1/term/Term;"⟩ : MethodName) prog_125_method_4_code 3 (some (.object "com/example/horn1/horn1/term/Term")) :: ws) ({ frames := 0, cells := 0, slots := 0, locals := 0 } : Room)) (fun a_ U => a_ = #[(.ref a)] ∧ Z.Warmed39 U.vm ∧ U.heap = h0) (fun _ _ _ _ _ => True) (fun _ U o U' => ∃ v L, o = .returned v ∧ QrmVX Z a t h0 n0 v U'.heap L ∧ FrameEnd U o U' L ({ frames := 0, cells := 0, slots := 0, locals := 0 } : Room).cells ({ frames := 0, cells := 0, slots := 0, locals := 0 } : Room).slots) := by
  rcases htm with rfl | ⟨b, rfl, hI⟩
  · exact rmVN l Z a0 hw ws a h0 n0 O F
  · exact rmVR l Z a0 hw ws a b h0 n0 O F hI
theorem d12_0 : decode prog_125_method_5_code 0 = .ok (.aload_n 0, 1) := by decide +kernel
theorem d12_1 : decode prog_125_method_5_code 1 = .ok (.aload_n 1, 1) := by decide +kernel
theorem d12_2 : decode prog_125_method_5_code 2 = .ok (.putfield 7, 3) := by decide +kernel
theorem d12_5 : decode prog_125_method_5_code 5 = .ok (.return_, 1) := by decide +kernel
theorem ef_rm12 (m : MethodId) (x0 : Addr) (x1 : Value) (hr1 : x1.isRef = true) : entryFrame m #[(.ref x0), x1] 2 = mkF m 0 #[.val (.ref x0), .val x1] [] := by (cases x1 <;> first | (cases hr1; done) | (simp [Value.isRef] at hr1; done) | skip); all_goals first | (simp [entryFrame, mkF, argsToLocals, Value.category]; done) | rfl
def Qrm12 (Z : State) (b : Addr) (t : Value) (u : Value) (h0 : Heap) (n0 : Nat) (v : Option Value) (h : Heap) (L : List Loc) : Prop := v = none ∧ Fr n0 L ∧ Keep h0 h [b] ∧ Exa Z h b "com/example/horn1/horn1/term/Var" ∧ Fld Z h b "com/example/horn1/horn1/term/Var" "value" "Ljava/lang/Object;" t
set_option maxRecDepth 65536 in
set_option maxHeartbeats 40000000 in
theorem rm12 (l : Launch) (Z : State) (a0 : Array Value) (hw : ∀ d ∈ tables_1, d.before a0 Z = true) (ws : List Jvm.Cond) (b : Addr) (t : Value) (u : Value) (h0 : Heap) (n0 : Nat) (O : Old Z n0 h0) (E_b : Exa Z h0 b "com/example/horn1/horn1/term/Var") (F_b_Var_value : Fld Z h0 b "com/example/horn1/horn1/term/Var" "value" "Ljava/lang/Object;" u) (g_b : n0 ≤ b) (ht : t.isRef = true) :
    MetFree l (⟨"com/example/horn1/horn1/term/Var", "bind", "(Lcom/example/horn1/horn1/term/Term;)V"⟩ : MethodName) (head1 (Jvm.Cond.code (⟨"com/example/horn1/horn1/term/Var", "bind", "(Lcom/example/horn1/horn1/term/Term;)V"⟩ : MethodName) prog_125_method_5_code 2 none :: ws) ({ frames := 0, cells := 0, slots := 0, locals := 0 } : Room)) (fun a' U' => a' = #[(.ref b), t] ∧ Z.Warmed39 U'.vm ∧ U'.heap = h0) (fun _ _ _ _ _ => True) (fun _ U' o' W' => ∃ v' L', o' = .returned v' ∧ Qrm12 Z b t u h0 n0 v' W'.heap L' ∧ FrameEnd U' o' W' L' ({ frames := 0, cells := 0, slots := 0, locals := 0 } : Room).cells ({ frames := 0, cells := 0, slots := 0, locals := 0 } : Room).slots) := by
  refine MetFree.of_bodySF (plainFor_of_name pn_2) hisR ?_
  intro p e s m args below meth c s₁ Bd hml0 hP hK
  obtain ⟨rfl, hZ, hh⟩ := hP
  have hx := Bd.exec
  have hby := Bd.bytes
  have hml : c.maxLocals = 2 := hml0
  have hown : s.vm.findClass "com/example/horn1/horn1/term/Var" = some m.cls := findClass_of_methodNamed Bd.named
  have hnm := (name_of_methodNamed Bd.named Bd.method).1
  have X0 : Stand p l e ({ frames := 0, cells := 0, slots := 0, locals := 0 } : Room) s m #[(.ref b), t] below meth c s₁ [] 0 0 := Stand.of_body Bd
  have e0 : s₁.heap = h0 := by rw [← hh, Bd.state]; rfl
  have N0 := Fr.nil n0
  have K0 := Keep.refl h0 [b]
  refine own_start (ef_rm12 m b t ht) (Q := fun o' t' => ∃ v' L', o' = .returned v' ∧ Qrm12 Z b t u h0 n0 v' t'.heap L' ∧ FrameEnd s o' t' L' ({ frames := 0, cells := 0, slots := 0, locals := 0 } : Room).cells ({ frames := 0, cells := 0, slots := 0, locals := 0 } : Room).slots) ?_
  show own_Fin p e below (s₁.setTop (mkF m 0 #[.val (.ref b), .val t] [])) _
  refine own_go (fun _ k => XS.aloadN X0.here hx rfl (hb hby d12_0) rfl rfl (XS.aloadN X0.here hx rfl (hb hby d12_1) rfl ht k)) ?_
  show own_Fin p e below (s₁.setTop (mkF m 2 #[.val (.ref b), .val t] [t, (.ref b)])) _
  obtain ⟨T23, h23, X23, e23, W23, st23⟩ := putF X0 hx hZ hown (host := "") (Or.inl (ow hw 60)) Via.refl e0 F_b_Var_value E_b (Or.inl (ow hw 61)) (ow hw 45) (ty := (.object "java/lang/Object")) (by decide) rfl (own_fitR ht) (g := (mkF m 2 #[.val (.ref b), .val t] [t, (.ref b)])) rfl rfl (hb hby d12_2)
  refine own_go (fun _ k => st23 _ k) ?_
  have E_b := E_b.wr W23
  have O := O.wr W23 g_b
  have K24 := K0.wr W23 (Or.inl (List.mem_of_getElem? (i := 0) rfl))
  have F_b_Var_value := F_b_Var_value.same W23
  have N23 := Fr.snoc X23 N0 g_b
  show own_Fin p e below (T23.setTop (mkF m 5 #[.val (.ref b), .val t] [])) _
  obtain ⟨fs, hr, hrun, hended, hW, hsame⟩ := X23.leave (v := none) (fun _ => rfl)
  refine ⟨_, _, ?_, hrun, hended, _, _, rfl, ?_, ⟨_, rfl⟩, hW, hsame.mono (by decide) (by decide)⟩
  ·exact X23.returnOut hx Bd.returns (hb hby d12_5) hr
  ·show Qrm12 Z b t u h0 n0 _ T23.heap _
   rw [e23]
   exact ⟨rfl, N23, K24, E_b, F_b_Var_value⟩
theorem d13_0 : decode prog_125_method_6_code 0 = .ok (.aload_n 0, 1) := by decide +kernel
theorem d13_1 : decode prog_125_method_6_code 1 = .ok (.aconst_null, 1) := by decide +kernel
theorem d13_2 : decode prog_125_method_6_code 2 = .ok (.putfield 7, 3) := by decide +kernel
theorem d13_5 : decode prog_125_method_6_code 5 = .ok (.return_, 1) := by decide +kernel
theorem ef_rm13 (m : MethodId) (x0 : Addr) : entryFrame m #[(.ref x0)] 1 = mkF m 0 #[.val (.ref x0)] [] := by first | (simp [entryFrame, mkF, argsToLocals, Value.category]; done) | rfl
def Qrm13 (Z : State) (b : Addr) (u : Value) (h0 : Heap) (n0 : Nat) (v : Option Value) (h : Heap) (L : List Loc) : Prop := v = none ∧ Fr n0 L ∧ Keep h0 h [b] ∧ Exa Z h b "com/example/horn1/horn1/term/Var" ∧ Fld Z h b "com/example/horn1/horn1/term/Var" "value" "Ljava/lang/Object;" .null
set_option maxRecDepth 65536 in
set_option maxHeartbeats 40000000 in
theorem rm13 (l : Launch) (Z : State) (a0 : Array Value) (hw : ∀ d ∈ tables_1, d.before a0 Z = true) (ws : List Jvm.Cond) (b : Addr) (u : Value) (h0 : Heap) (n0 : Nat) (O : Old Z n0 h0) (E_b : Exa Z h0 b "com/example/horn1/horn1/term/Var") (F_b_Var_value : Fld Z h0 b "com/example/horn1/horn1/term/Var" "value" "Ljava/lang/Object;" u) (g_b : n0 ≤ b) :
    MetFree l (⟨"com/example/horn1/horn1/term/Var", "unbind", "()V"⟩ : MethodName) (head1 (Jvm.Cond.code (⟨"com/example/horn1/horn1/term/Var", "unbind", "()V"⟩ : MethodName) prog_125_method_6_code 1 none :: ws) ({ frames := 0, cells := 0, slots := 0, locals := 0 } : Room)) (fun a' U' => a' = #[(.ref b)] ∧ Z.Warmed39 U'.vm ∧ U'.heap = h0) (fun _ _ _ _ _ => True) (fun _ U' o' W' => ∃ v' L', o' = .returned v' ∧ Qrm13 Z b u h0 n0 v' W'.heap L' ∧ FrameEnd U' o' W' L' ({ frames := 0, cells := 0, slots := 0, locals := 0 } : Room).cells ({ frames := 0, cells := 0, slots := 0, locals := 0 } : Room).slots) := by
  refine MetFree.of_bodySF (plainFor_of_name pn_2) hisR ?_
  intro p e s m args below meth c s₁ Bd hml0 hP hK
  obtain ⟨rfl, hZ, hh⟩ := hP
  have hx := Bd.exec
  have hby := Bd.bytes
  have hml : c.maxLocals = 1 := hml0
  have hown : s.vm.findClass "com/example/horn1/horn1/term/Var" = some m.cls := findClass_of_methodNamed Bd.named
  have hnm := (name_of_methodNamed Bd.named Bd.method).1
  have X0 : Stand p l e ({ frames := 0, cells := 0, slots := 0, locals := 0 } : Room) s m #[(.ref b)] below meth c s₁ [] 0 0 := Stand.of_body Bd
  have e0 : s₁.heap = h0 := by rw [← hh, Bd.state]; rfl
  have N0 := Fr.nil n0
  have K0 := Keep.refl h0 [b]
  refine own_start (ef_rm13 m b) (Q := fun o' t' => ∃ v' L', o' = .returned v' ∧ Qrm13 Z b u h0 n0 v' t'.heap L' ∧ FrameEnd s o' t' L' ({ frames := 0, cells := 0, slots := 0, locals := 0 } : Room).cells ({ frames := 0, cells := 0, slots := 0, locals := 0 } : Room).slots) ?_
  show own_Fin p e below (s₁.setTop (mkF m 0 #[.val (.ref b)] [])) _
  refine own_go (fun _ k => XS.aloadN X0.here hx rfl (hb hby d13_0) rfl rfl (XS.aconstNull X0.here hx rfl (hb hby d13_1) k)) ?_
  show own_Fin p e below (s₁.setTop (mkF m 2 #[.val (.ref b)] [.null, (.ref b)])) _
  obtain ⟨T26, h26, X26, e26, W26, st26⟩ := putF X0 hx hZ hown (host := "") (Or.inl (ow hw 60)) Via.refl e0 F_b_Var_value E_b (Or.inl (ow hw 61)) (ow hw 45) (ty := (.object "java/lang/Object")) (by decide) rfl rfl (g := (mkF m 2 #[.val (.ref b)] [.null, (.ref b)])) rfl rfl (hb hby d13_2)
  refine own_go (fun _ k => st26 _ k) ?_
  have E_b := E_b.wr W26
  have O := O.wr W26 g_b
  have K27 := K0.wr W26 (Or.inl (List.mem_of_getElem? (i := 0) rfl))
  have F_b_Var_value := F_b_Var_value.same W26
  have N26 := Fr.snoc X26 N0 g_b
  show own_Fin p e below (T26.setTop (mkF m 5 #[.val (.ref b)] [])) _
  obtain ⟨fs, hr, hrun, hended, hW, hsame⟩ := X26.leave (v := none) (fun _ => rfl)
  refine ⟨_, _, ?_, hrun, hended, _, _, rfl, ?_, ⟨_, rfl⟩, hW, hsame.mono (by decide) (by decide)⟩
  ·exact X26.returnOut hx Bd.returns (hb hby d13_5) hr
  ·show Qrm13 Z b u h0 n0 _ T26.heap _
   rw [e26]
   exact ⟨rfl, N26, K27, E_b, F_b_Var_value⟩
theorem pd_1 : parseMethodDescriptor "([C)V" = some ⟨[(.array .char)], none⟩ := by decide +kernel
theorem pd_2 : parseMethodDescriptor "(Ljava/lang/String;)V" = some ⟨[(.object "java/lang/String")], none⟩ := by decide +kernel
theorem pd_3 : parseMethodDescriptor "(ILcom/example/horn1/horn1/term/Atom;Lcom/example/horn1/horn1/term/Var;Lcom/example/horn1/horn1/term/Var;)Lcom/example/horn1/horn1/term/Term;" = some ⟨[.int, (.object "com/example/horn1/horn1/term/Atom"), (.object "com/example/horn1/horn1/term/Var"), (.object "com/example/horn1/horn1/term/Var")], some (.object "com/example/horn1/horn1/term/Term")⟩ := by decide +kernel
theorem pd_4 : parseMethodDescriptor "()Lcom/example/horn1/horn1/term/Term;" = some ⟨[], some (.object "com/example/horn1/horn1/term/Term")⟩ := by decide +kernel
theorem pd_5 : parseMethodDescriptor "(Lcom/example/horn1/horn1/term/Term;)V" = some ⟨[(.object "com/example/horn1/horn1/term/Term")], none⟩ := by decide +kernel
theorem ef_rm0 (m : MethodId) (x0 : Int32) (x1 : Int32) (x2 : Int32) (x3 : Int32) (x4 : Int32) : entryFrame m #[(.int x0), (.int x1), (.int x2), (.int x3), (.int x4)] maxLocals = mkF m 0 #[.val (.int x0), .val (.int x1), .val (.int x2), .val (.int x3), .val (.int x4), .unset, .unset, .unset, .unset, .unset, .unset, .unset] [] := by first | (simp [entryFrame, mkF, argsToLocals, Value.category, maxLocals]; done) | rfl
def Qrm0 (Z : State) (p0 : Int32) (p1 : Int32) (p2 : Int32) (p3 : Int32) (p4 : Int32) (z : Int32) (h0 : Heap) (n0 : Nat) (v : Option Value) (h : Heap) (L : List Loc) : Prop := v = some (.int 1) ∧ Fr n0 L ∧ Keep h0 h []
set_option maxRecDepth 65536 in
set_option maxHeartbeats 40000000 in
theorem rm0 (l : Launch) (Z : State) (a0 : Array Value) (hw : ∀ d ∈ tables_1, d.before a0 Z = true) (ws : List Jvm.Cond) (p0 : Int32) (p1 : Int32) (p2 : Int32) (p3 : Int32) (p4 : Int32) (z : Int32) (h0 : Heap) (n0 : Nat) (O : Old Z n0 h0) (S_String_COMPACT_STRINGS : Sta Z Z.heap "java/lang/String" "COMPACT_STRINGS" "Z" (.int z)) (hz : ¬ z = 0) :
    MetFree l x (head1 (Jvm.Cond.code x code maxLocals ret :: ws) room_1) (fun a' U' => a' = #[(.int p0), (.int p1), (.int p2), (.int p3), (.int p4)] ∧ Z.Warmed39 U'.vm ∧ U'.heap = h0) (fun _ _ _ _ _ => True) (fun _ U' o' W' => ∃ v' L', o' = .returned v' ∧ Qrm0 Z p0 p1 p2 p3 p4 z h0 n0 v' W'.heap L' ∧ FrameEnd U' o' W' L' 6 11) := by
  refine MetFree.of_bodySF (plainFor_of_name pn_3) hisR ?_
  intro p e s m args below meth c s₁ Bd hml0 hP hK
  obtain ⟨rfl, hZ, hh⟩ := hP
  have hx := Bd.exec
  have hby := Bd.bytes
  have hml : c.maxLocals = 12 := hml0
  have hown : s.vm.findClass "com/example/horn1/horn1/term/VarValuePinLaw" = some m.cls := findClass_of_methodNamed Bd.named
  have hnm := (name_of_methodNamed Bd.named Bd.method).1
  have X0 : Stand p l e room_1 s m #[(.int p0), (.int p1), (.int p2), (.int p3), (.int p4)] below meth c s₁ [] 0 0 := Stand.of_body Bd
  have e0 : s₁.heap = h0 := by rw [← hh, Bd.state]; rfl
  have N0 := Fr.nil n0
  have K0 := Keep.refl h0 []
  refine own_start (ef_rm0 m p0 p1 p2 p3 p4) (Q := fun o' t' => ∃ v' L', o' = .returned v' ∧ Qrm0 Z p0 p1 p2 p3 p4 z h0 n0 v' t'.heap L' ∧ FrameEnd s o' t' L' 6 11) ?_
  show own_Fin p e below (s₁.setTop (mkF m 0 #[.val (.int p0), .val (.int p1), .val (.int p2), .val (.int p3), .val (.int p4), .unset, .unset, .unset, .unset, .unset, .unset, .unset] [])) _
  refine own_go (fun _ k => XS.iconst X0.here hx rfl (hb hby at_0) k) ?_
  show own_Fin p e below (s₁.setTop (mkF m 1 #[.val (.int p0), .val (.int p1), .val (.int p2), .val (.int p3), .val (.int p4), .unset, .unset, .unset, .unset, .unset, .unset, .unset] [(.int 2)])) _
  obtain ⟨T29, h29, k29, X29, e29, E29, A29, st29⟩ := newP X0 hx hZ (ow hw 0) e0 (g := (mkF m 1 #[.val (.int p0), .val (.int p1), .val (.int p2), .val (.int p3), .val (.int p4), .unset, .unset, .unset, .unset, .unset, .unset, .unset] [(.int 2)])) rfl (hb hby at_1) rfl (by decide) (cap := 2) (by decide) (by decide) (by decide) (by decide)
  obtain ⟨b29, g29⟩ : ∃ z, z = h0.size := ⟨_, rfl⟩
  rw [← g29] at A29 st29
  refine own_go (fun _ k => st29 _ k) ?_
  have g_b29 : n0 ≤ b29 := Nat.le_trans (own_osz O) (Nat.le_of_eq g29.symm)
  have sz_b29 : h0.size ≤ b29 := Nat.le_trans K0.1 (Nat.le_of_eq g29.symm)
  have O := O.ext E29
  have K30 := K0.ext E29
  have V_b29 : Arv Z h29 b29 k29 .char (2 : Int32) [(.int 0), (.int 0)] (.int 0) := (Arv.new A29 (by decide)).pad (pad_rep [] (.int 0) 2)
  show own_Fin p e below (T29.setTop (mkF m 3 #[.val (.int p0), .val (.int p1), .val (.int p2), .val (.int p3), .val (.int p4), .unset, .unset, .unset, .unset, .unset, .unset, .unset] [(.ref b29)])) _
  refine own_go (fun _ k => XS.astore X29.here hx rfl (hb hby at_3) rfl rfl (l' := #[.val (.int p0), .val (.int p1), .val (.int p2), .val (.int p3), .val (.int p4), .val (.ref b29), .unset, .unset, .unset, .unset, .unset, .unset]) rfl (XS.aload X29.here hx rfl (hb hby at_5) rfl rfl (XS.iconst X29.here hx rfl (hb hby at_7) (XS.iloadN X29.here hx rfl (hb hby at_8) rfl (XS.sipush X29.here hx rfl (hb hby at_9) (XS.iand X29.here hx rfl (hb hby at_12) rfl (XS.i2c X29.here hx rfl (hb hby at_13) rfl k))))))) ?_
  show own_Fin p e below (T29.setTop (mkF m 14 #[.val (.int p0), .val (.int p1), .val (.int p2), .val (.int p3), .val (.int p4), .val (.ref b29), .unset, .unset, .unset, .unset, .unset, .unset] [(.int ((p2 &&& (255 : Int32)).toUInt32.toUInt16.toUInt32.toInt32)), (.int 0), (.ref b29)])) _
  obtain ⟨cl31, A31, q31, S31, M31, H31, G31⟩ := id V_b29
  have hin31 : ¬ ((0 : Int32) < 0 ∨ cl31.slots.size ≤ ((0 : Int32)).toNatClampNeg) := inb_of S31 ⟨by decide, by decide⟩
  obtain ⟨T31, h31, X31, e31, W31, st31⟩ := stC X29 hx hZ e29 A31 (j := (0 : Int32)) hin31 (g := (mkF m 14 #[.val (.int p0), .val (.int p1), .val (.int p2), .val (.int p3), .val (.int p4), .val (.ref b29), .unset, .unset, .unset, .unset, .unset, .unset] [(.int ((p2 &&& (255 : Int32)).toUInt32.toUInt16.toUInt32.toInt32)), (.int 0), (.ref b29)])) rfl rfl (hb hby at_14)
  refine own_go (fun _ k => st31 _ k) ?_
  have O := O.wr W31 g_b29
  have K32 := K30.wr W31 (Or.inr sz_b29)
  have V_b29 : Arv Z h31 b29 k29 .char (2 : Int32) [(.int (nar .char ((p2 &&& (255 : Int32)).toUInt32.toUInt16.toUInt32.toInt32))), (.int 0)] (.int 0) := Arv.set A31 q31 S31 M31 H31 G31 (fits_nar_char _) W31 0 rfl (Nat.le_of_ble_eq_true rfl)
  have N31 := Fr.snoc X31 N0 g_b29
  show own_Fin p e below (T31.setTop (mkF m 15 #[.val (.int p0), .val (.int p1), .val (.int p2), .val (.int p3), .val (.int p4), .val (.ref b29), .unset, .unset, .unset, .unset, .unset, .unset] [])) _
  refine own_go (fun _ k => XS.aload X31.here hx rfl (hb hby at_15) rfl rfl (XS.iconst X31.here hx rfl (hb hby at_17) (XS.iloadN X31.here hx rfl (hb hby at_18) rfl (XS.sipush X31.here hx rfl (hb hby at_19) (XS.iand X31.here hx rfl (hb hby at_22) rfl (XS.i2c X31.here hx rfl (hb hby at_23) rfl k)))))) ?_
  show own_Fin p e below (T31.setTop (mkF m 24 #[.val (.int p0), .val (.int p1), .val (.int p2), .val (.int p3), .val (.int p4), .val (.ref b29), .unset, .unset, .unset, .unset, .unset, .unset] [(.int ((p3 &&& (255 : Int32)).toUInt32.toUInt16.toUInt32.toInt32)), (.int 1), (.ref b29)])) _
  obtain ⟨cl33, A33, q33, S33, M33, H33, G33⟩ := id V_b29
  have hin33 : ¬ ((1 : Int32) < 0 ∨ cl33.slots.size ≤ ((1 : Int32)).toNatClampNeg) := inb_of S33 ⟨by decide, by decide⟩
  obtain ⟨T33, h33, X33, e33, W33, st33⟩ := stC X31 hx hZ e31 A33 (j := (1 : Int32)) hin33 (g := (mkF m 24 #[.val (.int p0), .val (.int p1), .val (.int p2), .val (.int p3), .val (.int p4), .val (.ref b29), .unset, .unset, .unset, .unset, .unset, .unset] [(.int ((p3 &&& (255 : Int32)).toUInt32.toUInt16.toUInt32.toInt32)), (.int 1), (.ref b29)])) rfl rfl (hb hby at_24)
  refine own_go (fun _ k => st33 _ k) ?_
  have O := O.wr W33 g_b29
  have K34 := K32.wr W33 (Or.inr sz_b29)
  have V_b29 : Arv Z h33 b29 k29 .char (2 : Int32) [(.int (nar .char ((p2 &&& (255 : Int32)).toUInt32.toUInt16.toUInt32.toInt32))), (.int (nar .char ((p3 &&& (255 : Int32)).toUInt32.toUInt16.toUInt32.toInt32)))] (.int 0) := Arv.set A33 q33 S33 M33 H33 G33 (fits_nar_char _) W33 1 rfl (Nat.le_of_ble_eq_true rfl)
  have N33 := Fr.snoc X33 N31 g_b29
  show own_Fin p e below (T33.setTop (mkF m 25 #[.val (.int p0), .val (.int p1), .val (.int p2), .val (.int p3), .val (.int p4), .val (.ref b29), .unset, .unset, .unset, .unset, .unset, .unset] [])) _
  obtain ⟨T35, h35, X35, e35, E35, A35, D35, -, st35⟩ := newO X33 hx hZ hown (ow hw 1) (ow hw 2) (ow hw 3) e33 (g := (mkF m 25 #[.val (.int p0), .val (.int p1), .val (.int p2), .val (.int p3), .val (.int p4), .val (.ref b29), .unset, .unset, .unset, .unset, .unset, .unset] [])) rfl (hb hby at_25) (by decide) (by decide)
  obtain ⟨b35, g35⟩ : ∃ z, z = h33.size := ⟨_, rfl⟩
  rw [← g35] at A35 D35 st35
  refine own_go (fun _ k => st35 _ k) ?_
  have ne_b29_b35 : b29 ≠ b35 := Nat.ne_of_lt (Nat.lt_of_lt_of_le V_b29.lt (Nat.le_of_eq g35.symm))
  have g_b35 : n0 ≤ b35 := Nat.le_trans (own_osz O) (Nat.le_of_eq g35.symm)
  have sz_b35 : h0.size ≤ b35 := Nat.le_trans K34.1 (Nat.le_of_eq g35.symm)
  have V_b29 := V_b29.ext E35
  have O := O.ext E35
  have K36 := K34.ext E35
  have E_b35 := A35
  have F_b35_Atom_name : Fld Z h35 b35 "com/example/horn1/horn1/term/Atom" "name" "Ljava/lang/String;" .null := D35 (Or.inr (ow hw 43)) (ty := (.object "java/lang/String")) (by decide)
  show own_Fin p e below (T35.setTop (mkF m 28 #[.val (.int p0), .val (.int p1), .val (.int p2), .val (.int p3), .val (.int p4), .val (.ref b29), .unset, .unset, .unset, .unset, .unset, .unset] [(.ref b35)])) _
  refine own_go (fun _ k => XS.dup X35.here hx rfl (hb hby at_28) rfl rfl k) ?_
  show own_Fin p e below (T35.setTop (mkF m 29 #[.val (.int p0), .val (.int p1), .val (.int p2), .val (.int p3), .val (.int p4), .val (.ref b29), .unset, .unset, .unset, .unset, .unset, .unset] [(.ref b35), (.ref b35)])) _
  obtain ⟨T37, h37, X37, e37, E37, A37, D37, -, st37⟩ := newO X35 hx hZ hown (ow hw 4) (ow hw 5) (ow hw 6) e35 (g := (mkF m 29 #[.val (.int p0), .val (.int p1), .val (.int p2), .val (.int p3), .val (.int p4), .val (.ref b29), .unset, .unset, .unset, .unset, .unset, .unset] [(.ref b35), (.ref b35)])) rfl (hb hby at_29) (by decide) (by decide)
  obtain ⟨b37, g37⟩ : ∃ z, z = h35.size := ⟨_, rfl⟩
  rw [← g37] at A37 D37 st37
  refine own_go (fun _ k => st37 _ k) ?_
  have ne_b29_b37 : b29 ≠ b37 := Nat.ne_of_lt (Nat.lt_of_lt_of_le V_b29.lt (Nat.le_of_eq g37.symm))
  have ne_b35_b37 : b35 ≠ b37 := Nat.ne_of_lt (Nat.lt_of_lt_of_le E_b35.lt (Nat.le_of_eq g37.symm))
  have g_b37 : n0 ≤ b37 := Nat.le_trans (own_osz O) (Nat.le_of_eq g37.symm)
  have sz_b37 : h0.size ≤ b37 := Nat.le_trans K36.1 (Nat.le_of_eq g37.symm)
  have V_b29 := V_b29.ext E37
  have E_b35 := E_b35.ext E37
  have F_b35_Atom_name := F_b35_Atom_name.ext E37
  have O := O.ext E37
  have K38 := K36.ext E37
  have E_b37 := A37
  have F_b37_String_coder : Fld Z h37 b37 "java/lang/String" "coder" "B" (.int 0) := D37 (Or.inr (ow hw 30)) (ty := .byte) (by decide)
  have F_b37_String_value : Fld Z h37 b37 "java/lang/String" "value" "[B" .null := D37 (Or.inr (ow hw 32)) (ty := (.array .byte)) (by decide)
  show own_Fin p e below (T37.setTop (mkF m 32 #[.val (.int p0), .val (.int p1), .val (.int p2), .val (.int p3), .val (.int p4), .val (.ref b29), .unset, .unset, .unset, .unset, .unset, .unset] [(.ref b37), (.ref b35), (.ref b35)])) _
  refine own_go (fun _ k => XS.dup X37.here hx rfl (hb hby at_32) rfl rfl (XS.aload X37.here hx rfl (hb hby at_33) rfl rfl k)) ?_
  show own_Fin p e below (T37.setTop (mkF m 35 #[.val (.int p0), .val (.int p1), .val (.int p2), .val (.int p3), .val (.int p4), .val (.ref b29), .unset, .unset, .unset, .unset, .unset, .unset] [(.ref b29), (.ref b37), (.ref b37), (.ref b35), (.ref b35)])) _
  obtain ⟨_, _, ⟨T39, L39, k39, n39⟩, -, X39, ⟨Lc39, hQ39, l39, y39, z39⟩, st39⟩ := X37.specialBack hx (y := (⟨"java/lang/String", "<init>", "([C)V"⟩ : MethodName)) rfl hown (mvT hZ (ow hw 7)) (mvT hZ (ow hw 8)) (mvT hZ (ow hw 9)) (by decide) (StrChars.Road.backV (W := 3) hZ (own_wI hw) (kI := 4) (ow hw 5) (cs := ([(nar .char ((p2 &&& (255 : Int32)).toUInt32.toUInt16.toUInt32.toInt32)), (nar .char ((p3 &&& (255 : Int32)).toUInt32.toUInt16.toUInt32.toInt32))] : List Int32)) (bs := (([(nar .char ((p2 &&& (255 : Int32)).toUInt32.toUInt16.toUInt32.toInt32)), (nar .char ((p3 &&& (255 : Int32)).toUInt32.toUInt16.toUInt32.toInt32))] : List Int32)).map (fun c => c.toInt8.toInt32)) (n := 2) g_b37 (own_osz O) E_b37 F_b37_String_value F_b37_String_coder V_b29 (S_String_COMPACT_STRINGS.ext O.2) hz rfl rfl (by decide) (by decide) (own_hp _ _) rfl (by decide) (by decide)) (g := (mkF m 35 #[.val (.int p0), .val (.int p1), .val (.int p2), .val (.int p3), .val (.int p4), .val (.ref b29), .unset, .unset, .unset, .unset, .unset, .unset] [(.ref b29), (.ref b37), (.ref b37), (.ref b35), (.ref b35)])) rfl (by rw [hml]; rfl) (Steps.refl _) (a := b37) (argsL := [(.ref b29)]) (rest := [(.ref b37), (.ref b35), (.ref b35)]) (lenOf pd_1 rfl) rfl (by show 2 * 0 + _ ≤ _; exact Nat.le_of_eq rfl) (hb hby at_35) (fun _ _ => ⟨rfl, e37, (by decide : 3 + 1 ≤ _), (by decide : 7 + 2 ≤ _)⟩)
  dsimp only [Pt.U, Pt.locs, Pt.cells, Pt.slots] at X39 l39 y39 z39 st39 hQ39
  subst l39 y39 z39
  refine own_go (fun _ k => st39.trans k) ?_
  obtain ⟨rfl, N39q, Kq39, P39_0, P39_1, b40, kb39, g_b40, P39_2, P39_3, P39_4, P39_5⟩ := hQ39
  have N39 := Fr.app N33 N39q
  have ne_b29_b40 : b29 ≠ b40 := Nat.ne_of_lt (Nat.lt_of_lt_of_le V_b29.lt P39_2)
  have ne_b35_b40 : b35 ≠ b40 := Nat.ne_of_lt (Nat.lt_of_lt_of_le E_b35.lt P39_2)
  have ne_b37_b40 : b37 ≠ b40 := Nat.ne_of_lt (Nat.lt_of_lt_of_le E_b37.lt P39_2)
  have sz_b40 : h0.size ≤ b40 := Nat.le_trans K38.1 P39_2
  have V_b29 := V_b29.keep Kq39 (ninS ne_b29_b37 nin0)
  have E_b35 := E_b35.keep Kq39
  have F_b35_Atom_name := F_b35_Atom_name.keep Kq39 (ninS ne_b35_b37 nin0)
  have E_b37 := E_b37.keep Kq39
  clear F_b37_String_coder
  clear F_b37_String_value
  have O := O.keep Kq39 (allS g_b37 all0)
  have K41 := K38.trans Kq39 (allS (Or.inr sz_b37) all0)
  have E_b37 := P39_0
  have F_b37_String_coder := P39_1
  have F_b37_String_value := P39_4
  have V_b40 := P39_5
  show own_Fin p e below (T39.setTop (mkF m 38 #[.val (.int p0), .val (.int p1), .val (.int p2), .val (.int p3), .val (.int p4), .val (.ref b29), .unset, .unset, .unset, .unset, .unset, .unset] [(.ref b37), (.ref b35), (.ref b35)])) _
  obtain ⟨_, _, ⟨T42, L42, k42, n42⟩, -, X42, ⟨Lc42, hQ42, l42, y42, z42⟩, st42⟩ := X39.specialBack hx (y := (⟨"com/example/horn1/horn1/term/Atom", "<init>", "(Ljava/lang/String;)V"⟩ : MethodName)) rfl hown (mvT hZ (ow hw 33)) (mvT hZ (ow hw 34)) (mvT hZ (ow hw 35)) (by decide) (backOf (W := 1) (rm7 l Z a0 hw [] b35 b37 (T39.heap) n0 O E_b35 F_b35_Atom_name g_b35) hZ (ow hw 35) (ow hw 3) (by decide) (by decide)) (g := (mkF m 38 #[.val (.int p0), .val (.int p1), .val (.int p2), .val (.int p3), .val (.int p4), .val (.ref b29), .unset, .unset, .unset, .unset, .unset, .unset] [(.ref b37), (.ref b35), (.ref b35)])) rfl (by rw [hml]; rfl) (Steps.refl _) (a := b35) (argsL := [(.ref b37)]) (rest := [(.ref b35)]) (lenOf pd_2 rfl) rfl (by show 2 * 0 + _ ≤ _; exact Nat.le_of_eq rfl) (hb hby at_38) (fun _ _ => ⟨rfl, rfl, (by decide : 4 + 0 ≤ _), (by decide : 9 + 0 ≤ _)⟩)
  dsimp only [Pt.U, Pt.locs, Pt.cells, Pt.slots] at X42 l42 y42 z42 st42 hQ42
  subst l42 y42 z42
  obtain ⟨rfl, N42q, Kq42, P42_0⟩ := hQ42
  refine own_go (fun _ k => st42.trans k) ?_
  have N42 := Fr.app N39 N42q
  have V_b29 := V_b29.keep Kq42 (ninS ne_b29_b35 nin0)
  have E_b35 := E_b35.keep Kq42
  clear F_b35_Atom_name
  have E_b37 := E_b37.keep Kq42
  have F_b37_String_coder := F_b37_String_coder.keep Kq42 (ninS (Ne.symm ne_b35_b37) nin0)
  have F_b37_String_value := F_b37_String_value.keep Kq42 (ninS (Ne.symm ne_b35_b37) nin0)
  have V_b40 := V_b40.keep Kq42 (ninS (Ne.symm ne_b35_b40) nin0)
  have O := O.keep Kq42 (allS g_b35 all0)
  have K43 := K41.trans Kq42 (allS (Or.inr sz_b35) all0)
  have E_b35 := P42_0
  show own_Fin p e below (T42.setTop (mkF m 41 #[.val (.int p0), .val (.int p1), .val (.int p2), .val (.int p3), .val (.int p4), .val (.ref b29), .unset, .unset, .unset, .unset, .unset, .unset] [(.ref b35)])) _
  refine own_go (fun _ k => XS.astore X42.here hx rfl (hb hby at_41) rfl rfl (l' := #[.val (.int p0), .val (.int p1), .val (.int p2), .val (.int p3), .val (.int p4), .val (.ref b29), .val (.ref b35), .unset, .unset, .unset, .unset, .unset]) rfl k) ?_
  show own_Fin p e below (T42.setTop (mkF m 43 #[.val (.int p0), .val (.int p1), .val (.int p2), .val (.int p3), .val (.int p4), .val (.ref b29), .val (.ref b35), .unset, .unset, .unset, .unset, .unset] [])) _
  obtain ⟨T44, h44, X44, e44, E44, A44, D44, -, st44⟩ := newO X42 hx hZ hown (ow hw 44) (ow hw 45) (ow hw 46) rfl (g := (mkF m 43 #[.val (.int p0), .val (.int p1), .val (.int p2), .val (.int p3), .val (.int p4), .val (.ref b29), .val (.ref b35), .unset, .unset, .unset, .unset, .unset] [])) rfl (hb hby at_43) (by decide) (by decide)
  obtain ⟨b44, g44⟩ : ∃ z, z = T42.heap.size := ⟨_, rfl⟩
  rw [← g44] at A44 D44 st44
  refine own_go (fun _ k => st44 _ k) ?_
  have ne_b29_b44 : b29 ≠ b44 := Nat.ne_of_lt (Nat.lt_of_lt_of_le V_b29.lt (Nat.le_of_eq g44.symm))
  have ne_b35_b44 : b35 ≠ b44 := Nat.ne_of_lt (Nat.lt_of_lt_of_le E_b35.lt (Nat.le_of_eq g44.symm))
  have ne_b37_b44 : b37 ≠ b44 := Nat.ne_of_lt (Nat.lt_of_lt_of_le E_b37.lt (Nat.le_of_eq g44.symm))
  have ne_b40_b44 : b40 ≠ b44 := Nat.ne_of_lt (Nat.lt_of_lt_of_le V_b40.lt (Nat.le_of_eq g44.symm))
  have g_b44 : n0 ≤ b44 := Nat.le_trans (own_osz O) (Nat.le_of_eq g44.symm)
  have sz_b44 : h0.size ≤ b44 := Nat.le_trans K43.1 (Nat.le_of_eq g44.symm)
  have V_b29 := V_b29.ext E44
  have E_b35 := E_b35.ext E44
  have E_b37 := E_b37.ext E44
  have F_b37_String_coder := F_b37_String_coder.ext E44
  have F_b37_String_value := F_b37_String_value.ext E44
  have V_b40 := V_b40.ext E44
  have O := O.ext E44
  have K45 := K43.ext E44
  have E_b44 := A44
  have F_b44_Var_value : Fld Z h44 b44 "com/example/horn1/horn1/term/Var" "value" "Ljava/lang/Object;" .null := D44 (Or.inl (ow hw 61)) (ty := (.object "java/lang/Object")) (by decide)
  show own_Fin p e below (T44.setTop (mkF m 46 #[.val (.int p0), .val (.int p1), .val (.int p2), .val (.int p3), .val (.int p4), .val (.ref b29), .val (.ref b35), .unset, .unset, .unset, .unset, .unset] [(.ref b44)])) _
  refine own_go (fun _ k => XS.dup X44.here hx rfl (hb hby at_46) rfl rfl k) ?_
  show own_Fin p e below (T44.setTop (mkF m 47 #[.val (.int p0), .val (.int p1), .val (.int p2), .val (.int p3), .val (.int p4), .val (.ref b29), .val (.ref b35), .unset, .unset, .unset, .unset, .unset] [(.ref b44), (.ref b44)])) _
  obtain ⟨_, _, ⟨T46, L46, k46, n46⟩, -, X46, ⟨Lc46, hQ46, l46, y46, z46⟩, st46⟩ := X44.specialBack hx (y := (⟨"com/example/horn1/horn1/term/Var", "<init>", "()V"⟩ : MethodName)) rfl hown (mvT hZ (ow hw 47)) (mvT hZ (ow hw 48)) (mvT hZ (ow hw 49)) (by decide) (backOf (W := 1) (rm9 l Z a0 hw [] b44 h44 n0 ) hZ (ow hw 49) (ow hw 46) (by decide) (by decide)) (g := (mkF m 47 #[.val (.int p0), .val (.int p1), .val (.int p2), .val (.int p3), .val (.int p4), .val (.ref b29), .val (.ref b35), .unset, .unset, .unset, .unset, .unset] [(.ref b44), (.ref b44)])) rfl (by rw [hml]; rfl) (Steps.refl _) (a := b44) (argsL := []) (rest := [(.ref b44)]) (lenOf pd_0 rfl) rfl (by show 2 * 0 + _ ≤ _; exact Nat.le_of_eq rfl) (hb hby at_47) (fun _ _ => ⟨rfl, e44, (by decide : 5 + 0 ≤ _), (by decide : 10 + 0 ≤ _)⟩)
  dsimp only [Pt.U, Pt.locs, Pt.cells, Pt.slots] at X46 l46 y46 z46 st46 hQ46
  subst l46 y46 z46
  obtain ⟨rfl, N46q, e46⟩ := hQ46
  refine own_go (fun _ k => st46.trans k) ?_
  have N46 := Fr.app N42 N46q
  show own_Fin p e below (T46.setTop (mkF m 50 #[.val (.int p0), .val (.int p1), .val (.int p2), .val (.int p3), .val (.int p4), .val (.ref b29), .val (.ref b35), .unset, .unset, .unset, .unset, .unset] [(.ref b44)])) _
  refine own_go (fun _ k => XS.astore X46.here hx rfl (hb hby at_50) rfl rfl (l' := #[.val (.int p0), .val (.int p1), .val (.int p2), .val (.int p3), .val (.int p4), .val (.ref b29), .val (.ref b35), .val (.ref b44), .unset, .unset, .unset, .unset]) rfl k) ?_
  show own_Fin p e below (T46.setTop (mkF m 52 #[.val (.int p0), .val (.int p1), .val (.int p2), .val (.int p3), .val (.int p4), .val (.ref b29), .val (.ref b35), .val (.ref b44), .unset, .unset, .unset, .unset] [])) _
  obtain ⟨T47, h47, X47, e47, E47, A47, D47, -, st47⟩ := newO X46 hx hZ hown (ow hw 44) (ow hw 45) (ow hw 46) e46 (g := (mkF m 52 #[.val (.int p0), .val (.int p1), .val (.int p2), .val (.int p3), .val (.int p4), .val (.ref b29), .val (.ref b35), .val (.ref b44), .unset, .unset, .unset, .unset] [])) rfl (hb hby at_52) (by decide) (by decide)
  obtain ⟨b47, g47⟩ : ∃ z, z = h44.size := ⟨_, rfl⟩
  rw [← g47] at A47 D47 st47
  refine own_go (fun _ k => st47 _ k) ?_
  have ne_b29_b47 : b29 ≠ b47 := Nat.ne_of_lt (Nat.lt_of_lt_of_le V_b29.lt (Nat.le_of_eq g47.symm))
  have ne_b35_b47 : b35 ≠ b47 := Nat.ne_of_lt (Nat.lt_of_lt_of_le E_b35.lt (Nat.le_of_eq g47.symm))
  have ne_b37_b47 : b37 ≠ b47 := Nat.ne_of_lt (Nat.lt_of_lt_of_le E_b37.lt (Nat.le_of_eq g47.symm))
  have ne_b40_b47 : b40 ≠ b47 := Nat.ne_of_lt (Nat.lt_of_lt_of_le V_b40.lt (Nat.le_of_eq g47.symm))
  have ne_b44_b47 : b44 ≠ b47 := Nat.ne_of_lt (Nat.lt_of_lt_of_le E_b44.lt (Nat.le_of_eq g47.symm))
  have g_b47 : n0 ≤ b47 := Nat.le_trans (own_osz O) (Nat.le_of_eq g47.symm)
  have sz_b47 : h0.size ≤ b47 := Nat.le_trans K45.1 (Nat.le_of_eq g47.symm)
  have V_b29 := V_b29.ext E47
  have E_b35 := E_b35.ext E47
  have E_b37 := E_b37.ext E47
  have F_b37_String_coder := F_b37_String_coder.ext E47
  have F_b37_String_value := F_b37_String_value.ext E47
  have V_b40 := V_b40.ext E47
  have E_b44 := E_b44.ext E47
  have F_b44_Var_value := F_b44_Var_value.ext E47
  have O := O.ext E47
  have K48 := K45.ext E47
  have E_b47 := A47
  have F_b47_Var_value : Fld Z h47 b47 "com/example/horn1/horn1/term/Var" "value" "Ljava/lang/Object;" .null := D47 (Or.inl (ow hw 61)) (ty := (.object "java/lang/Object")) (by decide)
  show own_Fin p e below (T47.setTop (mkF m 55 #[.val (.int p0), .val (.int p1), .val (.int p2), .val (.int p3), .val (.int p4), .val (.ref b29), .val (.ref b35), .val (.ref b44), .unset, .unset, .unset, .unset] [(.ref b47)])) _
  refine own_go (fun _ k => XS.dup X47.here hx rfl (hb hby at_55) rfl rfl k) ?_
  show own_Fin p e below (T47.setTop (mkF m 56 #[.val (.int p0), .val (.int p1), .val (.int p2), .val (.int p3), .val (.int p4), .val (.ref b29), .val (.ref b35), .val (.ref b44), .unset, .unset, .unset, .unset] [(.ref b47), (.ref b47)])) _
  obtain ⟨_, _, ⟨T49, L49, k49, n49⟩, -, X49, ⟨Lc49, hQ49, l49, y49, z49⟩, st49⟩ := X47.specialBack hx (y := (⟨"com/example/horn1/horn1/term/Var", "<init>", "()V"⟩ : MethodName)) rfl hown (mvT hZ (ow hw 47)) (mvT hZ (ow hw 48)) (mvT hZ (ow hw 49)) (by decide) (backOf (W := 1) (rm9 l Z a0 hw [] b47 h47 n0 ) hZ (ow hw 49) (ow hw 46) (by decide) (by decide)) (g := (mkF m 56 #[.val (.int p0), .val (.int p1), .val (.int p2), .val (.int p3), .val (.int p4), .val (.ref b29), .val (.ref b35), .val (.ref b44), .unset, .unset, .unset, .unset] [(.ref b47), (.ref b47)])) rfl (by rw [hml]; rfl) (Steps.refl _) (a := b47) (argsL := []) (rest := [(.ref b47)]) (lenOf pd_0 rfl) rfl (by show 2 * 0 + _ ≤ _; exact Nat.le_of_eq rfl) (hb hby at_56) (fun _ _ => ⟨rfl, e47, (by decide : 6 + 0 ≤ _), (by decide : 11 + 0 ≤ _)⟩)
  dsimp only [Pt.U, Pt.locs, Pt.cells, Pt.slots] at X49 l49 y49 z49 st49 hQ49
  subst l49 y49 z49
  obtain ⟨rfl, N49q, e49⟩ := hQ49
  refine own_go (fun _ k => st49.trans k) ?_
  have N49 := Fr.app N46 N49q
  show own_Fin p e below (T49.setTop (mkF m 59 #[.val (.int p0), .val (.int p1), .val (.int p2), .val (.int p3), .val (.int p4), .val (.ref b29), .val (.ref b35), .val (.ref b44), .unset, .unset, .unset, .unset] [(.ref b47)])) _
  refine own_go (fun _ k => XS.astore X49.here hx rfl (hb hby at_59) rfl rfl (l' := #[.val (.int p0), .val (.int p1), .val (.int p2), .val (.int p3), .val (.int p4), .val (.ref b29), .val (.ref b35), .val (.ref b44), .val (.ref b47), .unset, .unset, .unset]) rfl (XS.iloadN X49.here hx rfl (hb hby at_61) rfl (XS.aload X49.here hx rfl (hb hby at_62) rfl rfl (XS.aload X49.here hx rfl (hb hby at_64) rfl rfl (XS.aload X49.here hx rfl (hb hby at_66) rfl rfl k))))) ?_
  show own_Fin p e below (T49.setTop (mkF m 68 #[.val (.int p0), .val (.int p1), .val (.int p2), .val (.int p3), .val (.int p4), .val (.ref b29), .val (.ref b35), .val (.ref b44), .val (.ref b47), .unset, .unset, .unset] [(.ref b44), (.ref b47), (.ref b35), (.int p0)])) _
  obtain ⟨_, _, ⟨T50, L50, k50, n50⟩, -, X50, ⟨Lc50, hQ50, l50, y50, z50⟩, st50⟩ := Jvm.LawKit.callS X49 hx (y := (⟨"com/example/horn1/horn1/term/VarValuePinLaw", "pick", "(ILcom/example/horn1/horn1/term/Atom;Lcom/example/horn1/horn1/term/Var;Lcom/example/horn1/horn1/term/Var;)Lcom/example/horn1/horn1/term/Term;"⟩ : MethodName)) hown (mvT hZ (ow hw 51)) (mvT hZ (ow hw 52)) (mvT hZ (ow hw 53)) (mvT hZ (ow hw 54)) (by decide) (backOf (W := 0) (rm10 l Z a0 hw [] p0 b35 b47 b44 h47 n0 ) hZ (ow hw 54) (ow hw 53) (by decide) (by decide)) (g := (mkF m 68 #[.val (.int p0), .val (.int p1), .val (.int p2), .val (.int p3), .val (.int p4), .val (.ref b29), .val (.ref b35), .val (.ref b44), .val (.ref b47), .unset, .unset, .unset] [(.ref b44), (.ref b47), (.ref b35), (.int p0)])) rfl (by rw [hml]; rfl) (argsL := [(.int p0), (.ref b35), (.ref b47), (.ref b44)]) (rest := []) (lenOf pd_3 rfl) rfl (by show 2 * 0 + _ ≤ _; exact Nat.le_of_eq rfl) (hb hby at_68) (fun _ _ => ⟨rfl, e49, (by decide : 6 + 0 ≤ _), (by decide : 11 + 0 ≤ _)⟩)
  dsimp only [Pt.U, Pt.locs, Pt.cells, Pt.slots] at X50 l50 y50 z50 st50 hQ50
  subst l50 y50 z50
  obtain ⟨rfl, N50q, e50⟩ := hQ50
  refine own_go (fun _ k => st50 _ k) ?_
  have N50 := Fr.app N49 N50q
  show own_Fin p e below (T50.setTop (mkF m 71 #[.val (.int p0), .val (.int p1), .val (.int p2), .val (.int p3), .val (.int p4), .val (.ref b29), .val (.ref b35), .val (.ref b44), .val (.ref b47), .unset, .unset, .unset] [(own_pick p0 b35 b47 b44)])) _
  have hr51 := own_pickR p0 b35 b47 b44
  show own_Fin p e below (T50.setTop (mkF m 71 #[.val (.int p0), .val (.int p1), .val (.int p2), .val (.int p3), .val (.int p4), .val (.ref b29), .val (.ref b35), .val (.ref b44), .val (.ref b47), .unset, .unset, .unset] [(own_pick p0 b35 b47 b44)])) _
  refine own_go (fun _ k => XS.astore X50.here hx rfl (hb hby at_71) rfl hr51 (l' := #[.val (.int p0), .val (.int p1), .val (.int p2), .val (.int p3), .val (.int p4), .val (.ref b29), .val (.ref b35), .val (.ref b44), .val (.ref b47), .val (own_pick p0 b35 b47 b44), .unset, .unset]) (own_st1 rfl hr51 rfl) (XS.iloadN X50.here hx rfl (hb hby at_73) rfl (XS.aload X50.here hx rfl (hb hby at_74) rfl rfl (XS.aload X50.here hx rfl (hb hby at_76) rfl rfl (XS.aload X50.here hx rfl (hb hby at_78) rfl rfl k))))) ?_
  show own_Fin p e below (T50.setTop (mkF m 80 #[.val (.int p0), .val (.int p1), .val (.int p2), .val (.int p3), .val (.int p4), .val (.ref b29), .val (.ref b35), .val (.ref b44), .val (.ref b47), .val (own_pick p0 b35 b47 b44), .unset, .unset] [(.ref b44), (.ref b47), (.ref b35), (.int p1)])) _
  obtain ⟨_, _, ⟨T52, L52, k52, n52⟩, -, X52, ⟨Lc52, hQ52, l52, y52, z52⟩, st52⟩ := Jvm.LawKit.callS X50 hx (y := (⟨"com/example/horn1/horn1/term/VarValuePinLaw", "pick", "(ILcom/example/horn1/horn1/term/Atom;Lcom/example/horn1/horn1/term/Var;Lcom/example/horn1/horn1/term/Var;)Lcom/example/horn1/horn1/term/Term;"⟩ : MethodName)) hown (mvT hZ (ow hw 51)) (mvT hZ (ow hw 52)) (mvT hZ (ow hw 53)) (mvT hZ (ow hw 54)) (by decide) (backOf (W := 0) (rm10 l Z a0 hw [] p1 b35 b47 b44 h47 n0 ) hZ (ow hw 54) (ow hw 53) (by decide) (by decide)) (g := (mkF m 80 #[.val (.int p0), .val (.int p1), .val (.int p2), .val (.int p3), .val (.int p4), .val (.ref b29), .val (.ref b35), .val (.ref b44), .val (.ref b47), .val (own_pick p0 b35 b47 b44), .unset, .unset] [(.ref b44), (.ref b47), (.ref b35), (.int p1)])) rfl (by rw [hml]; rfl) (argsL := [(.int p1), (.ref b35), (.ref b47), (.ref b44)]) (rest := []) (lenOf pd_3 rfl) rfl (by show 2 * 0 + _ ≤ _; exact Nat.le_of_eq rfl) (hb hby at_80) (fun _ _ => ⟨rfl, e50, (by decide : 6 + 0 ≤ _), (by decide : 11 + 0 ≤ _)⟩)
  dsimp only [Pt.U, Pt.locs, Pt.cells, Pt.slots] at X52 l52 y52 z52 st52 hQ52
  subst l52 y52 z52
  obtain ⟨rfl, N52q, e52⟩ := hQ52
  refine own_go (fun _ k => st52 _ k) ?_
  have N52 := Fr.app N50 N52q
  show own_Fin p e below (T52.setTop (mkF m 83 #[.val (.int p0), .val (.int p1), .val (.int p2), .val (.int p3), .val (.int p4), .val (.ref b29), .val (.ref b35), .val (.ref b44), .val (.ref b47), .val (own_pick p0 b35 b47 b44), .unset, .unset] [(own_pick p1 b35 b47 b44)])) _
  have hr53 := own_pickR p1 b35 b47 b44
  show own_Fin p e below (T52.setTop (mkF m 83 #[.val (.int p0), .val (.int p1), .val (.int p2), .val (.int p3), .val (.int p4), .val (.ref b29), .val (.ref b35), .val (.ref b44), .val (.ref b47), .val (own_pick p0 b35 b47 b44), .unset, .unset] [(own_pick p1 b35 b47 b44)])) _
  refine own_go (fun _ k => XS.astore X52.here hx rfl (hb hby at_83) rfl hr53 (l' := #[.val (.int p0), .val (.int p1), .val (.int p2), .val (.int p3), .val (.int p4), .val (.ref b29), .val (.ref b35), .val (.ref b44), .val (.ref b47), .val (own_pick p0 b35 b47 b44), .val (own_pick p1 b35 b47 b44), .unset]) (own_st1 rfl hr53 rfl) (XS.aload X52.here hx rfl (hb hby at_85) rfl rfl k)) ?_
  show own_Fin p e below (T52.setTop (mkF m 87 #[.val (.int p0), .val (.int p1), .val (.int p2), .val (.int p3), .val (.int p4), .val (.ref b29), .val (.ref b35), .val (.ref b44), .val (.ref b47), .val (own_pick p0 b35 b47 b44), .val (own_pick p1 b35 b47 b44), .unset] [(.ref b44)])) _
  obtain ⟨cq54, kq54, q54a, q54b, q54c⟩ := isOf hZ e52 E_b44
  obtain ⟨_, _, ⟨T54, L54, k54, n54⟩, -, X54, ⟨Lc54, hQ54, l54, y54, z54⟩, st54⟩ := X52.virtualBack hx (y := (⟨"com/example/horn1/horn1/term/Var", "value", "()Lcom/example/horn1/horn1/term/Term;"⟩ : MethodName)) (z := (⟨"com/example/horn1/horn1/term/Var", "value", "()Lcom/example/horn1/horn1/term/Term;"⟩ : MethodName)) hown (mvT hZ (ow hw 55)) (mvT hZ (ow hw 56)) (notFace_of_selects (args := #[]) (mvT hZ (ow hw 58))) (mvT hZ (ow hw 58)) (mvT hZ (ow hw 57)) (by decide) (backOf (W := 0) (rmVN l Z a0 hw [] b44 h47 n0 O F_b44_Var_value) hZ (ow hw 59) (ow hw 46) (by decide) (by decide)) q54a q54c (g := (mkF m 87 #[.val (.int p0), .val (.int p1), .val (.int p2), .val (.int p3), .val (.int p4), .val (.ref b29), .val (.ref b35), .val (.ref b44), .val (.ref b47), .val (own_pick p0 b35 b47 b44), .val (own_pick p1 b35 b47 b44), .unset] [(.ref b44)])) rfl (by rw [hml]; rfl) (Steps.refl _) (argsL := []) (rest := []) (lenOf pd_4 rfl) rfl (by show 2 * 0 + _ ≤ _; exact Nat.le_of_eq rfl) (hb hby at_87) (fun _ _ => ⟨rfl, e52, (by decide : 6 + 0 ≤ _), (by decide : 11 + 0 ≤ _)⟩)
  dsimp only [Pt.U, Pt.locs, Pt.cells, Pt.slots] at X54 l54 y54 z54 st54 hQ54
  subst l54 y54 z54
  obtain ⟨rfl, N54q, e54⟩ := hQ54
  refine own_go (fun _ k => st54.trans k) ?_
  have N54 := Fr.app N52 N54q
  show own_Fin p e below (T54.setTop (mkF m 90 #[.val (.int p0), .val (.int p1), .val (.int p2), .val (.int p3), .val (.int p4), .val (.ref b29), .val (.ref b35), .val (.ref b44), .val (.ref b47), .val (own_pick p0 b35 b47 b44), .val (own_pick p1 b35 b47 b44), .unset] [.null])) _
  refine own_go (fun _ k => XS.ifnonnullNo X54.here hx rfl (hb hby at_90) rfl (XS.iconst X54.here hx rfl (hb hby at_93) (XS.goto X54.here hx rfl (pc0 := 94) (pc' := 98) rfl (hb hby at_94) (by decide) (by decide) (XS.istore X54.here hx rfl (hb hby at_98) rfl (l' := #[.val (.int p0), .val (.int p1), .val (.int p2), .val (.int p3), .val (.int p4), .val (.ref b29), .val (.ref b35), .val (.ref b44), .val (.ref b47), .val (own_pick p0 b35 b47 b44), .val (own_pick p1 b35 b47 b44), .val (.int 1)]) rfl (XS.aload X54.here hx rfl (hb hby at_100) rfl rfl (XS.aload X54.here hx rfl (hb hby at_102) rfl hr51 k)))))) ?_
  show own_Fin p e below (T54.setTop (mkF m 104 #[.val (.int p0), .val (.int p1), .val (.int p2), .val (.int p3), .val (.int p4), .val (.ref b29), .val (.ref b35), .val (.ref b44), .val (.ref b47), .val (own_pick p0 b35 b47 b44), .val (own_pick p1 b35 b47 b44), .val (.int 1)] [(own_pick p0 b35 b47 b44), (.ref b44)])) _
  obtain ⟨cq55, kq55, q55a, q55b, q55c⟩ := isOf hZ e54 E_b44
  obtain ⟨_, _, ⟨T55, L55, k55, n55⟩, -, X55, ⟨Lc55, hQ55, l55, y55, z55⟩, st55⟩ := X54.virtualBack hx (y := (⟨"com/example/horn1/horn1/term/Var", "bind", "(Lcom/example/horn1/horn1/term/Term;)V"⟩ : MethodName)) (z := (⟨"com/example/horn1/horn1/term/Var", "bind", "(Lcom/example/horn1/horn1/term/Term;)V"⟩ : MethodName)) hown (mvT hZ (ow hw 62)) (mvT hZ (ow hw 63)) (notFace_of_selects (args := #[]) (mvT hZ (ow hw 65))) (mvT hZ (ow hw 65)) (mvT hZ (ow hw 64)) (by decide) (backOf (W := 0) (rm12 l Z a0 hw [] b44 (own_pick p0 b35 b47 b44) (.null) h47 n0 O E_b44 F_b44_Var_value g_b44 hr51) hZ (ow hw 66) (ow hw 46) (by decide) (by decide)) q55a q55c (g := (mkF m 104 #[.val (.int p0), .val (.int p1), .val (.int p2), .val (.int p3), .val (.int p4), .val (.ref b29), .val (.ref b35), .val (.ref b44), .val (.ref b47), .val (own_pick p0 b35 b47 b44), .val (own_pick p1 b35 b47 b44), .val (.int 1)] [(own_pick p0 b35 b47 b44), (.ref b44)])) rfl (by rw [hml]; rfl) (Steps.refl _) (argsL := [(own_pick p0 b35 b47 b44)]) (rest := []) (lenOf pd_5 rfl) rfl (by show 2 * 0 + _ ≤ _; exact Nat.le_of_eq rfl) (hb hby at_104) (fun _ _ => ⟨rfl, e54, (by decide : 6 + 0 ≤ _), (by decide : 11 + 0 ≤ _)⟩)
  dsimp only [Pt.U, Pt.locs, Pt.cells, Pt.slots] at X55 l55 y55 z55 st55 hQ55
  subst l55 y55 z55
  obtain ⟨rfl, N55q, Kq55, P55_0, P55_1⟩ := hQ55
  refine own_go (fun _ k => st55.trans k) ?_
  have N55 := Fr.app N54 N55q
  have V_b29 := V_b29.keep Kq55 (ninS ne_b29_b44 nin0)
  have E_b35 := E_b35.keep Kq55
  have E_b37 := E_b37.keep Kq55
  have F_b37_String_coder := F_b37_String_coder.keep Kq55 (ninS ne_b37_b44 nin0)
  have F_b37_String_value := F_b37_String_value.keep Kq55 (ninS ne_b37_b44 nin0)
  have V_b40 := V_b40.keep Kq55 (ninS ne_b40_b44 nin0)
  have E_b44 := E_b44.keep Kq55
  clear F_b44_Var_value
  have E_b47 := E_b47.keep Kq55
  have F_b47_Var_value := F_b47_Var_value.keep Kq55 (ninS (Ne.symm ne_b44_b47) nin0)
  have O := O.keep Kq55 (allS g_b44 all0)
  have K56 := K48.trans Kq55 (allS (Or.inr sz_b44) all0)
  have E_b44 := P55_0
  have F_b44_Var_value := P55_1
  show own_Fin p e below (T55.setTop (mkF m 107 #[.val (.int p0), .val (.int p1), .val (.int p2), .val (.int p3), .val (.int p4), .val (.ref b29), .val (.ref b35), .val (.ref b44), .val (.ref b47), .val (own_pick p0 b35 b47 b44), .val (own_pick p1 b35 b47 b44), .val (.int 1)] [])) _
  refine own_go (fun _ k => XS.iload X55.here hx rfl (hb hby at_107) rfl (XS.ifNo X55.here hx rfl (hb hby at_109) rfl ((if0 _ _).trans (feq (by decide : ¬ ((1 : Int32) = (0 : Int32)))).1) (XS.aload X55.here hx rfl (hb hby at_112) rfl rfl k))) ?_
  show own_Fin p e below (T55.setTop (mkF m 114 #[.val (.int p0), .val (.int p1), .val (.int p2), .val (.int p3), .val (.int p4), .val (.ref b29), .val (.ref b35), .val (.ref b44), .val (.ref b47), .val (own_pick p0 b35 b47 b44), .val (own_pick p1 b35 b47 b44), .val (.int 1)] [(.ref b44)])) _
  obtain ⟨cq57, kq57, q57a, q57b, q57c⟩ := isOf hZ rfl E_b44
  obtain ⟨_, _, ⟨T57, L57, k57, n57⟩, -, X57, ⟨Lc57, hQ57, l57, y57, z57⟩, st57⟩ := X55.virtualBack hx (y := (⟨"com/example/horn1/horn1/term/Var", "value", "()Lcom/example/horn1/horn1/term/Term;"⟩ : MethodName)) (z := (⟨"com/example/horn1/horn1/term/Var", "value", "()Lcom/example/horn1/horn1/term/Term;"⟩ : MethodName)) hown (mvT hZ (ow hw 55)) (mvT hZ (ow hw 56)) (notFace_of_selects (args := #[]) (mvT hZ (ow hw 58))) (mvT hZ (ow hw 58)) (mvT hZ (ow hw 57)) (by decide) (backOf (W := 0) (rmVX l Z a0 hw [] b44 (own_pick p0 b35 b47 b44) (T55.heap) n0 O F_b44_Var_value (own_tm hw E_b35 E_b47 E_b44 _)) hZ (ow hw 59) (ow hw 46) (by decide) (by decide)) q57a q57c (g := (mkF m 114 #[.val (.int p0), .val (.int p1), .val (.int p2), .val (.int p3), .val (.int p4), .val (.ref b29), .val (.ref b35), .val (.ref b44), .val (.ref b47), .val (own_pick p0 b35 b47 b44), .val (own_pick p1 b35 b47 b44), .val (.int 1)] [(.ref b44)])) rfl (by rw [hml]; rfl) (Steps.refl _) (argsL := []) (rest := []) (lenOf pd_4 rfl) rfl (by show 2 * 0 + _ ≤ _; exact Nat.le_of_eq rfl) (hb hby at_114) (fun _ _ => ⟨rfl, rfl, (by decide : 6 + 0 ≤ _), (by decide : 11 + 0 ≤ _)⟩)
  dsimp only [Pt.U, Pt.locs, Pt.cells, Pt.slots] at X57 l57 y57 z57 st57 hQ57
  subst l57 y57 z57
  obtain ⟨rfl, N57q, e57⟩ := hQ57
  refine own_go (fun _ k => st57.trans k) ?_
  have N57 := Fr.app N55 N57q
  show own_Fin p e below (T57.setTop (mkF m 117 #[.val (.int p0), .val (.int p1), .val (.int p2), .val (.int p3), .val (.int p4), .val (.ref b29), .val (.ref b35), .val (.ref b44), .val (.ref b47), .val (own_pick p0 b35 b47 b44), .val (own_pick p1 b35 b47 b44), .val (.int 1)] [(own_pick p0 b35 b47 b44)])) _
  refine own_go (fun _ k => XS.aload X57.here hx rfl (hb hby at_117) rfl hr51 k) ?_
  show own_Fin p e below (T57.setTop (mkF m 119 #[.val (.int p0), .val (.int p1), .val (.int p2), .val (.int p3), .val (.int p4), .val (.ref b29), .val (.ref b35), .val (.ref b44), .val (.ref b47), .val (own_pick p0 b35 b47 b44), .val (own_pick p1 b35 b47 b44), .val (.int 1)] [(own_pick p0 b35 b47 b44), (own_pick p0 b35 b47 b44)])) _
  refine own_go (fun _ k => Jvm.RoadKit.acmp (g := (mkF m 119 #[.val (.int p0), .val (.int p1), .val (.int p2), .val (.int p3), .val (.int p4), .val (.ref b29), .val (.ref b35), .val (.ref b44), .val (.ref b47), .val (own_pick p0 b35 b47 b44), .val (own_pick p1 b35 b47 b44), .val (.int 1)] [(own_pick p0 b35 b47 b44), (own_pick p0 b35 b47 b44)])) X57 hx rfl hr51 hr51 (pc0 := 119) (pc' := 122) (same := true) rfl (hb hby at_119) rfl (decide_eq_true rfl) (by decide) (by decide) k) ?_
  show own_Fin p e below (T57.setTop (mkF m 122 #[.val (.int p0), .val (.int p1), .val (.int p2), .val (.int p3), .val (.int p4), .val (.ref b29), .val (.ref b35), .val (.ref b44), .val (.ref b47), .val (own_pick p0 b35 b47 b44), .val (own_pick p1 b35 b47 b44), .val (.int 1)] [])) _
  refine own_go (fun _ k => XS.iconst X57.here hx rfl (hb hby at_122) (XS.goto X57.here hx rfl (pc0 := 123) (pc' := 127) rfl (hb hby at_123) (by decide) (by decide) (XS.istore X57.here hx rfl (hb hby at_127) rfl (l' := #[.val (.int p0), .val (.int p1), .val (.int p2), .val (.int p3), .val (.int p4), .val (.ref b29), .val (.ref b35), .val (.ref b44), .val (.ref b47), .val (own_pick p0 b35 b47 b44), .val (own_pick p1 b35 b47 b44), .val (.int 1)]) rfl (XS.iload X57.here hx rfl (hb hby at_129) rfl (XS.iconst X57.here hx rfl (hb hby at_131) (XS.iand X57.here hx rfl (hb hby at_132) rfl k)))))) ?_
  show own_Fin p e below (T57.setTop (mkF m 133 #[.val (.int p0), .val (.int p1), .val (.int p2), .val (.int p3), .val (.int p4), .val (.ref b29), .val (.ref b35), .val (.ref b44), .val (.ref b47), .val (own_pick p0 b35 b47 b44), .val (own_pick p1 b35 b47 b44), .val (.int 1)] [(.int (p4 &&& (1 : Int32)))])) _
  by_cases hc133_58 : (p4 &&& (1 : Int32)) = (0 : Int32)
  ·refine own_go (fun _ k => XS.ifYes X57.here hx rfl (pc0 := 133) (pc' := 165) rfl (hb hby at_133) rfl ((if0 _ _).trans (teq hc133_58).1) (by decide) (by decide) (XS.iload X57.here hx rfl (hb hby at_165) rfl (XS.iconst X57.here hx rfl (hb hby at_167) (XS.iand X57.here hx rfl (hb hby at_168) rfl k)))) ?_
   show own_Fin p e below (T57.setTop (mkF m 169 #[.val (.int p0), .val (.int p1), .val (.int p2), .val (.int p3), .val (.int p4), .val (.ref b29), .val (.ref b35), .val (.ref b44), .val (.ref b47), .val (own_pick p0 b35 b47 b44), .val (own_pick p1 b35 b47 b44), .val (.int 1)] [(.int (p4 &&& (2 : Int32)))])) _
   by_cases hc169_59 : (p4 &&& (2 : Int32)) = (0 : Int32)
   ·refine own_go (fun _ k => XS.ifYes X57.here hx rfl (pc0 := 169) (pc' := 233) rfl (hb hby at_169) rfl ((if0 _ _).trans (teq hc169_59).1) (by decide) (by decide) (XS.iload X57.here hx rfl (hb hby at_233) rfl (XS.ifNo X57.here hx rfl (hb hby at_235) rfl ((if0 _ _).trans (feq (by decide : ¬ ((1 : Int32) = (0 : Int32)))).1) (XS.aload X57.here hx rfl (hb hby at_238) rfl rfl k)))) ?_
    show own_Fin p e below (T57.setTop (mkF m 240 #[.val (.int p0), .val (.int p1), .val (.int p2), .val (.int p3), .val (.int p4), .val (.ref b29), .val (.ref b35), .val (.ref b44), .val (.ref b47), .val (own_pick p0 b35 b47 b44), .val (own_pick p1 b35 b47 b44), .val (.int 1)] [(.ref b47)])) _
    obtain ⟨cq60, kq60, q60a, q60b, q60c⟩ := isOf hZ e57 E_b47
    obtain ⟨_, _, ⟨T60, L60, k60, n60⟩, -, X60, ⟨Lc60, hQ60, l60, y60, z60⟩, st60⟩ := X57.virtualBack hx (y := (⟨"com/example/horn1/horn1/term/Var", "value", "()Lcom/example/horn1/horn1/term/Term;"⟩ : MethodName)) (z := (⟨"com/example/horn1/horn1/term/Var", "value", "()Lcom/example/horn1/horn1/term/Term;"⟩ : MethodName)) hown (mvT hZ (ow hw 55)) (mvT hZ (ow hw 56)) (notFace_of_selects (args := #[]) (mvT hZ (ow hw 58))) (mvT hZ (ow hw 58)) (mvT hZ (ow hw 57)) (by decide) (backOf (W := 0) (rmVN l Z a0 hw [] b47 (T55.heap) n0 O F_b47_Var_value) hZ (ow hw 59) (ow hw 46) (by decide) (by decide)) q60a q60c (g := (mkF m 240 #[.val (.int p0), .val (.int p1), .val (.int p2), .val (.int p3), .val (.int p4), .val (.ref b29), .val (.ref b35), .val (.ref b44), .val (.ref b47), .val (own_pick p0 b35 b47 b44), .val (own_pick p1 b35 b47 b44), .val (.int 1)] [(.ref b47)])) rfl (by rw [hml]; rfl) (Steps.refl _) (argsL := []) (rest := []) (lenOf pd_4 rfl) rfl (by show 2 * 0 + _ ≤ _; exact Nat.le_of_eq rfl) (hb hby at_240) (fun _ _ => ⟨rfl, e57, (by decide : 6 + 0 ≤ _), (by decide : 11 + 0 ≤ _)⟩)
    dsimp only [Pt.U, Pt.locs, Pt.cells, Pt.slots] at X60 l60 y60 z60 st60 hQ60
    subst l60 y60 z60
    obtain ⟨rfl, N60q, e60⟩ := hQ60
    refine own_go (fun _ k => st60.trans k) ?_
    have N60 := Fr.app N57 N60q
    show own_Fin p e below (T60.setTop (mkF m 243 #[.val (.int p0), .val (.int p1), .val (.int p2), .val (.int p3), .val (.int p4), .val (.ref b29), .val (.ref b35), .val (.ref b44), .val (.ref b47), .val (own_pick p0 b35 b47 b44), .val (own_pick p1 b35 b47 b44), .val (.int 1)] [.null])) _
    refine own_go (fun _ k => XS.ifnonnullNo X60.here hx rfl (hb hby at_243) rfl (XS.iconst X60.here hx rfl (hb hby at_246) (XS.goto X60.here hx rfl (pc0 := 247) (pc' := 251) rfl (hb hby at_247) (by decide) (by decide) (XS.istore X60.here hx rfl (hb hby at_251) rfl (l' := #[.val (.int p0), .val (.int p1), .val (.int p2), .val (.int p3), .val (.int p4), .val (.ref b29), .val (.ref b35), .val (.ref b44), .val (.ref b47), .val (own_pick p0 b35 b47 b44), .val (own_pick p1 b35 b47 b44), .val (.int 1)]) rfl (XS.iload X60.here hx rfl (hb hby at_253) rfl k))))) ?_
    show own_Fin p e below (T60.setTop (mkF m 255 #[.val (.int p0), .val (.int p1), .val (.int p2), .val (.int p3), .val (.int p4), .val (.ref b29), .val (.ref b35), .val (.ref b44), .val (.ref b47), .val (own_pick p0 b35 b47 b44), .val (own_pick p1 b35 b47 b44), .val (.int 1)] [(.int 1)])) _
    obtain ⟨fs, hr, hrun, hended, hW, hsame⟩ := X60.leave (v := some (.int 1)) (fun h => by rw [Bd.returns] at h; cases h)
    refine ⟨_, _, ?_, hrun, hended, _, _, rfl, ?_, ⟨_, rfl⟩, hW, hsame.mono (by decide) (by decide)⟩
    ·exact retN X60 hx (t := .boolean) Bd.returns (by simp) (hb hby at_255) hr
    ·show Qrm0 Z p0 p1 p2 p3 p4 z h0 n0 _ T60.heap _
     rw [e60]
     exact ⟨rfl, N60, K56⟩
   ·refine own_go (fun _ k => XS.ifNo X57.here hx rfl (hb hby at_169) rfl ((if0 _ _).trans (feq hc169_59).1) (XS.aload X57.here hx rfl (hb hby at_172) rfl rfl k)) ?_
    show own_Fin p e below (T57.setTop (mkF m 174 #[.val (.int p0), .val (.int p1), .val (.int p2), .val (.int p3), .val (.int p4), .val (.ref b29), .val (.ref b35), .val (.ref b44), .val (.ref b47), .val (own_pick p0 b35 b47 b44), .val (own_pick p1 b35 b47 b44), .val (.int 1)] [(.ref b44)])) _
    obtain ⟨cq62, kq62, q62a, q62b, q62c⟩ := isOf hZ e57 E_b44
    obtain ⟨_, _, ⟨T62, L62, k62, n62⟩, -, X62, ⟨Lc62, hQ62, l62, y62, z62⟩, st62⟩ := X57.virtualBack hx (y := (⟨"com/example/horn1/horn1/term/Var", "unbind", "()V"⟩ : MethodName)) (z := (⟨"com/example/horn1/horn1/term/Var", "unbind", "()V"⟩ : MethodName)) hown (mvT hZ (ow hw 69)) (mvT hZ (ow hw 70)) (notFace_of_selects (args := #[]) (mvT hZ (ow hw 72))) (mvT hZ (ow hw 72)) (mvT hZ (ow hw 71)) (by decide) (backOf (W := 0) (rm13 l Z a0 hw [] b44 (own_pick p0 b35 b47 b44) (T55.heap) n0 O E_b44 F_b44_Var_value g_b44) hZ (ow hw 73) (ow hw 46) (by decide) (by decide)) q62a q62c (g := (mkF m 174 #[.val (.int p0), .val (.int p1), .val (.int p2), .val (.int p3), .val (.int p4), .val (.ref b29), .val (.ref b35), .val (.ref b44), .val (.ref b47), .val (own_pick p0 b35 b47 b44), .val (own_pick p1 b35 b47 b44), .val (.int 1)] [(.ref b44)])) rfl (by rw [hml]; rfl) (Steps.refl _) (argsL := []) (rest := []) (lenOf pd_0 rfl) rfl (by show 2 * 0 + _ ≤ _; exact Nat.le_of_eq rfl) (hb hby at_174) (fun _ _ => ⟨rfl, e57, (by decide : 6 + 0 ≤ _), (by decide : 11 + 0 ≤ _)⟩)
    dsimp only [Pt.U, Pt.locs, Pt.cells, Pt.slots] at X62 l62 y62 z62 st62 hQ62
    subst l62 y62 z62
    obtain ⟨rfl, N62q, Kq62, P62_0, P62_1⟩ := hQ62
    refine own_go (fun _ k => st62.trans k) ?_
    have N62 := Fr.app N57 N62q
    have V_b29 := V_b29.keep Kq62 (ninS ne_b29_b44 nin0)
    have E_b35 := E_b35.keep Kq62
    have E_b37 := E_b37.keep Kq62
    have F_b37_String_coder := F_b37_String_coder.keep Kq62 (ninS ne_b37_b44 nin0)
    have F_b37_String_value := F_b37_String_value.keep Kq62 (ninS ne_b37_b44 nin0)
    have V_b40 := V_b40.keep Kq62 (ninS ne_b40_b44 nin0)
    have E_b44 := E_b44.keep Kq62
    have E_b47 := E_b47.keep Kq62
    have F_b47_Var_value := F_b47_Var_value.keep Kq62 (ninS (Ne.symm ne_b44_b47) nin0)
    clear F_b44_Var_value
    have O := O.keep Kq62 (allS g_b44 all0)
    have K63 := K56.trans Kq62 (allS (Or.inr sz_b44) all0)
    have E_b44 := P62_0
    have F_b44_Var_value := P62_1
    show own_Fin p e below (T62.setTop (mkF m 177 #[.val (.int p0), .val (.int p1), .val (.int p2), .val (.int p3), .val (.int p4), .val (.ref b29), .val (.ref b35), .val (.ref b44), .val (.ref b47), .val (own_pick p0 b35 b47 b44), .val (own_pick p1 b35 b47 b44), .val (.int 1)] [])) _
    refine own_go (fun _ k => XS.iload X62.here hx rfl (hb hby at_177) rfl (XS.ifNo X62.here hx rfl (hb hby at_179) rfl ((if0 _ _).trans (feq (by decide : ¬ ((1 : Int32) = (0 : Int32)))).1) (XS.aload X62.here hx rfl (hb hby at_182) rfl rfl k))) ?_
    show own_Fin p e below (T62.setTop (mkF m 184 #[.val (.int p0), .val (.int p1), .val (.int p2), .val (.int p3), .val (.int p4), .val (.ref b29), .val (.ref b35), .val (.ref b44), .val (.ref b47), .val (own_pick p0 b35 b47 b44), .val (own_pick p1 b35 b47 b44), .val (.int 1)] [(.ref b44)])) _
    obtain ⟨cq64, kq64, q64a, q64b, q64c⟩ := isOf hZ rfl E_b44
    obtain ⟨_, _, ⟨T64, L64, k64, n64⟩, -, X64, ⟨Lc64, hQ64, l64, y64, z64⟩, st64⟩ := X62.virtualBack hx (y := (⟨"com/example/horn1/horn1/term/Var", "value", "()Lcom/example/horn1/horn1/term/Term;"⟩ : MethodName)) (z := (⟨"com/example/horn1/horn1/term/Var", "value", "()Lcom/example/horn1/horn1/term/Term;"⟩ : MethodName)) hown (mvT hZ (ow hw 55)) (mvT hZ (ow hw 56)) (notFace_of_selects (args := #[]) (mvT hZ (ow hw 58))) (mvT hZ (ow hw 58)) (mvT hZ (ow hw 57)) (by decide) (backOf (W := 0) (rmVN l Z a0 hw [] b44 (T62.heap) n0 O F_b44_Var_value) hZ (ow hw 59) (ow hw 46) (by decide) (by decide)) q64a q64c (g := (mkF m 184 #[.val (.int p0), .val (.int p1), .val (.int p2), .val (.int p3), .val (.int p4), .val (.ref b29), .val (.ref b35), .val (.ref b44), .val (.ref b47), .val (own_pick p0 b35 b47 b44), .val (own_pick p1 b35 b47 b44), .val (.int 1)] [(.ref b44)])) rfl (by rw [hml]; rfl) (Steps.refl _) (argsL := []) (rest := []) (lenOf pd_4 rfl) rfl (by show 2 * 0 + _ ≤ _; exact Nat.le_of_eq rfl) (hb hby at_184) (fun _ _ => ⟨rfl, rfl, (by decide : 6 + 0 ≤ _), (by decide : 11 + 0 ≤ _)⟩)
    dsimp only [Pt.U, Pt.locs, Pt.cells, Pt.slots] at X64 l64 y64 z64 st64 hQ64
    subst l64 y64 z64
    obtain ⟨rfl, N64q, e64⟩ := hQ64
    refine own_go (fun _ k => st64.trans k) ?_
    have N64 := Fr.app N62 N64q
    show own_Fin p e below (T64.setTop (mkF m 187 #[.val (.int p0), .val (.int p1), .val (.int p2), .val (.int p3), .val (.int p4), .val (.ref b29), .val (.ref b35), .val (.ref b44), .val (.ref b47), .val (own_pick p0 b35 b47 b44), .val (own_pick p1 b35 b47 b44), .val (.int 1)] [.null])) _
    refine own_go (fun _ k => XS.ifnonnullNo X64.here hx rfl (hb hby at_187) rfl (XS.iconst X64.here hx rfl (hb hby at_190) (XS.goto X64.here hx rfl (pc0 := 191) (pc' := 195) rfl (hb hby at_191) (by decide) (by decide) (XS.istore X64.here hx rfl (hb hby at_195) rfl (l' := #[.val (.int p0), .val (.int p1), .val (.int p2), .val (.int p3), .val (.int p4), .val (.ref b29), .val (.ref b35), .val (.ref b44), .val (.ref b47), .val (own_pick p0 b35 b47 b44), .val (own_pick p1 b35 b47 b44), .val (.int 1)]) rfl (XS.iload X64.here hx rfl (hb hby at_197) rfl (XS.iconst X64.here hx rfl (hb hby at_199) (XS.iand X64.here hx rfl (hb hby at_200) rfl k))))))) ?_
    show own_Fin p e below (T64.setTop (mkF m 201 #[.val (.int p0), .val (.int p1), .val (.int p2), .val (.int p3), .val (.int p4), .val (.ref b29), .val (.ref b35), .val (.ref b44), .val (.ref b47), .val (own_pick p0 b35 b47 b44), .val (own_pick p1 b35 b47 b44), .val (.int 1)] [(.int (p4 &&& (4 : Int32)))])) _
    by_cases hc201_65 : (p4 &&& (4 : Int32)) = (0 : Int32)
    ·refine own_go (fun _ k => XS.ifYes X64.here hx rfl (pc0 := 201) (pc' := 233) rfl (hb hby at_201) rfl ((if0 _ _).trans (teq hc201_65).1) (by decide) (by decide) (XS.iload X64.here hx rfl (hb hby at_233) rfl (XS.ifNo X64.here hx rfl (hb hby at_235) rfl ((if0 _ _).trans (feq (by decide : ¬ ((1 : Int32) = (0 : Int32)))).1) (XS.aload X64.here hx rfl (hb hby at_238) rfl rfl k)))) ?_
     show own_Fin p e below (T64.setTop (mkF m 240 #[.val (.int p0), .val (.int p1), .val (.int p2), .val (.int p3), .val (.int p4), .val (.ref b29), .val (.ref b35), .val (.ref b44), .val (.ref b47), .val (own_pick p0 b35 b47 b44), .val (own_pick p1 b35 b47 b44), .val (.int 1)] [(.ref b47)])) _
     obtain ⟨cq66, kq66, q66a, q66b, q66c⟩ := isOf hZ e64 E_b47
     obtain ⟨_, _, ⟨T66, L66, k66, n66⟩, -, X66, ⟨Lc66, hQ66, l66, y66, z66⟩, st66⟩ := X64.virtualBack hx (y := (⟨"com/example/horn1/horn1/term/Var", "value", "()Lcom/example/horn1/horn1/term/Term;"⟩ : MethodName)) (z := (⟨"com/example/horn1/horn1/term/Var", "value", "()Lcom/example/horn1/horn1/term/Term;"⟩ : MethodName)) hown (mvT hZ (ow hw 55)) (mvT hZ (ow hw 56)) (notFace_of_selects (args := #[]) (mvT hZ (ow hw 58))) (mvT hZ (ow hw 58)) (mvT hZ (ow hw 57)) (by decide) (backOf (W := 0) (rmVN l Z a0 hw [] b47 (T62.heap) n0 O F_b47_Var_value) hZ (ow hw 59) (ow hw 46) (by decide) (by decide)) q66a q66c (g := (mkF m 240 #[.val (.int p0), .val (.int p1), .val (.int p2), .val (.int p3), .val (.int p4), .val (.ref b29), .val (.ref b35), .val (.ref b44), .val (.ref b47), .val (own_pick p0 b35 b47 b44), .val (own_pick p1 b35 b47 b44), .val (.int 1)] [(.ref b47)])) rfl (by rw [hml]; rfl) (Steps.refl _) (argsL := []) (rest := []) (lenOf pd_4 rfl) rfl (by show 2 * 0 + _ ≤ _; exact Nat.le_of_eq rfl) (hb hby at_240) (fun _ _ => ⟨rfl, e64, (by decide : 6 + 0 ≤ _), (by decide : 11 + 0 ≤ _)⟩)
     dsimp only [Pt.U, Pt.locs, Pt.cells, Pt.slots] at X66 l66 y66 z66 st66 hQ66
     subst l66 y66 z66
     obtain ⟨rfl, N66q, e66⟩ := hQ66
     refine own_go (fun _ k => st66.trans k) ?_
     have N66 := Fr.app N64 N66q
     show own_Fin p e below (T66.setTop (mkF m 243 #[.val (.int p0), .val (.int p1), .val (.int p2), .val (.int p3), .val (.int p4), .val (.ref b29), .val (.ref b35), .val (.ref b44), .val (.ref b47), .val (own_pick p0 b35 b47 b44), .val (own_pick p1 b35 b47 b44), .val (.int 1)] [.null])) _
     refine own_go (fun _ k => XS.ifnonnullNo X66.here hx rfl (hb hby at_243) rfl (XS.iconst X66.here hx rfl (hb hby at_246) (XS.goto X66.here hx rfl (pc0 := 247) (pc' := 251) rfl (hb hby at_247) (by decide) (by decide) (XS.istore X66.here hx rfl (hb hby at_251) rfl (l' := #[.val (.int p0), .val (.int p1), .val (.int p2), .val (.int p3), .val (.int p4), .val (.ref b29), .val (.ref b35), .val (.ref b44), .val (.ref b47), .val (own_pick p0 b35 b47 b44), .val (own_pick p1 b35 b47 b44), .val (.int 1)]) rfl (XS.iload X66.here hx rfl (hb hby at_253) rfl k))))) ?_
     show own_Fin p e below (T66.setTop (mkF m 255 #[.val (.int p0), .val (.int p1), .val (.int p2), .val (.int p3), .val (.int p4), .val (.ref b29), .val (.ref b35), .val (.ref b44), .val (.ref b47), .val (own_pick p0 b35 b47 b44), .val (own_pick p1 b35 b47 b44), .val (.int 1)] [(.int 1)])) _
     obtain ⟨fs, hr, hrun, hended, hW, hsame⟩ := X66.leave (v := some (.int 1)) (fun h => by rw [Bd.returns] at h; cases h)
     refine ⟨_, _, ?_, hrun, hended, _, _, rfl, ?_, ⟨_, rfl⟩, hW, hsame.mono (by decide) (by decide)⟩
     ·exact retN X66 hx (t := .boolean) Bd.returns (by simp) (hb hby at_255) hr
     ·show Qrm0 Z p0 p1 p2 p3 p4 z h0 n0 _ T66.heap _
      rw [e66]
      exact ⟨rfl, N66, K63⟩
    ·refine own_go (fun _ k => XS.ifNo X64.here hx rfl (hb hby at_201) rfl ((if0 _ _).trans (feq hc201_65).1) (XS.aload X64.here hx rfl (hb hby at_204) rfl rfl (XS.aload X64.here hx rfl (hb hby at_206) rfl rfl k))) ?_
     show own_Fin p e below (T64.setTop (mkF m 208 #[.val (.int p0), .val (.int p1), .val (.int p2), .val (.int p3), .val (.int p4), .val (.ref b29), .val (.ref b35), .val (.ref b44), .val (.ref b47), .val (own_pick p0 b35 b47 b44), .val (own_pick p1 b35 b47 b44), .val (.int 1)] [(.ref b35), (.ref b44)])) _
     obtain ⟨cq68, kq68, q68a, q68b, q68c⟩ := isOf hZ e64 E_b44
     obtain ⟨_, _, ⟨T68, L68, k68, n68⟩, -, X68, ⟨Lc68, hQ68, l68, y68, z68⟩, st68⟩ := X64.virtualBack hx (y := (⟨"com/example/horn1/horn1/term/Var", "bind", "(Lcom/example/horn1/horn1/term/Term;)V"⟩ : MethodName)) (z := (⟨"com/example/horn1/horn1/term/Var", "bind", "(Lcom/example/horn1/horn1/term/Term;)V"⟩ : MethodName)) hown (mvT hZ (ow hw 62)) (mvT hZ (ow hw 63)) (notFace_of_selects (args := #[]) (mvT hZ (ow hw 65))) (mvT hZ (ow hw 65)) (mvT hZ (ow hw 64)) (by decide) (backOf (W := 0) (rm12 l Z a0 hw [] b44 (.ref b35) (.null) (T62.heap) n0 O E_b44 F_b44_Var_value g_b44 rfl) hZ (ow hw 66) (ow hw 46) (by decide) (by decide)) q68a q68c (g := (mkF m 208 #[.val (.int p0), .val (.int p1), .val (.int p2), .val (.int p3), .val (.int p4), .val (.ref b29), .val (.ref b35), .val (.ref b44), .val (.ref b47), .val (own_pick p0 b35 b47 b44), .val (own_pick p1 b35 b47 b44), .val (.int 1)] [(.ref b35), (.ref b44)])) rfl (by rw [hml]; rfl) (Steps.refl _) (argsL := [(.ref b35)]) (rest := []) (lenOf pd_5 rfl) rfl (by show 2 * 0 + _ ≤ _; exact Nat.le_of_eq rfl) (hb hby at_208) (fun _ _ => ⟨rfl, e64, (by decide : 6 + 0 ≤ _), (by decide : 11 + 0 ≤ _)⟩)
     dsimp only [Pt.U, Pt.locs, Pt.cells, Pt.slots] at X68 l68 y68 z68 st68 hQ68
     subst l68 y68 z68
     obtain ⟨rfl, N68q, Kq68, P68_0, P68_1⟩ := hQ68
     refine own_go (fun _ k => st68.trans k) ?_
     have N68 := Fr.app N64 N68q
     have V_b29 := V_b29.keep Kq68 (ninS ne_b29_b44 nin0)
     have E_b35 := E_b35.keep Kq68
     have E_b37 := E_b37.keep Kq68
     have F_b37_String_coder := F_b37_String_coder.keep Kq68 (ninS ne_b37_b44 nin0)
     have F_b37_String_value := F_b37_String_value.keep Kq68 (ninS ne_b37_b44 nin0)
     have V_b40 := V_b40.keep Kq68 (ninS ne_b40_b44 nin0)
     have E_b44 := E_b44.keep Kq68
     have E_b47 := E_b47.keep Kq68
     have F_b47_Var_value := F_b47_Var_value.keep Kq68 (ninS (Ne.symm ne_b44_b47) nin0)
     clear F_b44_Var_value
     have O := O.keep Kq68 (allS g_b44 all0)
     have K69 := K63.trans Kq68 (allS (Or.inr sz_b44) all0)
     have E_b44 := P68_0
     have F_b44_Var_value := P68_1
     show own_Fin p e below (T68.setTop (mkF m 211 #[.val (.int p0), .val (.int p1), .val (.int p2), .val (.int p3), .val (.int p4), .val (.ref b29), .val (.ref b35), .val (.ref b44), .val (.ref b47), .val (own_pick p0 b35 b47 b44), .val (own_pick p1 b35 b47 b44), .val (.int 1)] [])) _
     refine own_go (fun _ k => XS.iload X68.here hx rfl (hb hby at_211) rfl (XS.ifNo X68.here hx rfl (hb hby at_213) rfl ((if0 _ _).trans (feq (by decide : ¬ ((1 : Int32) = (0 : Int32)))).1) (XS.aload X68.here hx rfl (hb hby at_216) rfl rfl k))) ?_
     show own_Fin p e below (T68.setTop (mkF m 218 #[.val (.int p0), .val (.int p1), .val (.int p2), .val (.int p3), .val (.int p4), .val (.ref b29), .val (.ref b35), .val (.ref b44), .val (.ref b47), .val (own_pick p0 b35 b47 b44), .val (own_pick p1 b35 b47 b44), .val (.int 1)] [(.ref b44)])) _
     obtain ⟨cq70, kq70, q70a, q70b, q70c⟩ := isOf hZ rfl E_b44
     obtain ⟨_, _, ⟨T70, L70, k70, n70⟩, -, X70, ⟨Lc70, hQ70, l70, y70, z70⟩, st70⟩ := X68.virtualBack hx (y := (⟨"com/example/horn1/horn1/term/Var", "value", "()Lcom/example/horn1/horn1/term/Term;"⟩ : MethodName)) (z := (⟨"com/example/horn1/horn1/term/Var", "value", "()Lcom/example/horn1/horn1/term/Term;"⟩ : MethodName)) hown (mvT hZ (ow hw 55)) (mvT hZ (ow hw 56)) (notFace_of_selects (args := #[]) (mvT hZ (ow hw 58))) (mvT hZ (ow hw 58)) (mvT hZ (ow hw 57)) (by decide) (backOf (W := 0) (rmVR l Z a0 hw [] b44 b35 (T68.heap) n0 O F_b44_Var_value (Ins.of_exa E_b35 (ow hw 68))) hZ (ow hw 59) (ow hw 46) (by decide) (by decide)) q70a q70c (g := (mkF m 218 #[.val (.int p0), .val (.int p1), .val (.int p2), .val (.int p3), .val (.int p4), .val (.ref b29), .val (.ref b35), .val (.ref b44), .val (.ref b47), .val (own_pick p0 b35 b47 b44), .val (own_pick p1 b35 b47 b44), .val (.int 1)] [(.ref b44)])) rfl (by rw [hml]; rfl) (Steps.refl _) (argsL := []) (rest := []) (lenOf pd_4 rfl) rfl (by show 2 * 0 + _ ≤ _; exact Nat.le_of_eq rfl) (hb hby at_218) (fun _ _ => ⟨rfl, rfl, (by decide : 6 + 0 ≤ _), (by decide : 11 + 0 ≤ _)⟩)
     dsimp only [Pt.U, Pt.locs, Pt.cells, Pt.slots] at X70 l70 y70 z70 st70 hQ70
     subst l70 y70 z70
     obtain ⟨rfl, N70q, e70⟩ := hQ70
     refine own_go (fun _ k => st70.trans k) ?_
     have N70 := Fr.app N68 N70q
     show own_Fin p e below (T70.setTop (mkF m 221 #[.val (.int p0), .val (.int p1), .val (.int p2), .val (.int p3), .val (.int p4), .val (.ref b29), .val (.ref b35), .val (.ref b44), .val (.ref b47), .val (own_pick p0 b35 b47 b44), .val (own_pick p1 b35 b47 b44), .val (.int 1)] [(.ref b35)])) _
     refine own_go (fun _ k => XS.aload X70.here hx rfl (hb hby at_221) rfl rfl k) ?_
     show own_Fin p e below (T70.setTop (mkF m 223 #[.val (.int p0), .val (.int p1), .val (.int p2), .val (.int p3), .val (.int p4), .val (.ref b29), .val (.ref b35), .val (.ref b44), .val (.ref b47), .val (own_pick p0 b35 b47 b44), .val (own_pick p1 b35 b47 b44), .val (.int 1)] [(.ref b35), (.ref b35)])) _
     refine own_go (fun _ k => Jvm.RoadKit.acmp (g := (mkF m 223 #[.val (.int p0), .val (.int p1), .val (.int p2), .val (.int p3), .val (.int p4), .val (.ref b29), .val (.ref b35), .val (.ref b44), .val (.ref b47), .val (own_pick p0 b35 b47 b44), .val (own_pick p1 b35 b47 b44), .val (.int 1)] [(.ref b35), (.ref b35)])) X70 hx rfl rfl rfl (pc0 := 223) (pc' := 226) (same := true) rfl (hb hby at_223) rfl (decide_eq_true rfl) (by decide) (by decide) k) ?_
     show own_Fin p e below (T70.setTop (mkF m 226 #[.val (.int p0), .val (.int p1), .val (.int p2), .val (.int p3), .val (.int p4), .val (.ref b29), .val (.ref b35), .val (.ref b44), .val (.ref b47), .val (own_pick p0 b35 b47 b44), .val (own_pick p1 b35 b47 b44), .val (.int 1)] [])) _
     refine own_go (fun _ k => XS.iconst X70.here hx rfl (hb hby at_226) (XS.goto X70.here hx rfl (pc0 := 227) (pc' := 231) rfl (hb hby at_227) (by decide) (by decide) (XS.istore X70.here hx rfl (hb hby at_231) rfl (l' := #[.val (.int p0), .val (.int p1), .val (.int p2), .val (.int p3), .val (.int p4), .val (.ref b29), .val (.ref b35), .val (.ref b44), .val (.ref b47), .val (own_pick p0 b35 b47 b44), .val (own_pick p1 b35 b47 b44), .val (.int 1)]) rfl (XS.iload X70.here hx rfl (hb hby at_233) rfl (XS.ifNo X70.here hx rfl (hb hby at_235) rfl ((if0 _ _).trans (feq (by decide : ¬ ((1 : Int32) = (0 : Int32)))).1) (XS.aload X70.here hx rfl (hb hby at_238) rfl rfl k)))))) ?_
     show own_Fin p e below (T70.setTop (mkF m 240 #[.val (.int p0), .val (.int p1), .val (.int p2), .val (.int p3), .val (.int p4), .val (.ref b29), .val (.ref b35), .val (.ref b44), .val (.ref b47), .val (own_pick p0 b35 b47 b44), .val (own_pick p1 b35 b47 b44), .val (.int 1)] [(.ref b47)])) _
     obtain ⟨cq71, kq71, q71a, q71b, q71c⟩ := isOf hZ e70 E_b47
     obtain ⟨_, _, ⟨T71, L71, k71, n71⟩, -, X71, ⟨Lc71, hQ71, l71, y71, z71⟩, st71⟩ := X70.virtualBack hx (y := (⟨"com/example/horn1/horn1/term/Var", "value", "()Lcom/example/horn1/horn1/term/Term;"⟩ : MethodName)) (z := (⟨"com/example/horn1/horn1/term/Var", "value", "()Lcom/example/horn1/horn1/term/Term;"⟩ : MethodName)) hown (mvT hZ (ow hw 55)) (mvT hZ (ow hw 56)) (notFace_of_selects (args := #[]) (mvT hZ (ow hw 58))) (mvT hZ (ow hw 58)) (mvT hZ (ow hw 57)) (by decide) (backOf (W := 0) (rmVN l Z a0 hw [] b47 (T68.heap) n0 O F_b47_Var_value) hZ (ow hw 59) (ow hw 46) (by decide) (by decide)) q71a q71c (g := (mkF m 240 #[.val (.int p0), .val (.int p1), .val (.int p2), .val (.int p3), .val (.int p4), .val (.ref b29), .val (.ref b35), .val (.ref b44), .val (.ref b47), .val (own_pick p0 b35 b47 b44), .val (own_pick p1 b35 b47 b44), .val (.int 1)] [(.ref b47)])) rfl (by rw [hml]; rfl) (Steps.refl _) (argsL := []) (rest := []) (lenOf pd_4 rfl) rfl (by show 2 * 0 + _ ≤ _; exact Nat.le_of_eq rfl) (hb hby at_240) (fun _ _ => ⟨rfl, e70, (by decide : 6 + 0 ≤ _), (by decide : 11 + 0 ≤ _)⟩)
     dsimp only [Pt.U, Pt.locs, Pt.cells, Pt.slots] at X71 l71 y71 z71 st71 hQ71
     subst l71 y71 z71
     obtain ⟨rfl, N71q, e71⟩ := hQ71
     refine own_go (fun _ k => st71.trans k) ?_
     have N71 := Fr.app N70 N71q
     show own_Fin p e below (T71.setTop (mkF m 243 #[.val (.int p0), .val (.int p1), .val (.int p2), .val (.int p3), .val (.int p4), .val (.ref b29), .val (.ref b35), .val (.ref b44), .val (.ref b47), .val (own_pick p0 b35 b47 b44), .val (own_pick p1 b35 b47 b44), .val (.int 1)] [.null])) _
     refine own_go (fun _ k => XS.ifnonnullNo X71.here hx rfl (hb hby at_243) rfl (XS.iconst X71.here hx rfl (hb hby at_246) (XS.goto X71.here hx rfl (pc0 := 247) (pc' := 251) rfl (hb hby at_247) (by decide) (by decide) (XS.istore X71.here hx rfl (hb hby at_251) rfl (l' := #[.val (.int p0), .val (.int p1), .val (.int p2), .val (.int p3), .val (.int p4), .val (.ref b29), .val (.ref b35), .val (.ref b44), .val (.ref b47), .val (own_pick p0 b35 b47 b44), .val (own_pick p1 b35 b47 b44), .val (.int 1)]) rfl (XS.iload X71.here hx rfl (hb hby at_253) rfl k))))) ?_
     show own_Fin p e below (T71.setTop (mkF m 255 #[.val (.int p0), .val (.int p1), .val (.int p2), .val (.int p3), .val (.int p4), .val (.ref b29), .val (.ref b35), .val (.ref b44), .val (.ref b47), .val (own_pick p0 b35 b47 b44), .val (own_pick p1 b35 b47 b44), .val (.int 1)] [(.int 1)])) _
     obtain ⟨fs, hr, hrun, hended, hW, hsame⟩ := X71.leave (v := some (.int 1)) (fun h => by rw [Bd.returns] at h; cases h)
     refine ⟨_, _, ?_, hrun, hended, _, _, rfl, ?_, ⟨_, rfl⟩, hW, hsame.mono (by decide) (by decide)⟩
     ·exact retN X71 hx (t := .boolean) Bd.returns (by simp) (hb hby at_255) hr
     ·show Qrm0 Z p0 p1 p2 p3 p4 z h0 n0 _ T71.heap _
      rw [e71]
      exact ⟨rfl, N71, K69⟩
  ·refine own_go (fun _ k => XS.ifNo X57.here hx rfl (hb hby at_133) rfl ((if0 _ _).trans (feq hc133_58).1) (XS.aload X57.here hx rfl (hb hby at_136) rfl rfl (XS.aload X57.here hx rfl (hb hby at_138) rfl hr53 k))) ?_
   show own_Fin p e below (T57.setTop (mkF m 140 #[.val (.int p0), .val (.int p1), .val (.int p2), .val (.int p3), .val (.int p4), .val (.ref b29), .val (.ref b35), .val (.ref b44), .val (.ref b47), .val (own_pick p0 b35 b47 b44), .val (own_pick p1 b35 b47 b44), .val (.int 1)] [(own_pick p1 b35 b47 b44), (.ref b44)])) _
   obtain ⟨cq73, kq73, q73a, q73b, q73c⟩ := isOf hZ e57 E_b44
   obtain ⟨_, _, ⟨T73, L73, k73, n73⟩, -, X73, ⟨Lc73, hQ73, l73, y73, z73⟩, st73⟩ := X57.virtualBack hx (y := (⟨"com/example/horn1/horn1/term/Var", "bind", "(Lcom/example/horn1/horn1/term/Term;)V"⟩ : MethodName)) (z := (⟨"com/example/horn1/horn1/term/Var", "bind", "(Lcom/example/horn1/horn1/term/Term;)V"⟩ : MethodName)) hown (mvT hZ (ow hw 62)) (mvT hZ (ow hw 63)) (notFace_of_selects (args := #[]) (mvT hZ (ow hw 65))) (mvT hZ (ow hw 65)) (mvT hZ (ow hw 64)) (by decide) (backOf (W := 0) (rm12 l Z a0 hw [] b44 (own_pick p1 b35 b47 b44) (own_pick p0 b35 b47 b44) (T55.heap) n0 O E_b44 F_b44_Var_value g_b44 hr53) hZ (ow hw 66) (ow hw 46) (by decide) (by decide)) q73a q73c (g := (mkF m 140 #[.val (.int p0), .val (.int p1), .val (.int p2), .val (.int p3), .val (.int p4), .val (.ref b29), .val (.ref b35), .val (.ref b44), .val (.ref b47), .val (own_pick p0 b35 b47 b44), .val (own_pick p1 b35 b47 b44), .val (.int 1)] [(own_pick p1 b35 b47 b44), (.ref b44)])) rfl (by rw [hml]; rfl) (Steps.refl _) (argsL := [(own_pick p1 b35 b47 b44)]) (rest := []) (lenOf pd_5 rfl) rfl (by show 2 * 0 + _ ≤ _; exact Nat.le_of_eq rfl) (hb hby at_140) (fun _ _ => ⟨rfl, e57, (by decide : 6 + 0 ≤ _), (by decide : 11 + 0 ≤ _)⟩)
   dsimp only [Pt.U, Pt.locs, Pt.cells, Pt.slots] at X73 l73 y73 z73 st73 hQ73
   subst l73 y73 z73
   obtain ⟨rfl, N73q, Kq73, P73_0, P73_1⟩ := hQ73
   refine own_go (fun _ k => st73.trans k) ?_
   have N73 := Fr.app N57 N73q
   have V_b29 := V_b29.keep Kq73 (ninS ne_b29_b44 nin0)
   have E_b35 := E_b35.keep Kq73
   have E_b37 := E_b37.keep Kq73
   have F_b37_String_coder := F_b37_String_coder.keep Kq73 (ninS ne_b37_b44 nin0)
   have F_b37_String_value := F_b37_String_value.keep Kq73 (ninS ne_b37_b44 nin0)
   have V_b40 := V_b40.keep Kq73 (ninS ne_b40_b44 nin0)
   have E_b44 := E_b44.keep Kq73
   have E_b47 := E_b47.keep Kq73
   have F_b47_Var_value := F_b47_Var_value.keep Kq73 (ninS (Ne.symm ne_b44_b47) nin0)
   clear F_b44_Var_value
   have O := O.keep Kq73 (allS g_b44 all0)
   have K74 := K56.trans Kq73 (allS (Or.inr sz_b44) all0)
   have E_b44 := P73_0
   have F_b44_Var_value := P73_1
   show own_Fin p e below (T73.setTop (mkF m 143 #[.val (.int p0), .val (.int p1), .val (.int p2), .val (.int p3), .val (.int p4), .val (.ref b29), .val (.ref b35), .val (.ref b44), .val (.ref b47), .val (own_pick p0 b35 b47 b44), .val (own_pick p1 b35 b47 b44), .val (.int 1)] [])) _
   refine own_go (fun _ k => XS.iload X73.here hx rfl (hb hby at_143) rfl (XS.ifNo X73.here hx rfl (hb hby at_145) rfl ((if0 _ _).trans (feq (by decide : ¬ ((1 : Int32) = (0 : Int32)))).1) (XS.aload X73.here hx rfl (hb hby at_148) rfl rfl k))) ?_
   show own_Fin p e below (T73.setTop (mkF m 150 #[.val (.int p0), .val (.int p1), .val (.int p2), .val (.int p3), .val (.int p4), .val (.ref b29), .val (.ref b35), .val (.ref b44), .val (.ref b47), .val (own_pick p0 b35 b47 b44), .val (own_pick p1 b35 b47 b44), .val (.int 1)] [(.ref b44)])) _
   obtain ⟨cq75, kq75, q75a, q75b, q75c⟩ := isOf hZ rfl E_b44
   obtain ⟨_, _, ⟨T75, L75, k75, n75⟩, -, X75, ⟨Lc75, hQ75, l75, y75, z75⟩, st75⟩ := X73.virtualBack hx (y := (⟨"com/example/horn1/horn1/term/Var", "value", "()Lcom/example/horn1/horn1/term/Term;"⟩ : MethodName)) (z := (⟨"com/example/horn1/horn1/term/Var", "value", "()Lcom/example/horn1/horn1/term/Term;"⟩ : MethodName)) hown (mvT hZ (ow hw 55)) (mvT hZ (ow hw 56)) (notFace_of_selects (args := #[]) (mvT hZ (ow hw 58))) (mvT hZ (ow hw 58)) (mvT hZ (ow hw 57)) (by decide) (backOf (W := 0) (rmVX l Z a0 hw [] b44 (own_pick p1 b35 b47 b44) (T73.heap) n0 O F_b44_Var_value (own_tm hw E_b35 E_b47 E_b44 _)) hZ (ow hw 59) (ow hw 46) (by decide) (by decide)) q75a q75c (g := (mkF m 150 #[.val (.int p0), .val (.int p1), .val (.int p2), .val (.int p3), .val (.int p4), .val (.ref b29), .val (.ref b35), .val (.ref b44), .val (.ref b47), .val (own_pick p0 b35 b47 b44), .val (own_pick p1 b35 b47 b44), .val (.int 1)] [(.ref b44)])) rfl (by rw [hml]; rfl) (Steps.refl _) (argsL := []) (rest := []) (lenOf pd_4 rfl) rfl (by show 2 * 0 + _ ≤ _; exact Nat.le_of_eq rfl) (hb hby at_150) (fun _ _ => ⟨rfl, rfl, (by decide : 6 + 0 ≤ _), (by decide : 11 + 0 ≤ _)⟩)
   dsimp only [Pt.U, Pt.locs, Pt.cells, Pt.slots] at X75 l75 y75 z75 st75 hQ75
   subst l75 y75 z75
   obtain ⟨rfl, N75q, e75⟩ := hQ75
   refine own_go (fun _ k => st75.trans k) ?_
   have N75 := Fr.app N73 N75q
   show own_Fin p e below (T75.setTop (mkF m 153 #[.val (.int p0), .val (.int p1), .val (.int p2), .val (.int p3), .val (.int p4), .val (.ref b29), .val (.ref b35), .val (.ref b44), .val (.ref b47), .val (own_pick p0 b35 b47 b44), .val (own_pick p1 b35 b47 b44), .val (.int 1)] [(own_pick p1 b35 b47 b44)])) _
   refine own_go (fun _ k => XS.aload X75.here hx rfl (hb hby at_153) rfl hr53 k) ?_
   show own_Fin p e below (T75.setTop (mkF m 155 #[.val (.int p0), .val (.int p1), .val (.int p2), .val (.int p3), .val (.int p4), .val (.ref b29), .val (.ref b35), .val (.ref b44), .val (.ref b47), .val (own_pick p0 b35 b47 b44), .val (own_pick p1 b35 b47 b44), .val (.int 1)] [(own_pick p1 b35 b47 b44), (own_pick p1 b35 b47 b44)])) _
   refine own_go (fun _ k => Jvm.RoadKit.acmp (g := (mkF m 155 #[.val (.int p0), .val (.int p1), .val (.int p2), .val (.int p3), .val (.int p4), .val (.ref b29), .val (.ref b35), .val (.ref b44), .val (.ref b47), .val (own_pick p0 b35 b47 b44), .val (own_pick p1 b35 b47 b44), .val (.int 1)] [(own_pick p1 b35 b47 b44), (own_pick p1 b35 b47 b44)])) X75 hx rfl hr53 hr53 (pc0 := 155) (pc' := 158) (same := true) rfl (hb hby at_155) rfl (decide_eq_true rfl) (by decide) (by decide) k) ?_
   show own_Fin p e below (T75.setTop (mkF m 158 #[.val (.int p0), .val (.int p1), .val (.int p2), .val (.int p3), .val (.int p4), .val (.ref b29), .val (.ref b35), .val (.ref b44), .val (.ref b47), .val (own_pick p0 b35 b47 b44), .val (own_pick p1 b35 b47 b44), .val (.int 1)] [])) _
   refine own_go (fun _ k => XS.iconst X75.here hx rfl (hb hby at_158) (XS.goto X75.here hx rfl (pc0 := 159) (pc' := 163) rfl (hb hby at_159) (by decide) (by decide) (XS.istore X75.here hx rfl (hb hby at_163) rfl (l' := #[.val (.int p0), .val (.int p1), .val (.int p2), .val (.int p3), .val (.int p4), .val (.ref b29), .val (.ref b35), .val (.ref b44), .val (.ref b47), .val (own_pick p0 b35 b47 b44), .val (own_pick p1 b35 b47 b44), .val (.int 1)]) rfl (XS.iload X75.here hx rfl (hb hby at_165) rfl (XS.iconst X75.here hx rfl (hb hby at_167) (XS.iand X75.here hx rfl (hb hby at_168) rfl k)))))) ?_
   show own_Fin p e below (T75.setTop (mkF m 169 #[.val (.int p0), .val (.int p1), .val (.int p2), .val (.int p3), .val (.int p4), .val (.ref b29), .val (.ref b35), .val (.ref b44), .val (.ref b47), .val (own_pick p0 b35 b47 b44), .val (own_pick p1 b35 b47 b44), .val (.int 1)] [(.int (p4 &&& (2 : Int32)))])) _
   by_cases hc169_76 : (p4 &&& (2 : Int32)) = (0 : Int32)
   ·refine own_go (fun _ k => XS.ifYes X75.here hx rfl (pc0 := 169) (pc' := 233) rfl (hb hby at_169) rfl ((if0 _ _).trans (teq hc169_76).1) (by decide) (by decide) (XS.iload X75.here hx rfl (hb hby at_233) rfl (XS.ifNo X75.here hx rfl (hb hby at_235) rfl ((if0 _ _).trans (feq (by decide : ¬ ((1 : Int32) = (0 : Int32)))).1) (XS.aload X75.here hx rfl (hb hby at_238) rfl rfl k)))) ?_
    show own_Fin p e below (T75.setTop (mkF m 240 #[.val (.int p0), .val (.int p1), .val (.int p2), .val (.int p3), .val (.int p4), .val (.ref b29), .val (.ref b35), .val (.ref b44), .val (.ref b47), .val (own_pick p0 b35 b47 b44), .val (own_pick p1 b35 b47 b44), .val (.int 1)] [(.ref b47)])) _
    obtain ⟨cq77, kq77, q77a, q77b, q77c⟩ := isOf hZ e75 E_b47
    obtain ⟨_, _, ⟨T77, L77, k77, n77⟩, -, X77, ⟨Lc77, hQ77, l77, y77, z77⟩, st77⟩ := X75.virtualBack hx (y := (⟨"com/example/horn1/horn1/term/Var", "value", "()Lcom/example/horn1/horn1/term/Term;"⟩ : MethodName)) (z := (⟨"com/example/horn1/horn1/term/Var", "value", "()Lcom/example/horn1/horn1/term/Term;"⟩ : MethodName)) hown (mvT hZ (ow hw 55)) (mvT hZ (ow hw 56)) (notFace_of_selects (args := #[]) (mvT hZ (ow hw 58))) (mvT hZ (ow hw 58)) (mvT hZ (ow hw 57)) (by decide) (backOf (W := 0) (rmVN l Z a0 hw [] b47 (T73.heap) n0 O F_b47_Var_value) hZ (ow hw 59) (ow hw 46) (by decide) (by decide)) q77a q77c (g := (mkF m 240 #[.val (.int p0), .val (.int p1), .val (.int p2), .val (.int p3), .val (.int p4), .val (.ref b29), .val (.ref b35), .val (.ref b44), .val (.ref b47), .val (own_pick p0 b35 b47 b44), .val (own_pick p1 b35 b47 b44), .val (.int 1)] [(.ref b47)])) rfl (by rw [hml]; rfl) (Steps.refl _) (argsL := []) (rest := []) (lenOf pd_4 rfl) rfl (by show 2 * 0 + _ ≤ _; exact Nat.le_of_eq rfl) (hb hby at_240) (fun _ _ => ⟨rfl, e75, (by decide : 6 + 0 ≤ _), (by decide : 11 + 0 ≤ _)⟩)
    dsimp only [Pt.U, Pt.locs, Pt.cells, Pt.slots] at X77 l77 y77 z77 st77 hQ77
    subst l77 y77 z77
    obtain ⟨rfl, N77q, e77⟩ := hQ77
    refine own_go (fun _ k => st77.trans k) ?_
    have N77 := Fr.app N75 N77q
    show own_Fin p e below (T77.setTop (mkF m 243 #[.val (.int p0), .val (.int p1), .val (.int p2), .val (.int p3), .val (.int p4), .val (.ref b29), .val (.ref b35), .val (.ref b44), .val (.ref b47), .val (own_pick p0 b35 b47 b44), .val (own_pick p1 b35 b47 b44), .val (.int 1)] [.null])) _
    refine own_go (fun _ k => XS.ifnonnullNo X77.here hx rfl (hb hby at_243) rfl (XS.iconst X77.here hx rfl (hb hby at_246) (XS.goto X77.here hx rfl (pc0 := 247) (pc' := 251) rfl (hb hby at_247) (by decide) (by decide) (XS.istore X77.here hx rfl (hb hby at_251) rfl (l' := #[.val (.int p0), .val (.int p1), .val (.int p2), .val (.int p3), .val (.int p4), .val (.ref b29), .val (.ref b35), .val (.ref b44), .val (.ref b47), .val (own_pick p0 b35 b47 b44), .val (own_pick p1 b35 b47 b44), .val (.int 1)]) rfl (XS.iload X77.here hx rfl (hb hby at_253) rfl k))))) ?_
    show own_Fin p e below (T77.setTop (mkF m 255 #[.val (.int p0), .val (.int p1), .val (.int p2), .val (.int p3), .val (.int p4), .val (.ref b29), .val (.ref b35), .val (.ref b44), .val (.ref b47), .val (own_pick p0 b35 b47 b44), .val (own_pick p1 b35 b47 b44), .val (.int 1)] [(.int 1)])) _
    obtain ⟨fs, hr, hrun, hended, hW, hsame⟩ := X77.leave (v := some (.int 1)) (fun h => by rw [Bd.returns] at h; cases h)
    refine ⟨_, _, ?_, hrun, hended, _, _, rfl, ?_, ⟨_, rfl⟩, hW, hsame.mono (by decide) (by decide)⟩
    ·exact retN X77 hx (t := .boolean) Bd.returns (by simp) (hb hby at_255) hr
    ·show Qrm0 Z p0 p1 p2 p3 p4 z h0 n0 _ T77.heap _
     rw [e77]
     exact ⟨rfl, N77, K74⟩
   ·refine own_go (fun _ k => XS.ifNo X75.here hx rfl (hb hby at_169) rfl ((if0 _ _).trans (feq hc169_76).1) (XS.aload X75.here hx rfl (hb hby at_172) rfl rfl k)) ?_
    show own_Fin p e below (T75.setTop (mkF m 174 #[.val (.int p0), .val (.int p1), .val (.int p2), .val (.int p3), .val (.int p4), .val (.ref b29), .val (.ref b35), .val (.ref b44), .val (.ref b47), .val (own_pick p0 b35 b47 b44), .val (own_pick p1 b35 b47 b44), .val (.int 1)] [(.ref b44)])) _
    obtain ⟨cq79, kq79, q79a, q79b, q79c⟩ := isOf hZ e75 E_b44
    obtain ⟨_, _, ⟨T79, L79, k79, n79⟩, -, X79, ⟨Lc79, hQ79, l79, y79, z79⟩, st79⟩ := X75.virtualBack hx (y := (⟨"com/example/horn1/horn1/term/Var", "unbind", "()V"⟩ : MethodName)) (z := (⟨"com/example/horn1/horn1/term/Var", "unbind", "()V"⟩ : MethodName)) hown (mvT hZ (ow hw 69)) (mvT hZ (ow hw 70)) (notFace_of_selects (args := #[]) (mvT hZ (ow hw 72))) (mvT hZ (ow hw 72)) (mvT hZ (ow hw 71)) (by decide) (backOf (W := 0) (rm13 l Z a0 hw [] b44 (own_pick p1 b35 b47 b44) (T73.heap) n0 O E_b44 F_b44_Var_value g_b44) hZ (ow hw 73) (ow hw 46) (by decide) (by decide)) q79a q79c (g := (mkF m 174 #[.val (.int p0), .val (.int p1), .val (.int p2), .val (.int p3), .val (.int p4), .val (.ref b29), .val (.ref b35), .val (.ref b44), .val (.ref b47), .val (own_pick p0 b35 b47 b44), .val (own_pick p1 b35 b47 b44), .val (.int 1)] [(.ref b44)])) rfl (by rw [hml]; rfl) (Steps.refl _) (argsL := []) (rest := []) (lenOf pd_0 rfl) rfl (by show 2 * 0 + _ ≤ _; exact Nat.le_of_eq rfl) (hb hby at_174) (fun _ _ => ⟨rfl, e75, (by decide : 6 + 0 ≤ _), (by decide : 11 + 0 ≤ _)⟩)
    dsimp only [Pt.U, Pt.locs, Pt.cells, Pt.slots] at X79 l79 y79 z79 st79 hQ79
    subst l79 y79 z79
    obtain ⟨rfl, N79q, Kq79, P79_0, P79_1⟩ := hQ79
    refine own_go (fun _ k => st79.trans k) ?_
    have N79 := Fr.app N75 N79q
    have V_b29 := V_b29.keep Kq79 (ninS ne_b29_b44 nin0)
    have E_b35 := E_b35.keep Kq79
    have E_b37 := E_b37.keep Kq79
    have F_b37_String_coder := F_b37_String_coder.keep Kq79 (ninS ne_b37_b44 nin0)
    have F_b37_String_value := F_b37_String_value.keep Kq79 (ninS ne_b37_b44 nin0)
    have V_b40 := V_b40.keep Kq79 (ninS ne_b40_b44 nin0)
    have E_b44 := E_b44.keep Kq79
    have E_b47 := E_b47.keep Kq79
    have F_b47_Var_value := F_b47_Var_value.keep Kq79 (ninS (Ne.symm ne_b44_b47) nin0)
    clear F_b44_Var_value
    have O := O.keep Kq79 (allS g_b44 all0)
    have K80 := K74.trans Kq79 (allS (Or.inr sz_b44) all0)
    have E_b44 := P79_0
    have F_b44_Var_value := P79_1
    show own_Fin p e below (T79.setTop (mkF m 177 #[.val (.int p0), .val (.int p1), .val (.int p2), .val (.int p3), .val (.int p4), .val (.ref b29), .val (.ref b35), .val (.ref b44), .val (.ref b47), .val (own_pick p0 b35 b47 b44), .val (own_pick p1 b35 b47 b44), .val (.int 1)] [])) _
    refine own_go (fun _ k => XS.iload X79.here hx rfl (hb hby at_177) rfl (XS.ifNo X79.here hx rfl (hb hby at_179) rfl ((if0 _ _).trans (feq (by decide : ¬ ((1 : Int32) = (0 : Int32)))).1) (XS.aload X79.here hx rfl (hb hby at_182) rfl rfl k))) ?_
    show own_Fin p e below (T79.setTop (mkF m 184 #[.val (.int p0), .val (.int p1), .val (.int p2), .val (.int p3), .val (.int p4), .val (.ref b29), .val (.ref b35), .val (.ref b44), .val (.ref b47), .val (own_pick p0 b35 b47 b44), .val (own_pick p1 b35 b47 b44), .val (.int 1)] [(.ref b44)])) _
    obtain ⟨cq81, kq81, q81a, q81b, q81c⟩ := isOf hZ rfl E_b44
    obtain ⟨_, _, ⟨T81, L81, k81, n81⟩, -, X81, ⟨Lc81, hQ81, l81, y81, z81⟩, st81⟩ := X79.virtualBack hx (y := (⟨"com/example/horn1/horn1/term/Var", "value", "()Lcom/example/horn1/horn1/term/Term;"⟩ : MethodName)) (z := (⟨"com/example/horn1/horn1/term/Var", "value", "()Lcom/example/horn1/horn1/term/Term;"⟩ : MethodName)) hown (mvT hZ (ow hw 55)) (mvT hZ (ow hw 56)) (notFace_of_selects (args := #[]) (mvT hZ (ow hw 58))) (mvT hZ (ow hw 58)) (mvT hZ (ow hw 57)) (by decide) (backOf (W := 0) (rmVN l Z a0 hw [] b44 (T79.heap) n0 O F_b44_Var_value) hZ (ow hw 59) (ow hw 46) (by decide) (by decide)) q81a q81c (g := (mkF m 184 #[.val (.int p0), .val (.int p1), .val (.int p2), .val (.int p3), .val (.int p4), .val (.ref b29), .val (.ref b35), .val (.ref b44), .val (.ref b47), .val (own_pick p0 b35 b47 b44), .val (own_pick p1 b35 b47 b44), .val (.int 1)] [(.ref b44)])) rfl (by rw [hml]; rfl) (Steps.refl _) (argsL := []) (rest := []) (lenOf pd_4 rfl) rfl (by show 2 * 0 + _ ≤ _; exact Nat.le_of_eq rfl) (hb hby at_184) (fun _ _ => ⟨rfl, rfl, (by decide : 6 + 0 ≤ _), (by decide : 11 + 0 ≤ _)⟩)
    dsimp only [Pt.U, Pt.locs, Pt.cells, Pt.slots] at X81 l81 y81 z81 st81 hQ81
    subst l81 y81 z81
    obtain ⟨rfl, N81q, e81⟩ := hQ81
    refine own_go (fun _ k => st81.trans k) ?_
    have N81 := Fr.app N79 N81q
    show own_Fin p e below (T81.setTop (mkF m 187 #[.val (.int p0), .val (.int p1), .val (.int p2), .val (.int p3), .val (.int p4), .val (.ref b29), .val (.ref b35), .val (.ref b44), .val (.ref b47), .val (own_pick p0 b35 b47 b44), .val (own_pick p1 b35 b47 b44), .val (.int 1)] [.null])) _
    refine own_go (fun _ k => XS.ifnonnullNo X81.here hx rfl (hb hby at_187) rfl (XS.iconst X81.here hx rfl (hb hby at_190) (XS.goto X81.here hx rfl (pc0 := 191) (pc' := 195) rfl (hb hby at_191) (by decide) (by decide) (XS.istore X81.here hx rfl (hb hby at_195) rfl (l' := #[.val (.int p0), .val (.int p1), .val (.int p2), .val (.int p3), .val (.int p4), .val (.ref b29), .val (.ref b35), .val (.ref b44), .val (.ref b47), .val (own_pick p0 b35 b47 b44), .val (own_pick p1 b35 b47 b44), .val (.int 1)]) rfl (XS.iload X81.here hx rfl (hb hby at_197) rfl (XS.iconst X81.here hx rfl (hb hby at_199) (XS.iand X81.here hx rfl (hb hby at_200) rfl k))))))) ?_
    show own_Fin p e below (T81.setTop (mkF m 201 #[.val (.int p0), .val (.int p1), .val (.int p2), .val (.int p3), .val (.int p4), .val (.ref b29), .val (.ref b35), .val (.ref b44), .val (.ref b47), .val (own_pick p0 b35 b47 b44), .val (own_pick p1 b35 b47 b44), .val (.int 1)] [(.int (p4 &&& (4 : Int32)))])) _
    by_cases hc201_82 : (p4 &&& (4 : Int32)) = (0 : Int32)
    ·refine own_go (fun _ k => XS.ifYes X81.here hx rfl (pc0 := 201) (pc' := 233) rfl (hb hby at_201) rfl ((if0 _ _).trans (teq hc201_82).1) (by decide) (by decide) (XS.iload X81.here hx rfl (hb hby at_233) rfl (XS.ifNo X81.here hx rfl (hb hby at_235) rfl ((if0 _ _).trans (feq (by decide : ¬ ((1 : Int32) = (0 : Int32)))).1) (XS.aload X81.here hx rfl (hb hby at_238) rfl rfl k)))) ?_
     show own_Fin p e below (T81.setTop (mkF m 240 #[.val (.int p0), .val (.int p1), .val (.int p2), .val (.int p3), .val (.int p4), .val (.ref b29), .val (.ref b35), .val (.ref b44), .val (.ref b47), .val (own_pick p0 b35 b47 b44), .val (own_pick p1 b35 b47 b44), .val (.int 1)] [(.ref b47)])) _
     obtain ⟨cq83, kq83, q83a, q83b, q83c⟩ := isOf hZ e81 E_b47
     obtain ⟨_, _, ⟨T83, L83, k83, n83⟩, -, X83, ⟨Lc83, hQ83, l83, y83, z83⟩, st83⟩ := X81.virtualBack hx (y := (⟨"com/example/horn1/horn1/term/Var", "value", "()Lcom/example/horn1/horn1/term/Term;"⟩ : MethodName)) (z := (⟨"com/example/horn1/horn1/term/Var", "value", "()Lcom/example/horn1/horn1/term/Term;"⟩ : MethodName)) hown (mvT hZ (ow hw 55)) (mvT hZ (ow hw 56)) (notFace_of_selects (args := #[]) (mvT hZ (ow hw 58))) (mvT hZ (ow hw 58)) (mvT hZ (ow hw 57)) (by decide) (backOf (W := 0) (rmVN l Z a0 hw [] b47 (T79.heap) n0 O F_b47_Var_value) hZ (ow hw 59) (ow hw 46) (by decide) (by decide)) q83a q83c (g := (mkF m 240 #[.val (.int p0), .val (.int p1), .val (.int p2), .val (.int p3), .val (.int p4), .val (.ref b29), .val (.ref b35), .val (.ref b44), .val (.ref b47), .val (own_pick p0 b35 b47 b44), .val (own_pick p1 b35 b47 b44), .val (.int 1)] [(.ref b47)])) rfl (by rw [hml]; rfl) (Steps.refl _) (argsL := []) (rest := []) (lenOf pd_4 rfl) rfl (by show 2 * 0 + _ ≤ _; exact Nat.le_of_eq rfl) (hb hby at_240) (fun _ _ => ⟨rfl, e81, (by decide : 6 + 0 ≤ _), (by decide : 11 + 0 ≤ _)⟩)
     dsimp only [Pt.U, Pt.locs, Pt.cells, Pt.slots] at X83 l83 y83 z83 st83 hQ83
     subst l83 y83 z83
     obtain ⟨rfl, N83q, e83⟩ := hQ83
     refine own_go (fun _ k => st83.trans k) ?_
     have N83 := Fr.app N81 N83q
     show own_Fin p e below (T83.setTop (mkF m 243 #[.val (.int p0), .val (.int p1), .val (.int p2), .val (.int p3), .val (.int p4), .val (.ref b29), .val (.ref b35), .val (.ref b44), .val (.ref b47), .val (own_pick p0 b35 b47 b44), .val (own_pick p1 b35 b47 b44), .val (.int 1)] [.null])) _
     refine own_go (fun _ k => XS.ifnonnullNo X83.here hx rfl (hb hby at_243) rfl (XS.iconst X83.here hx rfl (hb hby at_246) (XS.goto X83.here hx rfl (pc0 := 247) (pc' := 251) rfl (hb hby at_247) (by decide) (by decide) (XS.istore X83.here hx rfl (hb hby at_251) rfl (l' := #[.val (.int p0), .val (.int p1), .val (.int p2), .val (.int p3), .val (.int p4), .val (.ref b29), .val (.ref b35), .val (.ref b44), .val (.ref b47), .val (own_pick p0 b35 b47 b44), .val (own_pick p1 b35 b47 b44), .val (.int 1)]) rfl (XS.iload X83.here hx rfl (hb hby at_253) rfl k))))) ?_
     show own_Fin p e below (T83.setTop (mkF m 255 #[.val (.int p0), .val (.int p1), .val (.int p2), .val (.int p3), .val (.int p4), .val (.ref b29), .val (.ref b35), .val (.ref b44), .val (.ref b47), .val (own_pick p0 b35 b47 b44), .val (own_pick p1 b35 b47 b44), .val (.int 1)] [(.int 1)])) _
     obtain ⟨fs, hr, hrun, hended, hW, hsame⟩ := X83.leave (v := some (.int 1)) (fun h => by rw [Bd.returns] at h; cases h)
     refine ⟨_, _, ?_, hrun, hended, _, _, rfl, ?_, ⟨_, rfl⟩, hW, hsame.mono (by decide) (by decide)⟩
     ·exact retN X83 hx (t := .boolean) Bd.returns (by simp) (hb hby at_255) hr
     ·show Qrm0 Z p0 p1 p2 p3 p4 z h0 n0 _ T83.heap _
      rw [e83]
      exact ⟨rfl, N83, K80⟩
    ·refine own_go (fun _ k => XS.ifNo X81.here hx rfl (hb hby at_201) rfl ((if0 _ _).trans (feq hc201_82).1) (XS.aload X81.here hx rfl (hb hby at_204) rfl rfl (XS.aload X81.here hx rfl (hb hby at_206) rfl rfl k))) ?_
     show own_Fin p e below (T81.setTop (mkF m 208 #[.val (.int p0), .val (.int p1), .val (.int p2), .val (.int p3), .val (.int p4), .val (.ref b29), .val (.ref b35), .val (.ref b44), .val (.ref b47), .val (own_pick p0 b35 b47 b44), .val (own_pick p1 b35 b47 b44), .val (.int 1)] [(.ref b35), (.ref b44)])) _
     obtain ⟨cq85, kq85, q85a, q85b, q85c⟩ := isOf hZ e81 E_b44
     obtain ⟨_, _, ⟨T85, L85, k85, n85⟩, -, X85, ⟨Lc85, hQ85, l85, y85, z85⟩, st85⟩ := X81.virtualBack hx (y := (⟨"com/example/horn1/horn1/term/Var", "bind", "(Lcom/example/horn1/horn1/term/Term;)V"⟩ : MethodName)) (z := (⟨"com/example/horn1/horn1/term/Var", "bind", "(Lcom/example/horn1/horn1/term/Term;)V"⟩ : MethodName)) hown (mvT hZ (ow hw 62)) (mvT hZ (ow hw 63)) (notFace_of_selects (args := #[]) (mvT hZ (ow hw 65))) (mvT hZ (ow hw 65)) (mvT hZ (ow hw 64)) (by decide) (backOf (W := 0) (rm12 l Z a0 hw [] b44 (.ref b35) (.null) (T79.heap) n0 O E_b44 F_b44_Var_value g_b44 rfl) hZ (ow hw 66) (ow hw 46) (by decide) (by decide)) q85a q85c (g := (mkF m 208 #[.val (.int p0), .val (.int p1), .val (.int p2), .val (.int p3), .val (.int p4), .val (.ref b29), .val (.ref b35), .val (.ref b44), .val (.ref b47), .val (own_pick p0 b35 b47 b44), .val (own_pick p1 b35 b47 b44), .val (.int 1)] [(.ref b35), (.ref b44)])) rfl (by rw [hml]; rfl) (Steps.refl _) (argsL := [(.ref b35)]) (rest := []) (lenOf pd_5 rfl) rfl (by show 2 * 0 + _ ≤ _; exact Nat.le_of_eq rfl) (hb hby at_208) (fun _ _ => ⟨rfl, e81, (by decide : 6 + 0 ≤ _), (by decide : 11 + 0 ≤ _)⟩)
     dsimp only [Pt.U, Pt.locs, Pt.cells, Pt.slots] at X85 l85 y85 z85 st85 hQ85
     subst l85 y85 z85
     obtain ⟨rfl, N85q, Kq85, P85_0, P85_1⟩ := hQ85
     refine own_go (fun _ k => st85.trans k) ?_
     have N85 := Fr.app N81 N85q
     have V_b29 := V_b29.keep Kq85 (ninS ne_b29_b44 nin0)
     have E_b35 := E_b35.keep Kq85
     have E_b37 := E_b37.keep Kq85
     have F_b37_String_coder := F_b37_String_coder.keep Kq85 (ninS ne_b37_b44 nin0)
     have F_b37_String_value := F_b37_String_value.keep Kq85 (ninS ne_b37_b44 nin0)
     have V_b40 := V_b40.keep Kq85 (ninS ne_b40_b44 nin0)
     have E_b44 := E_b44.keep Kq85
     have E_b47 := E_b47.keep Kq85
     have F_b47_Var_value := F_b47_Var_value.keep Kq85 (ninS (Ne.symm ne_b44_b47) nin0)
     clear F_b44_Var_value
     have O := O.keep Kq85 (allS g_b44 all0)
     have K86 := K80.trans Kq85 (allS (Or.inr sz_b44) all0)
     have E_b44 := P85_0
     have F_b44_Var_value := P85_1
     show own_Fin p e below (T85.setTop (mkF m 211 #[.val (.int p0), .val (.int p1), .val (.int p2), .val (.int p3), .val (.int p4), .val (.ref b29), .val (.ref b35), .val (.ref b44), .val (.ref b47), .val (own_pick p0 b35 b47 b44), .val (own_pick p1 b35 b47 b44), .val (.int 1)] [])) _
     refine own_go (fun _ k => XS.iload X85.here hx rfl (hb hby at_211) rfl (XS.ifNo X85.here hx rfl (hb hby at_213) rfl ((if0 _ _).trans (feq (by decide : ¬ ((1 : Int32) = (0 : Int32)))).1) (XS.aload X85.here hx rfl (hb hby at_216) rfl rfl k))) ?_
     show own_Fin p e below (T85.setTop (mkF m 218 #[.val (.int p0), .val (.int p1), .val (.int p2), .val (.int p3), .val (.int p4), .val (.ref b29), .val (.ref b35), .val (.ref b44), .val (.ref b47), .val (own_pick p0 b35 b47 b44), .val (own_pick p1 b35 b47 b44), .val (.int 1)] [(.ref b44)])) _
     obtain ⟨cq87, kq87, q87a, q87b, q87c⟩ := isOf hZ rfl E_b44
     obtain ⟨_, _, ⟨T87, L87, k87, n87⟩, -, X87, ⟨Lc87, hQ87, l87, y87, z87⟩, st87⟩ := X85.virtualBack hx (y := (⟨"com/example/horn1/horn1/term/Var", "value", "()Lcom/example/horn1/horn1/term/Term;"⟩ : MethodName)) (z := (⟨"com/example/horn1/horn1/term/Var", "value", "()Lcom/example/horn1/horn1/term/Term;"⟩ : MethodName)) hown (mvT hZ (ow hw 55)) (mvT hZ (ow hw 56)) (notFace_of_selects (args := #[]) (mvT hZ (ow hw 58))) (mvT hZ (ow hw 58)) (mvT hZ (ow hw 57)) (by decide) (backOf (W := 0) (rmVR l Z a0 hw [] b44 b35 (T85.heap) n0 O F_b44_Var_value (Ins.of_exa E_b35 (ow hw 68))) hZ (ow hw 59) (ow hw 46) (by decide) (by decide)) q87a q87c (g := (mkF m 218 #[.val (.int p0), .val (.int p1), .val (.int p2), .val (.int p3), .val (.int p4), .val (.ref b29), .val (.ref b35), .val (.ref b44), .val (.ref b47), .val (own_pick p0 b35 b47 b44), .val (own_pick p1 b35 b47 b44), .val (.int 1)] [(.ref b44)])) rfl (by rw [hml]; rfl) (Steps.refl _) (argsL := []) (rest := []) (lenOf pd_4 rfl) rfl (by show 2 * 0 + _ ≤ _; exact Nat.le_of_eq rfl) (hb hby at_218) (fun _ _ => ⟨rfl, rfl, (by decide : 6 + 0 ≤ _), (by decide : 11 + 0 ≤ _)⟩)
     dsimp only [Pt.U, Pt.locs, Pt.cells, Pt.slots] at X87 l87 y87 z87 st87 hQ87
     subst l87 y87 z87
     obtain ⟨rfl, N87q, e87⟩ := hQ87
     refine own_go (fun _ k => st87.trans k) ?_
     have N87 := Fr.app N85 N87q
     show own_Fin p e below (T87.setTop (mkF m 221 #[.val (.int p0), .val (.int p1), .val (.int p2), .val (.int p3), .val (.int p4), .val (.ref b29), .val (.ref b35), .val (.ref b44), .val (.ref b47), .val (own_pick p0 b35 b47 b44), .val (own_pick p1 b35 b47 b44), .val (.int 1)] [(.ref b35)])) _
     refine own_go (fun _ k => XS.aload X87.here hx rfl (hb hby at_221) rfl rfl k) ?_
     show own_Fin p e below (T87.setTop (mkF m 223 #[.val (.int p0), .val (.int p1), .val (.int p2), .val (.int p3), .val (.int p4), .val (.ref b29), .val (.ref b35), .val (.ref b44), .val (.ref b47), .val (own_pick p0 b35 b47 b44), .val (own_pick p1 b35 b47 b44), .val (.int 1)] [(.ref b35), (.ref b35)])) _
     refine own_go (fun _ k => Jvm.RoadKit.acmp (g := (mkF m 223 #[.val (.int p0), .val (.int p1), .val (.int p2), .val (.int p3), .val (.int p4), .val (.ref b29), .val (.ref b35), .val (.ref b44), .val (.ref b47), .val (own_pick p0 b35 b47 b44), .val (own_pick p1 b35 b47 b44), .val (.int 1)] [(.ref b35), (.ref b35)])) X87 hx rfl rfl rfl (pc0 := 223) (pc' := 226) (same := true) rfl (hb hby at_223) rfl (decide_eq_true rfl) (by decide) (by decide) k) ?_
     show own_Fin p e below (T87.setTop (mkF m 226 #[.val (.int p0), .val (.int p1), .val (.int p2), .val (.int p3), .val (.int p4), .val (.ref b29), .val (.ref b35), .val (.ref b44), .val (.ref b47), .val (own_pick p0 b35 b47 b44), .val (own_pick p1 b35 b47 b44), .val (.int 1)] [])) _
     refine own_go (fun _ k => XS.iconst X87.here hx rfl (hb hby at_226) (XS.goto X87.here hx rfl (pc0 := 227) (pc' := 231) rfl (hb hby at_227) (by decide) (by decide) (XS.istore X87.here hx rfl (hb hby at_231) rfl (l' := #[.val (.int p0), .val (.int p1), .val (.int p2), .val (.int p3), .val (.int p4), .val (.ref b29), .val (.ref b35), .val (.ref b44), .val (.ref b47), .val (own_pick p0 b35 b47 b44), .val (own_pick p1 b35 b47 b44), .val (.int 1)]) rfl (XS.iload X87.here hx rfl (hb hby at_233) rfl (XS.ifNo X87.here hx rfl (hb hby at_235) rfl ((if0 _ _).trans (feq (by decide : ¬ ((1 : Int32) = (0 : Int32)))).1) (XS.aload X87.here hx rfl (hb hby at_238) rfl rfl k)))))) ?_
     show own_Fin p e below (T87.setTop (mkF m 240 #[.val (.int p0), .val (.int p1), .val (.int p2), .val (.int p3), .val (.int p4), .val (.ref b29), .val (.ref b35), .val (.ref b44), .val (.ref b47), .val (own_pick p0 b35 b47 b44), .val (own_pick p1 b35 b47 b44), .val (.int 1)] [(.ref b47)])) _
     obtain ⟨cq88, kq88, q88a, q88b, q88c⟩ := isOf hZ e87 E_b47
     obtain ⟨_, _, ⟨T88, L88, k88, n88⟩, -, X88, ⟨Lc88, hQ88, l88, y88, z88⟩, st88⟩ := X87.virtualBack hx (y := (⟨"com/example/horn1/horn1/term/Var", "value", "()Lcom/example/horn1/horn1/term/Term;"⟩ : MethodName)) (z := (⟨"com/example/horn1/horn1/term/Var", "value", "()Lcom/example/horn1/horn1/term/Term;"⟩ : MethodName)) hown (mvT hZ (ow hw 55)) (mvT hZ (ow hw 56)) (notFace_of_selects (args := #[]) (mvT hZ (ow hw 58))) (mvT hZ (ow hw 58)) (mvT hZ (ow hw 57)) (by decide) (backOf (W := 0) (rmVN l Z a0 hw [] b47 (T85.heap) n0 O F_b47_Var_value) hZ (ow hw 59) (ow hw 46) (by decide) (by decide)) q88a q88c (g := (mkF m 240 #[.val (.int p0), .val (.int p1), .val (.int p2), .val (.int p3), .val (.int p4), .val (.ref b29), .val (.ref b35), .val (.ref b44), .val (.ref b47), .val (own_pick p0 b35 b47 b44), .val (own_pick p1 b35 b47 b44), .val (.int 1)] [(.ref b47)])) rfl (by rw [hml]; rfl) (Steps.refl _) (argsL := []) (rest := []) (lenOf pd_4 rfl) rfl (by show 2 * 0 + _ ≤ _; exact Nat.le_of_eq rfl) (hb hby at_240) (fun _ _ => ⟨rfl, e87, (by decide : 6 + 0 ≤ _), (by decide : 11 + 0 ≤ _)⟩)
     dsimp only [Pt.U, Pt.locs, Pt.cells, Pt.slots] at X88 l88 y88 z88 st88 hQ88
     subst l88 y88 z88
     obtain ⟨rfl, N88q, e88⟩ := hQ88
     refine own_go (fun _ k => st88.trans k) ?_
     have N88 := Fr.app N87 N88q
     show own_Fin p e below (T88.setTop (mkF m 243 #[.val (.int p0), .val (.int p1), .val (.int p2), .val (.int p3), .val (.int p4), .val (.ref b29), .val (.ref b35), .val (.ref b44), .val (.ref b47), .val (own_pick p0 b35 b47 b44), .val (own_pick p1 b35 b47 b44), .val (.int 1)] [.null])) _
     refine own_go (fun _ k => XS.ifnonnullNo X88.here hx rfl (hb hby at_243) rfl (XS.iconst X88.here hx rfl (hb hby at_246) (XS.goto X88.here hx rfl (pc0 := 247) (pc' := 251) rfl (hb hby at_247) (by decide) (by decide) (XS.istore X88.here hx rfl (hb hby at_251) rfl (l' := #[.val (.int p0), .val (.int p1), .val (.int p2), .val (.int p3), .val (.int p4), .val (.ref b29), .val (.ref b35), .val (.ref b44), .val (.ref b47), .val (own_pick p0 b35 b47 b44), .val (own_pick p1 b35 b47 b44), .val (.int 1)]) rfl (XS.iload X88.here hx rfl (hb hby at_253) rfl k))))) ?_
     show own_Fin p e below (T88.setTop (mkF m 255 #[.val (.int p0), .val (.int p1), .val (.int p2), .val (.int p3), .val (.int p4), .val (.ref b29), .val (.ref b35), .val (.ref b44), .val (.ref b47), .val (own_pick p0 b35 b47 b44), .val (own_pick p1 b35 b47 b44), .val (.int 1)] [(.int 1)])) _
     obtain ⟨fs, hr, hrun, hended, hW, hsame⟩ := X88.leave (v := some (.int 1)) (fun h => by rw [Bd.returns] at h; cases h)
     refine ⟨_, _, ?_, hrun, hended, _, _, rfl, ?_, ⟨_, rfl⟩, hW, hsame.mono (by decide) (by decide)⟩
     ·exact retN X88 hx (t := .boolean) Bd.returns (by simp) (hb hby at_255) hr
     ·show Qrm0 Z p0 p1 p2 p3 p4 z h0 n0 _ T88.heap _
      rw [e88]
      exact ⟨rfl, N88, K86⟩
set_option maxRecDepth 65536 in
set_option maxHeartbeats 40000000 in
theorem comes_1 {Post : Tables → Env → Array Value → State → Outcome → State → Prop} (hpost : ∀ tb e args s v u, (limb_1_1.after args s (.returned v) u = true ∧ limb_1_2.after args s (.returned v) u = true ∧ True) → FrameEnd s (.returned v) u (Jvm.fieldLocs frame_1_writes args s ++ Jvm.arrayLocs frame_1_arrays args s ++ Jvm.staticLocs frame_1_statics s) 24 128 → Post tb e args s (.returned v) u) :
    ArmFor flags0 classFile x code maxLocals ret World_1 tables_1 room_1 Calls_1 rest_1 Pre_1 Post := by
  intro l hfl _ _ p e ha hc hk s m args below hf hA hF happ hP
  obtain ⟨hcalls, hrest, hpre⟩ := hP
  obtain ⟨-, -, -, hnamed, -, -, -, hat⟩ := (Spec.applies_iff hf).mp happ
  obtain ⟨hg, hn⟩ := and_e (Cond.before_iff.mp (show (Jvm.Cond.and given_1 narrow_1).before args s = true from hpre))
  obtain ⟨g1, g2⟩ := and_e hg
  obtain ⟨g3, g4⟩ := and_e g2
  obtain ⟨g5, g6⟩ := and_e g4
  obtain ⟨g7, g8⟩ := and_e g6
  obtain ⟨g9, g10⟩ := and_e g8
  obtain ⟨w0, w1, w2, w3, w4, rfl⟩ : ∃ w0 w1 w2 w3 w4 : Value, args = #[w0, w1, w2, w3, w4] := by
    have hs : args.size = 5 := by simpa [Cond.value, given_1] using g1
    obtain ⟨L⟩ := args
    match L, hs with
    | [w0, w1, w2, w3, w4], _ => exact ⟨w0, w1, w2, w3, w4, rfl⟩
  have hw := fun d (hd : d ∈ tables_1) => atoms_spec (ws := Jvm.Cond.code x code maxLocals ret :: tables_1) hat d (List.mem_cons_of_mem _ hd)
  have hfit : Fit s := fun {y c} hc i hi => by
    obtain ⟨ha, rfl⟩ := Array.getElem?_eq_some_iff.mp hc
    have q := List.all_eq_true.mp ((Array.all_eq_true_iff_forall_mem.mp hF) _ (Array.getElem_mem ha)) i (List.mem_range.mpr hi)
    simpa [Array.getElem?_eq_getElem hi] using q
  obtain ⟨hsets, hown0⟩ := atoms_of _ (rest_1_c_eq ▸ (show rest_1_c.before _ s = true from hrest))
  obtain ⟨i0, ei0⟩ := is_v g3
  obtain rfl : w0 = (.int i0) := Option.some.inj ei0
  obtain ⟨i1, ei1⟩ := is_v g5
  obtain rfl : w1 = (.int i1) := Option.some.inj ei1
  obtain ⟨i2, ei2⟩ := is_v g7
  obtain rfl : w2 = (.int i2) := Option.some.inj ei2
  obtain ⟨i3, ei3⟩ := is_v g9
  obtain rfl : w3 = (.int i3) := Option.some.inj ei3
  obtain ⟨i4, ei4⟩ := is_v g10
  obtain rfl : w4 = (.int i4) := Option.some.inj ei4
  obtain ⟨st_COMPACT_STRINGS, ev_st_COMPACT_STRINGS⟩ := is_v (Cond.before_iff.mp (hsets _ (List.mem_of_getElem? (i := 1) rfl)))
  have S_st_COMPACT_STRINGS := Sta.start ev_st_COMPACT_STRINGS (Or.inl (hsets _ (List.mem_of_getElem? (i := 0) rfl)))
  have nz_st_COMPACT_STRINGS := own_nez ev_st_COMPACT_STRINGS (Cond.before_iff.mp (hsets _ (List.mem_of_getElem? (i := 2) rfl)))
  obtain ⟨st_SIOOBE_FORMATTER, ev_st_SIOOBE_FORMATTER, hr_st_SIOOBE_FORMATTER⟩ := isR_v (Cond.before_iff.mp (hsets _ (List.mem_of_getElem? (i := 8) rfl)))
  have S_st_SIOOBE_FORMATTER := Sta.start ev_st_SIOOBE_FORMATTER (Or.inl (hsets _ (List.mem_of_getElem? (i := 7) rfl)))
  obtain ⟨n, o, h1, h2, h3, _, L, rfl, ⟨rfl, N, hK⟩, hq⟩ := rm0 l s _ hw tables_1 i0 i1 i2 i3 i4 st_COMPACT_STRINGS s.heap s.heap.size (Old.start s) S_st_COMPACT_STRINGS nz_st_COMPACT_STRINGS p e ha hc hk s m _ below hf ((Spec.applies_iff_loose hf).mp happ).1 ⟨rfl, State.Warmed39.refl s, rfl⟩ trivial
  refine ⟨n, _, h1, h2, h3, hpost _ _ _ _ _ _ ⟨Cond.after_iff.mpr rfl, Cond.after_iff.mpr (eq_i res_at (Term.int_eval (1)) rfl), trivial⟩ ⟨hq.1, hq.2.1, (hq.2.2.sift fun y hy => Or.inr (N y hy)).mono (by decide) (by decide)⟩⟩
theorem main_1_1 : Claimed_1_1 := comes_1 fun _ _ _ _ _ _ h hF => ⟨h.1, hF⟩
theorem main_1_2 : Claimed_1_2 := comes_1 fun _ _ _ _ _ _ h hF => ⟨h.2.1, hF⟩
end Jvm.Pilot.@@N@@
namespace Jvm.Pilot.@@N@@
open Jvm Jvm.ClassFile Sem Op Lib Jvm.Free Jvm.Stand Jvm.Pilot.@@N@@.Jvm.D
/-! MADE BY PROGRAM (witnessworld.py) out of the Statement's table words and the real class files: 22 classes; the members and pool entries that the words name. The judged class is class 1, her method 2. -/
namespace start1
open Jvm.ClassFile
def u (s : String) : CpInfo := .utf8 (stringToUtf16 s)
/-- a pool by its gaps: so many unusable entries, then the entry; so many at the end -/
def gap : Nat → List CpInfo → List CpInfo
  | 0, r => r
  | n + 1, r => .unusable :: gap n r
def poolList (es : List (Nat × CpInfo)) (last : Nat) : List CpInfo := es.foldr (fun e r => gap e.1 (e.2 :: r)) (gap last [])
def pool (es : List (Nat × CpInfo)) (last : Nat) : Array CpInfo := ⟨poolList es last⟩
def fileOf (pool : Array CpInfo) (this : Nat) (attrs : Array Attribute := #[]) (ms : Array MethodInfo := #[]) (fl : Nat := 33) (sup : Nat := 0) (ifs : Array Nat := #[]) (fds : Array FieldInfo := #[]) : ClassFile where
  minorVersion := 0
  majorVersion := 65
  constantPool := pool
  accessFlags := fl
  thisClass := this
  superClass := sup
  interfaces := ifs
  fields := fds
  methods := ms
  attributes := attrs
def plain (name : String) (sup : Option ClassId) : Class where
  name := name
  kind := .ordinary
  loader := none
  accessFlags := 33
  super := sup
  interfaces := #[]
  cf := none
  fields := #[]
  methods := #[]
  instanceTypes := #[]
  staticTypes := #[]
  resolved := #[]
  callSites := []
  init := .initialized
  statics := none
  mirror := none

def pool0 : Array CpInfo := pool [(5, u "<init>"), (0, u "()V"), (1, .class_ 10), (1, u "java/lang/Object")] 113

def k0c0 : Code := { maxStack := 0, maxLocals := 1, code := object_method_1_code, exceptionTable := #[], attributes := #[] }
def k0m0 : Method := { name := "<init>", desc := "()V", sig := { parameters := [], returnType := none }, accessFlags := 1, code := some k0c0 }
/-- java/lang/Object -/
def k0 : Class := { plain "java/lang/Object" none with
  accessFlags := 33
  interfaces := #[]
  cf := some (fileOf pool0 8 #[] #[{ accessFlags := 1, nameIndex := 5, descriptorIndex := 6, attributes := #[] }] 33 0 #[] #[])
  fields := #[]
  methods := #[k0m0]
  instanceTypes := #[]
  staticTypes := #[]
  resolved := Array.replicate 124 none
  statics := none }

def pool1 : Array CpInfo := pool [(2, .class_ 4), (0, .nameAndType 5 6), (0, u "java/lang/Object"), (0, u "<init>"), (0, u "()V"), (0, .class_ 8), (0, u "com/example/horn1/horn1/term/Atom"), (0, .class_ 10), (0, u "java/lang/String"), (0, .methodref 9 12), (0, .nameAndType 5 13), (0, u "([C)V"), (0, .methodref 7 15), (0, .nameAndType 5 16), (0, u "(Ljava/lang/String;)V"), (0, .class_ 18), (0, u "com/example/horn1/horn1/term/Var"), (0, .methodref 17 3), (0, .methodref 21 22), (0, .class_ 23), (0, .nameAndType 24 25), (0, u "com/example/horn1/horn1/term/VarValuePinLaw"), (0, u "pick"), (0, u "(ILcom/example/horn1/horn1/term/Atom;Lcom/example/horn1/horn1/term/Var;Lcom/example/horn1/horn1/term/Var;)Lcom/example/horn1/horn1/term/Term;"), (0, .methodref 17 27), (0, .nameAndType 28 29), (0, u "value"), (0, u "()Lcom/example/horn1/horn1/term/Term;"), (0, .methodref 17 31), (0, .nameAndType 32 33), (0, u "bind"), (0, u "(Lcom/example/horn1/horn1/term/Term;)V"), (0, .methodref 17 35), (0, .nameAndType 36 6), (0, u "unbind"), (3, u "law"), (0, u "(IIIII)Z")] 6

def k1m0 : Method := { name := "<init>", desc := "()V", sig := { parameters := [], returnType := none }, accessFlags := 2, code := none }
def k1c1 : Code := { maxStack := 2, maxLocals := 5, code := method_2_code, exceptionTable := #[], attributes := #[] }
def k1m1 : Method := { name := "pick", desc := "(ILcom/example/horn1/horn1/term/Atom;Lcom/example/horn1/horn1/term/Var;Lcom/example/horn1/horn1/term/Var;)Lcom/example/horn1/horn1/term/Term;", sig := { parameters := [.int, (.object "com/example/horn1/horn1/term/Atom"), (.object "com/example/horn1/horn1/term/Var"), (.object "com/example/horn1/horn1/term/Var")], returnType := some (.object "com/example/horn1/horn1/term/Term") }, accessFlags := 10, code := some k1c1 }
def k1c2 : Code := { maxStack := 5, maxLocals := 12, code := code, exceptionTable := #[], attributes := #[] }
def k1m2 : Method := { name := "law", desc := "(IIIII)Z", sig := { parameters := [.int, .int, .int, .int, .int], returnType := some .boolean }, accessFlags := 9, code := some k1c2 }
/-- com/example/horn1/horn1/term/VarValuePinLaw -/
def k1 : Class := { plain "com/example/horn1/horn1/term/VarValuePinLaw" (some 0) with
  accessFlags := 49
  interfaces := #[]
  cf := some (fileOf pool1 21 #[] #[{ accessFlags := 2, nameIndex := 5, descriptorIndex := 6, attributes := #[] }, { accessFlags := 10, nameIndex := 24, descriptorIndex := 25, attributes := #[] }, { accessFlags := 9, nameIndex := 40, descriptorIndex := 41, attributes := #[] }] 49 2 #[] #[])
  fields := #[]
  methods := #[k1m0, k1m1, k1m2]
  instanceTypes := #[]
  staticTypes := #[]
  resolved := Array.replicate 48 none
  statics := none }

def pool2 : Array CpInfo := pool [(1, .methodref 2 3), (0, .class_ 4), (0, .nameAndType 5 6), (0, u "java/lang/Object"), (0, u "<init>"), (0, u "()V"), (6, .class_ 14), (0, u "com/example/horn1/horn1/term/Term")] 15

def k2c0 : Code := { maxStack := 1, maxLocals := 1, code := prog_124_method_1_code, exceptionTable := #[], attributes := #[] }
def k2m0 : Method := { name := "<init>", desc := "()V", sig := { parameters := [], returnType := none }, accessFlags := 0, code := some k2c0 }
/-- com/example/horn1/horn1/term/Term -/
def k2 : Class := { plain "com/example/horn1/horn1/term/Term" (some 0) with
  accessFlags := 1057
  interfaces := #[]
  cf := some (fileOf pool2 13 #[] #[{ accessFlags := 0, nameIndex := 5, descriptorIndex := 6, attributes := #[] }] 1057 2 #[] #[])
  fields := #[]
  methods := #[k2m0]
  instanceTypes := #[]
  staticTypes := #[]
  resolved := Array.replicate 30 none
  statics := none }

def pool3 : Array CpInfo := pool [(1, .methodref 2 3), (0, .class_ 4), (0, .nameAndType 5 6), (0, u "com/example/horn1/horn1/term/Term"), (0, u "<init>"), (0, u "()V"), (0, .fieldref 8 9), (0, .class_ 10), (0, .nameAndType 11 12), (0, u "com/example/horn1/horn1/term/Atom"), (0, u "name"), (0, u "Ljava/lang/String;"), (10, u "(Ljava/lang/String;)V")] 7

def k3c0 : Code := { maxStack := 2, maxLocals := 2, code := prog_119_method_1_code, exceptionTable := #[], attributes := #[] }
def k3m0 : Method := { name := "<init>", desc := "(Ljava/lang/String;)V", sig := { parameters := [(.object "java/lang/String")], returnType := none }, accessFlags := 1, code := some k3c0 }
/-- com/example/horn1/horn1/term/Atom -/
def k3 : Class := { plain "com/example/horn1/horn1/term/Atom" (some 2) with
  accessFlags := 49
  interfaces := #[]
  cf := some (fileOf pool3 8 #[] #[{ accessFlags := 1, nameIndex := 5, descriptorIndex := 23, attributes := #[] }] 49 2 #[] #[{ accessFlags := 18, nameIndex := 11, descriptorIndex := 12, attributes := #[] }])
  fields := #[{ name := "name", type := (.object "java/lang/String"), accessFlags := 18, slot := 0, constantValue := 0 }]
  methods := #[k3m0]
  instanceTypes := #[(.object "java/lang/String")]
  staticTypes := #[]
  resolved := Array.replicate 31 none
  statics := none }

def pool4 : Array CpInfo := pool [(1, .class_ 2), (0, u "java/io/Serializable"), (0, .class_ 4), (0, u "java/lang/Object")] 2

/-- java/io/Serializable -/
def k4 : Class := { plain "java/io/Serializable" (some 0) with
  accessFlags := 1537
  interfaces := #[]
  cf := some (fileOf pool4 1 #[] #[] 1537 3 #[] #[])
  fields := #[]
  methods := #[]
  instanceTypes := #[]
  staticTypes := #[]
  resolved := Array.replicate 7 none
  statics := none }

def pool5 : Array CpInfo := pool [(1, .class_ 2), (0, u "java/lang/Comparable"), (0, .class_ 4), (0, u "java/lang/Object")] 7

/-- java/lang/Comparable -/
def k5 : Class := { plain "java/lang/Comparable" (some 0) with
  accessFlags := 1537
  interfaces := #[]
  cf := some (fileOf pool5 1 #[] #[] 1537 3 #[] #[])
  fields := #[]
  methods := #[]
  instanceTypes := #[]
  staticTypes := #[]
  resolved := Array.replicate 12 none
  statics := none }

def pool6 : Array CpInfo := pool [(2, .class_ 4), (1, u "java/lang/CharSequence"), (42, .class_ 48), (0, u "java/lang/CharSequence$1CodePointIterator"), (10, .class_ 60), (0, u "java/lang/CharSequence$1CharIterator"), (5, .class_ 67), (0, u "java/lang/Object")] 63

/-- java/lang/CharSequence -/
def k6 : Class := { plain "java/lang/CharSequence" (some 0) with
  accessFlags := 1537
  interfaces := #[]
  cf := some (fileOf pool6 2 #[.nestMembers #[47, 59]] #[] 1537 66 #[] #[])
  fields := #[]
  methods := #[]
  instanceTypes := #[]
  staticTypes := #[]
  resolved := Array.replicate 131 none
  statics := none }

def pool7 : Array CpInfo := pool [(1, .class_ 2), (0, u "java/lang/constant/Constable"), (0, .class_ 4), (0, u "java/lang/Object")] 6

/-- java/lang/constant/Constable -/
def k7 : Class := { plain "java/lang/constant/Constable" (some 0) with
  accessFlags := 1537
  interfaces := #[]
  cf := some (fileOf pool7 1 #[] #[] 1537 3 #[] #[])
  fields := #[]
  methods := #[]
  instanceTypes := #[]
  staticTypes := #[]
  resolved := Array.replicate 11 none
  statics := none }

def pool8 : Array CpInfo := pool [(1, .class_ 2), (0, u "java/lang/constant/ConstantDesc"), (0, .class_ 4), (0, u "java/lang/Object")] 32

/-- java/lang/constant/ConstantDesc -/
def k8 : Class := { plain "java/lang/constant/ConstantDesc" (some 0) with
  accessFlags := 1537
  interfaces := #[]
  cf := some (fileOf pool8 1 #[] #[] 1537 3 #[] #[])
  fields := #[]
  methods := #[]
  instanceTypes := #[]
  staticTypes := #[]
  resolved := Array.replicate 37 none
  statics := none }

def pool9 : Array CpInfo := pool [(1, .methodref 2 3), (0, .class_ 4), (0, .nameAndType 5 6), (0, u "java/lang/Object"), (0, u "<init>"), (0, u "()V"), (2, .fieldref 10 11), (0, .class_ 12), (0, .nameAndType 13 14), (0, u "java/lang/String"), (0, u "value"), (0, u "[B"), (0, .fieldref 10 16), (0, .nameAndType 17 18), (0, u "coder"), (0, u "B"), (2, u "hash"), (0, u "I"), (2, u "hashIsZero"), (0, u "Z"), (0, .methodref 10 28), (0, .nameAndType 5 29), (0, u "([CIILjava/lang/Void;)V"), (8, .fieldref 10 39), (0, .nameAndType 40 26), (0, u "COMPACT_STRINGS"), (1, .class_ 44), (1, u "java/lang/StringUTF16"), (0, u "compress"), (1, .methodref 42 48), (0, .nameAndType 49 50), (0, u "coderFromArrayLen"), (0, u "([BI)B"), (126, .methodref 42 178), (0, .nameAndType 45 179), (0, u "([CII)[B"), (395, .class_ 576), (0, u "java/lang/CharSequence"), (22, u "CASE_INSENSITIVE_ORDER"), (0, u "Ljava/util/Comparator;"), (409, u "([C)V"), (90, u "serialPersistentFields"), (0, u "[Ljava/io/ObjectStreamField;"), (0, .class_ 1104), (0, u "java/lang/String$CaseInsensitiveComparator"), (1, .class_ 1107), (0, u "java/io/Serializable"), (0, .class_ 1109), (0, u "java/lang/Comparable"), (0, .class_ 1111), (0, u "java/lang/constant/Constable"), (0, .class_ 1113), (0, u "java/lang/constant/ConstantDesc"), (2, u "serialVersionUID"), (0, u "J"), (3, u "REPL"), (0, u "C"), (2, u "LATIN1"), (1, u "UTF16")] 323

def k9m0 : Method := { name := "<init>", desc := "()V", sig := { parameters := [], returnType := none }, accessFlags := 1, code := none }
def k9c1 : Code := { maxStack := 5, maxLocals := 2, code := jdk_42_method_3_code, exceptionTable := #[], attributes := #[] }
def k9m1 : Method := { name := "<init>", desc := "([C)V", sig := { parameters := [(.array .char)], returnType := none }, accessFlags := 1, code := some k9c1 }
def k9c2 : Code := { maxStack := 4, maxLocals := 6, code := jdk_42_method_149_code, exceptionTable := #[], attributes := #[] }
def k9m2 : Method := { name := "<init>", desc := "([CIILjava/lang/Void;)V", sig := { parameters := [(.array .char), .int, .int, (.object "java/lang/Void")], returnType := none }, accessFlags := 2, code := some k9c2 }
/-- java/lang/String -/
def k9 : Class := { plain "java/lang/String" (some 0) with
  accessFlags := 49
  interfaces := #[4, 5, 6, 7, 8]
  cf := some (fileOf pool9 10 #[.nestMembers #[1103]] #[{ accessFlags := 1, nameIndex := 5, descriptorIndex := 6, attributes := #[] }, { accessFlags := 1, nameIndex := 5, descriptorIndex := 1010, attributes := #[] }, { accessFlags := 2, nameIndex := 5, descriptorIndex := 29, attributes := #[] }] 49 2 #[1106, 1108, 575, 1110, 1112] #[{ accessFlags := 18, nameIndex := 13, descriptorIndex := 14, attributes := #[] }, { accessFlags := 18, nameIndex := 17, descriptorIndex := 18, attributes := #[] }, { accessFlags := 2, nameIndex := 21, descriptorIndex := 22, attributes := #[] }, { accessFlags := 2, nameIndex := 25, descriptorIndex := 26, attributes := #[] }, { accessFlags := 26, nameIndex := 1116, descriptorIndex := 1117, attributes := #[] }, { accessFlags := 24, nameIndex := 40, descriptorIndex := 26, attributes := #[] }, { accessFlags := 26, nameIndex := 1101, descriptorIndex := 1102, attributes := #[] }, { accessFlags := 26, nameIndex := 1121, descriptorIndex := 1122, attributes := #[] }, { accessFlags := 25, nameIndex := 599, descriptorIndex := 600, attributes := #[] }, { accessFlags := 24, nameIndex := 1125, descriptorIndex := 18, attributes := #[] }, { accessFlags := 24, nameIndex := 1127, descriptorIndex := 18, attributes := #[] }])
  fields := #[{ name := "value", type := (.array .byte), accessFlags := 18, slot := 0, constantValue := 0 }, { name := "coder", type := .byte, accessFlags := 18, slot := 1, constantValue := 0 }, { name := "hash", type := .int, accessFlags := 2, slot := 2, constantValue := 0 }, { name := "hashIsZero", type := .boolean, accessFlags := 2, slot := 3, constantValue := 0 }, { name := "serialVersionUID", type := .long, accessFlags := 26, slot := 0, constantValue := 0 }, { name := "COMPACT_STRINGS", type := .boolean, accessFlags := 24, slot := 1, constantValue := 0 }, { name := "serialPersistentFields", type := (.array (.object "java/io/ObjectStreamField")), accessFlags := 26, slot := 2, constantValue := 0 }, { name := "REPL", type := .char, accessFlags := 26, slot := 3, constantValue := 0 }, { name := "CASE_INSENSITIVE_ORDER", type := (.object "java/util/Comparator"), accessFlags := 25, slot := 4, constantValue := 0 }, { name := "LATIN1", type := .byte, accessFlags := 24, slot := 5, constantValue := 0 }, { name := "UTF16", type := .byte, accessFlags := 24, slot := 6, constantValue := 0 }]
  methods := #[k9m0, k9m1, k9m2]
  instanceTypes := #[(.array .byte), .byte, .int, .boolean]
  staticTypes := #[.long, .boolean, (.array (.object "java/io/ObjectStreamField")), .char, (.object "java/util/Comparator"), .byte, .byte]
  resolved := Array.replicate 1451 none
  statics := some 0 }

def pool10 : Array CpInfo := pool [(6, .class_ 8), (1, u "java/lang/Object"), (0, u "<init>"), (0, u "()V"), (1, .class_ 14), (1, u "java/lang/StringUTF16"), (31, u "$assertionsDisabled"), (0, u "Z"), (13, u "HI_BYTE_SHIFT"), (0, u "I"), (2, u "LO_BYTE_SHIFT"), (49, .methodref 12 116), (0, .nameAndType 117 118), (0, u "compress"), (0, u "([CI[BII)I"), (3, u "([CII)[B"), (138, u "coderFromArrayLen"), (0, u "([BI)B"), (106, .class_ 371), (1, u "java/lang/StringUTF16$LinesSpliterator"), (58, u "MAX_LENGTH"), (196, .class_ 628), (0, u "java/lang/StringUTF16$CodePointsSpliterator"), (0, .class_ 630), (0, u "java/lang/StringUTF16$CharsSpliterator")] 4

def k10m0 : Method := { name := "<init>", desc := "()V", sig := { parameters := [], returnType := none }, accessFlags := 0, code := none }
def k10c1 : Code := { maxStack := 2, maxLocals := 2, code := jdk_52_method_15_code, exceptionTable := #[], attributes := #[] }
def k10m1 : Method := { name := "coderFromArrayLen", desc := "([BI)B", sig := { parameters := [(.array .byte), .int], returnType := some .byte }, accessFlags := 8, code := some k10c1 }
def k10c2 : Code := { maxStack := 5, maxLocals := 6, code := jdk_52_method_16_code, exceptionTable := #[], attributes := #[] }
def k10m2 : Method := { name := "compress", desc := "([CII)[B", sig := { parameters := [(.array .char), .int, .int], returnType := some (.array .byte) }, accessFlags := 9, code := some k10c2 }
def k10c3 : Code := { maxStack := 3, maxLocals := 7, code := jdk_52_method_21_code, exceptionTable := #[], attributes := #[] }
def k10m3 : Method := { name := "compress", desc := "([CI[BII)I", sig := { parameters := [(.array .char), .int, (.array .byte), .int, .int], returnType := some .int }, accessFlags := 9, code := some k10c3 }
/-- java/lang/StringUTF16 -/
def k10 : Class := { plain "java/lang/StringUTF16" (some 0) with
  accessFlags := 48
  interfaces := #[]
  cf := some (fileOf pool10 12 #[.nestMembers #[627, 629, 369]] #[{ accessFlags := 0, nameIndex := 9, descriptorIndex := 10, attributes := #[] }, { accessFlags := 8, nameIndex := 261, descriptorIndex := 262, attributes := #[] }, { accessFlags := 9, nameIndex := 117, descriptorIndex := 122, attributes := #[] }, { accessFlags := 9, nameIndex := 117, descriptorIndex := 118, attributes := #[] }] 48 6 #[] #[{ accessFlags := 26, nameIndex := 61, descriptorIndex := 62, attributes := #[] }, { accessFlags := 26, nameIndex := 65, descriptorIndex := 62, attributes := #[] }, { accessFlags := 24, nameIndex := 430, descriptorIndex := 62, attributes := #[] }, { accessFlags := 4120, nameIndex := 46, descriptorIndex := 47, attributes := #[] }])
  fields := #[{ name := "HI_BYTE_SHIFT", type := .int, accessFlags := 26, slot := 0, constantValue := 0 }, { name := "LO_BYTE_SHIFT", type := .int, accessFlags := 26, slot := 1, constantValue := 0 }, { name := "MAX_LENGTH", type := .int, accessFlags := 24, slot := 2, constantValue := 0 }, { name := "$assertionsDisabled", type := .boolean, accessFlags := 4120, slot := 3, constantValue := 0 }]
  methods := #[k10m0, k10m1, k10m2, k10m3]
  instanceTypes := #[]
  staticTypes := #[.int, .int, .int, .boolean]
  resolved := Array.replicate 635 none
  statics := none }

def pool11 : Array CpInfo := pool [(1, .methodref 2 3), (0, .class_ 4), (0, .nameAndType 5 6), (0, u "com/example/horn1/horn1/term/Term"), (0, u "<init>"), (0, u "()V"), (0, .fieldref 8 9), (0, .class_ 10), (0, .nameAndType 11 12), (0, u "com/example/horn1/horn1/term/Var"), (0, u "value"), (0, u "Ljava/lang/Object;"), (0, .class_ 14), (0, u "com/example/horn1/horn1/term/Var$Epoch"), (6, u "()Lcom/example/horn1/horn1/term/Term;"), (0, u "bind"), (0, u "(Lcom/example/horn1/horn1/term/Term;)V"), (0, u "unbind")] 5

def k11c0 : Code := { maxStack := 1, maxLocals := 1, code := prog_125_method_1_code, exceptionTable := #[], attributes := #[] }
def k11m0 : Method := { name := "<init>", desc := "()V", sig := { parameters := [], returnType := none }, accessFlags := 1, code := some k11c0 }
def k11c1 : Code := { maxStack := 1, maxLocals := 3, code := prog_125_method_4_code, exceptionTable := #[], attributes := #[] }
def k11m1 : Method := { name := "value", desc := "()Lcom/example/horn1/horn1/term/Term;", sig := { parameters := [], returnType := some (.object "com/example/horn1/horn1/term/Term") }, accessFlags := 0, code := some k11c1 }
def k11c2 : Code := { maxStack := 2, maxLocals := 2, code := prog_125_method_5_code, exceptionTable := #[], attributes := #[] }
def k11m2 : Method := { name := "bind", desc := "(Lcom/example/horn1/horn1/term/Term;)V", sig := { parameters := [(.object "com/example/horn1/horn1/term/Term")], returnType := none }, accessFlags := 1, code := some k11c2 }
def k11c3 : Code := { maxStack := 2, maxLocals := 1, code := prog_125_method_6_code, exceptionTable := #[], attributes := #[] }
def k11m3 : Method := { name := "unbind", desc := "()V", sig := { parameters := [], returnType := none }, accessFlags := 1, code := some k11c3 }
/-- com/example/horn1/horn1/term/Var -/
def k11 : Class := { plain "com/example/horn1/horn1/term/Var" (some 2) with
  accessFlags := 49
  interfaces := #[]
  cf := some (fileOf pool11 8 #[.nestMembers #[13]] #[{ accessFlags := 1, nameIndex := 5, descriptorIndex := 6, attributes := #[] }, { accessFlags := 0, nameIndex := 11, descriptorIndex := 21, attributes := #[] }, { accessFlags := 1, nameIndex := 22, descriptorIndex := 23, attributes := #[] }, { accessFlags := 1, nameIndex := 24, descriptorIndex := 6, attributes := #[] }] 49 2 #[] #[{ accessFlags := 2, nameIndex := 11, descriptorIndex := 12, attributes := #[] }])
  fields := #[{ name := "value", type := (.object "java/lang/Object"), accessFlags := 2, slot := 0, constantValue := 0 }]
  methods := #[k11m0, k11m1, k11m2, k11m3]
  instanceTypes := #[(.object "java/lang/Object")]
  staticTypes := #[]
  resolved := Array.replicate 30 none
  statics := none }

def pool12 : Array CpInfo := pool [(4, .class_ 6), (1, u "java/lang/Object"), (0, u "<init>"), (0, u "()V"), (5, .class_ 16), (1, u "java/lang/StringLatin1"), (104, u "$assertionsDisabled"), (0, u "Z"), (98, .class_ 223), (1, u "java/lang/StringLatin1$LinesSpliterator"), (166, .class_ 391), (0, u "java/lang/StringLatin1$CharsSpliterator")] 3

def k12m0 : Method := { name := "<init>", desc := "()V", sig := { parameters := [], returnType := none }, accessFlags := 0, code := none }
/-- java/lang/StringLatin1 -/
def k12 : Class := { plain "java/lang/StringLatin1" (some 0) with
  accessFlags := 48
  interfaces := #[]
  cf := some (fileOf pool12 14 #[.nestMembers #[390, 221]] #[{ accessFlags := 0, nameIndex := 7, descriptorIndex := 8, attributes := #[] }] 48 4 #[] #[{ accessFlags := 4120, nameIndex := 121, descriptorIndex := 122, attributes := #[] }])
  fields := #[{ name := "$assertionsDisabled", type := .boolean, accessFlags := 4120, slot := 0, constantValue := 0 }]
  methods := #[k12m0]
  instanceTypes := #[]
  staticTypes := #[.boolean]
  resolved := Array.replicate 395 none
  statics := none }

def pool13 : Array CpInfo := pool [(2, .class_ 4), (1, u "java/lang/Object"), (0, u "<init>"), (0, u "()V"), (17, .class_ 26), (1, u "jdk/internal/util/Preconditions"), (28, .class_ 56), (0, u "jdk/internal/util/Preconditions$4"), (57, .class_ 115), (0, u "jdk/internal/util/Preconditions$1"), (7, u "SIOOBE_FORMATTER"), (0, u "Ljava/util/function/BiFunction;"), (0, .class_ 126), (0, u "jdk/internal/util/Preconditions$2"), (3, u "AIOOBE_FORMATTER"), (0, .class_ 132), (0, u "jdk/internal/util/Preconditions$3"), (3, u "IOOBE_FORMATTER")] 57

def k13m0 : Method := { name := "<init>", desc := "()V", sig := { parameters := [], returnType := none }, accessFlags := 1, code := none }
/-- jdk/internal/util/Preconditions -/
def k13 : Class := { plain "jdk/internal/util/Preconditions" (some 0) with
  accessFlags := 33
  interfaces := #[]
  cf := some (fileOf pool13 24 #[.nestMembers #[55, 131, 125, 114]] #[{ accessFlags := 1, nameIndex := 5, descriptorIndex := 6, attributes := #[] }] 33 2 #[] #[{ accessFlags := 25, nameIndex := 123, descriptorIndex := 124, attributes := #[] }, { accessFlags := 25, nameIndex := 130, descriptorIndex := 124, attributes := #[] }, { accessFlags := 25, nameIndex := 136, descriptorIndex := 124, attributes := #[] }])
  fields := #[{ name := "SIOOBE_FORMATTER", type := (.object "java/util/function/BiFunction"), accessFlags := 25, slot := 0, constantValue := 0 }, { name := "AIOOBE_FORMATTER", type := (.object "java/util/function/BiFunction"), accessFlags := 25, slot := 1, constantValue := 0 }, { name := "IOOBE_FORMATTER", type := (.object "java/util/function/BiFunction"), accessFlags := 25, slot := 2, constantValue := 0 }]
  methods := #[k13m0]
  instanceTypes := #[]
  staticTypes := #[(.object "java/util/function/BiFunction"), (.object "java/util/function/BiFunction"), (.object "java/util/function/BiFunction")]
  resolved := Array.replicate 194 none
  statics := some 1 }

def pool14 : Array CpInfo := pool [(9, u "<init>"), (6, .class_ 18), (1, u "java/lang/Object"), (0, u "()V"), (1, .class_ 23), (1, u "jdk/internal/util/ArraysSupport"), (0, u "LOG2_ARRAY_LONG_INDEX_SCALE"), (0, u "I"), (2, u "U"), (0, u "Ljdk/internal/misc/Unsafe;"), (8, u "BIG_ENDIAN"), (0, u "Z"), (8, u "LOG2_BYTE_BIT_SIZE"), (4, u "LOG2_ARRAY_INT_INDEX_SCALE"), (54, u "JLA"), (0, u "Ljdk/internal/access/JavaLangAccess;"), (11, u "LOG2_ARRAY_BOOLEAN_INDEX_SCALE"), (9, u "LOG2_ARRAY_BYTE_INDEX_SCALE"), (5, u "LOG2_ARRAY_CHAR_INDEX_SCALE"), (5, u "LOG2_ARRAY_SHORT_INDEX_SCALE"), (18, u "LOG2_ARRAY_FLOAT_INDEX_SCALE"), (24, u "LOG2_ARRAY_DOUBLE_INDEX_SCALE"), (89, u "T_BOOLEAN"), (2, u "T_CHAR"), (1, u "T_FLOAT"), (1, u "T_DOUBLE"), (1, u "T_BYTE"), (1, u "T_SHORT"), (1, u "T_INT"), (1, u "T_LONG"), (1, u "SOFT_MAX_ARRAY_LENGTH")] 83

def k14m0 : Method := { name := "<init>", desc := "()V", sig := { parameters := [], returnType := none }, accessFlags := 2, code := none }
/-- jdk/internal/util/ArraysSupport -/
def k14 : Class := { plain "jdk/internal/util/ArraysSupport" (some 0) with
  accessFlags := 33
  interfaces := #[]
  cf := some (fileOf pool14 21 #[] #[{ accessFlags := 2, nameIndex := 9, descriptorIndex := 19, attributes := #[] }] 33 16 #[] #[{ accessFlags := 24, nameIndex := 28, descriptorIndex := 29, attributes := #[] }, { accessFlags := 26, nameIndex := 38, descriptorIndex := 39, attributes := #[] }, { accessFlags := 25, nameIndex := 121, descriptorIndex := 25, attributes := #[] }, { accessFlags := 25, nameIndex := 131, descriptorIndex := 25, attributes := #[] }, { accessFlags := 25, nameIndex := 137, descriptorIndex := 25, attributes := #[] }, { accessFlags := 25, nameIndex := 143, descriptorIndex := 25, attributes := #[] }, { accessFlags := 25, nameIndex := 53, descriptorIndex := 25, attributes := #[] }, { accessFlags := 25, nameIndex := 24, descriptorIndex := 25, attributes := #[] }, { accessFlags := 25, nameIndex := 162, descriptorIndex := 25, attributes := #[] }, { accessFlags := 25, nameIndex := 187, descriptorIndex := 25, attributes := #[] }, { accessFlags := 26, nameIndex := 48, descriptorIndex := 25, attributes := #[] }, { accessFlags := 25, nameIndex := 277, descriptorIndex := 25, attributes := #[] }, { accessFlags := 25, nameIndex := 280, descriptorIndex := 25, attributes := #[] }, { accessFlags := 25, nameIndex := 282, descriptorIndex := 25, attributes := #[] }, { accessFlags := 25, nameIndex := 284, descriptorIndex := 25, attributes := #[] }, { accessFlags := 25, nameIndex := 286, descriptorIndex := 25, attributes := #[] }, { accessFlags := 25, nameIndex := 288, descriptorIndex := 25, attributes := #[] }, { accessFlags := 25, nameIndex := 290, descriptorIndex := 25, attributes := #[] }, { accessFlags := 25, nameIndex := 292, descriptorIndex := 25, attributes := #[] }, { accessFlags := 26, nameIndex := 108, descriptorIndex := 109, attributes := #[] }, { accessFlags := 25, nameIndex := 294, descriptorIndex := 25, attributes := #[] }])
  fields := #[{ name := "U", type := (.object "jdk/internal/misc/Unsafe"), accessFlags := 24, slot := 0, constantValue := 0 }, { name := "BIG_ENDIAN", type := .boolean, accessFlags := 26, slot := 1, constantValue := 0 }, { name := "LOG2_ARRAY_BOOLEAN_INDEX_SCALE", type := .int, accessFlags := 25, slot := 2, constantValue := 0 }, { name := "LOG2_ARRAY_BYTE_INDEX_SCALE", type := .int, accessFlags := 25, slot := 3, constantValue := 0 }, { name := "LOG2_ARRAY_CHAR_INDEX_SCALE", type := .int, accessFlags := 25, slot := 4, constantValue := 0 }, { name := "LOG2_ARRAY_SHORT_INDEX_SCALE", type := .int, accessFlags := 25, slot := 5, constantValue := 0 }, { name := "LOG2_ARRAY_INT_INDEX_SCALE", type := .int, accessFlags := 25, slot := 6, constantValue := 0 }, { name := "LOG2_ARRAY_LONG_INDEX_SCALE", type := .int, accessFlags := 25, slot := 7, constantValue := 0 }, { name := "LOG2_ARRAY_FLOAT_INDEX_SCALE", type := .int, accessFlags := 25, slot := 8, constantValue := 0 }, { name := "LOG2_ARRAY_DOUBLE_INDEX_SCALE", type := .int, accessFlags := 25, slot := 9, constantValue := 0 }, { name := "LOG2_BYTE_BIT_SIZE", type := .int, accessFlags := 26, slot := 10, constantValue := 0 }, { name := "T_BOOLEAN", type := .int, accessFlags := 25, slot := 11, constantValue := 0 }, { name := "T_CHAR", type := .int, accessFlags := 25, slot := 12, constantValue := 0 }, { name := "T_FLOAT", type := .int, accessFlags := 25, slot := 13, constantValue := 0 }, { name := "T_DOUBLE", type := .int, accessFlags := 25, slot := 14, constantValue := 0 }, { name := "T_BYTE", type := .int, accessFlags := 25, slot := 15, constantValue := 0 }, { name := "T_SHORT", type := .int, accessFlags := 25, slot := 16, constantValue := 0 }, { name := "T_INT", type := .int, accessFlags := 25, slot := 17, constantValue := 0 }, { name := "T_LONG", type := .int, accessFlags := 25, slot := 18, constantValue := 0 }, { name := "JLA", type := (.object "jdk/internal/access/JavaLangAccess"), accessFlags := 26, slot := 19, constantValue := 0 }, { name := "SOFT_MAX_ARRAY_LENGTH", type := .int, accessFlags := 25, slot := 20, constantValue := 0 }]
  methods := #[k14m0]
  instanceTypes := #[]
  staticTypes := #[(.object "jdk/internal/misc/Unsafe"), .boolean, .int, .int, .int, .int, .int, .int, .int, .int, .int, .int, .int, .int, .int, .int, .int, .int, .int, (.object "jdk/internal/access/JavaLangAccess"), .int]
  resolved := Array.replicate 378 none
  statics := none }

def pool15 : Array CpInfo := pool [(1, u "java/lang/Cloneable"), (0, .class_ 1), (0, u "java/lang/Object"), (0, .class_ 3)] 3

/-- java/lang/Cloneable -/
def k15 : Class := { plain "java/lang/Cloneable" (some 0) with
  accessFlags := 1537
  interfaces := #[]
  cf := some (fileOf pool15 2 #[] #[] 1537 4 #[] #[])
  fields := #[]
  methods := #[]
  instanceTypes := #[]
  staticTypes := #[]
  resolved := Array.replicate 8 none
  statics := none }

/-- the primitive byte -/
def k16 : Class := { plain "byte" none with kind := .primitive 'B', accessFlags := 0x411 }
/-- [B -/
def k17 : Class := { plain "[B" (some 0) with kind := .array 16 .byte, interfaces := #[15, 4], accessFlags := 1041 }

/-- the primitive char -/
def k18 : Class := { plain "char" none with kind := .primitive 'C', accessFlags := 0x411 }
/-- [C -/
def k19 : Class := { plain "[C" (some 0) with kind := .array 18 .char, interfaces := #[15, 4], accessFlags := 1041 }

/-- the primitive int -/
def k20 : Class := { plain "int" none with kind := .primitive 'I', accessFlags := 0x411 }
/-- [I -/
def k21 : Class := { plain "[I" (some 0) with kind := .array 20 .int, interfaces := #[15, 4], accessFlags := 1041 }

def heap : Heap := #[{ cls := 9, slots := #[.long 0, .int 1, .null, .int 0, .null, .int 0, .int 0], vm := .statics 9 },
  { cls := 13, slots := #[.null, .null, .null], vm := .statics 13 }]
def classes : Array Class := #[k0, k1, k2, k3, k4, k5, k6, k7, k8, k9, k10, k11, k12, k13, k14, k15, k16, k17, k18, k19, k20, k21]
def interned : List (Array UInt16 × Addr) := []
def slotsUsed : Nat := 10
def theMethod : MethodId := ⟨1, 2⟩
def args0 : Array Value := #[.int 1, .int 2, .int 3, .int 4, .int 5]
def aboutOver (below : List Frame) : State where
  vm := { classes := classes, interned := interned.toArray }
  heap := heap
  slotsUsed := slotsUsed
  threads := #[{ frames := .invoking theMethod args0 :: below }]
def below0 : List Frame := [.native { method := ⟨0, 0⟩, args := #[] }]
def about1 : State := aboutOver below0
def p0 : Program := .bare "" "" ""
def e0 : Env := launch0.env 0 0 0
theorem w_frames : about1.frames = Frame.invoking theMethod args0 :: below0 := rfl
set_option maxRecDepth 65536 in
theorem w_args : argsFit about1.vm theMethod args0 = true := by decide +kernel
set_option maxRecDepth 65536 in
theorem w_heap : heapFits about1 = true := by decide +kernel
set_option maxRecDepth 65536 in
theorem w_runnable : about1.curStatus? = some .runnable := by decide +kernel
set_option maxRecDepth 65536 in
theorem w_alone : about1.alone = true := by decide +kernel
set_option maxRecDepth 65536 in
theorem w_named : about1.methodNamed? x = some theMethod := by decide +kernel
set_option maxRecDepth 65536 in
theorem w_hears : about1.hears theMethod below0 = true := by decide +kernel
set_option maxRecDepth 65536 in
theorem w_ripe : about1.ripe theMethod args0 below0 = true := by decide +kernel
theorem w_running : about1.status = .running := rfl
set_option maxRecDepth 65536 in
theorem w_room : about1.hasRoom e0.platform room_1 = true :=
  launch0.hasRoom_least _ room_1 (by decide +kernel) (by decide +kernel) (by decide +kernel) (by decide +kernel) (by decide +kernel) (by decide +kernel)
theorem allAtoms_all (ts : List Jvm.Cond) (a : Array Jvm.Value) (st : Jvm.State) : (allAtoms ts).before a st = ts.all (fun c => c.before a st) := by
  induction ts with
  | nil => rfl
  | cons c t ih =>
    show (Jvm.Cond.and c (allAtoms t)).before a st = _
    rw [Jvm.Cond.before_and, ih, List.all_cons]
def words1 : List Jvm.Cond := Jvm.Cond.code x code maxLocals ret :: tables_1
/-- a 'code' word, met by the world's own term for the bytes: nothing is compared byte by byte -/
theorem code_word {y : MethodName} {bytes : ByteArray} {mx : Nat} {rt : Option FieldType} {a : Array Value} {s : State} {m : MethodId} {meth : Method} {c : Code} (h1 : s.methodNamed? y = some m) (h2 : s.vm.method? m = some meth) (h3 : meth.code = some c) (h4 : c.code = bytes)
    (h5 : (c.maxLocals == mx && c.exceptionTable.isEmpty && decide (c.maxStack ≤ mostOperands) && decide (meth.sig.returnType = rt) && !meth.locks && decide (parseMethodDescriptor y.desc = some meth.sig)) = true) : (Jvm.Cond.code y bytes mx rt).before a s = true := by
  simp only [Bool.and_eq_true, beq_iff_eq, Bool.not_eq_true', decide_eq_true_eq] at h5
  obtain ⟨⟨⟨⟨⟨g1, g2⟩, g3⟩, g4⟩, g5⟩, g6⟩ := h5
  simp [Cond.before, Cond.holds, Cond.value, h1, h2, h3, h4, g1, g2, g3, g4, g5, g6]
def isCode : Jvm.Cond → Bool
  | .code _ _ _ _ => true
  | _ => false
theorem all_split {L : List Jvm.Cond} {P : Jvm.Cond → Bool} (h1 : L.all (fun c => isCode c || P c) = true) (h2 : ∀ c ∈ L.filter isCode, P c = true) : L.all P = true := by
  refine List.all_eq_true.mpr fun c hc => ?_
  have h := List.all_eq_true.mp h1 c hc
  rcases Bool.eq_false_or_eq_true (isCode c) with hi | hi
  · exact h2 c (List.mem_filter.mpr ⟨hc, hi⟩)
  · simpa [hi] using h
set_option maxRecDepth 65536 in
theorem w_c0 : (Jvm.Cond.code x code maxLocals ret).before args0 about1 = true := code_word (m := ⟨1, 2⟩) (meth := k1m2) (c := k1c2) (by decide +kernel) rfl rfl rfl (by decide +kernel)
set_option maxRecDepth 65536 in
theorem w_c1 : (Jvm.Cond.code ({ cls := "java/lang/String", name := "<init>", desc := "([C)V" } : Jvm.MethodName) jdk_42_method_3_code (2 : Nat) (Option.none : Option Jvm.ClassFile.FieldType)).before args0 about1 = true := code_word (m := ⟨9, 1⟩) (meth := k9m1) (c := k9c1) (by decide +kernel) rfl rfl rfl (by decide +kernel)
set_option maxRecDepth 65536 in
theorem w_c2 : (Jvm.Cond.code ({ cls := "java/lang/String", name := "<init>", desc := "([CIILjava/lang/Void;)V" } : Jvm.MethodName) jdk_42_method_149_code (6 : Nat) (Option.none : Option Jvm.ClassFile.FieldType)).before args0 about1 = true := code_word (m := ⟨9, 2⟩) (meth := k9m2) (c := k9c2) (by decide +kernel) rfl rfl rfl (by decide +kernel)
set_option maxRecDepth 65536 in
theorem w_c3 : (Jvm.Cond.code ({ cls := "java/lang/Object", name := "<init>", desc := "()V" } : Jvm.MethodName) object_method_1_code (1 : Nat) (Option.none : Option Jvm.ClassFile.FieldType)).before args0 about1 = true := code_word (m := ⟨0, 0⟩) (meth := k0m0) (c := k0c0) (by decide +kernel) rfl rfl rfl (by decide +kernel)
set_option maxRecDepth 65536 in
theorem w_c4 : (Jvm.Cond.code ({ cls := "java/lang/StringUTF16", name := "compress", desc := "([CII)[B" } : Jvm.MethodName) jdk_52_method_16_code (6 : Nat) (Option.some (Jvm.ClassFile.FieldType.array Jvm.ClassFile.FieldType.byte))).before args0 about1 = true := code_word (m := ⟨10, 2⟩) (meth := k10m2) (c := k10c2) (by decide +kernel) rfl rfl rfl (by decide +kernel)
set_option maxRecDepth 65536 in
theorem w_c5 : (Jvm.Cond.code ({ cls := "java/lang/StringUTF16", name := "compress", desc := "([CI[BII)I" } : Jvm.MethodName) jdk_52_method_21_code (7 : Nat) (Option.some Jvm.ClassFile.FieldType.int)).before args0 about1 = true := code_word (m := ⟨10, 3⟩) (meth := k10m3) (c := k10c3) (by decide +kernel) rfl rfl rfl (by decide +kernel)
set_option maxRecDepth 65536 in
theorem w_c6 : (Jvm.Cond.code ({ cls := "java/lang/StringUTF16", name := "coderFromArrayLen", desc := "([BI)B" } : Jvm.MethodName) jdk_52_method_15_code (2 : Nat) (Option.some Jvm.ClassFile.FieldType.byte)).before args0 about1 = true := code_word (m := ⟨10, 1⟩) (meth := k10m1) (c := k10c1) (by decide +kernel) rfl rfl rfl (by decide +kernel)
set_option maxRecDepth 65536 in
theorem w_c7 : (Jvm.Cond.code ({ cls := "com/example/horn1/horn1/term/Atom", name := "<init>", desc := "(Ljava/lang/String;)V" } : Jvm.MethodName) prog_119_method_1_code (2 : Nat) (Option.none : Option Jvm.ClassFile.FieldType)).before args0 about1 = true := code_word (m := ⟨3, 0⟩) (meth := k3m0) (c := k3c0) (by decide +kernel) rfl rfl rfl (by decide +kernel)
set_option maxRecDepth 65536 in
theorem w_c8 : (Jvm.Cond.code ({ cls := "com/example/horn1/horn1/term/Term", name := "<init>", desc := "()V" } : Jvm.MethodName) prog_124_method_1_code (1 : Nat) (Option.none : Option Jvm.ClassFile.FieldType)).before args0 about1 = true := code_word (m := ⟨2, 0⟩) (meth := k2m0) (c := k2c0) (by decide +kernel) rfl rfl rfl (by decide +kernel)
set_option maxRecDepth 65536 in
theorem w_c9 : (Jvm.Cond.code ({ cls := "com/example/horn1/horn1/term/Var", name := "<init>", desc := "()V" } : Jvm.MethodName) prog_125_method_1_code (1 : Nat) (Option.none : Option Jvm.ClassFile.FieldType)).before args0 about1 = true := code_word (m := ⟨11, 0⟩) (meth := k11m0) (c := k11c0) (by decide +kernel) rfl rfl rfl (by decide +kernel)
set_option maxRecDepth 65536 in
theorem w_c10 : (Jvm.Cond.code ({ cls := "com/example/horn1/horn1/term/VarValuePinLaw", name := "pick", desc := "(ILcom/example/horn1/horn1/term/Atom;Lcom/example/horn1/horn1/term/Var;Lcom/example/horn1/horn1/term/Var;)Lcom/example/horn1/horn1/term/Term;" } : Jvm.MethodName) method_2_code (5 : Nat) (Option.some (Jvm.ClassFile.FieldType.object "com/example/horn1/horn1/term/Term"))).before args0 about1 = true := code_word (m := ⟨1, 1⟩) (meth := k1m1) (c := k1c1) (by decide +kernel) rfl rfl rfl (by decide +kernel)
set_option maxRecDepth 65536 in
theorem w_c11 : (Jvm.Cond.code ({ cls := "com/example/horn1/horn1/term/Var", name := "value", desc := "()Lcom/example/horn1/horn1/term/Term;" } : Jvm.MethodName) prog_125_method_4_code (3 : Nat) (Option.some (Jvm.ClassFile.FieldType.object "com/example/horn1/horn1/term/Term"))).before args0 about1 = true := code_word (m := ⟨11, 1⟩) (meth := k11m1) (c := k11c1) (by decide +kernel) rfl rfl rfl (by decide +kernel)
set_option maxRecDepth 65536 in
theorem w_c12 : (Jvm.Cond.code ({ cls := "com/example/horn1/horn1/term/Var", name := "bind", desc := "(Lcom/example/horn1/horn1/term/Term;)V" } : Jvm.MethodName) prog_125_method_5_code (2 : Nat) (Option.none : Option Jvm.ClassFile.FieldType)).before args0 about1 = true := code_word (m := ⟨11, 2⟩) (meth := k11m2) (c := k11c2) (by decide +kernel) rfl rfl rfl (by decide +kernel)
set_option maxRecDepth 65536 in
theorem w_c13 : (Jvm.Cond.code ({ cls := "com/example/horn1/horn1/term/Var", name := "unbind", desc := "()V" } : Jvm.MethodName) prog_125_method_6_code (1 : Nat) (Option.none : Option Jvm.ClassFile.FieldType)).before args0 about1 = true := code_word (m := ⟨11, 3⟩) (meth := k11m3) (c := k11c3) (by decide +kernel) rfl rfl rfl (by decide +kernel)
def codes1 : List Jvm.Cond := [Jvm.Cond.code x code maxLocals ret, Jvm.Cond.code ({ cls := "java/lang/String", name := "<init>", desc := "([C)V" } : Jvm.MethodName) jdk_42_method_3_code (2 : Nat) (Option.none : Option Jvm.ClassFile.FieldType), Jvm.Cond.code ({ cls := "java/lang/String", name := "<init>", desc := "([CIILjava/lang/Void;)V" } : Jvm.MethodName) jdk_42_method_149_code (6 : Nat) (Option.none : Option Jvm.ClassFile.FieldType), Jvm.Cond.code ({ cls := "java/lang/Object", name := "<init>", desc := "()V" } : Jvm.MethodName) object_method_1_code (1 : Nat) (Option.none : Option Jvm.ClassFile.FieldType), Jvm.Cond.code ({ cls := "java/lang/StringUTF16", name := "compress", desc := "([CII)[B" } : Jvm.MethodName) jdk_52_method_16_code (6 : Nat) (Option.some (Jvm.ClassFile.FieldType.array Jvm.ClassFile.FieldType.byte)), Jvm.Cond.code ({ cls := "java/lang/StringUTF16", name := "compress", desc := "([CI[BII)I" } : Jvm.MethodName) jdk_52_method_21_code (7 : Nat) (Option.some Jvm.ClassFile.FieldType.int), Jvm.Cond.code ({ cls := "java/lang/StringUTF16", name := "coderFromArrayLen", desc := "([BI)B" } : Jvm.MethodName) jdk_52_method_15_code (2 : Nat) (Option.some Jvm.ClassFile.FieldType.byte), Jvm.Cond.code ({ cls := "com/example/horn1/horn1/term/Atom", name := "<init>", desc := "(Ljava/lang/String;)V" } : Jvm.MethodName) prog_119_method_1_code (2 : Nat) (Option.none : Option Jvm.ClassFile.FieldType), Jvm.Cond.code ({ cls := "com/example/horn1/horn1/term/Term", name := "<init>", desc := "()V" } : Jvm.MethodName) prog_124_method_1_code (1 : Nat) (Option.none : Option Jvm.ClassFile.FieldType), Jvm.Cond.code ({ cls := "com/example/horn1/horn1/term/Var", name := "<init>", desc := "()V" } : Jvm.MethodName) prog_125_method_1_code (1 : Nat) (Option.none : Option Jvm.ClassFile.FieldType), Jvm.Cond.code ({ cls := "com/example/horn1/horn1/term/VarValuePinLaw", name := "pick", desc := "(ILcom/example/horn1/horn1/term/Atom;Lcom/example/horn1/horn1/term/Var;Lcom/example/horn1/horn1/term/Var;)Lcom/example/horn1/horn1/term/Term;" } : Jvm.MethodName) method_2_code (5 : Nat) (Option.some (Jvm.ClassFile.FieldType.object "com/example/horn1/horn1/term/Term")), Jvm.Cond.code ({ cls := "com/example/horn1/horn1/term/Var", name := "value", desc := "()Lcom/example/horn1/horn1/term/Term;" } : Jvm.MethodName) prog_125_method_4_code (3 : Nat) (Option.some (Jvm.ClassFile.FieldType.object "com/example/horn1/horn1/term/Term")), Jvm.Cond.code ({ cls := "com/example/horn1/horn1/term/Var", name := "bind", desc := "(Lcom/example/horn1/horn1/term/Term;)V" } : Jvm.MethodName) prog_125_method_5_code (2 : Nat) (Option.none : Option Jvm.ClassFile.FieldType), Jvm.Cond.code ({ cls := "com/example/horn1/horn1/term/Var", name := "unbind", desc := "()V" } : Jvm.MethodName) prog_125_method_6_code (1 : Nat) (Option.none : Option Jvm.ClassFile.FieldType)]
set_option maxRecDepth 65536 in
theorem codes_eq : words1.filter isCode = codes1 := rfl
theorem w_codes : ∀ c ∈ words1.filter isCode, c.before args0 about1 = true := by
  rw [codes_eq]
  intro c hc
  simp only [codes1, List.mem_cons, List.not_mem_nil, or_false] at hc
  rcases hc with rfl | rfl | rfl | rfl | rfl | rfl | rfl | rfl | rfl | rfl | rfl | rfl | rfl | rfl
  · exact w_c0
  · exact w_c1
  · exact w_c2
  · exact w_c3
  · exact w_c4
  · exact w_c5
  · exact w_c6
  · exact w_c7
  · exact w_c8
  · exact w_c9
  · exact w_c10
  · exact w_c11
  · exact w_c12
  · exact w_c13
set_option maxRecDepth 65536 in
theorem w_t1 : (words1.take 24).all (fun c => isCode c || c.before args0 about1) = true := by decide +kernel
set_option maxRecDepth 65536 in
theorem w_t2 : ((words1.drop 24).take 24).all (fun c => isCode c || c.before args0 about1) = true := by decide +kernel
set_option maxRecDepth 65536 in
theorem w_t3 : (((words1.drop 24).drop 24).take 24).all (fun c => isCode c || c.before args0 about1) = true := by decide +kernel
set_option maxRecDepth 65536 in
theorem w_t4 : (((words1.drop 24).drop 24).drop 24).all (fun c => isCode c || c.before args0 about1) = true := by decide +kernel
theorem w_tables : (allAtoms (Jvm.Cond.code x code maxLocals ret :: tables_1)).before args0 about1 = true := by
  rw [allAtoms_all]
  show words1.all (fun c => c.before args0 about1) = true
  refine all_split ?_ w_codes
  rw [← List.take_append_drop 24 words1, List.all_append, w_t1, ← List.take_append_drop 24 (words1.drop 24), List.all_append, w_t2, ← List.take_append_drop 24 ((words1.drop 24).drop 24), List.all_append, w_t3, w_t4]
  rfl
set_option maxRecDepth 65536 in
theorem w_rest : rest_1_c.before args0 about1 = true := by decide +kernel
set_option maxRecDepth 65536 in
theorem w_case : (Jvm.Cond.and given_1 narrow_1).before args0 about1 = true := by decide +kernel
theorem w_applies : (headSpec (Jvm.Cond.code x code maxLocals ret :: tables_1) room_1).applies x e0.platform about1 = true :=
  (Spec.applies_iff w_frames).mpr ⟨w_running, w_runnable, w_alone, w_named, w_hears, w_ripe, w_room, w_tables⟩
theorem atStart : AtStart classFile x code maxLocals ret World_1 tables_1 room_1 Calls_1 rest_1 Pre_1 launch0 p0 e0 about1 theMethod args0 below0 :=
  ⟨lists_1, trivial, launch0.admits_env _ _ _, launch0.least_env, fairChoices_fair.cas, fairChoices_fair.clock, w_frames, w_args, w_heap, w_applies, trivial, w_rest, w_case⟩
end start1
theorem witness_1 : WitnessClaimed_1 := ⟨start1.p0, start1.e0, start1.about1, start1.theMethod, start1.args0, start1.below0, start1.atStart⟩
end Jvm.Pilot.@@N@@
