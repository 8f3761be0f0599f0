import JvmDerived
import JvmDerived.Pilot.@@N@@Statement
import JvmDerived.Pilot.@@N@@Code
set_option linter.unusedVariables false
set_option linter.unusedSimpArgs false
namespace Jvm.RoadKit
open Sem ClassFile Op Lib Jvm.Stand Jvm.Free Jvm.LawKit
section New
variable {p : Program} {l : Launch} {e : Env} {R : Room} {s : State} {m : MethodId} {args : Array Value} {below : List Frame} {meth : Method} {c : Code} {T : State} {locs : List Loc} {cells slots : Nat}
theorem o_retI (X : Stand p l e R s m args below meth c T locs cells slots) (hx : p.tables.exec = Jvm.exec) {pc : Nat} {Ls : Array Slot} {z : Int32} {rest : List Value} (hret : meth.sig.returnType = some .int) (hd : decode c.code pc = .ok (.ireturn, 1)) {fs : List Frame}
    (hl : ∀ (f : JFrame) (acts : List Action), f.method = m → f.locked = none → f.entered = [] → (doReturn e (T.setTop f) acts (some (.int z))).1 = T.setFrames fs) : Steps p.tables e below (T.setTop (mkF m pc Ls (.int z :: rest))) (T.setFrames fs) :=
  retOut X hx hret rfl (Or.inl ⟨rfl, Or.inl rfl, z, rfl⟩) hd hl
theorem o_retJ (X : Stand p l e R s m args below meth c T locs cells slots) (hx : p.tables.exec = Jvm.exec) {pc : Nat} {Ls : Array Slot} {z : Int64} {rest : List Value} (hret : meth.sig.returnType = some .long) (hd : decode c.code pc = .ok (.lreturn, 1)) {fs : List Frame}
    (hl : ∀ (f : JFrame) (acts : List Action), f.method = m → f.locked = none → f.entered = [] → (doReturn e (T.setTop f) acts (some (.long z))).1 = T.setFrames fs) : Steps p.tables e below (T.setTop (mkF m pc Ls (.long z :: rest))) (T.setFrames fs) :=
  retOut X hx hret rfl (Or.inr (Or.inl ⟨rfl, rfl, z, rfl⟩)) hd hl
end New
/-- the rest of a walk: from here the run comes to an end with Q -/
def oF (p : Program) (e : Env) (below : List Frame) (A : State) (Q : Outcome → State → Prop) : Prop :=
  ∃ t o, Steps p.tables e below A t ∧ t.status = .running ∧ Ended t below o ∧ Q o t
theorem oG {p : Program} {e : Env} {below : List Frame} {A B : State} {Q : Outcome → State → Prop} (st : ∀ t, Steps p.tables e below A t → Steps p.tables e below B t) (k : oF p e below A Q) : oF p e below B Q := by
  obtain ⟨t, o, h, r⟩ := k; exact ⟨t, o, st t h, r⟩
theorem o_start {p : Program} {e : Env} {below : List Frame} {T : State} {g g' : JFrame} {Q : Outcome → State → Prop} (q : g = g') (k : oF p e below (T.setTop g') Q) :
    ∃ t o, Steps p.tables e below (T.setTop g) t ∧ t.status = .running ∧ Ended t below o ∧ Q o t := by subst q; exact k
theorem o_cat {v : Value} (h : v.isRef = true) : v.category = 1 := by cases v <;> simp [Value.isRef] at h <;> rfl
theorem o_st1 {l l' : Array Slot} {i : Nat} {v : Value} (hold : (match l[i]? with | some .unset => true | some (.val w) => w.category == 1 | _ => false) = true) (hv : v.isRef = true) (e : l.setIfInBounds i (.val v) = l') : storeLocals l i v = some l' := by
  subst e
  cases h : l[i]? with
  | none => simp [h] at hold
  | some o =>
    refine Jvm.Free.XS.store1 h ?_ (o_cat hv)
    cases o with
    | unset => exact Or.inl rfl
    | second => simp [h] at hold
    | val w => simp [h] at hold; exact Or.inr ⟨w, rfl, hold⟩
theorem o_st2 {l l' : Array Slot} {i : Nat} {v : Value} {o : Slot} (hold : l[i]? = some o) (ho : One o) (hv : v.category = 1) (e : l.setIfInBounds i (.val v) = l') : storeLocals l i v = some l' := by
  subst e; exact Jvm.Free.XS.store1 hold ho hv
theorem o_fitR {v : Value} {C : String} (h : v.isRef = true) : fits (.object C) v = true := by cases v <;> simp [Value.isRef, fits] at h ⊢
theorem o_osz {Z : State} {n0 : Nat} {h : Heap} (O : Old Z n0 h) : n0 ≤ h.size := O.1 ▸ O.2.1
def o_bi (P : Prop) [Decidable P] : Int32 := if P then 1 else 0
theorem o_bi1 {P : Prop} [Decidable P] (h : P) : o_bi P = 1 := if_pos h
theorem o_bi0 {P : Prop} [Decidable P] (h : ¬ P) : o_bi P = 0 := if_neg h
theorem o_bz {P : Prop} [Decidable P] (h : ¬ P) : o_bi P = 0 := if_neg h
theorem o_bn {P : Prop} [Decidable P] (h : P) : ¬ o_bi P = 0 := by rw [o_bi1 h]; decide
theorem o_narb {P : Prop} [Decidable P] : nar .boolean (o_bi P) = o_bi P := by unfold o_bi; split <;> decide
theorem o_narbi (P : Prop) [Decidable P] : narrow .boolean (.int (o_bi P)) = .int (o_bi P) := by unfold o_bi; split <;> rfl
theorem o_fitbi (P : Prop) [Decidable P] : fits .boolean (.int (o_bi P)) = true := by unfold o_bi; split <;> rfl
theorem o_e1 {P : Prop} [Decidable P] (h : P) : ¬ o_bi P = 0 := by rw [o_bi1 h]; decide
theorem o_e0 {P : Prop} [Decidable P] (h : ¬ P) : ¬ o_bi P = 1 := by rw [o_bi0 h]; decide
theorem o_retB {p : Program} {l : Launch} {e : Env} {R : Room} {s : State} {m : MethodId} {args : Array Value} {below : List Frame} {meth : Method} {c : Code} {T : State} {locs : List Loc} {cells slots : Nat} (X : Stand p l e R s m args below meth c T locs cells slots) (hx : p.tables.exec = Jvm.exec) {pc : Nat} {Ls : Array Slot} {P : Prop} [Decidable P] {rest : List Value} (hret : meth.sig.returnType = some .boolean) (hd : decode c.code pc = .ok (.ireturn, 1)) {fs : List Frame}
    (hl : ∀ (f : JFrame) (acts : List Action), f.method = m → f.locked = none → f.entered = [] → (doReturn e (T.setTop f) acts (some (.int (o_bi P)))).1 = T.setFrames fs) : Steps p.tables e below (T.setTop (mkF m pc Ls (.int (o_bi P) :: rest))) (T.setFrames fs) :=
  retN X hx (t := .boolean) hret (by simp) hd (by rw [o_narb]; exact hl)
theorem o_eqv {args : Array Value} {f s : State} {o : Option Outcome} {idx : List Nat} {a b : Term} {v : Value} (h : (Cond.eq a b).value args f o s idx = some true) (hb : b.eval args f o idx s = some v) (hk : (match v with | .int _ => true | .long _ => true | .ref _ => true | .null => true | _ => false) = true) : a.eval args f o idx s = some v := by
  obtain ⟨x, y, h1, h2, h3, h4⟩ := cmp_v (Or.inl h)
  rw [hb] at h2; cases h2
  rw [h1]
  cases x <;> cases v <;> simp [Kin, Value.isRef] at h3 h4 hk <;> simp [Cond.value, h1, hb] at h ⊢ <;> exact h
theorem o_eqBi {v : Option Value} {P : Prop} [Decidable P] (h : (v = some (.int 1) ∧ P) ∨ (v = some (.int 0) ∧ ¬ P)) : v = some (.int (o_bi P)) := by
  rcases h with ⟨h, q⟩ | ⟨h, q⟩
  · rw [h, o_bi1 q]
  · rw [h, o_bi0 q]
theorem o_up {cs : List Int32} (h : ∀ c ∈ cs, ¬ c < 0 ∧ ¬ (255 : Int32) < c) : ∀ c ∈ cs, ¬ c < 0 ∧ ¬ (65535 : Int32) < c := fun c hc => ⟨(h c hc).1, fun q => (h c hc).2 (by
  rw [Int32.lt_iff_toInt_lt] at q ⊢
  have e1 : (65535 : Int32).toInt = 65535 := by decide
  have e2 : (255 : Int32).toInt = 255 := by decide
  omega)⟩
theorem o_narid {a : Int32} (h : ¬ a < 0 ∧ ¬ (255 : Int32) < a) : nar .char a = a := by
  have e0 : (0 : Int32).toInt = 0 := by decide
  have e2 : (255 : Int32).toInt = 255 := by decide
  obtain ⟨h1, h2⟩ := h
  rw [Int32.lt_iff_toInt_lt] at h1 h2
  have q := c_i2c a
  rw [← Int32.toInt_inj]
  show a.toUInt32.toUInt16.toUInt32.toInt32.toInt = a.toInt
  omega
theorem o_nez {args : Array Value} {f s : State} {o : Option Outcome} {idx : List Nat} {t : Term} {z : Int32} (ev : t.eval args f o idx s = some (.int z)) (h : (Cond.not (Cond.eq t (Term.int 0))).value args f o s idx = some true) : ¬ z = 0 := by
  intro q; subst q; have h' := not_v h; simp [Cond.value, ev, Term.eval] at h'
theorem o_notOf {Z : State} {a0 : Array Value} {C O K : String} {n : Nat} (w : (Cond.superclass C O).before a0 Z = true) (w0 : (Cond.noSuperclass O).before a0 Z = true) (wi : (Cond.instantiable K n).before a0 Z = true) (hn : C ≠ K) (ho : O ≠ K) : ∃ c t, Z.vm.findClass C = some c ∧ Z.vm.findClass K = some t ∧ Z.vm.assignable c t = false := by
  obtain ⟨t, kt, g0, g2, g5, g7, -⟩ := Cond.instantiable_spec wi
  obtain ⟨c, h0⟩ := found_sup w
  obtain ⟨p, k, kp, h1, h2, h3, h4, h5, -, h7⟩ := Cond.superclass_spec h0 w
  obtain ⟨c', k', j1, j2, j3, -, -⟩ := Cond.noSuperclass_spec w0
  cases j1.symm.trans h1
  have ne := ids_ne h0 g0 hn
  have neo := ids_ne h1 g0 ho
  have g7' : kt.isInterface = false := by cases h : kt.isInterface <;> simp [h] at g7 ⊢
  have hs : ∀ fuel, Z.vm.isSubclassAux fuel c t = false := by
    intro fuel
    cases fuel with
    | zero => rfl
    | succ f =>
      cases f with
      | zero => simp [Vm.isSubclassAux, ne, h2, h4]
      | succ f => simp [Vm.isSubclassAux, ne, h2, h4, neo, j2, j3]
  refine ⟨c, t, h0, g0, ?_⟩
  show Z.vm.assignableAux (255 + 1) c t = false
  simp [Vm.assignableAux, ne, h2, g2, h5, g5, g7', Vm.isSubclass, hs]
theorem o_selS {args : Array Value} {s : State} {y w z : MethodName} {C : String} (h : (Cond.selects C w z).before args s = true) (e : z.cls = y.cls) (hpriv : s.PrivateAt y) (hinst : (Cond.instanceMethod y).before args s = true) (hy : y.cls ≠ "java/lang/invoke/MethodHandle" ∧ y.cls ≠ "java/lang/invoke/VarHandle") : (Cond.selects y.cls y y).before args s = true := by
  obtain ⟨c2, r2, m2, q1, q2, q3, q4, kP, hkP, hkPi⟩ := Cond.selects_spec h
  exact selects_self_of_private (c := m2.cls) (by rw [← e]; exact findClass_of_methodNamed q3) hkP hkPi hpriv hinst hy
theorem o_same {args : Array Value} {s : State} {y w z : MethodName} {C : String} (hinst : (Cond.instanceMethod y).before args s = true) (h : (Cond.selects C w z).before args s = true) (e : z.cls = y.cls) (hy : y.cls ≠ "java/lang/invoke/MethodHandle" ∧ y.cls ≠ "java/lang/invoke/VarHandle") : (Cond.sameMethod y.cls y.cls y.name y.desc).before args s = true := by
  obtain ⟨c2, r2, m2, q1, q2, q3, q4, kP, hkP, hkPi⟩ := Cond.selects_spec h
  obtain ⟨mk, methM, hnamed, hmethM, -, -⟩ := Cond.instanceMethod_spec hinst
  have hf : s.methodFound? y.cls y.name y.desc = some mk := State.methodFound?_of_named hnamed hy
  have hc : s.vm.findClass y.cls = some m2.cls := by rw [← e]; exact findClass_of_methodNamed q3
  have hn : s.methodNamed? ⟨y.cls, y.name, y.desc⟩ = some mk := hnamed
  simp [Cond.before, Cond.holds, Cond.value, hc, hf, hn, hkP, hkPi]
theorem o_eqE {T h : Heap} {a : Addr} {c : Cell} (e : T = h) (q : h[a]? = some c) : T[a]? = some c := by rw [e]; exact q
theorem o_nf {args : Array Value} {s : State} {y w z : MethodName} {C : String} (h : (Cond.selects C w z).before args s = true) (e : z.cls = y.cls) : NotFace s y := fun r0 h0 => by
  obtain ⟨c2, r2, m2, q1, q2, q3, q4, kP, hkP, hkPi⟩ := Cond.selects_spec h
  have a := findClass_of_methodNamed q3
  have b := findClass_of_methodNamed h0
  rw [e] at a
  have hc : m2.cls = r0.cls := Option.some.inj (a.symm.trans b)
  exact ⟨kP, by rw [← hc]; exact hkP, hkPi⟩
theorem o_selI {args : Array Value} {s : State} {y : MethodName} {n : Nat} (h : (Cond.instantiable y.cls n).before args s = true) (hpriv : s.PrivateAt y) (hinst : (Cond.instanceMethod y).before args s = true) (hy : y.cls ≠ "java/lang/invoke/MethodHandle" ∧ y.cls ≠ "java/lang/invoke/VarHandle") : (Cond.selects y.cls y y).before args s = true := by
  obtain ⟨c, k, h1, h2, h3, h4, -⟩ := Cond.instantiable_spec h
  exact selects_self_of_private h1 h2 (by cases hq : k.isInterface <;> simp [hq] at h4 ⊢) hpriv hinst hy
theorem o_selP {args : Array Value} {s : State} {y : MethodName} {S : String} (h : (Cond.superclass y.cls S).before args s = true) (hpriv : s.PrivateAt y) (hinst : (Cond.instanceMethod y).before args s = true) (hy : y.cls ≠ "java/lang/invoke/MethodHandle" ∧ y.cls ≠ "java/lang/invoke/VarHandle") : (Cond.selects y.cls y y).before args s = true := by
  obtain ⟨c, hc⟩ := found_sup h
  obtain ⟨p, k, kp, h1, h2, h3, h4, h5, h6, h7⟩ := Cond.superclass_spec hc h
  exact selects_self_of_private hc h2 h7 hpriv hinst hy
end Jvm.RoadKit
namespace Jvm.Pilot.@@N@@
open Jvm Jvm.ClassFile Sem Op Lib Jvm.Free Jvm.Stand Jvm.LawKit Jvm.RoadKit Bundle Jvm.Pilot.@@N@@.Jvm.D
theorem oL {n0 : Nat} {L L' : List Loc} (h : L = L') (q : Fr n0 L') : Fr n0 L := h ▸ q
set_option maxRecDepth 65536
set_option maxHeartbeats 40000000
abbrev mN0 : MethodName := ⟨"java/lang/StringUTF16", "length", "([B)I"⟩
abbrev mN1 : MethodName := ⟨"java/lang/StringUTF16", "putChar", "([BII)V"⟩
abbrev mN2 : MethodName := ⟨"jdk/internal/util/Preconditions", "checkFromIndexSize", "(IIILjava/util/function/BiFunction;)I"⟩
abbrev mN3 : MethodName := ⟨"java/lang/String", "checkBoundsOffCount", "(III)I"⟩
abbrev mN4 : MethodName := ⟨"java/lang/StringUTF16", "checkBoundsOffCount", "(II[B)V"⟩
abbrev mN5 : MethodName := ⟨"java/lang/StringUTF16", "inflate", "([BI[BII)V"⟩
abbrev mN6 : MethodName := ⟨"java/lang/StringLatin1", "inflate", "([BI[BII)V"⟩
abbrev mN7 : MethodName := ⟨"java/lang/StringUTF16", "newBytesLength", "(I)I"⟩
abbrev mN8 : MethodName := ⟨"java/lang/StringUTF16", "newBytesFor", "(I)[B"⟩
abbrev mN9 : MethodName := ⟨"java/lang/AbstractStringBuilder", "isLatin1", "()Z"⟩
abbrev mN10 : MethodName := ⟨"java/lang/String", "coder", "()B"⟩
abbrev mN11 : MethodName := ⟨"java/lang/AbstractStringBuilder", "inflate", "()V"⟩
abbrev mN12 : MethodName := ⟨"java/lang/String", "length", "()I"⟩
abbrev mN13 : MethodName := ⟨"java/lang/Math", "max", "(II)I"⟩
abbrev mN14 : MethodName := ⟨"java/lang/Math", "min", "(II)I"⟩
abbrev mN15 : MethodName := ⟨"jdk/internal/util/ArraysSupport", "newLength", "(III)I"⟩
abbrev mN16 : MethodName := ⟨"java/lang/AbstractStringBuilder", "newCapacity", "(I)I"⟩
abbrev mN17 : MethodName := ⟨"java/util/Arrays", "copyOf", "([BI)[B"⟩
abbrev mN18 : MethodName := ⟨"java/lang/AbstractStringBuilder", "ensureCapacityInternal", "(I)V"⟩
abbrev mN19 : MethodName := ⟨"java/lang/String", "getBytes", "([BIB)V"⟩
abbrev mN20 : MethodName := ⟨"java/lang/AbstractStringBuilder", "inflateIfNeededFor", "(Ljava/lang/String;)V"⟩
abbrev mN21 : MethodName := ⟨"java/lang/AbstractStringBuilder", "putStringAt", "(ILjava/lang/String;)V"⟩
abbrev mN22 : MethodName := ⟨"java/lang/AbstractStringBuilder", "append", "(Ljava/lang/String;)Ljava/lang/AbstractStringBuilder;"⟩
abbrev mN23 : MethodName := ⟨"java/lang/StringBuilder", "append", "(Ljava/lang/String;)Ljava/lang/StringBuilder;"⟩
abbrev mN24 : MethodName := ⟨"jdk/internal/util/Preconditions", "checkFromToIndex", "(IIILjava/util/function/BiFunction;)I"⟩
abbrev mN25 : MethodName := ⟨"java/lang/String", "checkBoundsBeginEnd", "(III)V"⟩
abbrev mN26 : MethodName := ⟨"java/lang/StringUTF16", "checkBoundsBeginEnd", "(II[B)V"⟩
abbrev mN27 : MethodName := ⟨"java/lang/StringUTF16", "putCharsAt", "([BICCCC)I"⟩
abbrev mN28 : MethodName := ⟨"java/lang/StringUTF16", "putCharsAt", "([BICCCCC)I"⟩
abbrev mN29 : MethodName := ⟨"java/lang/AbstractStringBuilder", "append", "(Z)Ljava/lang/AbstractStringBuilder;"⟩
abbrev mN30 : MethodName := ⟨"java/lang/StringBuilder", "append", "(Z)Ljava/lang/StringBuilder;"⟩
abbrev mN31 : MethodName := ⟨"java/lang/AbstractStringBuilder", "getValue", "()[B"⟩
abbrev mN32 : MethodName := ⟨"java/lang/AbstractStringBuilder", "length", "()I"⟩
abbrev mN33 : MethodName := ⟨"java/lang/StringBuilder", "length", "()I"⟩
abbrev mN34 : MethodName := ⟨"java/util/Arrays", "checkLength", "(II)V"⟩
abbrev mN35 : MethodName := ⟨"java/util/Arrays", "copyOfRangeByte", "([BII)[B"⟩
abbrev mN36 : MethodName := ⟨"java/util/Arrays", "copyOfRange", "([BII)[B"⟩
abbrev mN37 : MethodName := ⟨"java/lang/String", "<init>", "(Ljava/lang/AbstractStringBuilder;Ljava/lang/Void;)V"⟩
abbrev mN38 : MethodName := ⟨"java/lang/String", "<init>", "(Ljava/lang/StringBuilder;)V"⟩
abbrev mN39 : MethodName := ⟨"java/lang/StringBuilder", "toString", "()Ljava/lang/String;"⟩
abbrev mN40 : MethodName := ⟨"java/lang/StringUTF16", "compress", "([CI[BII)I"⟩
abbrev mN41 : MethodName := ⟨"java/lang/StringUTF16", "toBytes", "([CII)[B"⟩
abbrev mN42 : MethodName := ⟨"java/lang/StringUTF16", "getChar", "([BI)C"⟩
abbrev mN43 : MethodName := ⟨"java/lang/StringUTF16", "compress", "([CII)[B"⟩
abbrev mN44 : MethodName := ⟨"java/lang/StringUTF16", "coderFromArrayLen", "([BI)B"⟩
abbrev mN45 : MethodName := ⟨"java/lang/String", "<init>", "([CIILjava/lang/Void;)V"⟩
abbrev mN46 : MethodName := ⟨"java/lang/String", "<init>", "([C)V"⟩
abbrev mN47 : MethodName := ⟨"java/lang/StringLatin1", "equals", "([B[B)Z"⟩
abbrev mN48 : MethodName := ⟨"java/lang/String", "equals", "(Ljava/lang/Object;)Z"⟩
abbrev mN49 : MethodName := ⟨"com/example/holdfast/holdfast/RenewalToStringPinLaw", "head", "([C)V"⟩
abbrev mN50 : MethodName := ⟨"com/example/holdfast/holdfast/RenewalToStringPinLaw", "tail", "([CIZ)V"⟩
abbrev mN51 : MethodName := ⟨"java/lang/AbstractStringBuilder", "<init>", "(I)V"⟩
abbrev mN52 : MethodName := ⟨"java/lang/StringBuilder", "<init>", "()V"⟩
abbrev mN53 : MethodName := ⟨"com/example/holdfast/holdfast/LockEventListener$Renewal", "<init>", "(Ljava/lang/String;Z)V"⟩
abbrev mN54 : MethodName := ⟨"com/example/holdfast/holdfast/LockEventListener$Renewal", "toString", "()Ljava/lang/String;"⟩
abbrev rM0 : Room := { frames := 0, cells := 0, slots := 0, locals := 0 }
abbrev rM1 : Room := { frames := 1, cells := 0, slots := 0, locals := 15 }
abbrev rM2 : Room := { frames := 2, cells := 0, slots := 0, locals := 29 }
abbrev rM3 : Room := { frames := 3, cells := 0, slots := 0, locals := 43 }
abbrev rM4 : Room := { frames := 4, cells := 0, slots := 0, locals := 60 }
abbrev rM5 : Room := { frames := 1, cells := 1, slots := 200, locals := 12 }
abbrev rM6 : Room := { frames := 5, cells := 1, slots := 200, locals := 76 }
abbrev rM7 : Room := { frames := 1, cells := 0, slots := 0, locals := 12 }
abbrev rM8 : Room := { frames := 1, cells := 0, slots := 0, locals := 13 }
abbrev rM9 : Room := { frames := 1, cells := 0, slots := 0, locals := 14 }
abbrev rM10 : Room := { frames := 1, cells := 1, slots := 140, locals := 18 }
abbrev rM11 : Room := { frames := 3, cells := 1, slots := 140, locals := 48 }
abbrev rM12 : Room := { frames := 1, cells := 0, slots := 0, locals := 18 }
abbrev rM13 : Room := { frames := 5, cells := 0, slots := 0, locals := 76 }
abbrev rM14 : Room := { frames := 2, cells := 0, slots := 0, locals := 25 }
abbrev rM15 : Room := { frames := 6, cells := 1, slots := 200, locals := 89 }
abbrev rM16 : Room := { frames := 7, cells := 1, slots := 200, locals := 102 }
abbrev rM17 : Room := { frames := 8, cells := 2, slots := 340, locals := 116 }
abbrev rM18 : Room := { frames := 9, cells := 2, slots := 340, locals := 130 }
abbrev rM19 : Room := { frames := 4, cells := 1, slots := 140, locals := 62 }
abbrev rM20 : Room := { frames := 5, cells := 1, slots := 140, locals := 77 }
abbrev rM21 : Room := { frames := 1, cells := 1, slots := 80, locals := 18 }
abbrev rM22 : Room := { frames := 2, cells := 1, slots := 80, locals := 34 }
abbrev rM23 : Room := { frames := 1, cells := 1, slots := 80, locals := 14 }
abbrev rM24 : Room := { frames := 3, cells := 1, slots := 80, locals := 49 }
abbrev rM25 : Room := { frames := 4, cells := 1, slots := 80, locals := 65 }
abbrev rM26 : Room := { frames := 5, cells := 2, slots := 84, locals := 79 }
abbrev rM27 : Room := { frames := 2, cells := 1, slots := 200, locals := 24 }
abbrev rM28 : Room := { frames := 3, cells := 2, slots := 240, locals := 40 }
abbrev rM29 : Room := { frames := 4, cells := 2, slots := 240, locals := 57 }
abbrev rM30 : Room := { frames := 5, cells := 2, slots := 240, locals := 74 }
abbrev rM31 : Room := { frames := 1, cells := 1, slots := 16, locals := 12 }
abbrev rM32 : Room := { frames := 2, cells := 1, slots := 16, locals := 25 }
abbrev rM33 : Room := { frames := 10, cells := 19, slots := 1728, locals := 143 }
abbrev rM34 : Room := { frames := 1, cells := 4, slots := 8, locals := 12 }
abbrev rM35 : Room := { frames := 2, cells := 4, slots := 8, locals := 29 }
abbrev fL0 (Z : State) (h : Heap) (a : Addr) (v : Value) : Prop := Fld Z h a "java/lang/AbstractStringBuilder" "value" "[B" v
abbrev fL1 (Z : State) (h : Heap) (a : Addr) (v : Value) : Prop := Fld Z h a "java/lang/AbstractStringBuilder" "maybeLatin1" "Z" v
abbrev fL2 (Z : State) (h : Heap) (a : Addr) (v : Value) : Prop := Fld Z h a "java/lang/AbstractStringBuilder" "coder" "B" v
abbrev fL3 (Z : State) (h : Heap) (a : Addr) (v : Value) : Prop := Fld Z h a "java/lang/String" "value" "[B" v
abbrev fL4 (Z : State) (h : Heap) (a : Addr) (v : Value) : Prop := Fld Z h a "java/lang/String" "coder" "B" v
abbrev fL5 (Z : State) (h : Heap) (a : Addr) (v : Value) : Prop := Fld Z h a "java/lang/AbstractStringBuilder" "count" "I" v
abbrev fL6 (Z : State) (h : Heap) (a : Addr) (v : Value) : Prop := Fld Z h a "com/example/holdfast/holdfast/LockEventListener$Renewal" "lockName" "Ljava/lang/String;" v
abbrev fL7 (Z : State) (h : Heap) (a : Addr) (v : Value) : Prop := Fld Z h a "com/example/holdfast/holdfast/LockEventListener$Renewal" "granted" "Z" v
abbrev sT0 (Z : State) (v : Value) : Prop := Sta Z Z.heap "java/lang/StringUTF16" "$assertionsDisabled" "Z" v
abbrev sT1 (Z : State) (v : Value) : Prop := Sta Z Z.heap "java/lang/StringUTF16" "HI_BYTE_SHIFT" "I" v
abbrev sT2 (Z : State) (v : Value) : Prop := Sta Z Z.heap "java/lang/StringUTF16" "LO_BYTE_SHIFT" "I" v
abbrev sT3 (Z : State) (v : Value) : Prop := Sta Z Z.heap "jdk/internal/util/Preconditions" "SIOOBE_FORMATTER" "Ljava/util/function/BiFunction;" v
abbrev sT4 (Z : State) (v : Value) : Prop := Sta Z Z.heap "java/lang/String" "COMPACT_STRINGS" "Z" v
abbrev eX0 (Z : State) (h : Heap) (a : Addr) : Prop := Exa Z h a "[B"
abbrev eX1 (Z : State) (h : Heap) (a : Addr) : Prop := Exa Z h a "java/lang/StringBuilder"
abbrev eX2 (Z : State) (h : Heap) (a : Addr) : Prop := Exa Z h a "java/lang/String"
abbrev eX3 (Z : State) (h : Heap) (a : Addr) : Prop := Exa Z h a "com/example/holdfast/holdfast/LockEventListener$Renewal"
abbrev eX4 (Z : State) (h : Heap) (a : Addr) : Prop := Exa Z h a "[C"
abbrev k0_ := jdk_52_method_6_code
abbrev k1_ := jdk_52_method_4_code
abbrev k2_ := jdk_41_method_13_code
abbrev k3_ := jdk_42_method_157_code
abbrev k4_ := jdk_52_method_94_code
abbrev k5_ := jdk_52_method_86_code
abbrev k6_ := jdk_43_method_50_code
abbrev k7_ := jdk_52_method_3_code
abbrev k8_ := jdk_52_method_2_code
abbrev k9_ := jdk_68_method_68_code
abbrev k10_ := jdk_42_method_152_code
abbrev k11_ := jdk_68_method_11_code
abbrev k12_ := jdk_42_method_54_code
abbrev k13_ := jdk_29_method_65_code
abbrev k14_ := jdk_29_method_69_code
abbrev k15_ := jdk_48_method_27_code
abbrev k16_ := jdk_68_method_10_code
abbrev k17_ := jdk_65_method_121_code
abbrev k18_ := jdk_68_method_9_code
abbrev k19_ := jdk_42_method_147_code
abbrev k20_ := jdk_68_method_71_code
abbrev k21_ := jdk_68_method_73_code
abbrev k22_ := jdk_68_method_22_code
abbrev k23_ := jdk_67_method_7_code
abbrev k24_ := jdk_41_method_12_code
abbrev k25_ := jdk_42_method_158_code
abbrev k26_ := jdk_52_method_93_code
abbrev k27_ := jdk_52_method_81_code
abbrev k28_ := jdk_52_method_82_code
abbrev k29_ := jdk_68_method_30_code
abbrev k30_ := jdk_67_method_13_code
abbrev k31_ := jdk_68_method_64_code
abbrev k32_ := jdk_68_method_6_code
abbrev k33_ := jdk_67_method_93_code
abbrev k34_ := jdk_65_method_131_code
abbrev k35_ := jdk_65_method_133_code
abbrev k36_ := jdk_65_method_132_code
abbrev k37_ := jdk_42_method_150_code
abbrev k38_ := jdk_42_method_53_code
abbrev k39_ := jdk_67_method_42_code
abbrev k40_ := jdk_52_method_21_code
abbrev k41_ := jdk_52_method_14_code
abbrev k42_ := jdk_52_method_5_code
abbrev k43_ := jdk_52_method_16_code
abbrev k44_ := jdk_52_method_15_code
abbrev k45_ := jdk_42_method_149_code
abbrev k46_ := jdk_42_method_3_code
abbrev k47_ := jdk_43_method_13_code
abbrev k48_ := jdk_42_method_66_code
abbrev k49_ := method_3_code
abbrev k50_ := method_4_code
abbrev k51_ := jdk_68_method_2_code
abbrev k52_ := jdk_67_method_1_code
abbrev k53_ := prog_11_method_1_code
abbrev k54_ := prog_11_method_4_code
abbrev o_MF (l : Launch) (Z : State) (y : MethodName) (code : ByteArray) (n : Nat) (ret : Option ClassFile.FieldType) (ws : List Jvm.Cond) (R : Room) (A : Array Value) (h0 : Heap) (Q : Option Value → Heap → List Loc → Prop) : Prop := MetFree l y (head1 (Jvm.Cond.code y code n ret :: ws) R) (fun a' U' => a' = A ∧ Z.Warmed39 U'.vm ∧ U'.heap = h0) (fun _ _ _ _ _ => True) (fun _ U' o' W' => ∃ v' L', o' = .returned v' ∧ Q v' W'.heap L' ∧ FrameEnd U' o' W' L' R.cells R.slots)
abbrev o_QE (s : State) (R : Room) (Q : Option Value → Heap → List Loc → Prop) : Outcome → State → Prop := fun o' t' => ∃ v' L', o' = .returned v' ∧ Q v' t'.heap L' ∧ FrameEnd s o' t' L' R.cells R.slots
theorem ow {Z : State} {a0 : Array Value} (hw : ∀ d ∈ tables_1, d.before a0 Z = true) (i : Nat) {d : Jvm.Cond} (h : tables_1[i]? = some d := by rfl) : d.before a0 Z = true := hw d (List.mem_of_getElem? h)
theorem mo {Z s : State} {a0 args : Array Value} {d : Jvm.Cond} (hZ : Z.Warmed39 s.vm) (hw : ∀ d ∈ tables_1, d.before a0 Z = true) (i : Nat) (h : tables_1[i]? = some d := by rfl) (hd : (d.onTables && d.keepsFace) = true := by first | rfl | simp [Cond.onTables, Cond.keepsFace, Cond.keeps, Cond.steady]) : d.before args s = true := mvT hZ (ow hw i h) hd
def o_lo (c : Int32) : Int32 := nar .byte ((c >>> ((0 : Int32) &&& 31)).toInt8.toInt32)
def o_hi (c : Int32) : Int32 := nar .byte ((c >>> ((8 : Int32) &&& 31)).toInt8.toInt32)
def o_by (c : Int32) : Int32 := nar .byte (c.toInt8.toInt32)
theorem o_hf {M : Int32} : (M >>> ((1 : Int32) &&& 31)).toInt = M.toInt / 2 := by
 have h := c_ishr M 1 1 (by decide)
 omega
theorem o_nn {N : Int32} (h : 0 ≤ N.toInt) : ¬ (N < 0) := by
 have e : (0 : Int32).toInt = 0 := by decide
 rw [Int32.lt_iff_toInt_lt]; omega
theorem o_cn {N : Int32} (h : 0 ≤ N.toInt) : (N.toNatClampNeg : Int) = N.toInt := by
 have := nat_of (o_nn h); omega
theorem o_x2i {N : Int32} (h0 : 0 ≤ N.toInt) (h8 : N.toInt ≤ 500) : (N <<< ((1 : Int32) &&& 31)).toInt = 2 * N.toInt := by
 have h := c_ishl N 1 1 (by decide)
 have r := rng32 (N <<< ((1 : Int32) &&& 31))
 omega
theorem o_inj {j M : Int32} {n : Nat} (h : j.toInt = (n : Int)) (hl : (n : Int) < M.toInt) : ¬ j < 0 ∧ j < M :=
 ⟨o_nn (by omega), by rw [Int32.lt_iff_toInt_lt]; omega⟩
theorem o_set1 {vs : List Value} {y x : Value} {i : Int32} (h : i.toInt = vs.length) : List.set (vs ++ [y]) i.toNatClampNeg x = vs ++ [x] := by
 have e : i.toNatClampNeg = vs.length := by have := o_cn (N := i) (by omega); omega
 rw [e, List.set_append_right _ _ (Nat.le_refl _), Nat.sub_self]; rfl
theorem o_snl (vs : List Value) (x : Value) (i : Int32) (h : i.toInt = vs.length) : i.toNatClampNeg < (vs ++ [x]).length := by
 have e : i.toNatClampNeg = vs.length := by have := o_cn (N := i) (by omega); omega
 rw [e, List.length_append]; simp
theorem o_sC {p : Program} {l : Launch} {e : Env} {R : Room} {s : State} {m : MethodId} {args : Array Value} {below : List Frame} {meth : Method} {c : Code} {T : State} {locs : List Loc} {cells slots : Nat} {Z : State} {h : Heap} (X : Stand p l e R s m args below meth c T locs cells slots) (hx : p.tables.exec = Jvm.exec) (hZ : Z.Warmed39 s.vm) (eT : T.heap = h) {a : Addr} {k : ClassId} {M : Int32} {vs : List Value} (V : Arv Z h a k .char M vs (.int 0)) {j x : Int32} (hj : j.toInt = (vs.length : Int)) (hl : (vs.length : Int) < M.toInt) {g : JFrame} (hg : g.method = m) {rest : List Value} (hs : g.stack = .int x :: .int j :: .ref a :: rest) (hd : decode c.code g.pc = .ok (.castore, 1)) :
   ∃ T' h', Stand p l e R s m args below meth c T' (locs ++ [⟨a, j.toNatClampNeg⟩]) cells slots ∧ T'.heap = h' ∧ Wr h h' a j.toNatClampNeg (.int (nar .char x)) ∧ Arv Z h' a k .char M (vs ++ [.int (nar .char x)]) (.int 0) ∧ ∀ target, Steps p.tables e below (T'.setTop { g with pc := g.pc + 1, stack := rest }) target → Steps p.tables e below (T.setTop g) target := by
 have V2 : Arv Z h a k .char M (vs ++ [.int 0]) (.int 0) := V.pad (pad_rep vs (.int 0) 1)
 obtain ⟨cl, A, q, S, M0, H, G⟩ := id V2
 obtain ⟨T', h', X', e', W, st⟩ := stC X hx hZ eT A (j := j) (inb_of S (o_inj hj hl)) hg hs hd
 refine ⟨T', h', X', e', W, ?_, st⟩
 have q_ := Arv.set A q S M0 H G (fits_nar_char _) W _ rfl (o_snl vs (.int 0) j hj)
 rw [o_set1 hj] at q_
 exact q_
theorem o_sB {p : Program} {l : Launch} {e : Env} {R : Room} {s : State} {m : MethodId} {args : Array Value} {below : List Frame} {meth : Method} {c : Code} {T : State} {locs : List Loc} {cells slots : Nat} {Z : State} {h : Heap} (X : Stand p l e R s m args below meth c T locs cells slots) (hx : p.tables.exec = Jvm.exec) (hZ : Z.Warmed39 s.vm) (eT : T.heap = h) {a : Addr} {k : ClassId} {M : Int32} {vs : List Value} (V : Arv Z h a k .byte M vs (.int 0)) {j x : Int32} (hj : j.toInt = (vs.length : Int)) (hl : (vs.length : Int) < M.toInt) {g : JFrame} (hg : g.method = m) {rest : List Value} (hs : g.stack = .int x :: .int j :: .ref a :: rest) (hd : decode c.code g.pc = .ok (.bastore, 1)) :
   ∃ T' h', Stand p l e R s m args below meth c T' (locs ++ [⟨a, j.toNatClampNeg⟩]) cells slots ∧ T'.heap = h' ∧ Wr h h' a j.toNatClampNeg (.int (nar .byte x)) ∧ Arv Z h' a k .byte M (vs ++ [.int (nar .byte x)]) (.int 0) ∧ ∀ target, Steps p.tables e below (T'.setTop { g with pc := g.pc + 1, stack := rest }) target → Steps p.tables e below (T.setTop g) target := by
 have V2 : Arv Z h a k .byte M (vs ++ [.int 0]) (.int 0) := V.pad (pad_rep vs (.int 0) 1)
 obtain ⟨cl, A, q, S, M0, H, G⟩ := id V2
 obtain ⟨T', h', X', e', W, st⟩ := stB X hx hZ eT A (j := j) (inb_of S (o_inj hj hl)) hg hs hd
 refine ⟨T', h', X', e', W, ?_, st⟩
 have q_ := Arv.set A q S M0 H G (fits_nar_byte _) W _ rfl (o_snl vs (.int 0) j hj)
 rw [o_set1 hj] at q_
 exact q_
theorem o_pi0 {i M : Int32} {vs : List Value} (hn : (vs.length : Int) = 2 * i.toInt) (hM : (vs.length : Int) + 2 ≤ M.toInt) (h16 : M.toInt ≤ 900) : (i <<< ((1 : Int32) &&& 31)).toInt = (vs.length : Int) := by
 have h := o_x2i (N := i) (by omega) (by omega)
 omega
theorem o_pi1 {i M : Int32} {vs : List Value} (hn : (vs.length : Int) = 2 * i.toInt) (hM : (vs.length : Int) + 2 ≤ M.toInt) (h16 : M.toInt ≤ 900) : ((i <<< ((1 : Int32) &&& 31)) + (1 : Int32)).toInt = (vs.length : Int) + 1 := by
 have h := o_pi0 hn hM h16
 have b := c_iadd (i <<< ((1 : Int32) &&& 31)) 1
 have r := rng32 ((i <<< ((1 : Int32) &&& 31)) + 1)
 have d : (1 : Int32).toInt = 1 := by decide
 omega
theorem o_p1 {i : Int32} (h0 : 0 ≤ i.toInt) (h : i.toInt ≤ 900) : (i + (1 : Int32)).toInt = i.toInt + 1 := by
 have b := c_iadd i 1
 have r := rng32 (i + 1)
 have d : (1 : Int32).toInt = 1 := by decide
 omega
theorem o_lti {a b : Int32} {x y : Int} (ha : a.toInt = x) (hb : b.toInt = y) (h : x < y) : a < b := by rw [Int32.lt_iff_toInt_lt]; omega
theorem o_nlti {a b : Int32} {x y : Int} (ha : a.toInt = x) (hb : b.toInt = y) (h : ¬ x < y) : ¬ (a < b) := by rw [Int32.lt_iff_toInt_lt]; omega
theorem o_oi {n : Nat} (h : n ≤ 900) : (Int32.ofNat n).toInt = (n : Int) := Int32.toInt_ofNat_of_lt (by omega)
theorem o_oc {n : Nat} (h : n ≤ 900) : (Int32.ofNat n).toNatClampNeg = n := by
 have a := o_oi h
 have b := o_cn (N := Int32.ofNat n) (by omega)
 omega
def o_u8 : List Int32 → List Value
 | [] => []
 | c :: r => .int (o_by c) :: o_u8 r
def o_u16 : List Int32 → List Value
 | [] => []
 | c :: r => .int (o_lo c) :: .int (o_hi c) :: o_u16 r
def o_rng (cs : List Int32) : Prop := ∀ c ∈ cs, 0 ≤ c.toInt ∧ c.toInt < 65536
def o_lat (cs : List Int32) : Prop := ∀ c ∈ cs, c.toInt ≤ 255
def o_bg (cs : List Int32) : Prop := ∃ c ∈ cs, 255 < c.toInt
theorem o_latbg {cs : List Int32} (h : o_lat cs) (g : o_bg cs) : False := by
 obtain ⟨c, hc, q⟩ := g
 have := h c hc; omega
theorem o_rng_app {a b : List Int32} (h1 : o_rng a) (h2 : o_rng b) : o_rng (a ++ b) := fun c hc => (List.mem_append.mp hc).elim (h1 c) (h2 c)
theorem o_lat_app {a b : List Int32} (h1 : o_lat a) (h2 : o_lat b) : o_lat (a ++ b) := fun c hc => (List.mem_append.mp hc).elim (h1 c) (h2 c)
theorem o_bg_l {a b : List Int32} (h : o_bg a) : o_bg (a ++ b) := by obtain ⟨c, hc, q⟩ := h; exact ⟨c, List.mem_append.mpr (Or.inl hc), q⟩
theorem o_bg_r {a b : List Int32} (h : o_bg b) : o_bg (a ++ b) := by obtain ⟨c, hc, q⟩ := h; exact ⟨c, List.mem_append.mpr (Or.inr hc), q⟩
theorem o_rng1 {c : Int32} (h0 : 0 ≤ c.toInt) (h1 : c.toInt < 65536) : o_rng [c] := fun d hd => by rw [List.mem_singleton.mp hd]; exact ⟨h0, h1⟩
theorem o_255 : (255 : Int32).toInt = 255 := by decide
theorem o_lat1 {c : Int32} (h : ¬ ((255 : Int32) < c)) : o_lat [c] := fun d hd => by
 rw [List.mem_singleton.mp hd]; rw [Int32.lt_iff_toInt_lt, o_255] at h; omega
theorem o_bg1 {c : Int32} {r : List Int32} (h : (255 : Int32) < c) : o_bg (c :: r) := ⟨c, List.mem_cons_self, by rw [Int32.lt_iff_toInt_lt, o_255] at h; exact h⟩
theorem o_nbi (x : Int32) : ((nar .byte (x.toInt8.toInt32)).toInt - x.toInt) % 256 = 0 ∧ -128 ≤ (nar .byte (x.toInt8.toInt32)).toInt ∧ (nar .byte (x.toInt8.toInt32)).toInt < 128 := by
 have h1 := c_i2b x
 have h2 := c_i2b (x.toInt8.toInt32)
 show ((x.toInt8.toInt32).toInt8.toInt32.toInt - x.toInt) % 256 = 0 ∧ -128 ≤ (x.toInt8.toInt32).toInt8.toInt32.toInt ∧ (x.toInt8.toInt32).toInt8.toInt32.toInt < 128
 omega
theorem o_m8 (x : Int32) : ((nar .byte (x.toInt8.toInt32)) &&& (255 : Int32)).toInt = x.toInt % 256 := by
 have q := o_nbi x
 have m := c_mask (nar .byte (x.toInt8.toInt32)) 255 8 (by decide) (by decide)
 omega
theorem o_m6 (x : Int32) : ((nar .byte (x.toInt8.toInt32)) &&& (63 : Int32)).toInt = x.toInt % 64 := by
 have q := o_nbi x
 have m := c_mask (nar .byte (x.toInt8.toInt32)) 63 6 (by decide) (by decide)
 omega
theorem o_bb {c : Int32} (h0 : 0 ≤ c.toInt) (h1 : c.toInt ≤ 255) : (o_by c &&& (255 : Int32)) = c := by
 have m := o_m8 c
 rw [← Int32.toInt_inj]
 show ((nar .byte (c.toInt8.toInt32)) &&& (255 : Int32)).toInt = c.toInt
 omega
theorem o_bbl {c : Int32} {cs : List Int32} (e : cs = [c]) (hr : o_rng cs) (hl : o_lat cs) : (o_by c &&& (255 : Int32)) = c :=
 o_bb (hr c (by rw [e]; exact List.mem_singleton.mpr rfl)).1 (hl c (by rw [e]; exact List.mem_singleton.mpr rfl))
theorem o_gc {c : Int32} (h0 : 0 ≤ c.toInt) (h1 : c.toInt < 65536) : ((((o_lo c) &&& (255 : Int32)) <<< ((0 : Int32) &&& 31)) ||| (((o_hi c) &&& (255 : Int32)) <<< ((8 : Int32) &&& 31))) = c := by
 have m1 : ((o_lo c) &&& (255 : Int32)).toInt = (c >>> ((0 : Int32) &&& 31)).toInt % 256 := o_m8 _
 have m2 : ((o_hi c) &&& (255 : Int32)).toInt = (c >>> ((8 : Int32) &&& 31)).toInt % 256 := o_m8 _
 have s1 := c_ishr c 0 0 (by decide)
 have s2 := c_ishr c 8 8 (by decide)
 have l1 := c_ishl ((o_lo c) &&& (255 : Int32)) 0 0 (by decide)
 have r1 := rng32 (((o_lo c) &&& (255 : Int32)) <<< ((0 : Int32) &&& 31))
 have l2 := c_ishl ((o_hi c) &&& (255 : Int32)) 8 8 (by decide)
 have r2 := rng32 (((o_hi c) &&& (255 : Int32)) <<< ((8 : Int32) &&& 31))
 have A1 : (((o_lo c) &&& (255 : Int32)) <<< ((0 : Int32) &&& 31)).toInt = c.toInt % 256 := by omega
 have A2 : (((o_hi c) &&& (255 : Int32)) <<< ((8 : Int32) &&& 31)).toInt = c.toInt / 256 * 256 := by omega
 have o := c_or' (((o_lo c) &&& (255 : Int32)) <<< ((0 : Int32) &&& 31)) (((o_hi c) &&& (255 : Int32)) <<< ((8 : Int32) &&& 31)) 8 (by decide) 256 (by decide) (by omega) (by omega) (by omega)
 have r3 := rng32 ((((o_lo c) &&& (255 : Int32)) <<< ((0 : Int32) &&& 31)) ||| (((o_hi c) &&& (255 : Int32)) <<< ((8 : Int32) &&& 31)))
 rw [← Int32.toInt_inj]; omega
theorem o_i2c {b : Int32} (h0 : 0 ≤ b.toInt) (h1 : b.toInt < 65536) : b.toUInt32.toUInt16.toUInt32.toInt32 = b := by
 have q := c_i2c b
 rw [← Int32.toInt_inj]; omega
theorem o_narc {a : Int32} (h0 : 0 ≤ a.toInt) (h1 : a.toInt < 65536) : nar .char a = a := o_i2c h0 h1
theorem o_i2cr (q : Int32) : 0 ≤ (q.toUInt32.toUInt16.toUInt32.toInt32).toInt ∧ (q.toUInt32.toUInt16.toUInt32.toInt32).toInt < 65536 := (c_i2c q).2
theorem o_or6 {c x : Int32} (h0 : 0 ≤ c.toInt) (h1 : c.toInt < 65536) (x0 : 0 ≤ x.toInt) (x1 : x.toInt < 64) : ((c <<< ((6 : Int32) &&& 31)) ||| x).toInt = c.toInt * 64 + x.toInt := by
 have l1 := c_ishl c 6 6 (by decide)
 have r1 := rng32 (c <<< ((6 : Int32) &&& 31))
 have A1 : (c <<< ((6 : Int32) &&& 31)).toInt = c.toInt * 64 := by omega
 have o := c_or (c <<< ((6 : Int32) &&& 31)) x 6 (by decide) 64 (by decide) (by omega) x0 x1
 have r3 := rng32 ((c <<< ((6 : Int32) &&& 31)) ||| x)
 omega
theorem o_gd (p_ l : List Value) (j : Nat) (d : Value) : (p_ ++ l).getD (p_.length + j) d = l.getD j d := by
 rw [List.getD_eq_getElem?_getD, List.getD_eq_getElem?_getD, List.getElem?_append_right (Nat.le_add_right _ _), Nat.add_sub_cancel_left]
theorem o_u8l (cs : List Int32) : (o_u8 cs).length = cs.length := by
 induction cs with
 | nil => rfl
 | cons c r ih => show (o_u8 r).length + 1 = r.length + 1; rw [ih]
theorem o_u16l (cs : List Int32) : (o_u16 cs).length = 2 * cs.length := by
 induction cs with
 | nil => rfl
 | cons c r ih => show (o_u16 r).length + 1 + 1 = 2 * (r.length + 1); rw [ih]; omega
theorem o_u8g (cs : List Int32) (k : Nat) (h : k < cs.length) (d : Value) : (o_u8 cs).getD k d = .int (o_by (cs.getD k 0)) := by
 induction cs generalizing k with
 | nil => cases h
 | cons c r ih => cases k with
   | zero => rfl
   | succ k => exact ih k (Nat.lt_of_succ_lt_succ h)
theorem o_u16g (cs : List Int32) (k : Nat) (h : k < cs.length) (d : Value) : (o_u16 cs).getD (2 * k) d = .int (o_lo (cs.getD k 0)) ∧ (o_u16 cs).getD (2 * k + 1) d = .int (o_hi (cs.getD k 0)) := by
 induction cs generalizing k with
 | nil => cases h
 | cons c r ih => cases k with
   | zero => exact ⟨rfl, rfl⟩
   | succ k => exact ih k (Nat.lt_of_succ_lt_succ h)
theorem o_gmem {cs : List Int32} {k : Nat} (h : k < cs.length) : cs.getD k 0 ∈ cs := by
 rw [List.getD_eq_getElem?_getD, List.getElem?_eq_getElem h]; exact List.getElem_mem h
theorem o_u8_app (a b : List Int32) : o_u8 (a ++ b) = o_u8 a ++ o_u8 b := by
 induction a with
 | nil => rfl
 | cons c r ih => show Value.int (o_by c) :: o_u8 (r ++ b) = _; rw [ih]; rfl
theorem o_u16_app (a b : List Int32) : o_u16 (a ++ b) = o_u16 a ++ o_u16 b := by
 induction a with
 | nil => rfl
 | cons c r ih => show Value.int (o_lo c) :: Value.int (o_hi c) :: o_u16 (r ++ b) = _; rw [ih]; rfl
theorem d49_0 : decode k0_ 0 = .ok (.aload_n 0, 1) := by decide +kernel
theorem d49_1 : decode k0_ 1 = .ok (.arraylength, 1) := by decide +kernel
theorem d49_2 : decode k0_ 2 = .ok (.iconst 1, 1) := by decide +kernel
theorem d49_3 : decode k0_ 3 = .ok (.ishr, 1) := by decide +kernel
theorem d49_4 : decode k0_ 4 = .ok (.ireturn, 1) := by decide +kernel
theorem pn_0 : plainName "java/lang/StringUTF16" = true := by first | (simp [plainName, overriddenIn]; done) | decide +kernel
theorem ef_ul (m : MethodId) (x0 : Addr) : entryFrame m #[(.ref x0)] 1 = mkF m 0 #[.val (.ref x0)] [] := by first | (simp [entryFrame, mkF, argsToLocals, Value.category]; done) | rfl
def Qul (Z : State) (M : Int32) (h0 : Heap) (n0 : Nat) (v : Option Value) (h : Heap) (L : List Loc) : Prop := v = some (.int (M >>> ((1 : Int32) &&& 31))) ∧ Fr n0 L ∧ h = h0
theorem ul (l : Launch) (Z : State) (a0 : Array Value) (hw : ∀ d ∈ tables_1, d.before a0 Z = true) (ws : List Jvm.Cond) (t : Addr) (kt : ClassId) (M : Int32) (vs : List Value) (h0 : Heap) (n0 : Nat) (O : Old Z n0 h0) (V_t : Arv Z h0 t kt .byte M vs (.int 0)) :
   o_MF l Z mN0 jdk_52_method_6_code 1 (some .int) ws rM0 #[(.ref t)] h0 (Qul Z M h0 n0) := by
 refine MetFree.of_bodySF (plainFor_of_name pn_0) hisR ?_
 intro p e s m args below meth c s₁ Bd hml0 hP hK
 obtain ⟨rfl, hZ, hh⟩ := hP
 have hx := Bd.exec
 have hby := Bd.bytes
 have B := @hb _ _ hby
 have hml : c.maxLocals = 1 := hml0
 have hown : s.vm.findClass "java/lang/StringUTF16" = some m.cls := findClass_of_methodNamed Bd.named
 have X0 : Stand p l e rM0 s m #[(.ref t)] below meth c s₁ [] 0 0 := Stand.of_body Bd
 have e0 : s₁.heap = h0 := by rw [← hh, Bd.state]; rfl
 have N0 := Fr.nil n0
 refine o_start (ef_ul m t) (Q := o_QE s rM0 (Qul Z M h0 n0)) ?_
 show oF p e below (s₁.setTop (mkF m 0 #[.val (.ref t)] [])) _
 refine oG (fun _ k => XS.aloadN X0.here hx rfl (B d49_0) rfl rfl k) ?_
 show oF p e below (s₁.setTop (mkF m 1 #[.val (.ref t)] [(.ref t)])) _
 obtain ⟨cl1, A1, -, S1, M1, -, -⟩ := id V_t
 refine oG (fun _ k => X0.arraylength hx (o_eqE e0 A1.1) (State.isArrayOf_alike hZ.alike A1.2.1) (g := (mkF m 1 #[.val (.ref t)] [(.ref t)])) rfl rfl (B d49_1) _ (by rw [len_of S1 M1]; exact k)) ?_
 show oF p e below (s₁.setTop (mkF m 2 #[.val (.ref t)] [(.int M)])) _
 refine oG (fun _ k => XS.iconst X0.here hx rfl (B d49_2) (XS.ishr X0.here hx rfl (B d49_3) rfl k)) ?_
 show oF p e below (s₁.setTop (mkF m 4 #[.val (.ref t)] [(.int (M >>> ((1 : Int32) &&& 31)))])) _
 obtain ⟨fs, hr, r1, r2, hW, r3⟩ := X0.leave (v := some (.int (M >>> ((1 : Int32) &&& 31)))) (fun h => by rw [Bd.returns] at h; cases h)
 refine ⟨_, _, ?_, r1, r2, _, _, rfl, ?_, ⟨_, rfl⟩, hW, r3.mono (by decide) (by decide)⟩
 ·exact o_retI X0 hx Bd.returns (B d49_4) hr
 ·show Qul Z M h0 n0 _ s₁.heap _
  rw [e0]
  exact ⟨rfl, N0, rfl⟩
theorem d43_0 : decode k1_ 0 = .ok (.getstatic 44, 3) := by decide +kernel
theorem d43_3 : decode k1_ 3 = .ok (.ifCond .ne 25, 3) := by decide +kernel
theorem d43_28 : decode k1_ 28 = .ok (.iload_n 1, 1) := by decide +kernel
theorem d43_29 : decode k1_ 29 = .ok (.iconst 1, 1) := by decide +kernel
theorem d43_30 : decode k1_ 30 = .ok (.ishl, 1) := by decide +kernel
theorem d43_31 : decode k1_ 31 = .ok (.istore_n 1, 1) := by decide +kernel
theorem d43_32 : decode k1_ 32 = .ok (.aload_n 0, 1) := by decide +kernel
theorem d43_33 : decode k1_ 33 = .ok (.iload_n 1, 1) := by decide +kernel
theorem d43_34 : decode k1_ 34 = .ok (.iinc 1 1, 3) := by decide +kernel
theorem d43_37 : decode k1_ 37 = .ok (.iload_n 2, 1) := by decide +kernel
theorem d43_38 : decode k1_ 38 = .ok (.getstatic 59, 3) := by decide +kernel
theorem d43_41 : decode k1_ 41 = .ok (.ishr, 1) := by decide +kernel
theorem d43_42 : decode k1_ 42 = .ok (.i2b, 1) := by decide +kernel
theorem d43_43 : decode k1_ 43 = .ok (.bastore, 1) := by decide +kernel
theorem d43_44 : decode k1_ 44 = .ok (.aload_n 0, 1) := by decide +kernel
theorem d43_45 : decode k1_ 45 = .ok (.iload_n 1, 1) := by decide +kernel
theorem d43_46 : decode k1_ 46 = .ok (.iload_n 2, 1) := by decide +kernel
theorem d43_47 : decode k1_ 47 = .ok (.getstatic 63, 3) := by decide +kernel
theorem d43_50 : decode k1_ 50 = .ok (.ishr, 1) := by decide +kernel
theorem d43_51 : decode k1_ 51 = .ok (.i2b, 1) := by decide +kernel
theorem d43_52 : decode k1_ 52 = .ok (.bastore, 1) := by decide +kernel
theorem d43_53 : decode k1_ 53 = .ok (.return_, 1) := by decide +kernel
theorem ef_pt (m : MethodId) (x0 : Addr) (x1 : Int32) (x2 : Int32) : entryFrame m #[(.ref x0), (.int x1), (.int x2)] 3 = mkF m 0 #[.val (.ref x0), .val (.int x1), .val (.int x2)] [] := by first | (simp [entryFrame, mkF, argsToLocals, Value.category]; done) | rfl
def Qpt (Z : State) (t : Addr) (c_ : Int32) (kt : ClassId) (M : Int32) (vs : List Value) (h0 : Heap) (n0 : Nat) (v : Option Value) (h : Heap) (L : List Loc) : Prop := v = none ∧ Fr n0 L ∧ Keep h0 h [t] ∧ Arv Z h t kt .byte M (vs ++ [(.int (o_lo c_)), (.int (o_hi c_))]) (.int 0)
theorem pt (l : Launch) (Z : State) (a0 : Array Value) (hw : ∀ d ∈ tables_1, d.before a0 Z = true) (ws : List Jvm.Cond) (t : Addr) (i : Int32) (c_ : Int32) (kt : ClassId) (M : Int32) (vs : List Value) (h0 : Heap) (n0 : Nat) (O : Old Z n0 h0) (j8_ : sT0 Z (.int 1)) (j9_ : sT1 Z (.int 0)) (j10_ : sT2 Z (.int 8)) (V_t : Arv Z h0 t kt .byte M vs (.int 0)) (g_t : n0 ≤ t) (hn : (vs.length : Int) = 2 * i.toInt) (hM : (vs.length : Int) + 2 ≤ M.toInt) (h16 : M.toInt ≤ 900) :
   o_MF l Z mN1 jdk_52_method_4_code 3 none ws rM0 #[(.ref t), (.int i), (.int c_)] h0 (Qpt Z t c_ kt M vs h0 n0) := by
 refine MetFree.of_bodySF (plainFor_of_name pn_0) hisR ?_
 intro p e s m args below meth c s₁ Bd hml0 hP hK
 obtain ⟨rfl, hZ, hh⟩ := hP
 have hx := Bd.exec
 have hby := Bd.bytes
 have B := @hb _ _ hby
 have hml : c.maxLocals = 3 := hml0
 have hown : s.vm.findClass "java/lang/StringUTF16" = some m.cls := findClass_of_methodNamed Bd.named
 have X0 : Stand p l e rM0 s m #[(.ref t), (.int i), (.int c_)] below meth c s₁ [] 0 0 := Stand.of_body Bd
 have e0 : s₁.heap = h0 := by rw [← hh, Bd.state]; rfl
 have N0 := Fr.nil n0
 have K0 := Keep.refl h0 [t]
 refine o_start (ef_pt m t i c_) (Q := o_QE s rM0 (Qpt Z t c_ kt M vs h0 n0)) ?_
 show oF p e below (s₁.setTop (mkF m 0 #[.val (.ref t), .val (.int i), .val (.int c_)] [])) _
 obtain ⟨T3, X3, e3, st3⟩ := getS2 X0 hx hZ hown (host := "") (Or.inl (ow hw 221)) Via.refl e0 (j8_.ext O.2) (g := (mkF m 0 #[.val (.ref t), .val (.int i), .val (.int c_)] [])) rfl (B d43_0)
 refine oG st3 ?_
 show oF p e below (T3.setTop (mkF m 3 #[.val (.ref t), .val (.int i), .val (.int c_)] [(.int 1)])) _
 refine oG (fun _ k => XS.ifYes X3.here hx rfl (pc0 := 3) (pc' := 28) rfl (B d43_3) rfl ((if0 _ _).trans (feq (by decide : ¬ ((1 : Int32) = (0 : Int32)))).2) (by decide) (by decide) (XS.iloadN X3.here hx rfl (B d43_28) rfl (XS.iconst X3.here hx rfl (B d43_29) (XS.ishl X3.here hx rfl (B d43_30) rfl (XS.istoreN X3.here hx rfl (B d43_31) rfl (l' := #[.val (.ref t), .val (.int (i <<< ((1 : Int32) &&& 31))), .val (.int c_)]) rfl (XS.aloadN X3.here hx rfl (B d43_32) rfl rfl (XS.iloadN X3.here hx rfl (B d43_33) rfl (XS.iinc X3.here hx rfl (B d43_34) rfl (l' := #[.val (.ref t), .val (.int ((i <<< ((1 : Int32) &&& 31)) + (1 : Int32))), .val (.int c_)]) rfl (XS.iloadN X3.here hx rfl (B d43_37) rfl k))))))))) ?_
 show oF p e below (T3.setTop (mkF m 38 #[.val (.ref t), .val (.int ((i <<< ((1 : Int32) &&& 31)) + (1 : Int32))), .val (.int c_)] [(.int c_), (.int (i <<< ((1 : Int32) &&& 31))), (.ref t)])) _
 obtain ⟨T4, X4, e4, st4⟩ := getS2 X3 hx hZ hown (host := "") (Or.inl (ow hw 222)) Via.refl e3 (j9_.ext O.2) (g := (mkF m 38 #[.val (.ref t), .val (.int ((i <<< ((1 : Int32) &&& 31)) + (1 : Int32))), .val (.int c_)] [(.int c_), (.int (i <<< ((1 : Int32) &&& 31))), (.ref t)])) rfl (B d43_38)
 refine oG st4 ?_
 show oF p e below (T4.setTop (mkF m 41 #[.val (.ref t), .val (.int ((i <<< ((1 : Int32) &&& 31)) + (1 : Int32))), .val (.int c_)] [(.int 0), (.int c_), (.int (i <<< ((1 : Int32) &&& 31))), (.ref t)])) _
 refine oG (fun _ k => XS.ishr X4.here hx rfl (B d43_41) rfl (XS.i2b X4.here hx rfl (B d43_42) rfl k)) ?_
 show oF p e below (T4.setTop (mkF m 43 #[.val (.ref t), .val (.int ((i <<< ((1 : Int32) &&& 31)) + (1 : Int32))), .val (.int c_)] [(.int ((c_ >>> ((0 : Int32) &&& 31)).toInt8.toInt32)), (.int (i <<< ((1 : Int32) &&& 31))), (.ref t)])) _
 obtain ⟨T5, h5, X5, e5, W5, Vq5, st5⟩ := o_sB X4 hx hZ e4 V_t (j := (i <<< ((1 : Int32) &&& 31))) (o_pi0 hn hM h16) (by omega) (g := (mkF m 43 #[.val (.ref t), .val (.int ((i <<< ((1 : Int32) &&& 31)) + (1 : Int32))), .val (.int c_)] [(.int ((c_ >>> ((0 : Int32) &&& 31)).toInt8.toInt32)), (.int (i <<< ((1 : Int32) &&& 31))), (.ref t)])) rfl rfl (B d43_43)
 refine oG st5 ?_
 have O := O.wr W5 g_t
 have K6 := K0.wr W5 (Or.inl (List.mem_of_getElem? (i := 0) rfl))
 have V_t : Arv Z h5 t kt .byte M (vs ++ [(.int (nar .byte ((c_ >>> ((0 : Int32) &&& 31)).toInt8.toInt32)))]) (.int 0) := by exact Vq5
 have N5 := Fr.snoc X5 N0 g_t
 show oF p e below (T5.setTop (mkF m 44 #[.val (.ref t), .val (.int ((i <<< ((1 : Int32) &&& 31)) + (1 : Int32))), .val (.int c_)] [])) _
 refine oG (fun _ k => XS.aloadN X5.here hx rfl (B d43_44) rfl rfl (XS.iloadN X5.here hx rfl (B d43_45) rfl (XS.iloadN X5.here hx rfl (B d43_46) rfl k))) ?_
 show oF p e below (T5.setTop (mkF m 47 #[.val (.ref t), .val (.int ((i <<< ((1 : Int32) &&& 31)) + (1 : Int32))), .val (.int c_)] [(.int c_), (.int ((i <<< ((1 : Int32) &&& 31)) + (1 : Int32))), (.ref t)])) _
 obtain ⟨T7, X7, e7, st7⟩ := getS2 X5 hx hZ hown (host := "") (Or.inl (ow hw 223)) Via.refl e5 (j10_.ext O.2) (g := (mkF m 47 #[.val (.ref t), .val (.int ((i <<< ((1 : Int32) &&& 31)) + (1 : Int32))), .val (.int c_)] [(.int c_), (.int ((i <<< ((1 : Int32) &&& 31)) + (1 : Int32))), (.ref t)])) rfl (B d43_47)
 refine oG st7 ?_
 show oF p e below (T7.setTop (mkF m 50 #[.val (.ref t), .val (.int ((i <<< ((1 : Int32) &&& 31)) + (1 : Int32))), .val (.int c_)] [(.int 8), (.int c_), (.int ((i <<< ((1 : Int32) &&& 31)) + (1 : Int32))), (.ref t)])) _
 refine oG (fun _ k => XS.ishr X7.here hx rfl (B d43_50) rfl (XS.i2b X7.here hx rfl (B d43_51) rfl k)) ?_
 show oF p e below (T7.setTop (mkF m 52 #[.val (.ref t), .val (.int ((i <<< ((1 : Int32) &&& 31)) + (1 : Int32))), .val (.int c_)] [(.int ((c_ >>> ((8 : Int32) &&& 31)).toInt8.toInt32)), (.int ((i <<< ((1 : Int32) &&& 31)) + (1 : Int32))), (.ref t)])) _
 obtain ⟨T8, h8, X8, e8, W8, Vq8, st8⟩ := o_sB X7 hx hZ e7 V_t (j := ((i <<< ((1 : Int32) &&& 31)) + (1 : Int32))) (by have q_ := o_pi1 hn hM h16; simp only [List.length_append, List.length_cons, List.length_nil]; omega) (by simp only [List.length_append, List.length_cons, List.length_nil]; omega) (g := (mkF m 52 #[.val (.ref t), .val (.int ((i <<< ((1 : Int32) &&& 31)) + (1 : Int32))), .val (.int c_)] [(.int ((c_ >>> ((8 : Int32) &&& 31)).toInt8.toInt32)), (.int ((i <<< ((1 : Int32) &&& 31)) + (1 : Int32))), (.ref t)])) rfl rfl (B d43_52)
 refine oG st8 ?_
 have O := O.wr W8 g_t
 have K9 := K6.wr W8 (Or.inl (List.mem_of_getElem? (i := 0) rfl))
 have V_t : Arv Z h8 t kt .byte M ((vs ++ [(.int (nar .byte ((c_ >>> ((0 : Int32) &&& 31)).toInt8.toInt32)))]) ++ [(.int (nar .byte ((c_ >>> ((8 : Int32) &&& 31)).toInt8.toInt32)))]) (.int 0) := by exact Vq8
 have N8 := Fr.snoc X8 N5 g_t
 show oF p e below (T8.setTop (mkF m 53 #[.val (.ref t), .val (.int ((i <<< ((1 : Int32) &&& 31)) + (1 : Int32))), .val (.int c_)] [])) _
 obtain ⟨fs, hr, r1, r2, hW, r3⟩ := X8.leave (v := none) (fun _ => rfl)
 refine ⟨_, _, ?_, r1, r2, _, _, rfl, ?_, ⟨_, rfl⟩, hW, r3.mono (by decide) (by decide)⟩
 ·exact X8.returnOut hx Bd.returns (B d43_53) hr
 ·show Qpt Z t c_ kt M vs h0 n0 _ T8.heap _
  rw [e8]
  exact ⟨rfl, N8, K9, (by rw [List.append_assoc] at V_t; exact V_t)⟩
theorem d51_0 : decode k2_ 0 = .ok (.iload_n 2, 1) := by decide +kernel
theorem d51_1 : decode k2_ 1 = .ok (.iload_n 0, 1) := by decide +kernel
theorem d51_2 : decode k2_ 2 = .ok (.ior, 1) := by decide +kernel
theorem d51_3 : decode k2_ 3 = .ok (.iload_n 1, 1) := by decide +kernel
theorem d51_4 : decode k2_ 4 = .ok (.ior, 1) := by decide +kernel
theorem d51_5 : decode k2_ 5 = .ok (.ifCond .lt 10, 3) := by decide +kernel
theorem d51_8 : decode k2_ 8 = .ok (.iload_n 1, 1) := by decide +kernel
theorem d51_9 : decode k2_ 9 = .ok (.iload_n 2, 1) := by decide +kernel
theorem d51_10 : decode k2_ 10 = .ok (.iload_n 0, 1) := by decide +kernel
theorem d51_11 : decode k2_ 11 = .ok (.isub, 1) := by decide +kernel
theorem d51_12 : decode k2_ 12 = .ok (.if_icmp .le 11, 3) := by decide +kernel
theorem d51_23 : decode k2_ 23 = .ok (.iload_n 0, 1) := by decide +kernel
theorem d51_24 : decode k2_ 24 = .ok (.ireturn, 1) := by decide +kernel
theorem pn_1 : plainName "jdk/internal/util/Preconditions" = true := by first | (simp [plainName, overriddenIn]; done) | decide +kernel
theorem ef_cfs (m : MethodId) (x0 : Int32) (x1 : Int32) (x2 : Int32) (x3 : Value) (hr3 : x3.isRef = true) : entryFrame m #[(.int x0), (.int x1), (.int x2), x3] 4 = mkF m 0 #[.val (.int x0), .val (.int x1), .val (.int x2), .val x3] [] := by (cases x3 <;> first | (cases hr3; done) | (simp [Value.isRef] at hr3; done) | skip); all_goals first | (simp [entryFrame, mkF, argsToLocals, Value.category]; done) | rfl
def Qcfs (Z : State) (i : Int32) (h0 : Heap) (n0 : Nat) (v : Option Value) (h : Heap) (L : List Loc) : Prop := v = some (.int i) ∧ Fr n0 L ∧ h = h0
theorem cfs (l : Launch) (Z : State) (a0 : Array Value) (hw : ∀ d ∈ tables_1, d.before a0 Z = true) (ws : List Jvm.Cond) (i : Int32) (j : Int32) (N : Int32) (fm : Value) (h0 : Heap) (n0 : Nat) (hfm : fm.isRef = true) (h1 : ¬ (((N ||| i) ||| j) < (0 : Int32))) (h2 : ¬ ((N - i) < j)) :
   o_MF l Z mN2 jdk_41_method_13_code 4 (some .int) ws rM0 #[(.int i), (.int j), (.int N), fm] h0 (Qcfs Z i h0 n0) := by
 refine MetFree.of_bodySF (plainFor_of_name pn_1) hisR ?_
 intro p e s m args below meth c s₁ Bd hml0 hP hK
 obtain ⟨rfl, hZ, hh⟩ := hP
 have hx := Bd.exec
 have hby := Bd.bytes
 have B := @hb _ _ hby
 have hml : c.maxLocals = 4 := hml0
 have hown : s.vm.findClass "jdk/internal/util/Preconditions" = some m.cls := findClass_of_methodNamed Bd.named
 have X0 : Stand p l e rM0 s m #[(.int i), (.int j), (.int N), fm] below meth c s₁ [] 0 0 := Stand.of_body Bd
 have e0 : s₁.heap = h0 := by rw [← hh, Bd.state]; rfl
 have N0 := Fr.nil n0
 refine o_start (ef_cfs m i j N fm hfm) (Q := o_QE s rM0 (Qcfs Z i h0 n0)) ?_
 show oF p e below (s₁.setTop (mkF m 0 #[.val (.int i), .val (.int j), .val (.int N), .val fm] [])) _
 refine oG (fun _ k => XS.iloadN X0.here hx rfl (B d51_0) rfl (XS.iloadN X0.here hx rfl (B d51_1) rfl (XS.ior X0.here hx rfl (B d51_2) rfl (XS.iloadN X0.here hx rfl (B d51_3) rfl (XS.ior X0.here hx rfl (B d51_4) rfl (XS.ifNo X0.here hx rfl (B d51_5) rfl ((if0 _ _).trans (flt h1).1) (XS.iloadN X0.here hx rfl (B d51_8) rfl (XS.iloadN X0.here hx rfl (B d51_9) rfl (XS.iloadN X0.here hx rfl (B d51_10) rfl (XS.isub X0.here hx rfl (B d51_11) rfl k)))))))))) ?_
 show oF p e below (s₁.setTop (mkF m 12 #[.val (.int i), .val (.int j), .val (.int N), .val fm] [(.int (N - i)), (.int j)])) _
 refine oG (fun _ k => XS.icmpYes X0.here hx rfl (pc0 := 12) (pc' := 23) rfl (B d51_12) rfl (flt h2).2.2.2 (by decide) (by decide) (XS.iloadN X0.here hx rfl (B d51_23) rfl k)) ?_
 show oF p e below (s₁.setTop (mkF m 24 #[.val (.int i), .val (.int j), .val (.int N), .val fm] [(.int i)])) _
 obtain ⟨fs, hr, r1, r2, hW, r3⟩ := X0.leave (v := some (.int i)) (fun h => by rw [Bd.returns] at h; cases h)
 refine ⟨_, _, ?_, r1, r2, _, _, rfl, ?_, ⟨_, rfl⟩, hW, r3.mono (by decide) (by decide)⟩
 ·exact o_retI X0 hx Bd.returns (B d51_24) hr
 ·show Qcfs Z i h0 n0 _ s₁.heap _
  rw [e0]
  exact ⟨rfl, N0, rfl⟩
theorem d50_0 : decode k3_ 0 = .ok (.iload_n 0, 1) := by decide +kernel
theorem d50_1 : decode k3_ 1 = .ok (.iload_n 1, 1) := by decide +kernel
theorem d50_2 : decode k3_ 2 = .ok (.iload_n 2, 1) := by decide +kernel
theorem d50_3 : decode k3_ 3 = .ok (.getstatic 1053, 3) := by decide +kernel
theorem d50_6 : decode k3_ 6 = .ok (.invokestatic 1065, 3) := by decide +kernel
theorem pd_0 : parseMethodDescriptor "(IIILjava/util/function/BiFunction;)I" = some ⟨[.int, .int, .int, (.object "java/util/function/BiFunction")], some .int⟩ := by decide +kernel
theorem d50_9 : decode k3_ 9 = .ok (.ireturn, 1) := by decide +kernel
theorem pn_2 : plainName "java/lang/String" = true := by first | (simp [plainName, overriddenIn]; done) | decide +kernel
theorem ef_cbo (m : MethodId) (x0 : Int32) (x1 : Int32) (x2 : Int32) : entryFrame m #[(.int x0), (.int x1), (.int x2)] 3 = mkF m 0 #[.val (.int x0), .val (.int x1), .val (.int x2)] [] := by first | (simp [entryFrame, mkF, argsToLocals, Value.category]; done) | rfl
def Qcbo (Z : State) (i : Int32) (h0 : Heap) (n0 : Nat) (v : Option Value) (h : Heap) (L : List Loc) : Prop := v = some (.int i) ∧ Fr n0 L ∧ h = h0
theorem cbo (l : Launch) (Z : State) (a0 : Array Value) (hw : ∀ d ∈ tables_1, d.before a0 Z = true) (ws : List Jvm.Cond) (i : Int32) (j : Int32) (N : Int32) (fm : Value) (h0 : Heap) (n0 : Nat) (O : Old Z n0 h0) (j13_ : sT3 Z fm) (hfm : fm.isRef = true) (h1 : ¬ (((N ||| i) ||| j) < (0 : Int32))) (h2 : ¬ ((N - i) < j)) :
   o_MF l Z mN3 jdk_42_method_157_code 3 (some .int) ws rM1 #[(.int i), (.int j), (.int N)] h0 (Qcbo Z i h0 n0) := by
 refine MetFree.of_bodySF (plainFor_of_name pn_2) hisR ?_
 intro p e s m args below meth c s₁ Bd hml0 hP hK
 obtain ⟨rfl, hZ, hh⟩ := hP
 have hx := Bd.exec
 have hby := Bd.bytes
 have B := @hb _ _ hby
 have hml : c.maxLocals = 3 := hml0
 have hown : s.vm.findClass "java/lang/String" = some m.cls := findClass_of_methodNamed Bd.named
 have X0 : Stand p l e rM1 s m #[(.int i), (.int j), (.int N)] below meth c s₁ [] 0 0 := Stand.of_body Bd
 have e0 : s₁.heap = h0 := by rw [← hh, Bd.state]; rfl
 have N0 := Fr.nil n0
 refine o_start (ef_cbo m i j N) (Q := o_QE s rM1 (Qcbo Z i h0 n0)) ?_
 show oF p e below (s₁.setTop (mkF m 0 #[.val (.int i), .val (.int j), .val (.int N)] [])) _
 refine oG (fun _ k => XS.iloadN X0.here hx rfl (B d50_0) rfl (XS.iloadN X0.here hx rfl (B d50_1) rfl (XS.iloadN X0.here hx rfl (B d50_2) rfl k))) ?_
 show oF p e below (s₁.setTop (mkF m 3 #[.val (.int i), .val (.int j), .val (.int N)] [(.int N), (.int j), (.int i)])) _
 obtain ⟨T12, X12, e12, st12⟩ := getS2 X0 hx hZ hown (host := "") (Or.inl (ow hw 248)) Via.refl e0 (j13_.ext O.2) (g := (mkF m 3 #[.val (.int i), .val (.int j), .val (.int N)] [(.int N), (.int j), (.int i)])) rfl (B d50_3)
 refine oG st12 ?_
 obtain ⟨_, _, ⟨T13, L13, k13, n13⟩, -, X13, ⟨Lc13, hQ13, l13, y13, z13⟩, st13⟩ := Jvm.LawKit.callS X12 hx (y := mN2) hown (mo hZ hw 250) (mo hZ hw 251) (mo hZ hw 249) (mo hZ hw 252) (by decide) (backOf (W := 0) (cfs l Z a0 hw [] i j N fm h0 n0 hfm h1 h2) hZ (ow hw 252) (ow hw 249) (by decide) (by decide)) (g := (mkF m 6 #[.val (.int i), .val (.int j), .val (.int N)] [fm, (.int N), (.int j), (.int i)])) rfl (by rw [hml]; rfl) (argsL := [(.int i), (.int j), (.int N), fm]) (rest := []) (lenOf pd_0 rfl) rfl (by show 2 * 0 + _ ≤ _; exact Nat.le_of_eq rfl) (B d50_6) (fun _ _ => ⟨rfl, e12, (by decide : 0 + 0 ≤ _), (by decide : 0 + 0 ≤ _)⟩)
 dsimp only [Pt.U, Pt.locs, Pt.cells, Pt.slots] at X13 l13 y13 z13 st13 hQ13
 subst y13 z13
 obtain ⟨rfl, N13q, e13⟩ := hQ13
 refine oG st13 ?_
 have N13 := oL l13 (Fr.app N0 N13q)
 show oF p e below (T13.setTop (mkF m 9 #[.val (.int i), .val (.int j), .val (.int N)] [(.int i)])) _
 obtain ⟨fs, hr, r1, r2, hW, r3⟩ := X13.leave (v := some (.int i)) (fun h => by rw [Bd.returns] at h; cases h)
 refine ⟨_, _, ?_, r1, r2, _, _, rfl, ?_, ⟨_, rfl⟩, hW, r3.mono (by decide) (by decide)⟩
 ·exact o_retI X13 hx Bd.returns (B d50_9) hr
 ·show Qcbo Z i h0 n0 _ T13.heap _
  rw [e13]
  exact ⟨rfl, N13, rfl⟩
theorem d48_0 : decode k4_ 0 = .ok (.iload_n 0, 1) := by decide +kernel
theorem d48_1 : decode k4_ 1 = .ok (.iload_n 1, 1) := by decide +kernel
theorem d48_2 : decode k4_ 2 = .ok (.aload_n 2, 1) := by decide +kernel
theorem d48_3 : decode k4_ 3 = .ok (.invokestatic 48, 3) := by decide +kernel
theorem pd_1 : parseMethodDescriptor "([B)I" = some ⟨[(.array .byte)], some .int⟩ := by decide +kernel
theorem d48_6 : decode k4_ 6 = .ok (.invokestatic 419, 3) := by decide +kernel
theorem pd_2 : parseMethodDescriptor "(III)I" = some ⟨[.int, .int, .int], some .int⟩ := by decide +kernel
theorem d48_9 : decode k4_ 9 = .ok (.pop, 1) := by decide +kernel
theorem d48_10 : decode k4_ 10 = .ok (.return_, 1) := by decide +kernel
theorem ef_ubo (m : MethodId) (x0 : Int32) (x1 : Int32) (x2 : Addr) : entryFrame m #[(.int x0), (.int x1), (.ref x2)] 3 = mkF m 0 #[.val (.int x0), .val (.int x1), .val (.ref x2)] [] := by first | (simp [entryFrame, mkF, argsToLocals, Value.category]; done) | rfl
def Qubo (Z : State)  (h0 : Heap) (n0 : Nat) (v : Option Value) (h : Heap) (L : List Loc) : Prop := v = none ∧ Fr n0 L ∧ h = h0
theorem ubo (l : Launch) (Z : State) (a0 : Array Value) (hw : ∀ d ∈ tables_1, d.before a0 Z = true) (ws : List Jvm.Cond) (i : Int32) (j : Int32) (t : Addr) (kt : ClassId) (M : Int32) (vs : List Value) (fm : Value) (h0 : Heap) (n0 : Nat) (O : Old Z n0 h0) (j13_ : sT3 Z fm) (hfm : fm.isRef = true) (V_t : Arv Z h0 t kt .byte M vs (.int 0)) (h1 : ¬ ((((M >>> ((1 : Int32) &&& 31)) ||| i) ||| j) < (0 : Int32))) (h2 : ¬ (((M >>> ((1 : Int32) &&& 31)) - i) < j)) :
   o_MF l Z mN4 jdk_52_method_94_code 3 none ws rM2 #[(.int i), (.int j), (.ref t)] h0 (Qubo Z  h0 n0) := by
 refine MetFree.of_bodySF (plainFor_of_name pn_0) hisR ?_
 intro p e s m args below meth c s₁ Bd hml0 hP hK
 obtain ⟨rfl, hZ, hh⟩ := hP
 have hx := Bd.exec
 have hby := Bd.bytes
 have B := @hb _ _ hby
 have hml : c.maxLocals = 3 := hml0
 have hown : s.vm.findClass "java/lang/StringUTF16" = some m.cls := findClass_of_methodNamed Bd.named
 have X0 : Stand p l e rM2 s m #[(.int i), (.int j), (.ref t)] below meth c s₁ [] 0 0 := Stand.of_body Bd
 have e0 : s₁.heap = h0 := by rw [← hh, Bd.state]; rfl
 have N0 := Fr.nil n0
 refine o_start (ef_ubo m i j t) (Q := o_QE s rM2 (Qubo Z  h0 n0)) ?_
 show oF p e below (s₁.setTop (mkF m 0 #[.val (.int i), .val (.int j), .val (.ref t)] [])) _
 refine oG (fun _ k => XS.iloadN X0.here hx rfl (B d48_0) rfl (XS.iloadN X0.here hx rfl (B d48_1) rfl (XS.aloadN X0.here hx rfl (B d48_2) rfl rfl k))) ?_
 show oF p e below (s₁.setTop (mkF m 3 #[.val (.int i), .val (.int j), .val (.ref t)] [(.ref t), (.int j), (.int i)])) _
 obtain ⟨_, _, ⟨T15, L15, k15, n15⟩, -, X15, ⟨Lc15, hQ15, l15, y15, z15⟩, st15⟩ := Jvm.LawKit.callS X0 hx (y := mN0) hown (mo hZ hw 242) (mo hZ hw 243) (mo hZ hw 190) (mo hZ hw 244) (by decide) (backOf (W := 2) (ul l Z a0 hw [] t kt M vs h0 n0 O V_t) hZ (ow hw 244) (ow hw 190) (by decide) (by decide)) (g := (mkF m 3 #[.val (.int i), .val (.int j), .val (.ref t)] [(.ref t), (.int j), (.int i)])) rfl (by rw [hml]; rfl) (argsL := [(.ref t)]) (rest := [(.int j), (.int i)]) (lenOf pd_1 rfl) rfl (by show 2 * 0 + _ ≤ _; exact Nat.le_of_eq rfl) (B d48_3) (fun _ _ => ⟨rfl, e0, (by decide : 0 + 0 ≤ _), (by decide : 0 + 0 ≤ _)⟩)
 dsimp only [Pt.U, Pt.locs, Pt.cells, Pt.slots] at X15 l15 y15 z15 st15 hQ15
 subst y15 z15
 obtain ⟨rfl, N15q, e15⟩ := hQ15
 refine oG st15 ?_
 have N15 := oL l15 (Fr.app N0 N15q)
 obtain ⟨_, _, ⟨T16, L16, k16, n16⟩, -, X16, ⟨Lc16, hQ16, l16, y16, z16⟩, st16⟩ := Jvm.LawKit.callS X15 hx (y := mN3) hown (mo hZ hw 245) (mo hZ hw 246) (mo hZ hw 15) (mo hZ hw 247) (by decide) (backOf (W := 0) (cbo l Z a0 hw [] i j (M >>> ((1 : Int32) &&& 31)) fm h0 n0 O j13_ hfm h1 h2) hZ (ow hw 247) (ow hw 15) (by decide) (by decide)) (g := (mkF m 6 #[.val (.int i), .val (.int j), .val (.ref t)] [(.int (M >>> ((1 : Int32) &&& 31))), (.int j), (.int i)])) rfl (by rw [hml]; rfl) (argsL := [(.int i), (.int j), (.int (M >>> ((1 : Int32) &&& 31)))]) (rest := []) (lenOf pd_2 rfl) rfl (by show 2 * 0 + _ ≤ _; exact Nat.le_of_eq rfl) (B d48_6) (fun _ _ => ⟨rfl, e15, (by decide : 0 + 0 ≤ _), (by decide : 0 + 0 ≤ _)⟩)
 dsimp only [Pt.U, Pt.locs, Pt.cells, Pt.slots] at X16 l16 y16 z16 st16 hQ16
 subst y16 z16
 obtain ⟨rfl, N16q, e16⟩ := hQ16
 refine oG st16 ?_
 have N16 := oL l16 (Fr.app N15 N16q)
 show oF p e below (T16.setTop (mkF m 9 #[.val (.int i), .val (.int j), .val (.ref t)] [(.int i)])) _
 refine oG (fun _ k => XS.pop X16.here hx rfl (B d48_9) rfl rfl k) ?_
 show oF p e below (T16.setTop (mkF m 10 #[.val (.int i), .val (.int j), .val (.ref t)] [])) _
 obtain ⟨fs, hr, r1, r2, hW, r3⟩ := X16.leave (v := none) (fun _ => rfl)
 refine ⟨_, _, ?_, r1, r2, _, _, rfl, ?_, ⟨_, rfl⟩, hW, r3.mono (by decide) (by decide)⟩
 ·exact X16.returnOut hx Bd.returns (B d48_10) hr
 ·show Qubo Z  h0 n0 _ T16.heap _
  rw [e16]
  exact ⟨rfl, N16, rfl⟩
theorem o_bo1 {M i j : Int32} (hM : 0 ≤ M.toInt) (hi : 0 ≤ i.toInt) (hj : 0 ≤ j.toInt) : ¬ ((((M >>> ((1 : Int32) &&& 31)) ||| i) ||| j) < (0 : Int32)) := by
 have h := o_hf (M := M)
 exact o_nn ((c_orS _ _).1 ((c_orS _ _).1 (by omega) hi) hj)
theorem o_bo2 {M i j : Int32} (hM : 2 * (i.toInt + j.toInt) ≤ M.toInt) (hi : 0 ≤ i.toInt) (hj : 0 ≤ j.toInt) (h16 : M.toInt ≤ 900) : ¬ (((M >>> ((1 : Int32) &&& 31)) - i) < j) := by
 have h := o_hf (M := M)
 have b := c_isub (M >>> ((1 : Int32) &&& 31)) i
 have r := rng32 ((M >>> ((1 : Int32) &&& 31)) - i)
 rw [Int32.lt_iff_toInt_lt]; omega
theorem o_ctt {cs dn rem : List Int32} {q : Int32} (h : cs = dn ++ q :: rem) : dn.length < cs.length ∧ cs.getD dn.length 0 = q := by
 subst h
 refine ⟨by rw [List.length_append]; simp, ?_⟩
 rw [List.getD_eq_getElem?_getD, List.getElem?_append_right (Nat.le_refl _), Nat.sub_self]; rfl
theorem o_cmem {cs dn rem : List Int32} {q : Int32} (h : cs = dn ++ q :: rem) : q ∈ cs := by rw [h]; exact List.mem_append.mpr (Or.inr List.mem_cons_self)
theorem o_bat {cs dn rem : List Int32} {q so : Int32} {d : Value} (h : cs = dn ++ q :: rem) (hs : so.toInt = (dn.length : Int)) : (o_u8 cs).getD so.toNatClampNeg d = .int (o_by q) := by
 have e : so.toNatClampNeg = dn.length := by have := o_cn (N := so) (by omega); omega
 have c := o_ctt h
 rw [e, o_u8g cs _ c.1, c.2]
theorem o_u16s (vs : List Value) (dn : List Int32) (q : Int32) : (vs ++ o_u16 (dn ++ [q])) = (vs ++ o_u16 dn) ++ [.int (o_lo q), .int (o_hi q)] := by
 rw [o_u16_app, List.append_assoc]; rfl
theorem o_ul {vs : List Value} {dn : List Int32} : ((vs ++ o_u16 dn).length : Int) = (vs.length : Int) + 2 * (dn.length : Int) := by
 rw [List.length_append, o_u16l]; omega
theorem d47_0 : decode k5_ 0 = .ok (.iload_n 3, 1) := by decide +kernel
theorem d47_1 : decode k5_ 1 = .ok (.iload 4, 2) := by decide +kernel
theorem d47_3 : decode k5_ 3 = .ok (.aload_n 2, 1) := by decide +kernel
theorem d47_4 : decode k5_ 4 = .ok (.invokestatic 173, 3) := by decide +kernel
theorem pd_3 : parseMethodDescriptor "(II[B)V" = some ⟨[.int, .int, (.array .byte)], none⟩ := by decide +kernel
theorem d47_7 : decode k5_ 7 = .ok (.iconst 0, 1) := by decide +kernel
theorem d47_8 : decode k5_ 8 = .ok (.istore 5, 2) := by decide +kernel
theorem d47_10 : decode k5_ 10 = .ok (.iload 5, 2) := by decide +kernel
theorem d47_12 : decode k5_ 12 = .ok (.iload 4, 2) := by decide +kernel
theorem d47_14 : decode k5_ 14 = .ok (.if_icmp .ge 27, 3) := by decide +kernel
theorem d47_41 : decode k5_ 41 = .ok (.return_, 1) := by decide +kernel
theorem d47_17 : decode k5_ 17 = .ok (.aload_n 2, 1) := by decide +kernel
theorem d47_18 : decode k5_ 18 = .ok (.iload_n 3, 1) := by decide +kernel
theorem d47_19 : decode k5_ 19 = .ok (.iinc 3 1, 3) := by decide +kernel
theorem d47_22 : decode k5_ 22 = .ok (.aload_n 0, 1) := by decide +kernel
theorem d47_23 : decode k5_ 23 = .ok (.iload_n 1, 1) := by decide +kernel
theorem d47_24 : decode k5_ 24 = .ok (.iinc 1 1, 3) := by decide +kernel
theorem d47_27 : decode k5_ 27 = .ok (.baload, 1) := by decide +kernel
theorem d47_28 : decode k5_ 28 = .ok (.sipush 255, 3) := by decide +kernel
theorem d47_31 : decode k5_ 31 = .ok (.iand, 1) := by decide +kernel
theorem d47_32 : decode k5_ 32 = .ok (.invokestatic 111, 3) := by decide +kernel
theorem pd_4 : parseMethodDescriptor "([BII)V" = some ⟨[(.array .byte), .int, .int], none⟩ := by decide +kernel
theorem d47_35 : decode k5_ 35 = .ok (.iinc 5 1, 3) := by decide +kernel
theorem d47_38 : decode k5_ 38 = .ok (.goto (-28), 3) := by decide +kernel
theorem ef_inf (m : MethodId) (x0 : Addr) (x1 : Int32) (x2 : Addr) (x3 : Int32) (x4 : Int32) : entryFrame m #[(.ref x0), (.int x1), (.ref x2), (.int x3), (.int x4)] 6 = mkF m 0 #[.val (.ref x0), .val (.int x1), .val (.ref x2), .val (.int x3), .val (.int x4), .unset] [] := by first | (simp [entryFrame, mkF, argsToLocals, Value.category]; done) | rfl
def Qinf (Z : State) (t2 : Addr) (cs : List Int32) (k2 : ClassId) (M : Int32) (vs : List Value) (h0 : Heap) (n0 : Nat) (v : Option Value) (h : Heap) (L : List Loc) : Prop := v = none ∧ Fr n0 L ∧ Keep h0 h [t2] ∧ Arv Z h t2 k2 .byte M (vs ++ o_u16 cs) (.int 0)
theorem inf (l : Launch) (Z : State) (a0 : Array Value) (hw : ∀ d ∈ tables_1, d.before a0 Z = true) (ws : List Jvm.Cond) (t : Addr) (t2 : Addr) (d_ : Int32) (n_ : Int32) (kt : ClassId) (N : Int32) (cs : List Int32) (k2 : ClassId) (M : Int32) (vs : List Value) (fm : Value) (h0 : Heap) (n0 : Nat) (O : Old Z n0 h0) (j8_ : sT0 Z (.int 1)) (j9_ : sT1 Z (.int 0)) (j10_ : sT2 Z (.int 8)) (j13_ : sT3 Z fm) (hfm : fm.isRef = true) (V_t : Arv Z h0 t kt .byte N (o_u8 cs) (.int 0)) (V_t2 : Arv Z h0 t2 k2 .byte M vs (.int 0)) (g_t2 : n0 ≤ t2) (ntt : t ≠ t2) (hrg : o_rng cs) (hl : o_lat cs) (hN : (cs.length : Int) ≤ N.toInt) (hn_ : n_.toInt = (cs.length : Int)) (hd_ : (vs.length : Int) = 2 * d_.toInt) (hM : (vs.length : Int) + 2 * (cs.length : Int) ≤ M.toInt) (h16 : M.toInt ≤ 900) :
   o_MF l Z mN5 jdk_52_method_86_code 6 none ws rM3 #[(.ref t), (.int 0), (.ref t2), (.int d_), (.int n_)] h0 (Qinf Z t2 cs k2 M vs h0 n0) := by
 refine MetFree.of_bodySF (plainFor_of_name pn_0) hisR ?_
 intro p e s m args below meth c s₁ Bd hml0 hP hK
 obtain ⟨rfl, hZ, hh⟩ := hP
 have hx := Bd.exec
 have hby := Bd.bytes
 have B := @hb _ _ hby
 have hml : c.maxLocals = 6 := hml0
 have hown : s.vm.findClass "java/lang/StringUTF16" = some m.cls := findClass_of_methodNamed Bd.named
 have X0 : Stand p l e rM3 s m #[(.ref t), (.int 0), (.ref t2), (.int d_), (.int n_)] below meth c s₁ [] 0 0 := Stand.of_body Bd
 have e0 : s₁.heap = h0 := by rw [← hh, Bd.state]; rfl
 have N0 := Fr.nil n0
 have K0 := Keep.refl h0 [t2]
 refine o_start (ef_inf m t (0 : Int32) t2 d_ n_) (Q := o_QE s rM3 (Qinf Z t2 cs k2 M vs h0 n0)) ?_
 show oF p e below (s₁.setTop (mkF m 0 #[.val (.ref t), .val (.int 0), .val (.ref t2), .val (.int d_), .val (.int n_), .unset] [])) _
 refine oG (fun _ k => XS.iloadN X0.here hx rfl (B d47_0) rfl (XS.iload X0.here hx rfl (B d47_1) rfl (XS.aloadN X0.here hx rfl (B d47_3) rfl rfl k))) ?_
 show oF p e below (s₁.setTop (mkF m 4 #[.val (.ref t), .val (.int 0), .val (.ref t2), .val (.int d_), .val (.int n_), .unset] [(.ref t2), (.int n_), (.int d_)])) _
 obtain ⟨_, _, ⟨T18, L18, k18, n18⟩, -, X18, ⟨Lc18, hQ18, l18, y18, z18⟩, st18⟩ := Jvm.LawKit.callS X0 hx (y := mN4) hown (mo hZ hw 239) (mo hZ hw 240) (mo hZ hw 190) (mo hZ hw 241) (by decide) (backOf (W := 0) (ubo l Z a0 hw [] d_ n_ t2 k2 M vs fm h0 n0 O j13_ hfm V_t2 (o_bo1 (by omega) (by omega) (by omega)) (o_bo2 (by omega) (by omega) (by omega) h16)) hZ (ow hw 241) (ow hw 190) (by decide) (by decide)) (g := (mkF m 4 #[.val (.ref t), .val (.int 0), .val (.ref t2), .val (.int d_), .val (.int n_), .unset] [(.ref t2), (.int n_), (.int d_)])) rfl (by rw [hml]; rfl) (argsL := [(.int d_), (.int n_), (.ref t2)]) (rest := []) (lenOf pd_3 rfl) rfl (by show 2 * 0 + _ ≤ _; exact Nat.le_of_eq rfl) (B d47_4) (fun _ _ => ⟨rfl, e0, (by decide : 0 + 0 ≤ _), (by decide : 0 + 0 ≤ _)⟩)
 dsimp only [Pt.U, Pt.locs, Pt.cells, Pt.slots] at X18 l18 y18 z18 st18 hQ18
 subst y18 z18
 obtain ⟨rfl, N18q, e18⟩ := hQ18
 refine oG st18 ?_
 have N18 := oL l18 (Fr.app N0 N18q)
 show oF p e below (T18.setTop (mkF m 7 #[.val (.ref t), .val (.int 0), .val (.ref t2), .val (.int d_), .val (.int n_), .unset] [])) _
 refine oG (fun _ k => XS.iconst X18.here hx rfl (B d47_7) (XS.istore X18.here hx rfl (B d47_8) rfl (l' := #[.val (.ref t), .val (.int 0), .val (.ref t2), .val (.int d_), .val (.int n_), .val (.int 0)]) rfl k)) ?_
 show oF p e below (T18.setTop (mkF m 10 #[.val (.ref t), .val (.int 0), .val (.ref t2), .val (.int d_), .val (.int n_), .val (.int 0)] [])) _
 have lp : ∀ (rem : List Int32) (T19 : State) (L19 : List Loc) (h19 : Heap) (dn : List Int32) (ii : Int32) (so : Int32) (do_ : Int32), Stand p l e rM3 s m #[(.ref t), (.int 0), (.ref t2), (.int d_), (.int n_)] below meth c T19 L19 0 0 → T19.heap = h19 → Fr n0 L19 → Old Z n0 h19 → Keep h0 h19 [t2] → Arv Z h19 t kt .byte N (o_u8 cs) (.int 0) → Arv Z h19 t2 k2 .byte M (vs ++ o_u16 dn) (.int 0) → cs = dn ++ rem → ii.toInt = (dn.length : Int) → so.toInt = (dn.length : Int) → ((vs ++ o_u16 dn).length : Int) = 2 * do_.toInt → oF p e below (T19.setTop (mkF m 10 #[.val (.ref t), .val (.int so), .val (.ref t2), .val (.int do_), .val (.int n_), .val (.int ii)] [])) (fun o' t' => ∃ v' L', o' = .returned v' ∧ Qinf Z t2 cs k2 M vs h0 n0 v' t'.heap L' ∧ FrameEnd s o' t' L' rM3.cells rM3.slots) := by
  intro rem
  induction rem with
  | nil =>
   intro T19 L19 h19 dn ii so do_ X19 e19 N19 O K19 V_t V_t2 hdn hii hso hdo
   show oF p e below (T19.setTop (mkF m 10 #[.val (.ref t), .val (.int so), .val (.ref t2), .val (.int do_), .val (.int n_), .val (.int ii)] [])) _
   refine oG (fun _ k => XS.iload X19.here hx rfl (B d47_10) rfl (XS.iload X19.here hx rfl (B d47_12) rfl (XS.icmpYes X19.here hx rfl (pc0 := 14) (pc' := 41) rfl (B d47_14) rfl (flt ((o_nlti hii hn_ (by rw [hdn, List.append_nil]; omega)) : ¬ (ii < n_))).2.1 (by decide) (by decide) k))) ?_
   show oF p e below (T19.setTop (mkF m 41 #[.val (.ref t), .val (.int so), .val (.ref t2), .val (.int do_), .val (.int n_), .val (.int ii)] [])) _
   obtain ⟨fs, hr, r1, r2, hW, r3⟩ := X19.leave (v := none) (fun _ => rfl)
   refine ⟨_, _, ?_, r1, r2, _, _, rfl, ?_, ⟨_, rfl⟩, hW, r3.mono (by decide) (by decide)⟩
   ·exact X19.returnOut hx Bd.returns (B d47_41) hr
   ·show Qinf Z t2 cs k2 M vs h0 n0 _ T19.heap _
    rw [e19]
    exact ⟨rfl, N19, K19, (by rw [hdn, List.append_nil]; exact V_t2)⟩
  | cons q rem ih =>
   intro T19 L19 h19 dn ii so do_ X19 e19 N19 O K19 V_t V_t2 hdn hii hso hdo
   show oF p e below (T19.setTop (mkF m 10 #[.val (.ref t), .val (.int so), .val (.ref t2), .val (.int do_), .val (.int n_), .val (.int ii)] [])) _
   have hcat := o_ctt hdn
   have hqr := hrg q (o_cmem hdn)
   have hql := hl q (o_cmem hdn)
   have hul := hdo
   rw [o_ul] at hul
   show oF p e below (T19.setTop (mkF m 10 #[.val (.ref t), .val (.int so), .val (.ref t2), .val (.int do_), .val (.int n_), .val (.int ii)] [])) _
   refine oG (fun _ k => XS.iload X19.here hx rfl (B d47_10) rfl (XS.iload X19.here hx rfl (B d47_12) rfl (XS.icmpNo X19.here hx rfl (B d47_14) rfl (tlt ((o_lti hii hn_ (by omega)) : ii < n_)).2.1 (XS.aloadN X19.here hx rfl (B d47_17) rfl rfl (XS.iloadN X19.here hx rfl (B d47_18) rfl (XS.iinc X19.here hx rfl (B d47_19) rfl (l' := #[.val (.ref t), .val (.int so), .val (.ref t2), .val (.int (do_ + (1 : Int32))), .val (.int n_), .val (.int ii)]) rfl (XS.aloadN X19.here hx rfl (B d47_22) rfl rfl (XS.iloadN X19.here hx rfl (B d47_23) rfl (XS.iinc X19.here hx rfl (B d47_24) rfl (l' := #[.val (.ref t), .val (.int (so + (1 : Int32))), .val (.ref t2), .val (.int (do_ + (1 : Int32))), .val (.int n_), .val (.int ii)]) rfl k))))))))) ?_
   show oF p e below (T19.setTop (mkF m 27 #[.val (.ref t), .val (.int (so + (1 : Int32))), .val (.ref t2), .val (.int (do_ + (1 : Int32))), .val (.int n_), .val (.int ii)] [(.int so), (.ref t), (.int do_), (.ref t2)])) _
   obtain ⟨cl21, A21, q21, S21, M21, H21, G21⟩ := id V_t
   have hin21 : ¬ (so < 0 ∨ cl21.slots.size ≤ (so).toNatClampNeg) := inb_of S21 (o_inj hso (by omega))
   have hat21 : cl21.slots[(so).toNatClampNeg]? = some (.int (o_by q)) := Has.at H21 hin21 (o_bat hdn hso)
   refine oG (fun _ k => X19.baloadBytes hx (j := so) (v := (.int (o_by q))) (o_eqE e19 A21.1) (State.isArrayOf_alike hZ.alike A21.2.1) A21.2.2 hin21 hat21 (g := (mkF m 27 #[.val (.ref t), .val (.int (so + (1 : Int32))), .val (.ref t2), .val (.int (do_ + (1 : Int32))), .val (.int n_), .val (.int ii)] [(.int so), (.ref t), (.int do_), (.ref t2)])) rfl rfl (B d47_27) _ k) ?_
   show oF p e below (T19.setTop (mkF m 28 #[.val (.ref t), .val (.int (so + (1 : Int32))), .val (.ref t2), .val (.int (do_ + (1 : Int32))), .val (.int n_), .val (.int ii)] [(.int (o_by q)), (.int do_), (.ref t2)])) _
   refine oG (fun _ k => XS.sipush X19.here hx rfl (B d47_28) (XS.iand X19.here hx rfl (B d47_31) rfl k)) ?_
   show oF p e below (T19.setTop (mkF m 32 #[.val (.ref t), .val (.int (so + (1 : Int32))), .val (.ref t2), .val (.int (do_ + (1 : Int32))), .val (.int n_), .val (.int ii)] [(.int ((o_by q) &&& (255 : Int32))), (.int do_), (.ref t2)])) _
   rw [o_bb hqr.1 hql]
   show oF p e below (T19.setTop (mkF m 32 #[.val (.ref t), .val (.int (so + (1 : Int32))), .val (.ref t2), .val (.int (do_ + (1 : Int32))), .val (.int n_), .val (.int ii)] [(.int q), (.int do_), (.ref t2)])) _
   obtain ⟨_, _, ⟨T22, L22, k22, n22⟩, -, X22, ⟨Lc22, hQ22, l22, y22, z22⟩, st22⟩ := Jvm.LawKit.callS X19 hx (y := mN1) hown (mo hZ hw 218) (mo hZ hw 219) (mo hZ hw 190) (mo hZ hw 220) (by decide) (backOf (W := 0) (pt l Z a0 hw [] t2 do_ q k2 M (vs ++ o_u16 dn) h19 n0 O j8_ j9_ j10_ V_t2 g_t2 hdo (by rw [o_ul]; omega) h16) hZ (ow hw 220) (ow hw 190) (by decide) (by decide)) (g := (mkF m 32 #[.val (.ref t), .val (.int (so + (1 : Int32))), .val (.ref t2), .val (.int (do_ + (1 : Int32))), .val (.int n_), .val (.int ii)] [(.int q), (.int do_), (.ref t2)])) rfl (by rw [hml]; rfl) (argsL := [(.ref t2), (.int do_), (.int q)]) (rest := []) (lenOf pd_4 rfl) rfl (by show 2 * 0 + _ ≤ _; exact Nat.le_of_eq rfl) (B d47_32) (fun _ _ => ⟨rfl, e19, (by decide : 0 + 0 ≤ _), (by decide : 0 + 0 ≤ _)⟩)
   dsimp only [Pt.U, Pt.locs, Pt.cells, Pt.slots] at X22 l22 y22 z22 st22 hQ22
   subst y22 z22
   obtain ⟨rfl, N22q, Kq22, P22_0⟩ := hQ22
   refine oG st22 ?_
   have N22 := oL l22 (Fr.app N19 N22q)
   have V_t := V_t.keep Kq22 (ninS ntt nin0)
   clear V_t2
   have O := O.keep Kq22 (allS g_t2 all0)
   have K23 := K19.trans Kq22 (allS (Or.inl (List.mem_of_getElem? (i := 0) rfl)) all0)
   have V_t2 := P22_0
   show oF p e below (T22.setTop (mkF m 35 #[.val (.ref t), .val (.int (so + (1 : Int32))), .val (.ref t2), .val (.int (do_ + (1 : Int32))), .val (.int n_), .val (.int ii)] [])) _
   refine oG (fun _ k => XS.iinc X22.here hx rfl (B d47_35) rfl (l' := #[.val (.ref t), .val (.int (so + (1 : Int32))), .val (.ref t2), .val (.int (do_ + (1 : Int32))), .val (.int n_), .val (.int (ii + (1 : Int32)))]) rfl (XS.goto X22.here hx rfl (pc0 := 38) (pc' := 10) rfl (B d47_38) (by decide) (by decide) k)) ?_
   show oF p e below (T22.setTop (mkF m 10 #[.val (.ref t), .val (.int (so + (1 : Int32))), .val (.ref t2), .val (.int (do_ + (1 : Int32))), .val (.int n_), .val (.int (ii + (1 : Int32)))] [])) _
   exact ih _ _ _ (dn ++ [q]) _ _ _ X22 rfl N22 O K23 V_t (by rw [o_u16s]; exact V_t2) (by rw [hdn, List.append_assoc] <;> rfl) (by rw [o_p1 (by omega) (by omega), hii, List.length_append] <;> rfl) (by rw [o_p1 (by omega) (by omega), hso, List.length_append] <;> rfl) (by rw [o_p1 (by omega) (by omega), o_ul, List.length_append]; have := hdo; rw [o_ul] at this; simp only [List.length_cons, List.length_nil]; omega)
 exact lp cs _ _ _ ([] : List Int32) _ _ _ X18 e18 N18 O K0 V_t (by show Arv _ _ _ _ _ _ (vs ++ []) _; rw [List.append_nil]; exact V_t2) rfl rfl rfl (by rw [o_ul, hd_]; simp)
theorem d46_0 : decode k6_ 0 = .ok (.aload_n 0, 1) := by decide +kernel
theorem d46_1 : decode k6_ 1 = .ok (.iload_n 1, 1) := by decide +kernel
theorem d46_2 : decode k6_ 2 = .ok (.aload_n 2, 1) := by decide +kernel
theorem d46_3 : decode k6_ 3 = .ok (.iload_n 3, 1) := by decide +kernel
theorem d46_4 : decode k6_ 4 = .ok (.iload 4, 2) := by decide +kernel
theorem d46_6 : decode k6_ 6 = .ok (.invokestatic 240, 3) := by decide +kernel
theorem pd_5 : parseMethodDescriptor "([BI[BII)V" = some ⟨[(.array .byte), .int, (.array .byte), .int, .int], none⟩ := by decide +kernel
theorem d46_9 : decode k6_ 9 = .ok (.return_, 1) := by decide +kernel
theorem pn_3 : plainName "java/lang/StringLatin1" = true := by first | (simp [plainName, overriddenIn]; done) | decide +kernel
theorem ef_lin (m : MethodId) (x0 : Addr) (x1 : Int32) (x2 : Addr) (x3 : Int32) (x4 : Int32) : entryFrame m #[(.ref x0), (.int x1), (.ref x2), (.int x3), (.int x4)] 5 = mkF m 0 #[.val (.ref x0), .val (.int x1), .val (.ref x2), .val (.int x3), .val (.int x4)] [] := by first | (simp [entryFrame, mkF, argsToLocals, Value.category]; done) | rfl
def Qlin (Z : State) (t2 : Addr) (cs : List Int32) (k2 : ClassId) (M : Int32) (vs : List Value) (h0 : Heap) (n0 : Nat) (v : Option Value) (h : Heap) (L : List Loc) : Prop := v = none ∧ Fr n0 L ∧ Keep h0 h [t2] ∧ Arv Z h t2 k2 .byte M (vs ++ o_u16 cs) (.int 0)
theorem lin (l : Launch) (Z : State) (a0 : Array Value) (hw : ∀ d ∈ tables_1, d.before a0 Z = true) (ws : List Jvm.Cond) (t : Addr) (t2 : Addr) (d_ : Int32) (n_ : Int32) (kt : ClassId) (N : Int32) (cs : List Int32) (k2 : ClassId) (M : Int32) (vs : List Value) (fm : Value) (h0 : Heap) (n0 : Nat) (O : Old Z n0 h0) (j8_ : sT0 Z (.int 1)) (j9_ : sT1 Z (.int 0)) (j10_ : sT2 Z (.int 8)) (j13_ : sT3 Z fm) (hfm : fm.isRef = true) (V_t : Arv Z h0 t kt .byte N (o_u8 cs) (.int 0)) (V_t2 : Arv Z h0 t2 k2 .byte M vs (.int 0)) (g_t2 : n0 ≤ t2) (ntt : t ≠ t2) (hrg : o_rng cs) (hl : o_lat cs) (hN : (cs.length : Int) ≤ N.toInt) (hn_ : n_.toInt = (cs.length : Int)) (hd_ : (vs.length : Int) = 2 * d_.toInt) (hM : (vs.length : Int) + 2 * (cs.length : Int) ≤ M.toInt) (h16 : M.toInt ≤ 900) :
   o_MF l Z mN6 jdk_43_method_50_code 5 none ws rM4 #[(.ref t), (.int 0), (.ref t2), (.int d_), (.int n_)] h0 (Qlin Z t2 cs k2 M vs h0 n0) := by
 refine MetFree.of_bodySF (plainFor_of_name pn_3) hisR ?_
 intro p e s m args below meth c s₁ Bd hml0 hP hK
 obtain ⟨rfl, hZ, hh⟩ := hP
 have hx := Bd.exec
 have hby := Bd.bytes
 have B := @hb _ _ hby
 have hml : c.maxLocals = 5 := hml0
 have hown : s.vm.findClass "java/lang/StringLatin1" = some m.cls := findClass_of_methodNamed Bd.named
 have X0 : Stand p l e rM4 s m #[(.ref t), (.int 0), (.ref t2), (.int d_), (.int n_)] below meth c s₁ [] 0 0 := Stand.of_body Bd
 have e0 : s₁.heap = h0 := by rw [← hh, Bd.state]; rfl
 have N0 := Fr.nil n0
 have K0 := Keep.refl h0 [t2]
 refine o_start (ef_lin m t (0 : Int32) t2 d_ n_) (Q := o_QE s rM4 (Qlin Z t2 cs k2 M vs h0 n0)) ?_
 show oF p e below (s₁.setTop (mkF m 0 #[.val (.ref t), .val (.int 0), .val (.ref t2), .val (.int d_), .val (.int n_)] [])) _
 refine oG (fun _ k => XS.aloadN X0.here hx rfl (B d46_0) rfl rfl (XS.iloadN X0.here hx rfl (B d46_1) rfl (XS.aloadN X0.here hx rfl (B d46_2) rfl rfl (XS.iloadN X0.here hx rfl (B d46_3) rfl (XS.iload X0.here hx rfl (B d46_4) rfl k))))) ?_
 show oF p e below (s₁.setTop (mkF m 6 #[.val (.ref t), .val (.int 0), .val (.ref t2), .val (.int d_), .val (.int n_)] [(.int n_), (.int d_), (.ref t2), (.int 0), (.ref t)])) _
 obtain ⟨_, _, ⟨T24, L24, k24, n24⟩, -, X24, ⟨Lc24, hQ24, l24, y24, z24⟩, st24⟩ := Jvm.LawKit.callS X0 hx (y := mN5) hown (mo hZ hw 236) (mo hZ hw 237) (mo hZ hw 190) (mo hZ hw 238) (by decide) (backOf (W := 0) (inf l Z a0 hw [] t t2 d_ n_ kt N cs k2 M vs fm h0 n0 O j8_ j9_ j10_ j13_ hfm V_t V_t2 g_t2 ntt hrg hl hN hn_ hd_ hM h16) hZ (ow hw 238) (ow hw 190) (by decide) (by decide)) (g := (mkF m 6 #[.val (.ref t), .val (.int 0), .val (.ref t2), .val (.int d_), .val (.int n_)] [(.int n_), (.int d_), (.ref t2), (.int 0), (.ref t)])) rfl (by rw [hml]; rfl) (argsL := [(.ref t), (.int 0), (.ref t2), (.int d_), (.int n_)]) (rest := []) (lenOf pd_5 rfl) rfl (by show 2 * 0 + _ ≤ _; exact Nat.le_of_eq rfl) (B d46_6) (fun _ _ => ⟨rfl, e0, (by decide : 0 + 0 ≤ _), (by decide : 0 + 0 ≤ _)⟩)
 dsimp only [Pt.U, Pt.locs, Pt.cells, Pt.slots] at X24 l24 y24 z24 st24 hQ24
 subst y24 z24
 obtain ⟨rfl, N24q, Kq24, P24_0⟩ := hQ24
 refine oG st24 ?_
 have N24 := oL l24 (Fr.app N0 N24q)
 have V_t := V_t.keep Kq24 (ninS ntt nin0)
 clear V_t2
 have O := O.keep Kq24 (allS g_t2 all0)
 have K25 := K0.trans Kq24 (allS (Or.inl (List.mem_of_getElem? (i := 0) rfl)) all0)
 have V_t2 := P24_0
 show oF p e below (T24.setTop (mkF m 9 #[.val (.ref t), .val (.int 0), .val (.ref t2), .val (.int d_), .val (.int n_)] [])) _
 obtain ⟨fs, hr, r1, r2, hW, r3⟩ := X24.leave (v := none) (fun _ => rfl)
 refine ⟨_, _, ?_, r1, r2, _, _, rfl, ?_, ⟨_, rfl⟩, hW, r3.mono (by decide) (by decide)⟩
 ·exact X24.returnOut hx Bd.returns (B d46_9) hr
 ·show Qlin Z t2 cs k2 M vs h0 n0 _ T24.heap _
  exact ⟨rfl, N24, K25, V_t2⟩
def o_SB (Z : State) (h : Heap) (b t : Addr) (kt : ClassId) (N : Int32) (cs : List Int32) : Prop :=
 fL0 Z h b (.ref t) ∧ fL1 Z h b (.int 0) ∧ o_rng cs ∧
 ((fL2 Z h b (.int 0) ∧ Arv Z h t kt .byte N (o_u8 cs) (.int 0) ∧ o_lat cs) ∨
  (fL2 Z h b (.int 1) ∧ Arv Z h t kt .byte (N <<< ((1 : Int32) &&& 31)) (o_u16 cs) (.int 0) ∧ o_bg cs))
theorem o_SB_ext {Z : State} {h h' : Heap} {b t : Addr} {kt : ClassId} {N : Int32} {cs : List Int32} (F : o_SB Z h b t kt N cs) (E : Ext h h') : o_SB Z h' b t kt N cs := by
 obtain ⟨a1, a3, a4, a5⟩ := F
 refine ⟨a1.ext E, a3.ext E, a4, ?_⟩
 rcases a5 with ⟨q, V, r⟩ | ⟨q, V, r⟩
 · exact Or.inl ⟨q.ext E, V.ext E, r⟩
 · exact Or.inr ⟨q.ext E, V.ext E, r⟩
theorem o_SB_wr {Z : State} {h h' : Heap} {b t a : Addr} {kt : ClassId} {N : Int32} {cs : List Int32} {sl : Nat} {v : Value} (F : o_SB Z h b t kt N cs) (W : Wr h h' a sl v) (n1 : b ≠ a) (n2 : t ≠ a) : o_SB Z h' b t kt N cs := by
 obtain ⟨a1, a3, a4, a5⟩ := F
 refine ⟨a1.other W (Or.inl n1), a3.other W (Or.inl n1), a4, ?_⟩
 rcases a5 with ⟨q, V, r⟩ | ⟨q, V, r⟩
 · exact Or.inl ⟨q.other W (Or.inl n1), V.other W n2, r⟩
 · exact Or.inr ⟨q.other W (Or.inl n1), V.other W n2, r⟩
theorem o_SB_keep {Z : State} {h h' : Heap} {b t : Addr} {kt : ClassId} {N : Int32} {cs : List Int32} {ws : List Addr} (F : o_SB Z h b t kt N cs) (K : Keep h h' ws) (n1 : b ∉ ws) (n2 : t ∉ ws) : o_SB Z h' b t kt N cs := by
 obtain ⟨a1, a3, a4, a5⟩ := F
 refine ⟨a1.keep K n1, a3.keep K n1, a4, ?_⟩
 rcases a5 with ⟨q, V, r⟩ | ⟨q, V, r⟩
 · exact Or.inl ⟨q.keep K n1, V.keep K n2, r⟩
 · exact Or.inr ⟨q.keep K n1, V.keep K n2, r⟩
def o_ST (Z : State) (h : Heap) (s_ t : Addr) (kt : ClassId) (cs : List Int32) : Prop :=
 fL3 Z h s_ (.ref t) ∧ o_rng cs ∧
 ((fL4 Z h s_ (.int 0) ∧ Arv Z h t kt .byte (Int32.ofNat cs.length) (o_u8 cs) (.int 0) ∧ o_lat cs) ∨
  (fL4 Z h s_ (.int 1) ∧ Arv Z h t kt .byte ((Int32.ofNat cs.length) <<< ((1 : Int32) &&& 31)) (o_u16 cs) (.int 0) ∧ o_bg cs))
theorem o_ST_ext {Z : State} {h h' : Heap} {b t : Addr} {kt : ClassId} {cs : List Int32} (F : o_ST Z h b t kt cs) (E : Ext h h') : o_ST Z h' b t kt cs := by
 obtain ⟨a1, a4, a5⟩ := F
 refine ⟨a1.ext E, a4, ?_⟩
 rcases a5 with ⟨q, V, r⟩ | ⟨q, V, r⟩
 · exact Or.inl ⟨q.ext E, V.ext E, r⟩
 · exact Or.inr ⟨q.ext E, V.ext E, r⟩
theorem o_ST_wr {Z : State} {h h' : Heap} {b t a : Addr} {kt : ClassId} {cs : List Int32} {sl : Nat} {v : Value} (F : o_ST Z h b t kt cs) (W : Wr h h' a sl v) (n1 : b ≠ a) (n2 : t ≠ a) : o_ST Z h' b t kt cs := by
 obtain ⟨a1, a4, a5⟩ := F
 refine ⟨a1.other W (Or.inl n1), a4, ?_⟩
 rcases a5 with ⟨q, V, r⟩ | ⟨q, V, r⟩
 · exact Or.inl ⟨q.other W (Or.inl n1), V.other W n2, r⟩
 · exact Or.inr ⟨q.other W (Or.inl n1), V.other W n2, r⟩
theorem o_ST_keep {Z : State} {h h' : Heap} {b t : Addr} {kt : ClassId} {cs : List Int32} {ws : List Addr} (F : o_ST Z h b t kt cs) (K : Keep h h' ws) (n1 : b ∉ ws) (n2 : t ∉ ws) : o_ST Z h' b t kt cs := by
 obtain ⟨a1, a4, a5⟩ := F
 refine ⟨a1.keep K n1, a4, ?_⟩
 rcases a5 with ⟨q, V, r⟩ | ⟨q, V, r⟩
 · exact Or.inl ⟨q.keep K n1, V.keep K n2, r⟩
 · exact Or.inr ⟨q.keep K n1, V.keep K n2, r⟩
theorem o_sh0 (N : Int32) : N >>> ((0 : Int32) &&& 31) = N := by
 have h := c_ishr N 0 0 (by decide)
 rw [← Int32.toInt_inj, h]; simp
theorem o_sl0 (N : Int32) : N <<< ((0 : Int32) &&& 31) = N := by
 have e : (0 : Int32) &&& 31 = 0 := by decide
 rw [e]; exact Int32.shiftLeft_zero
theorem o_zi {n : Nat} (h4 : n ≤ 100) : ((Int32.ofNat n) <<< ((1 : Int32) &&& 31)).toInt = 2 * (n : Int) := by
 have a := o_oi (n := n) (by omega)
 have b := o_x2i (N := Int32.ofNat n) (by omega) (by omega)
 omega
theorem o_zc {n : Nat} (h4 : n ≤ 100) : ((Int32.ofNat n) <<< ((1 : Int32) &&& 31)).toNatClampNeg = 2 * n := by
 have a := o_zi h4
 have b := o_cn (N := (Int32.ofNat n) <<< ((1 : Int32) &&& 31)) (by omega)
 omega
theorem o_sh1 {n : Nat} (h4 : n ≤ 100) : (((Int32.ofNat n) <<< ((1 : Int32) &&& 31)) >>> ((1 : Int32) &&& 31)) = Int32.ofNat n := by
 have a := o_zi h4
 have b := o_oi (n := n) (by omega)
 have c := o_hf (M := (Int32.ofNat n) <<< ((1 : Int32) &&& 31))
 rw [← Int32.toInt_inj]; omega
def o_mx (a b : Int32) : Int32 := if a < b then b else a
def o_mn (a b : Int32) : Int32 := if b < a then b else a
def o_gr (N N2 m : Int32) : Prop := (N = 16 ∧ N2 = 34 ∧ m = 17) ∨ (N = 34 ∧ N2 = 70 ∧ m = 35)
def o_cap (N N2 m : Int32) : Prop := (N2 = N ∧ 0 ≤ m.toInt ∧ m.toInt ≤ N.toInt ∧ N.toInt ≤ 100) ∨ o_gr N N2 m
theorem o_g00 {N N2 m : Int32} (h : o_gr N N2 m) : (0 : Int32) < (m - (N >>> ((0 : Int32) &&& 31))) := by rcases h with ⟨rfl, rfl, rfl⟩ | ⟨rfl, rfl, rfl⟩ <;> decide
theorem o_g01 {N N2 m : Int32} (h : o_gr N N2 m) : (0 : Int32) < (m - ((N <<< ((1 : Int32) &&& 31)) >>> ((1 : Int32) &&& 31))) := by rcases h with ⟨rfl, rfl, rfl⟩ | ⟨rfl, rfl, rfl⟩ <;> decide
theorem o_g10 {N N2 m : Int32} (h : o_gr N N2 m) : (0 : Int32) < (N + (o_mx ((m <<< ((0 : Int32) &&& 31)) - N) (N + (2 : Int32)))) ∧ ¬ ((2147483639 : Int32) < (N + (o_mx ((m <<< ((0 : Int32) &&& 31)) - N) (N + (2 : Int32))))) ∧ ¬ ((N + (o_mx ((m <<< ((0 : Int32) &&& 31)) - N) (N + (2 : Int32)))) = (2147483647 : Int32)) ∧ ((N + (o_mx ((m <<< ((0 : Int32) &&& 31)) - N) (N + (2 : Int32)))) >>> ((0 : Int32) &&& 31)) = N2 := by
 rcases h with ⟨rfl, rfl, rfl⟩ | ⟨rfl, rfl, rfl⟩ <;> decide
theorem o_g11 {N N2 m : Int32} (h : o_gr N N2 m) : (0 : Int32) < ((N <<< ((1 : Int32) &&& 31)) + (o_mx ((m <<< ((1 : Int32) &&& 31)) - (N <<< ((1 : Int32) &&& 31))) ((N <<< ((1 : Int32) &&& 31)) + (4 : Int32)))) ∧ ¬ ((2147483639 : Int32) < ((N <<< ((1 : Int32) &&& 31)) + (o_mx ((m <<< ((1 : Int32) &&& 31)) - (N <<< ((1 : Int32) &&& 31))) ((N <<< ((1 : Int32) &&& 31)) + (4 : Int32))))) ∧ ¬ (((N <<< ((1 : Int32) &&& 31)) + (o_mx ((m <<< ((1 : Int32) &&& 31)) - (N <<< ((1 : Int32) &&& 31))) ((N <<< ((1 : Int32) &&& 31)) + (4 : Int32)))) = (2147483647 : Int32)) ∧ (((N <<< ((1 : Int32) &&& 31)) + (o_mx ((m <<< ((1 : Int32) &&& 31)) - (N <<< ((1 : Int32) &&& 31))) ((N <<< ((1 : Int32) &&& 31)) + (4 : Int32)))) >>> ((1 : Int32) &&& 31)) = N2 := by
 rcases h with ⟨rfl, rfl, rfl⟩ | ⟨rfl, rfl, rfl⟩ <;> decide
theorem o_g2 {N N2 m : Int32} (h : o_gr N N2 m) : N.toInt < N2.toInt ∧ 16 ≤ N.toInt ∧ N2.toInt ≤ 70 := by rcases h with ⟨rfl, rfl, rfl⟩ | ⟨rfl, rfl, rfl⟩ <;> decide
theorem o_n00 {N m : Int32} (h0 : 0 ≤ m.toInt) (h : m.toInt ≤ N.toInt) : ¬ ((0 : Int32) < (m - (N >>> ((0 : Int32) &&& 31)))) := by
 rw [o_sh0]
 have h2 := c_isub m N
 have h3 := rng32 (m - N)
 have h4 := rng32 N
 have e : (0 : Int32).toInt = 0 := by decide
 rw [Int32.lt_iff_toInt_lt]
 omega
theorem o_n01 {N m : Int32} (h0 : 0 ≤ m.toInt) (h : m.toInt ≤ N.toInt) (h1 : N.toInt ≤ 100) : ¬ ((0 : Int32) < (m - ((N <<< ((1 : Int32) &&& 31)) >>> ((1 : Int32) &&& 31)))) := by
 have q := o_x2i (N := N) (by omega) (by omega)
 have hf := o_hf (M := N <<< ((1 : Int32) &&& 31))
 have h2 := c_isub m ((N <<< ((1 : Int32) &&& 31)) >>> ((1 : Int32) &&& 31))
 have h3 := rng32 (m - ((N <<< ((1 : Int32) &&& 31)) >>> ((1 : Int32) &&& 31)))
 have e : (0 : Int32).toInt = 0 := by decide
 rw [Int32.lt_iff_toInt_lt]
 omega
theorem o_usx (vs : List Value) (d : Value) (n : Nat) (h : vs.length ≤ n) : (vs ++ List.replicate (n - vs.length) d) = (List.range n).map fun i => vs.getD (0 + i) d := by
 apply List.ext_getElem
 · simp; omega
 · intro i h1 h2
   simp only [List.getElem_map, List.getElem_range, Nat.zero_add, List.getD_eq_getElem?_getD]
   by_cases hi : i < vs.length
   · rw [List.getElem_append_left hi, List.getElem?_eq_getElem hi]; rfl
   · rw [List.getElem_append_right (by omega), List.getElem?_eq_none (by omega), List.getElem_replicate]; rfl
theorem o_cpz (vs : List Value) (d : Value) (n k : Nat) : ∀ i, vs.getD i d = ((([] ++ List.replicate k d).take ((0 : Int32).toNatClampNeg)) ++ (vs ++ List.replicate (n - vs.length) d) ++ (([] ++ List.replicate k d).drop ((0 : Int32).toNatClampNeg + n))).getD i d := by
 intro i
 have e : (0 : Int32).toNatClampNeg = 0 := by decide
 rw [e, List.take_zero, List.nil_append, List.nil_append, List.drop_replicate, List.append_assoc, List.replicate_append_replicate]
 exact (pad_rep vs d _ i).symm
theorem o_usf (vs : List Value) (d : Value) (n : Nat) (h : vs.length = n) : vs = (List.range n).map fun i => vs.getD (0 + i) d := by
 have q := o_usx vs d n (by omega)
 rw [h, Nat.sub_self, List.replicate_zero, List.append_nil] at q; exact q
theorem o_cpl (vs us : List Value) (d : Value) (k D : Nat) (hD : D = vs.length) : ((vs ++ List.replicate k d).take D ++ us ++ (vs ++ List.replicate k d).drop (D + k)) = vs ++ us := by
 subst hD
 rw [List.take_left, List.drop_eq_nil_of_le (by rw [List.length_append, List.length_replicate]; exact Nat.le_refl _), List.append_nil]
theorem o_big {N : Int32} (h : N.toInt ≤ 100) : N < (1073741823 : Int32) := by
 rw [Int32.lt_iff_toInt_lt]; have e : (1073741823 : Int32).toInt = 1073741823 := by decide
 omega
theorem o_x2n {N : Int32} (h0 : 0 ≤ N.toInt) (h8 : N.toInt ≤ 100) : ¬ ((N <<< ((1 : Int32) &&& 31)) < 0) := o_nn (by have := o_x2i h0 (by omega); omega)
theorem o_x2c {N : Int32} (h0 : 0 ≤ N.toInt) (h8 : N.toInt ≤ 100) : (N <<< ((1 : Int32) &&& 31)).toNatClampNeg ≤ 200 := by
 have h := o_x2i h0 (by omega)
 have q := o_cn (N := N <<< ((1 : Int32) &&& 31)) (by omega)
 omega
theorem d42_0 : decode k7_ 0 = .ok (.iload_n 0, 1) := by decide +kernel
theorem d42_1 : decode k7_ 1 = .ok (.ifCond .ge 11, 3) := by decide +kernel
theorem d42_12 : decode k7_ 12 = .ok (.iload_n 0, 1) := by decide +kernel
theorem d42_13 : decode k7_ 13 = .ok (.ldc 20, 2) := by decide +kernel
theorem d42_15 : decode k7_ 15 = .ok (.if_icmp .lt 40, 3) := by decide +kernel
theorem d42_55 : decode k7_ 55 = .ok (.iload_n 0, 1) := by decide +kernel
theorem d42_56 : decode k7_ 56 = .ok (.iconst 1, 1) := by decide +kernel
theorem d42_57 : decode k7_ 57 = .ok (.ishl, 1) := by decide +kernel
theorem d42_58 : decode k7_ 58 = .ok (.ireturn, 1) := by decide +kernel
theorem ef_nbl (m : MethodId) (x0 : Int32) : entryFrame m #[(.int x0)] 1 = mkF m 0 #[.val (.int x0)] [] := by first | (simp [entryFrame, mkF, argsToLocals, Value.category]; done) | rfl
def Qnbl (Z : State) (N : Int32) (h0 : Heap) (n0 : Nat) (v : Option Value) (h : Heap) (L : List Loc) : Prop := v = some (.int (N <<< ((1 : Int32) &&& 31))) ∧ Fr n0 L ∧ h = h0
theorem nbl (l : Launch) (Z : State) (a0 : Array Value) (hw : ∀ d ∈ tables_1, d.before a0 Z = true) (ws : List Jvm.Cond) (N : Int32) (h0 : Heap) (n0 : Nat) (hq0 : ¬ (N < (0 : Int32))) (hq1 : N < (1073741823 : Int32)) :
   o_MF l Z mN7 jdk_52_method_3_code 1 (some .int) ws rM0 #[(.int N)] h0 (Qnbl Z N h0 n0) := by
 refine MetFree.of_bodySF (plainFor_of_name pn_0) hisR ?_
 intro p e s m args below meth c s₁ Bd hml0 hP hK
 obtain ⟨rfl, hZ, hh⟩ := hP
 have hx := Bd.exec
 have hby := Bd.bytes
 have B := @hb _ _ hby
 have hml : c.maxLocals = 1 := hml0
 have hown : s.vm.findClass "java/lang/StringUTF16" = some m.cls := findClass_of_methodNamed Bd.named
 have X0 : Stand p l e rM0 s m #[(.int N)] below meth c s₁ [] 0 0 := Stand.of_body Bd
 have e0 : s₁.heap = h0 := by rw [← hh, Bd.state]; rfl
 have N0 := Fr.nil n0
 refine o_start (ef_nbl m N) (Q := o_QE s rM0 (Qnbl Z N h0 n0)) ?_
 show oF p e below (s₁.setTop (mkF m 0 #[.val (.int N)] [])) _
 refine oG (fun _ k => XS.iloadN X0.here hx rfl (B d42_0) rfl (XS.ifYes X0.here hx rfl (pc0 := 1) (pc' := 12) rfl (B d42_1) rfl ((if0 _ _).trans (flt hq0).2.1) (by decide) (by decide) (XS.iloadN X0.here hx rfl (B d42_12) rfl k))) ?_
 show oF p e below (s₁.setTop (mkF m 13 #[.val (.int N)] [(.int N)])) _
 refine oG (fun _ k => X0.ldcInt hx hown (mo hZ hw 217) (g := (mkF m 13 #[.val (.int N)] [(.int N)])) rfl (B d42_13) _ k) ?_
 show oF p e below (s₁.setTop (mkF m 15 #[.val (.int N)] [(.int 1073741823), (.int N)])) _
 refine oG (fun _ k => XS.icmpYes X0.here hx rfl (pc0 := 15) (pc' := 55) rfl (B d42_15) rfl (tlt hq1).1 (by decide) (by decide) (XS.iloadN X0.here hx rfl (B d42_55) rfl (XS.iconst X0.here hx rfl (B d42_56) (XS.ishl X0.here hx rfl (B d42_57) rfl k)))) ?_
 show oF p e below (s₁.setTop (mkF m 58 #[.val (.int N)] [(.int (N <<< ((1 : Int32) &&& 31)))])) _
 obtain ⟨fs, hr, r1, r2, hW, r3⟩ := X0.leave (v := some (.int (N <<< ((1 : Int32) &&& 31)))) (fun h => by rw [Bd.returns] at h; cases h)
 refine ⟨_, _, ?_, r1, r2, _, _, rfl, ?_, ⟨_, rfl⟩, hW, r3.mono (by decide) (by decide)⟩
 ·exact o_retI X0 hx Bd.returns (B d42_58) hr
 ·show Qnbl Z N h0 n0 _ s₁.heap _
  rw [e0]
  exact ⟨rfl, N0, rfl⟩
theorem d41_0 : decode k8_ 0 = .ok (.iload_n 0, 1) := by decide +kernel
theorem d41_1 : decode k8_ 1 = .ok (.invokestatic 11, 3) := by decide +kernel
theorem pd_6 : parseMethodDescriptor "(I)I" = some ⟨[.int], some .int⟩ := by decide +kernel
theorem d41_4 : decode k8_ 4 = .ok (.newarray .byte, 2) := by decide +kernel
theorem d41_6 : decode k8_ 6 = .ok (.areturn, 1) := by decide +kernel
def Qnbf (Z : State) (N : Int32) (h0 : Heap) (n0 : Nat) (v : Option Value) (h : Heap) (L : List Loc) : Prop := ∃ (b_ : Addr) (k_ : ClassId), v = some (.ref b_) ∧ Fr n0 L ∧ Keep h0 h [] ∧ h0.size ≤ b_ ∧ Arv Z h b_ k_ .byte (N <<< ((1 : Int32) &&& 31)) [] (.int 0) ∧ eX0 Z h b_
theorem nbf (l : Launch) (Z : State) (a0 : Array Value) (hw : ∀ d ∈ tables_1, d.before a0 Z = true) (ws : List Jvm.Cond) (N : Int32) (h0 : Heap) (n0 : Nat) (O : Old Z n0 h0) (hN0 : 0 ≤ N.toInt) (hN1 : N.toInt ≤ 100) :
   o_MF l Z mN8 jdk_52_method_2_code 1 (some (.array .byte)) ws rM5 #[(.int N)] h0 (Qnbf Z N h0 n0) := by
 refine MetFree.of_bodySF (plainFor_of_name pn_0) hisR ?_
 intro p e s m args below meth c s₁ Bd hml0 hP hK
 obtain ⟨rfl, hZ, hh⟩ := hP
 have hx := Bd.exec
 have hby := Bd.bytes
 have B := @hb _ _ hby
 have hml : c.maxLocals = 1 := hml0
 have hown : s.vm.findClass "java/lang/StringUTF16" = some m.cls := findClass_of_methodNamed Bd.named
 have X0 : Stand p l e rM5 s m #[(.int N)] below meth c s₁ [] 0 0 := Stand.of_body Bd
 have e0 : s₁.heap = h0 := by rw [← hh, Bd.state]; rfl
 have N0 := Fr.nil n0
 have K0 := Keep.refl h0 []
 refine o_start (ef_nbl m N) (Q := o_QE s rM5 (Qnbf Z N h0 n0)) ?_
 show oF p e below (s₁.setTop (mkF m 0 #[.val (.int N)] [])) _
 refine oG (fun _ k => XS.iloadN X0.here hx rfl (B d41_0) rfl k) ?_
 show oF p e below (s₁.setTop (mkF m 1 #[.val (.int N)] [(.int N)])) _
 obtain ⟨_, _, ⟨T28, L28, k28, n28⟩, -, X28, ⟨Lc28, hQ28, l28, y28, z28⟩, st28⟩ := Jvm.LawKit.callS X0 hx (y := mN7) hown (mo hZ hw 214) (mo hZ hw 215) (mo hZ hw 190) (mo hZ hw 216) (by decide) (backOf (W := 0) (nbl l Z a0 hw [] N h0 n0 (o_nn hN0) (o_big hN1)) hZ (ow hw 216) (ow hw 190) (by decide) (by decide)) (g := (mkF m 1 #[.val (.int N)] [(.int N)])) rfl (by rw [hml]; rfl) (argsL := [(.int N)]) (rest := []) (lenOf pd_6 rfl) rfl (by show 2 * 0 + _ ≤ _; exact Nat.le_of_eq rfl) (B d41_1) (fun _ _ => ⟨rfl, e0, (by decide : 0 + 0 ≤ _), (by decide : 0 + 0 ≤ _)⟩)
 dsimp only [Pt.U, Pt.locs, Pt.cells, Pt.slots] at X28 l28 y28 z28 st28 hQ28
 subst y28 z28
 obtain ⟨rfl, N28q, e28⟩ := hQ28
 refine oG st28 ?_
 have N28 := oL l28 (Fr.app N0 N28q)
 obtain ⟨T29, h29, k29, X29, e29, E29, A29, B29, st29⟩ := newPE X28 hx hZ (ow hw 27) e28 (g := (mkF m 4 #[.val (.int N)] [(.int (N <<< ((1 : Int32) &&& 31)))])) rfl (B d41_4) rfl (o_x2n hN0 hN1) (cap := 200) (o_x2c hN0 hN1) (by decide) (by decide) (by decide) (ad := "[B") (by decide)
 obtain ⟨b29, g29⟩ : ∃ z, z = h0.size := ⟨_, rfl⟩
 rw [← g29] at A29 st29 B29
 refine oG st29 ?_
 have g_b29 : n0 ≤ b29 := Nat.le_trans (o_osz O) (Nat.le_of_eq g29.symm)
 have sz_b29 : h0.size ≤ b29 := Nat.le_trans K0.1 (Nat.le_of_eq g29.symm)
 have O := O.ext E29
 have K30 := K0.ext E29
 have E_b29 := B29
 have V_b29 : Arv Z h29 b29 k29 .byte (N <<< ((1 : Int32) &&& 31)) [] (.int 0) := Arv.new A29 (o_x2n hN0 hN1)
 show oF p e below (T29.setTop (mkF m 6 #[.val (.int N)] [(.ref b29)])) _
 obtain ⟨fs, hr, r1, r2, hW, r3⟩ := X29.leave (v := some (.ref b29)) (fun h => by rw [Bd.returns] at h; cases h)
 refine ⟨_, _, ?_, r1, r2, _, _, rfl, ?_, ⟨_, rfl⟩, hW, r3.mono (by decide) (by decide)⟩
 ·exact X29.areturnOut hx rfl Bd.returns rfl (B d41_6) hr
 ·show Qnbf Z N h0 n0 _ T29.heap _
  rw [e29]
  exact ⟨b29, k29, rfl, N28, K30, sz_b29, V_b29, E_b29⟩
theorem d25_0 : decode k9_ 0 = .ok (.getstatic 18, 3) := by decide +kernel
theorem d25_3 : decode k9_ 3 = .ok (.ifCond .eq 14, 3) := by decide +kernel
theorem d25_6 : decode k9_ 6 = .ok (.aload_n 0, 1) := by decide +kernel
theorem d25_7 : decode k9_ 7 = .ok (.getfield 22, 3) := by decide +kernel
theorem d25_10 : decode k9_ 10 = .ok (.ifCond .ne 7, 3) := by decide +kernel
theorem d25_13 : decode k9_ 13 = .ok (.iconst 1, 1) := by decide +kernel
theorem d25_14 : decode k9_ 14 = .ok (.goto 4, 3) := by decide +kernel
theorem d25_18 : decode k9_ 18 = .ok (.ireturn, 1) := by decide +kernel
theorem pn_4 : plainName "java/lang/AbstractStringBuilder" = true := by first | (simp [plainName, overriddenIn]; done) | decide +kernel
def Qil0 (Z : State)  (h0 : Heap) (n0 : Nat) (v : Option Value) (h : Heap) (L : List Loc) : Prop := v = some (.int 1) ∧ Fr n0 L ∧ h = h0
theorem il0 (l : Launch) (Z : State) (a0 : Array Value) (hw : ∀ d ∈ tables_1, d.before a0 Z = true) (ws : List Jvm.Cond) (b : Addr) (z : Int32) (h0 : Heap) (n0 : Nat) (O : Old Z n0 h0) (j6_ : sT4 Z (.int z)) (hz : ¬ (z = (0 : Int32))) (j1_ : fL2 Z h0 b (.int 0)) :
   o_MF l Z mN9 jdk_68_method_68_code 1 (some .boolean) ws rM0 #[(.ref b)] h0 (Qil0 Z  h0 n0) := by
 refine MetFree.of_bodySF (plainFor_of_name pn_4) hisR ?_
 intro p e s m args below meth c s₁ Bd hml0 hP hK
 obtain ⟨rfl, hZ, hh⟩ := hP
 have hx := Bd.exec
 have hby := Bd.bytes
 have B := @hb _ _ hby
 have hml : c.maxLocals = 1 := hml0
 have hown : s.vm.findClass "java/lang/AbstractStringBuilder" = some m.cls := findClass_of_methodNamed Bd.named
 have X0 : Stand p l e rM0 s m #[(.ref b)] below meth c s₁ [] 0 0 := Stand.of_body Bd
 have e0 : s₁.heap = h0 := by rw [← hh, Bd.state]; rfl
 have N0 := Fr.nil n0
 refine o_start (ef_ul m b) (Q := o_QE s rM0 (Qil0 Z  h0 n0)) ?_
 show oF p e below (s₁.setTop (mkF m 0 #[.val (.ref b)] [])) _
 obtain ⟨T32, X32, e32, st32⟩ := getS2 X0 hx hZ hown (host := "") (Or.inl (ow hw 60)) Via.refl e0 (j6_.ext O.2) (g := (mkF m 0 #[.val (.ref b)] [])) rfl (B d25_0)
 refine oG st32 ?_
 show oF p e below (T32.setTop (mkF m 3 #[.val (.ref b)] [(.int z)])) _
 refine oG (fun _ k => XS.ifNo X32.here hx rfl (B d25_3) rfl ((if0 _ _).trans (feq hz).1) (XS.aloadN X32.here hx rfl (B d25_6) rfl rfl k)) ?_
 show oF p e below (T32.setTop (mkF m 7 #[.val (.ref b)] [(.ref b)])) _
 obtain ⟨T33, X33, e33, st33⟩ := getF X32 hx hZ hown (host := "") (Or.inl (ow hw 63)) Via.refl e32 j1_ (g := (mkF m 7 #[.val (.ref b)] [(.ref b)])) rfl rfl (B d25_7)
 refine oG st33 ?_
 show oF p e below (T33.setTop (mkF m 10 #[.val (.ref b)] [(.int 0)])) _
 refine oG (fun _ k => XS.ifNo X33.here hx rfl (B d25_10) rfl ((if0 _ _).trans (teq (by decide : (0 : Int32) = (0 : Int32))).2) (XS.iconst X33.here hx rfl (B d25_13) (XS.goto X33.here hx rfl (pc0 := 14) (pc' := 18) rfl (B d25_14) (by decide) (by decide) k))) ?_
 show oF p e below (T33.setTop (mkF m 18 #[.val (.ref b)] [(.int 1)])) _
 obtain ⟨fs, hr, r1, r2, hW, r3⟩ := X33.leave (v := some (.int 1)) (fun h => by rw [Bd.returns] at h; cases h)
 refine ⟨_, _, ?_, r1, r2, _, _, rfl, ?_, ⟨_, rfl⟩, hW, r3.mono (by decide) (by decide)⟩
 ·exact retN X33 hx (t := .boolean) Bd.returns (by simp) (B d25_18) hr
 ·show Qil0 Z  h0 n0 _ T33.heap _
  rw [e33]
  exact ⟨rfl, N0, rfl⟩
theorem d13_0 : decode k10_ 0 = .ok (.getstatic 38, 3) := by decide +kernel
theorem d13_3 : decode k10_ 3 = .ok (.ifCond .eq 10, 3) := by decide +kernel
theorem d13_6 : decode k10_ 6 = .ok (.aload_n 0, 1) := by decide +kernel
theorem d13_7 : decode k10_ 7 = .ok (.getfield 15, 3) := by decide +kernel
theorem d13_10 : decode k10_ 10 = .ok (.goto 4, 3) := by decide +kernel
theorem d13_14 : decode k10_ 14 = .ok (.ireturn, 1) := by decide +kernel
def Qcd0 (Z : State)  (h0 : Heap) (n0 : Nat) (v : Option Value) (h : Heap) (L : List Loc) : Prop := v = some (.int 0) ∧ Fr n0 L ∧ h = h0
theorem cd0 (l : Launch) (Z : State) (a0 : Array Value) (hw : ∀ d ∈ tables_1, d.before a0 Z = true) (ws : List Jvm.Cond) (s_ : Addr) (z : Int32) (h0 : Heap) (n0 : Nat) (O : Old Z n0 h0) (j6_ : sT4 Z (.int z)) (hz : ¬ (z = (0 : Int32))) (j3_ : fL4 Z h0 s_ (.int 0)) :
   o_MF l Z mN10 jdk_42_method_152_code 1 (some .byte) ws rM0 #[(.ref s_)] h0 (Qcd0 Z  h0 n0) := by
 refine MetFree.of_bodySF (plainFor_of_name pn_2) hisR ?_
 intro p e s m args below meth c s₁ Bd hml0 hP hK
 obtain ⟨rfl, hZ, hh⟩ := hP
 have hx := Bd.exec
 have hby := Bd.bytes
 have B := @hb _ _ hby
 have hml : c.maxLocals = 1 := hml0
 have hown : s.vm.findClass "java/lang/String" = some m.cls := findClass_of_methodNamed Bd.named
 have X0 : Stand p l e rM0 s m #[(.ref s_)] below meth c s₁ [] 0 0 := Stand.of_body Bd
 have e0 : s₁.heap = h0 := by rw [← hh, Bd.state]; rfl
 have N0 := Fr.nil n0
 refine o_start (ef_ul m s_) (Q := o_QE s rM0 (Qcd0 Z  h0 n0)) ?_
 show oF p e below (s₁.setTop (mkF m 0 #[.val (.ref s_)] [])) _
 obtain ⟨T35, X35, e35, st35⟩ := getS2 X0 hx hZ hown (host := "") (Or.inl (ow hw 86)) Via.refl e0 (j6_.ext O.2) (g := (mkF m 0 #[.val (.ref s_)] [])) rfl (B d13_0)
 refine oG st35 ?_
 show oF p e below (T35.setTop (mkF m 3 #[.val (.ref s_)] [(.int z)])) _
 refine oG (fun _ k => XS.ifNo X35.here hx rfl (B d13_3) rfl ((if0 _ _).trans (feq hz).1) (XS.aloadN X35.here hx rfl (B d13_6) rfl rfl k)) ?_
 show oF p e below (T35.setTop (mkF m 7 #[.val (.ref s_)] [(.ref s_)])) _
 obtain ⟨T36, X36, e36, st36⟩ := getF X35 hx hZ hown (host := "") (Or.inl (ow hw 33)) Via.refl e35 j3_ (g := (mkF m 7 #[.val (.ref s_)] [(.ref s_)])) rfl rfl (B d13_7)
 refine oG st36 ?_
 show oF p e below (T36.setTop (mkF m 10 #[.val (.ref s_)] [(.int 0)])) _
 refine oG (fun _ k => XS.goto X36.here hx rfl (pc0 := 10) (pc' := 14) rfl (B d13_10) (by decide) (by decide) k) ?_
 show oF p e below (T36.setTop (mkF m 14 #[.val (.ref s_)] [(.int 0)])) _
 obtain ⟨fs, hr, r1, r2, hW, r3⟩ := X36.leave (v := some (.int 0)) (fun h => by rw [Bd.returns] at h; cases h)
 refine ⟨_, _, ?_, r1, r2, _, _, rfl, ?_, ⟨_, rfl⟩, hW, r3.mono (by decide) (by decide)⟩
 ·exact retN X36 hx (t := .byte) Bd.returns (by simp) (B d13_14) hr
 ·show Qcd0 Z  h0 n0 _ T36.heap _
  rw [e36]
  exact ⟨rfl, N0, rfl⟩
theorem d25_17 : decode k9_ 17 = .ok (.iconst 0, 1) := by decide +kernel
def Qil1 (Z : State)  (h0 : Heap) (n0 : Nat) (v : Option Value) (h : Heap) (L : List Loc) : Prop := v = some (.int 0) ∧ Fr n0 L ∧ h = h0
theorem il1 (l : Launch) (Z : State) (a0 : Array Value) (hw : ∀ d ∈ tables_1, d.before a0 Z = true) (ws : List Jvm.Cond) (b : Addr) (z : Int32) (h0 : Heap) (n0 : Nat) (O : Old Z n0 h0) (j6_ : sT4 Z (.int z)) (hz : ¬ (z = (0 : Int32))) (j1_ : fL2 Z h0 b (.int 1)) :
   o_MF l Z mN9 jdk_68_method_68_code 1 (some .boolean) ws rM0 #[(.ref b)] h0 (Qil1 Z  h0 n0) := by
 refine MetFree.of_bodySF (plainFor_of_name pn_4) hisR ?_
 intro p e s m args below meth c s₁ Bd hml0 hP hK
 obtain ⟨rfl, hZ, hh⟩ := hP
 have hx := Bd.exec
 have hby := Bd.bytes
 have B := @hb _ _ hby
 have hml : c.maxLocals = 1 := hml0
 have hown : s.vm.findClass "java/lang/AbstractStringBuilder" = some m.cls := findClass_of_methodNamed Bd.named
 have X0 : Stand p l e rM0 s m #[(.ref b)] below meth c s₁ [] 0 0 := Stand.of_body Bd
 have e0 : s₁.heap = h0 := by rw [← hh, Bd.state]; rfl
 have N0 := Fr.nil n0
 refine o_start (ef_ul m b) (Q := o_QE s rM0 (Qil1 Z  h0 n0)) ?_
 show oF p e below (s₁.setTop (mkF m 0 #[.val (.ref b)] [])) _
 obtain ⟨T38, X38, e38, st38⟩ := getS2 X0 hx hZ hown (host := "") (Or.inl (ow hw 60)) Via.refl e0 (j6_.ext O.2) (g := (mkF m 0 #[.val (.ref b)] [])) rfl (B d25_0)
 refine oG st38 ?_
 show oF p e below (T38.setTop (mkF m 3 #[.val (.ref b)] [(.int z)])) _
 refine oG (fun _ k => XS.ifNo X38.here hx rfl (B d25_3) rfl ((if0 _ _).trans (feq hz).1) (XS.aloadN X38.here hx rfl (B d25_6) rfl rfl k)) ?_
 show oF p e below (T38.setTop (mkF m 7 #[.val (.ref b)] [(.ref b)])) _
 obtain ⟨T39, X39, e39, st39⟩ := getF X38 hx hZ hown (host := "") (Or.inl (ow hw 63)) Via.refl e38 j1_ (g := (mkF m 7 #[.val (.ref b)] [(.ref b)])) rfl rfl (B d25_7)
 refine oG st39 ?_
 show oF p e below (T39.setTop (mkF m 10 #[.val (.ref b)] [(.int 1)])) _
 refine oG (fun _ k => XS.ifYes X39.here hx rfl (pc0 := 10) (pc' := 17) rfl (B d25_10) rfl ((if0 _ _).trans (feq (by decide : ¬ ((1 : Int32) = (0 : Int32)))).2) (by decide) (by decide) (XS.iconst X39.here hx rfl (B d25_17) k)) ?_
 show oF p e below (T39.setTop (mkF m 18 #[.val (.ref b)] [(.int 0)])) _
 obtain ⟨fs, hr, r1, r2, hW, r3⟩ := X39.leave (v := some (.int 0)) (fun h => by rw [Bd.returns] at h; cases h)
 refine ⟨_, _, ?_, r1, r2, _, _, rfl, ?_, ⟨_, rfl⟩, hW, r3.mono (by decide) (by decide)⟩
 ·exact retN X39 hx (t := .boolean) Bd.returns (by simp) (B d25_18) hr
 ·show Qil1 Z  h0 n0 _ T39.heap _
  rw [e39]
  exact ⟨rfl, N0, rfl⟩
def Qcd1 (Z : State)  (h0 : Heap) (n0 : Nat) (v : Option Value) (h : Heap) (L : List Loc) : Prop := v = some (.int 1) ∧ Fr n0 L ∧ h = h0
theorem cd1 (l : Launch) (Z : State) (a0 : Array Value) (hw : ∀ d ∈ tables_1, d.before a0 Z = true) (ws : List Jvm.Cond) (s_ : Addr) (z : Int32) (h0 : Heap) (n0 : Nat) (O : Old Z n0 h0) (j6_ : sT4 Z (.int z)) (hz : ¬ (z = (0 : Int32))) (j3_ : fL4 Z h0 s_ (.int 1)) :
   o_MF l Z mN10 jdk_42_method_152_code 1 (some .byte) ws rM0 #[(.ref s_)] h0 (Qcd1 Z  h0 n0) := by
 refine MetFree.of_bodySF (plainFor_of_name pn_2) hisR ?_
 intro p e s m args below meth c s₁ Bd hml0 hP hK
 obtain ⟨rfl, hZ, hh⟩ := hP
 have hx := Bd.exec
 have hby := Bd.bytes
 have B := @hb _ _ hby
 have hml : c.maxLocals = 1 := hml0
 have hown : s.vm.findClass "java/lang/String" = some m.cls := findClass_of_methodNamed Bd.named
 have X0 : Stand p l e rM0 s m #[(.ref s_)] below meth c s₁ [] 0 0 := Stand.of_body Bd
 have e0 : s₁.heap = h0 := by rw [← hh, Bd.state]; rfl
 have N0 := Fr.nil n0
 refine o_start (ef_ul m s_) (Q := o_QE s rM0 (Qcd1 Z  h0 n0)) ?_
 show oF p e below (s₁.setTop (mkF m 0 #[.val (.ref s_)] [])) _
 obtain ⟨T41, X41, e41, st41⟩ := getS2 X0 hx hZ hown (host := "") (Or.inl (ow hw 86)) Via.refl e0 (j6_.ext O.2) (g := (mkF m 0 #[.val (.ref s_)] [])) rfl (B d13_0)
 refine oG st41 ?_
 show oF p e below (T41.setTop (mkF m 3 #[.val (.ref s_)] [(.int z)])) _
 refine oG (fun _ k => XS.ifNo X41.here hx rfl (B d13_3) rfl ((if0 _ _).trans (feq hz).1) (XS.aloadN X41.here hx rfl (B d13_6) rfl rfl k)) ?_
 show oF p e below (T41.setTop (mkF m 7 #[.val (.ref s_)] [(.ref s_)])) _
 obtain ⟨T42, X42, e42, st42⟩ := getF X41 hx hZ hown (host := "") (Or.inl (ow hw 33)) Via.refl e41 j3_ (g := (mkF m 7 #[.val (.ref s_)] [(.ref s_)])) rfl rfl (B d13_7)
 refine oG st42 ?_
 show oF p e below (T42.setTop (mkF m 10 #[.val (.ref s_)] [(.int 1)])) _
 refine oG (fun _ k => XS.goto X42.here hx rfl (pc0 := 10) (pc' := 14) rfl (B d13_10) (by decide) (by decide) k) ?_
 show oF p e below (T42.setTop (mkF m 14 #[.val (.ref s_)] [(.int 1)])) _
 obtain ⟨fs, hr, r1, r2, hW, r3⟩ := X42.leave (v := some (.int 1)) (fun h => by rw [Bd.returns] at h; cases h)
 refine ⟨_, _, ?_, r1, r2, _, _, rfl, ?_, ⟨_, rfl⟩, hW, r3.mono (by decide) (by decide)⟩
 ·exact retN X42 hx (t := .byte) Bd.returns (by simp) (B d13_14) hr
 ·show Qcd1 Z  h0 n0 _ T42.heap _
  rw [e42]
  exact ⟨rfl, N0, rfl⟩
theorem d45_0 : decode k11_ 0 = .ok (.aload_n 0, 1) := by decide +kernel
theorem d45_1 : decode k11_ 1 = .ok (.invokevirtual 83, 3) := by decide +kernel
theorem pd_7 : parseMethodDescriptor "()Z" = some ⟨[], some .boolean⟩ := by decide +kernel
theorem d45_4 : decode k11_ 4 = .ok (.ifCond .ne 4, 3) := by decide +kernel
theorem d45_8 : decode k11_ 8 = .ok (.aload_n 0, 1) := by decide +kernel
theorem d45_9 : decode k11_ 9 = .ok (.getfield 15, 3) := by decide +kernel
theorem d45_12 : decode k11_ 12 = .ok (.arraylength, 1) := by decide +kernel
theorem d45_13 : decode k11_ 13 = .ok (.invokestatic 26, 3) := by decide +kernel
theorem pd_8 : parseMethodDescriptor "(I)[B" = some ⟨[.int], some (.array .byte)⟩ := by decide +kernel
theorem d45_16 : decode k11_ 16 = .ok (.astore_n 1, 1) := by decide +kernel
theorem d45_17 : decode k11_ 17 = .ok (.aload_n 0, 1) := by decide +kernel
theorem d45_18 : decode k11_ 18 = .ok (.getfield 15, 3) := by decide +kernel
theorem d45_21 : decode k11_ 21 = .ok (.iconst 0, 1) := by decide +kernel
theorem d45_22 : decode k11_ 22 = .ok (.aload_n 1, 1) := by decide +kernel
theorem d45_23 : decode k11_ 23 = .ok (.iconst 0, 1) := by decide +kernel
theorem d45_24 : decode k11_ 24 = .ok (.aload_n 0, 1) := by decide +kernel
theorem d45_25 : decode k11_ 25 = .ok (.getfield 79, 3) := by decide +kernel
theorem d45_28 : decode k11_ 28 = .ok (.invokestatic 125, 3) := by decide +kernel
theorem d45_31 : decode k11_ 31 = .ok (.aload_n 0, 1) := by decide +kernel
theorem d45_32 : decode k11_ 32 = .ok (.aload_n 1, 1) := by decide +kernel
theorem d45_33 : decode k11_ 33 = .ok (.putfield 15, 3) := by decide +kernel
theorem d45_36 : decode k11_ 36 = .ok (.aload_n 0, 1) := by decide +kernel
theorem d45_37 : decode k11_ 37 = .ok (.iconst 1, 1) := by decide +kernel
theorem d45_38 : decode k11_ 38 = .ok (.putfield 22, 3) := by decide +kernel
theorem d45_41 : decode k11_ 41 = .ok (.return_, 1) := by decide +kernel
theorem ef_ifl (m : MethodId) (x0 : Addr) : entryFrame m #[(.ref x0)] 2 = mkF m 0 #[.val (.ref x0), .unset] [] := by first | (simp [entryFrame, mkF, argsToLocals, Value.category]; done) | rfl
def Qifl (Z : State) (b : Addr) (N : Int32) (cn : Int32) (cs : List Int32) (h0 : Heap) (n0 : Nat) (v : Option Value) (h : Heap) (L : List Loc) : Prop := ∃ (t2_ : Addr) (k2_ : ClassId), v = none ∧ Fr n0 L ∧ Keep h0 h [b] ∧ h0.size ≤ t2_ ∧ eX1 Z h b ∧ fL0 Z h b (.ref t2_) ∧ fL2 Z h b (.int 1) ∧ fL5 Z h b (.int cn) ∧ fL1 Z h b (.int 0) ∧ Arv Z h t2_ k2_ .byte (N <<< ((1 : Int32) &&& 31)) (o_u16 cs) (.int 0) ∧ eX0 Z h t2_
theorem ifl (l : Launch) (Z : State) (a0 : Array Value) (hw : ∀ d ∈ tables_1, d.before a0 Z = true) (ws : List Jvm.Cond) (b : Addr) (z : Int32) (t : Addr) (kt : ClassId) (N : Int32) (cn : Int32) (cs : List Int32) (fm : Value) (h0 : Heap) (n0 : Nat) (O : Old Z n0 h0) (j6_ : sT4 Z (.int z)) (hz : ¬ (z = (0 : Int32))) (j8_ : sT0 Z (.int 1)) (j9_ : sT1 Z (.int 0)) (j10_ : sT2 Z (.int 8)) (j13_ : sT3 Z fm) (hfm : fm.isRef = true) (E_b : eX1 Z h0 b) (j2_ : fL0 Z h0 b (.ref t)) (j1_ : fL2 Z h0 b (.int 0)) (j0_ : fL5 Z h0 b (.int cn)) (j4_ : fL1 Z h0 b (.int 0)) (V_t : Arv Z h0 t kt .byte N (o_u8 cs) (.int 0)) (E_t : eX0 Z h0 t) (g_b : n0 ≤ b) (g_t : n0 ≤ t) (nbt : b ≠ t) (hrg : o_rng cs) (hla : o_lat cs) (hcn : cn.toInt = (cs.length : Int)) (hle : (cs.length : Int) ≤ N.toInt) (hN1 : N.toInt ≤ 100) :
   o_MF l Z mN11 jdk_68_method_11_code 2 none ws rM6 #[(.ref b)] h0 (Qifl Z b N cn cs h0 n0) := by
 refine MetFree.of_bodySF (plainFor_of_name pn_4) hisR ?_
 intro p e s m args below meth c s₁ Bd hml0 hP hK
 obtain ⟨rfl, hZ, hh⟩ := hP
 have hx := Bd.exec
 have hby := Bd.bytes
 have B := @hb _ _ hby
 have hml : c.maxLocals = 2 := hml0
 have hown : s.vm.findClass "java/lang/AbstractStringBuilder" = some m.cls := findClass_of_methodNamed Bd.named
 have X0 : Stand p l e rM6 s m #[(.ref b)] below meth c s₁ [] 0 0 := Stand.of_body Bd
 have e0 : s₁.heap = h0 := by rw [← hh, Bd.state]; rfl
 have N0 := Fr.nil n0
 have K0 := Keep.refl h0 [b]
 refine o_start (ef_ifl m b) (Q := o_QE s rM6 (Qifl Z b N cn cs h0 n0)) ?_
 show oF p e below (s₁.setTop (mkF m 0 #[.val (.ref b), .unset] [])) _
 refine oG (fun _ k => XS.aloadN X0.here hx rfl (B d45_0) rfl rfl k) ?_
 show oF p e below (s₁.setTop (mkF m 1 #[.val (.ref b), .unset] [(.ref b)])) _
 obtain ⟨cq44, kq44, q44a, q44b, q44c⟩ := isOf hZ e0 E_b
 obtain ⟨_, _, ⟨T44, L44, k44, n44⟩, -, X44, ⟨Lc44, hQ44, l44, y44, z44⟩, st44⟩ := X0.virtualBack hx (y := mN9) (z := mN9) hown (mo hZ hw 147) (mo hZ hw 148) (notFace_of_selects (args := #[]) (mo hZ hw 150)) (mo hZ hw 150) (mo hZ hw 149) (by decide) (backOf (W := 0) (il0 l Z a0 hw [] b z h0 n0 O j6_ hz j1_) hZ (ow hw 151) (ow hw 57) (by decide) (by decide)) q44a q44c (g := (mkF m 1 #[.val (.ref b), .unset] [(.ref b)])) rfl (by rw [hml]; rfl) (Steps.refl _) (argsL := []) (rest := []) (lenOf pd_7 rfl) rfl (by show 2 * 0 + _ ≤ _; exact Nat.le_of_eq rfl) (B d45_1) (fun _ _ => ⟨rfl, e0, (by decide : 0 + 0 ≤ _), (by decide : 0 + 0 ≤ _)⟩)
 dsimp only [Pt.U, Pt.locs, Pt.cells, Pt.slots] at X44 l44 y44 z44 st44 hQ44
 subst y44 z44
 obtain ⟨rfl, N44q, e44⟩ := hQ44
 refine oG (fun _ k => st44.trans k) ?_
 have N44 := oL l44 (Fr.app N0 N44q)
 show oF p e below (T44.setTop (mkF m 4 #[.val (.ref b), .unset] [(.int 1)])) _
 refine oG (fun _ k => XS.ifYes X44.here hx rfl (pc0 := 4) (pc' := 8) rfl (B d45_4) rfl ((if0 _ _).trans (feq (by decide : ¬ ((1 : Int32) = (0 : Int32)))).2) (by decide) (by decide) (XS.aloadN X44.here hx rfl (B d45_8) rfl rfl k)) ?_
 show oF p e below (T44.setTop (mkF m 9 #[.val (.ref b), .unset] [(.ref b)])) _
 obtain ⟨T45, X45, e45, st45⟩ := getF X44 hx hZ hown (host := "") (Or.inl (ow hw 61)) Via.refl e44 j2_ (g := (mkF m 9 #[.val (.ref b), .unset] [(.ref b)])) rfl rfl (B d45_9)
 refine oG st45 ?_
 show oF p e below (T45.setTop (mkF m 12 #[.val (.ref b), .unset] [(.ref t)])) _
 obtain ⟨cl46, A46, -, S46, M46, -, -⟩ := id V_t
 refine oG (fun _ k => X45.arraylength hx (o_eqE e45 A46.1) (State.isArrayOf_alike hZ.alike A46.2.1) (g := (mkF m 12 #[.val (.ref b), .unset] [(.ref t)])) rfl rfl (B d45_12) _ (by rw [len_of S46 M46]; exact k)) ?_
 show oF p e below (T45.setTop (mkF m 13 #[.val (.ref b), .unset] [(.int N)])) _
 obtain ⟨_, _, ⟨T47, L47, k47, n47⟩, -, X47, ⟨Lc47, hQ47, l47, y47, z47⟩, st47⟩ := Jvm.LawKit.callS X45 hx (y := mN8) hown (mo hZ hw 232) (mo hZ hw 212) (mo hZ hw 190) (mo hZ hw 213) (by decide) (backOf (W := 0) (nbf l Z a0 hw [] N h0 n0 O (by omega) hN1) hZ (ow hw 213) (ow hw 190) (by decide) (by decide)) (g := (mkF m 13 #[.val (.ref b), .unset] [(.int N)])) rfl (by rw [hml]; rfl) (argsL := [(.int N)]) (rest := []) (lenOf pd_8 rfl) rfl (by show 2 * 0 + _ ≤ _; exact Nat.le_of_eq rfl) (B d45_13) (fun _ _ => ⟨rfl, e45, (by decide : 0 + 1 ≤ _), (by decide : 0 + 200 ≤ _)⟩)
 dsimp only [Pt.U, Pt.locs, Pt.cells, Pt.slots] at X47 l47 y47 z47 st47 hQ47
 subst y47 z47
 obtain ⟨b_48, k_49, rfl, N47q, Kq47, P47_0, P47_1, P47_2⟩ := hQ47
 refine oG st47 ?_
 have N47 := oL l47 (Fr.app N44 N47q)
 have j71_ : b ≠ b_48 := Nat.ne_of_lt (Nat.lt_of_lt_of_le E_b.lt P47_0)
 have j145_ : t ≠ b_48 := Nat.ne_of_lt (Nat.lt_of_lt_of_le V_t.lt P47_0)
 have j146_ : n0 ≤ b_48 := Nat.le_trans (o_osz O) P47_0
 have j147_ : h0.size ≤ b_48 := Nat.le_trans K0.1 P47_0
 have E_b := E_b.keep Kq47
 have j2_ := j2_.keep Kq47 nin0
 have j1_ := j1_.keep Kq47 nin0
 have j0_ := j0_.keep Kq47 nin0
 have j4_ := j4_.keep Kq47 nin0
 have V_t := V_t.keep Kq47 nin0
 have E_t := E_t.keep Kq47
 have O := O.keep Kq47 all0
 have K50 := K0.trans Kq47 all0
 have j54_ := P47_1
 have j61_ := P47_2
 show oF p e below (T47.setTop (mkF m 16 #[.val (.ref b), .unset] [(.ref b_48)])) _
 refine oG (fun _ k => XS.astoreN X47.here hx rfl (B d45_16) rfl rfl (l' := #[.val (.ref b), .val (.ref b_48)]) rfl (XS.aloadN X47.here hx rfl (B d45_17) rfl rfl k)) ?_
 show oF p e below (T47.setTop (mkF m 18 #[.val (.ref b), .val (.ref b_48)] [(.ref b)])) _
 obtain ⟨T51, X51, e51, st51⟩ := getF X47 hx hZ hown (host := "") (Or.inl (ow hw 61)) Via.refl rfl j2_ (g := (mkF m 18 #[.val (.ref b), .val (.ref b_48)] [(.ref b)])) rfl rfl (B d45_18)
 refine oG st51 ?_
 show oF p e below (T51.setTop (mkF m 21 #[.val (.ref b), .val (.ref b_48)] [(.ref t)])) _
 refine oG (fun _ k => XS.iconst X51.here hx rfl (B d45_21) (XS.aloadN X51.here hx rfl (B d45_22) rfl rfl (XS.iconst X51.here hx rfl (B d45_23) (XS.aloadN X51.here hx rfl (B d45_24) rfl rfl k)))) ?_
 show oF p e below (T51.setTop (mkF m 25 #[.val (.ref b), .val (.ref b_48)] [(.ref b), (.int 0), (.ref b_48), (.int 0), (.ref t)])) _
 obtain ⟨T52, X52, e52, st52⟩ := getF X51 hx hZ hown (host := "") (Or.inl (ow hw 87)) Via.refl e51 j0_ (g := (mkF m 25 #[.val (.ref b), .val (.ref b_48)] [(.ref b), (.int 0), (.ref b_48), (.int 0), (.ref t)])) rfl rfl (B d45_25)
 refine oG st52 ?_
 obtain ⟨_, _, ⟨T53, L53, k53, n53⟩, -, X53, ⟨Lc53, hQ53, l53, y53, z53⟩, st53⟩ := Jvm.LawKit.callS X52 hx (y := mN6) hown (mo hZ hw 233) (mo hZ hw 234) (mo hZ hw 206) (mo hZ hw 235) (by decide) (backOf (W := 0) (lin l Z a0 hw [] t b_48 (0 : Int32) cn kt N cs k_49 (N <<< ((1 : Int32) &&& 31)) [] fm (T47.heap) n0 O j8_ j9_ j10_ j13_ hfm V_t j54_ j146_ j145_ hrg hla hle hcn (by rfl) (by rw [o_x2i (by omega) (by omega)]; simp only [List.length_nil]; omega) (by rw [o_x2i (by omega) (by omega)]; omega)) hZ (ow hw 235) (ow hw 206) (by decide) (by decide)) (g := (mkF m 28 #[.val (.ref b), .val (.ref b_48)] [(.int cn), (.int 0), (.ref b_48), (.int 0), (.ref t)])) rfl (by rw [hml]; rfl) (argsL := [(.ref t), (.int 0), (.ref b_48), (.int 0), (.int cn)]) (rest := []) (lenOf pd_5 rfl) rfl (by show 2 * 0 + _ ≤ _; exact Nat.le_of_eq rfl) (B d45_28) (fun _ _ => ⟨rfl, e52, (by decide : 1 + 0 ≤ _), (by decide : 200 + 0 ≤ _)⟩)
 dsimp only [Pt.U, Pt.locs, Pt.cells, Pt.slots] at X53 l53 y53 z53 st53 hQ53
 subst y53 z53
 obtain ⟨rfl, N53q, Kq53, P53_0⟩ := hQ53
 refine oG st53 ?_
 have N53 := oL l53 (Fr.app N47 N53q)
 have E_b := E_b.keep Kq53
 have j2_ := j2_.keep Kq53 (ninS j71_ nin0)
 have j1_ := j1_.keep Kq53 (ninS j71_ nin0)
 have j0_ := j0_.keep Kq53 (ninS j71_ nin0)
 have j4_ := j4_.keep Kq53 (ninS j71_ nin0)
 have V_t := V_t.keep Kq53 (ninS j145_ nin0)
 have E_t := E_t.keep Kq53
 clear j54_
 have j61_ := j61_.keep Kq53
 have O := O.keep Kq53 (allS j146_ all0)
 have K54 := K50.trans Kq53 (allS (Or.inr j147_) all0)
 have j54_ := P53_0
 show oF p e below (T53.setTop (mkF m 31 #[.val (.ref b), .val (.ref b_48)] [])) _
 refine oG (fun _ k => XS.aloadN X53.here hx rfl (B d45_31) rfl rfl (XS.aloadN X53.here hx rfl (B d45_32) rfl rfl k)) ?_
 show oF p e below (T53.setTop (mkF m 33 #[.val (.ref b), .val (.ref b_48)] [(.ref b_48), (.ref b)])) _
 obtain ⟨T55, h55, X55, e55, W55, st55⟩ := putF X53 hx hZ hown (host := "") (Or.inl (ow hw 61)) Via.refl rfl j2_ E_b (Or.inl (ow hw 62)) (ow hw 48) (ty := (.array .byte)) (by decide) rfl rfl (g := (mkF m 33 #[.val (.ref b), .val (.ref b_48)] [(.ref b_48), (.ref b)])) rfl rfl (B d45_33)
 refine oG st55 ?_
 have E_b := E_b.wr W55
 have j1_ := j1_.other W55 (Or.inr (slot_ne (Or.inl (ow hw 64)) (Or.inl (ow hw 62)) (by decide) (t := .byte) (t' := (.array .byte)) (by decide) (by decide)))
 have j0_ := j0_.other W55 (Or.inr (slot_ne (Or.inl (ow hw 88)) (Or.inl (ow hw 62)) (by decide) (t := .int) (t' := (.array .byte)) (by decide) (by decide)))
 have j4_ := j4_.other W55 (Or.inr (slot_ne (Or.inl (ow hw 267)) (Or.inl (ow hw 62)) (by decide) (t := .boolean) (t' := (.array .byte)) (by decide) (by decide)))
 have V_t := V_t.other W55 (Ne.symm nbt)
 have E_t := E_t.wr W55
 have j61_ := j61_.wr W55
 have j54_ := j54_.other W55 (Ne.symm j71_)
 have O := O.wr W55 g_b
 have K56 := K54.wr W55 (Or.inl (List.mem_of_getElem? (i := 0) rfl))
 have j2_ := j2_.same W55
 have N55 := Fr.snoc X55 N53 g_b
 show oF p e below (T55.setTop (mkF m 36 #[.val (.ref b), .val (.ref b_48)] [])) _
 refine oG (fun _ k => XS.aloadN X55.here hx rfl (B d45_36) rfl rfl (XS.iconst X55.here hx rfl (B d45_37) k)) ?_
 show oF p e below (T55.setTop (mkF m 38 #[.val (.ref b), .val (.ref b_48)] [(.int 1), (.ref b)])) _
 obtain ⟨T57, h57, X57, e57, W57, st57⟩ := putF X55 hx hZ hown (host := "") (Or.inl (ow hw 63)) Via.refl e55 j1_ E_b (Or.inl (ow hw 64)) (ow hw 48) (ty := .byte) (by decide) rfl rfl (g := (mkF m 38 #[.val (.ref b), .val (.ref b_48)] [(.int 1), (.ref b)])) rfl rfl (B d45_38)
 refine oG st57 ?_
 have E_b := E_b.wr W57
 have j2_ := j2_.other W57 (Or.inr (slot_ne (Or.inl (ow hw 62)) (Or.inl (ow hw 64)) (by decide) (t := (.array .byte)) (t' := .byte) (by decide) (by decide)))
 have j0_ := j0_.other W57 (Or.inr (slot_ne (Or.inl (ow hw 88)) (Or.inl (ow hw 64)) (by decide) (t := .int) (t' := .byte) (by decide) (by decide)))
 have j4_ := j4_.other W57 (Or.inr (slot_ne (Or.inl (ow hw 267)) (Or.inl (ow hw 64)) (by decide) (t := .boolean) (t' := .byte) (by decide) (by decide)))
 have V_t := V_t.other W57 (Ne.symm nbt)
 have E_t := E_t.wr W57
 have j61_ := j61_.wr W57
 have j54_ := j54_.other W57 (Ne.symm j71_)
 have O := O.wr W57 g_b
 have K58 := K56.wr W57 (Or.inl (List.mem_of_getElem? (i := 0) rfl))
 have j1_ := j1_.same W57
 have N57 := Fr.snoc X57 N55 g_b
 show oF p e below (T57.setTop (mkF m 41 #[.val (.ref b), .val (.ref b_48)] [])) _
 obtain ⟨fs, hr, r1, r2, hW, r3⟩ := X57.leave (v := none) (fun _ => rfl)
 refine ⟨_, _, ?_, r1, r2, _, _, rfl, ?_, ⟨_, rfl⟩, hW, r3.mono (by decide) (by decide)⟩
 ·exact X57.returnOut hx Bd.returns (B d45_41) hr
 ·show Qifl Z b N cn cs h0 n0 _ T57.heap _
  rw [e57]
  exact ⟨b_48, k_49, rfl, N57, K58, j147_, E_b, j2_, j1_, j0_, j4_, j54_, j61_⟩
theorem d45_7 : decode k11_ 7 = .ok (.return_, 1) := by decide +kernel
def Qifn (Z : State)  (h0 : Heap) (n0 : Nat) (v : Option Value) (h : Heap) (L : List Loc) : Prop := v = none ∧ Fr n0 L ∧ h = h0
theorem ifn (l : Launch) (Z : State) (a0 : Array Value) (hw : ∀ d ∈ tables_1, d.before a0 Z = true) (ws : List Jvm.Cond) (b : Addr) (z : Int32) (h0 : Heap) (n0 : Nat) (O : Old Z n0 h0) (j6_ : sT4 Z (.int z)) (hz : ¬ (z = (0 : Int32))) (E_b : eX1 Z h0 b) (j1_ : fL2 Z h0 b (.int 1)) :
   o_MF l Z mN11 jdk_68_method_11_code 2 none ws rM7 #[(.ref b)] h0 (Qifn Z  h0 n0) := by
 refine MetFree.of_bodySF (plainFor_of_name pn_4) hisR ?_
 intro p e s m args below meth c s₁ Bd hml0 hP hK
 obtain ⟨rfl, hZ, hh⟩ := hP
 have hx := Bd.exec
 have hby := Bd.bytes
 have B := @hb _ _ hby
 have hml : c.maxLocals = 2 := hml0
 have hown : s.vm.findClass "java/lang/AbstractStringBuilder" = some m.cls := findClass_of_methodNamed Bd.named
 have X0 : Stand p l e rM7 s m #[(.ref b)] below meth c s₁ [] 0 0 := Stand.of_body Bd
 have e0 : s₁.heap = h0 := by rw [← hh, Bd.state]; rfl
 have N0 := Fr.nil n0
 refine o_start (ef_ifl m b) (Q := o_QE s rM7 (Qifn Z  h0 n0)) ?_
 show oF p e below (s₁.setTop (mkF m 0 #[.val (.ref b), .unset] [])) _
 refine oG (fun _ k => XS.aloadN X0.here hx rfl (B d45_0) rfl rfl k) ?_
 show oF p e below (s₁.setTop (mkF m 1 #[.val (.ref b), .unset] [(.ref b)])) _
 obtain ⟨cq60, kq60, q60a, q60b, q60c⟩ := isOf hZ e0 E_b
 obtain ⟨_, _, ⟨T60, L60, k60, n60⟩, -, X60, ⟨Lc60, hQ60, l60, y60, z60⟩, st60⟩ := X0.virtualBack hx (y := mN9) (z := mN9) hown (mo hZ hw 147) (mo hZ hw 148) (notFace_of_selects (args := #[]) (mo hZ hw 150)) (mo hZ hw 150) (mo hZ hw 149) (by decide) (backOf (W := 0) (il1 l Z a0 hw [] b z h0 n0 O j6_ hz j1_) hZ (ow hw 151) (ow hw 57) (by decide) (by decide)) q60a q60c (g := (mkF m 1 #[.val (.ref b), .unset] [(.ref b)])) rfl (by rw [hml]; rfl) (Steps.refl _) (argsL := []) (rest := []) (lenOf pd_7 rfl) rfl (by show 2 * 0 + _ ≤ _; exact Nat.le_of_eq rfl) (B d45_1) (fun _ _ => ⟨rfl, e0, (by decide : 0 + 0 ≤ _), (by decide : 0 + 0 ≤ _)⟩)
 dsimp only [Pt.U, Pt.locs, Pt.cells, Pt.slots] at X60 l60 y60 z60 st60 hQ60
 subst y60 z60
 obtain ⟨rfl, N60q, e60⟩ := hQ60
 refine oG (fun _ k => st60.trans k) ?_
 have N60 := oL l60 (Fr.app N0 N60q)
 show oF p e below (T60.setTop (mkF m 4 #[.val (.ref b), .unset] [(.int 0)])) _
 refine oG (fun _ k => XS.ifNo X60.here hx rfl (B d45_4) rfl ((if0 _ _).trans (teq (by decide : (0 : Int32) = (0 : Int32))).2) k) ?_
 show oF p e below (T60.setTop (mkF m 7 #[.val (.ref b), .unset] [])) _
 obtain ⟨fs, hr, r1, r2, hW, r3⟩ := X60.leave (v := none) (fun _ => rfl)
 refine ⟨_, _, ?_, r1, r2, _, _, rfl, ?_, ⟨_, rfl⟩, hW, r3.mono (by decide) (by decide)⟩
 ·exact X60.returnOut hx Bd.returns (B d45_7) hr
 ·show Qifn Z  h0 n0 _ T60.heap _
  rw [e60]
  exact ⟨rfl, N60, rfl⟩
theorem d12_0 : decode k12_ 0 = .ok (.aload_n 0, 1) := by decide +kernel
theorem d12_1 : decode k12_ 1 = .ok (.getfield 9, 3) := by decide +kernel
theorem d12_4 : decode k12_ 4 = .ok (.arraylength, 1) := by decide +kernel
theorem d12_5 : decode k12_ 5 = .ok (.aload_n 0, 1) := by decide +kernel
theorem d12_6 : decode k12_ 6 = .ok (.invokevirtual 335, 3) := by decide +kernel
theorem pd_9 : parseMethodDescriptor "()B" = some ⟨[], some .byte⟩ := by decide +kernel
theorem d12_9 : decode k12_ 9 = .ok (.ishr, 1) := by decide +kernel
theorem d12_10 : decode k12_ 10 = .ok (.ireturn, 1) := by decide +kernel
def Qslen (Z : State) (ds : List Int32) (h0 : Heap) (n0 : Nat) (v : Option Value) (h : Heap) (L : List Loc) : Prop := v = some (.int (Int32.ofNat ds.length)) ∧ Fr n0 L ∧ h = h0
theorem slen (l : Launch) (Z : State) (a0 : Array Value) (hw : ∀ d ∈ tables_1, d.before a0 Z = true) (ws : List Jvm.Cond) (s_ : Addr) (z : Int32) (ts : Addr) (ks : ClassId) (ds : List Int32) (h0 : Heap) (n0 : Nat) (O : Old Z n0 h0) (j6_ : sT4 Z (.int z)) (hz : ¬ (z = (0 : Int32))) (E_s_ : eX2 Z h0 s_) (j7_ : o_ST Z h0 s_ ts ks ds) (h4 : ds.length ≤ 100) :
   o_MF l Z mN12 jdk_42_method_54_code 1 (some .int) ws rM8 #[(.ref s_)] h0 (Qslen Z ds h0 n0) := by
 refine MetFree.of_bodySF (plainFor_of_name pn_2) hisR ?_
 intro p e s m args below meth c s₁ Bd hml0 hP hK
 obtain ⟨rfl, hZ, hh⟩ := hP
 have hx := Bd.exec
 have hby := Bd.bytes
 have B := @hb _ _ hby
 have hml : c.maxLocals = 1 := hml0
 have hown : s.vm.findClass "java/lang/String" = some m.cls := findClass_of_methodNamed Bd.named
 have X0 : Stand p l e rM8 s m #[(.ref s_)] below meth c s₁ [] 0 0 := Stand.of_body Bd
 have e0 : s₁.heap = h0 := by rw [← hh, Bd.state]; rfl
 have N0 := Fr.nil n0
 refine o_start (ef_ul m s_) (Q := o_QE s rM8 (Qslen Z ds h0 n0)) ?_
 show oF p e below (s₁.setTop (mkF m 0 #[.val (.ref s_)] [])) _
 obtain ⟨j5_, hrd, hdd⟩ := j7_
 rcases hdd with ⟨j3_, V_ts, hlad⟩ | ⟨j3_, V_ts, hbgd⟩
 ·show oF p e below (s₁.setTop (mkF m 0 #[.val (.ref s_)] [])) _
  refine oG (fun _ k => XS.aloadN X0.here hx rfl (B d12_0) rfl rfl k) ?_
  show oF p e below (s₁.setTop (mkF m 1 #[.val (.ref s_)] [(.ref s_)])) _
  obtain ⟨T62, X62, e62, st62⟩ := getF X0 hx hZ hown (host := "") (Or.inl (ow hw 32)) Via.refl e0 j5_ (g := (mkF m 1 #[.val (.ref s_)] [(.ref s_)])) rfl rfl (B d12_1)
  refine oG st62 ?_
  show oF p e below (T62.setTop (mkF m 4 #[.val (.ref s_)] [(.ref ts)])) _
  obtain ⟨cl63, A63, -, S63, M63, -, -⟩ := id V_ts
  refine oG (fun _ k => X62.arraylength hx (o_eqE e62 A63.1) (State.isArrayOf_alike hZ.alike A63.2.1) (g := (mkF m 4 #[.val (.ref s_)] [(.ref ts)])) rfl rfl (B d12_4) _ (by rw [len_of S63 M63]; exact k)) ?_
  show oF p e below (T62.setTop (mkF m 5 #[.val (.ref s_)] [(.int (Int32.ofNat ds.length))])) _
  refine oG (fun _ k => XS.aloadN X62.here hx rfl (B d12_5) rfl rfl k) ?_
  show oF p e below (T62.setTop (mkF m 6 #[.val (.ref s_)] [(.ref s_), (.int (Int32.ofNat ds.length))])) _
  obtain ⟨cq64, kq64, q64a, q64b, q64c⟩ := isOf hZ e62 E_s_
  obtain ⟨_, _, ⟨T64, L64, k64, n64⟩, -, X64, ⟨Lc64, hQ64, l64, y64, z64⟩, st64⟩ := X62.virtualBack hx (y := mN10) (z := mN10) hown (mo hZ hw 81) (mo hZ hw 82) (notFace_of_selects (args := #[]) (mo hZ hw 84)) (mo hZ hw 84) (mo hZ hw 83) (by decide) (backOf (W := 1) (cd0 l Z a0 hw [] s_ z h0 n0 O j6_ hz j3_) hZ (ow hw 85) (ow hw 15) (by decide) (by decide)) q64a q64c (g := (mkF m 6 #[.val (.ref s_)] [(.ref s_), (.int (Int32.ofNat ds.length))])) rfl (by rw [hml]; rfl) (Steps.refl _) (argsL := []) (rest := [(.int (Int32.ofNat ds.length))]) (lenOf pd_9 rfl) rfl (by show 2 * 0 + _ ≤ _; exact Nat.le_of_eq rfl) (B d12_6) (fun _ _ => ⟨rfl, e62, (by decide : 0 + 0 ≤ _), (by decide : 0 + 0 ≤ _)⟩)
  dsimp only [Pt.U, Pt.locs, Pt.cells, Pt.slots] at X64 l64 y64 z64 st64 hQ64
  subst y64 z64
  obtain ⟨rfl, N64q, e64⟩ := hQ64
  refine oG (fun _ k => st64.trans k) ?_
  have N64 := oL l64 (Fr.app N0 N64q)
  show oF p e below (T64.setTop (mkF m 9 #[.val (.ref s_)] [(.int 0), (.int (Int32.ofNat ds.length))])) _
  refine oG (fun _ k => XS.ishr X64.here hx rfl (B d12_9) rfl k) ?_
  show oF p e below (T64.setTop (mkF m 10 #[.val (.ref s_)] [(.int ((Int32.ofNat ds.length) >>> ((0 : Int32) &&& 31)))])) _
  obtain ⟨fs, hr, r1, r2, hW, r3⟩ := X64.leave (v := some (.int ((Int32.ofNat ds.length) >>> ((0 : Int32) &&& 31)))) (fun h => by rw [Bd.returns] at h; cases h)
  refine ⟨_, _, ?_, r1, r2, _, _, rfl, ?_, ⟨_, rfl⟩, hW, r3.mono (by decide) (by decide)⟩
  ·exact o_retI X64 hx Bd.returns (B d12_10) hr
  ·show Qslen Z ds h0 n0 _ T64.heap _
   rw [e64]
   exact ⟨(by rw [o_sh0]), N64, rfl⟩
 ·show oF p e below (s₁.setTop (mkF m 0 #[.val (.ref s_)] [])) _
  refine oG (fun _ k => XS.aloadN X0.here hx rfl (B d12_0) rfl rfl k) ?_
  show oF p e below (s₁.setTop (mkF m 1 #[.val (.ref s_)] [(.ref s_)])) _
  obtain ⟨T66, X66, e66, st66⟩ := getF X0 hx hZ hown (host := "") (Or.inl (ow hw 32)) Via.refl e0 j5_ (g := (mkF m 1 #[.val (.ref s_)] [(.ref s_)])) rfl rfl (B d12_1)
  refine oG st66 ?_
  show oF p e below (T66.setTop (mkF m 4 #[.val (.ref s_)] [(.ref ts)])) _
  obtain ⟨cl67, A67, -, S67, M67, -, -⟩ := id V_ts
  refine oG (fun _ k => X66.arraylength hx (o_eqE e66 A67.1) (State.isArrayOf_alike hZ.alike A67.2.1) (g := (mkF m 4 #[.val (.ref s_)] [(.ref ts)])) rfl rfl (B d12_4) _ (by rw [len_of S67 M67]; exact k)) ?_
  show oF p e below (T66.setTop (mkF m 5 #[.val (.ref s_)] [(.int ((Int32.ofNat ds.length) <<< ((1 : Int32) &&& 31)))])) _
  refine oG (fun _ k => XS.aloadN X66.here hx rfl (B d12_5) rfl rfl k) ?_
  show oF p e below (T66.setTop (mkF m 6 #[.val (.ref s_)] [(.ref s_), (.int ((Int32.ofNat ds.length) <<< ((1 : Int32) &&& 31)))])) _
  obtain ⟨cq68, kq68, q68a, q68b, q68c⟩ := isOf hZ e66 E_s_
  obtain ⟨_, _, ⟨T68, L68, k68, n68⟩, -, X68, ⟨Lc68, hQ68, l68, y68, z68⟩, st68⟩ := X66.virtualBack hx (y := mN10) (z := mN10) hown (mo hZ hw 81) (mo hZ hw 82) (notFace_of_selects (args := #[]) (mo hZ hw 84)) (mo hZ hw 84) (mo hZ hw 83) (by decide) (backOf (W := 1) (cd1 l Z a0 hw [] s_ z h0 n0 O j6_ hz j3_) hZ (ow hw 85) (ow hw 15) (by decide) (by decide)) q68a q68c (g := (mkF m 6 #[.val (.ref s_)] [(.ref s_), (.int ((Int32.ofNat ds.length) <<< ((1 : Int32) &&& 31)))])) rfl (by rw [hml]; rfl) (Steps.refl _) (argsL := []) (rest := [(.int ((Int32.ofNat ds.length) <<< ((1 : Int32) &&& 31)))]) (lenOf pd_9 rfl) rfl (by show 2 * 0 + _ ≤ _; exact Nat.le_of_eq rfl) (B d12_6) (fun _ _ => ⟨rfl, e66, (by decide : 0 + 0 ≤ _), (by decide : 0 + 0 ≤ _)⟩)
  dsimp only [Pt.U, Pt.locs, Pt.cells, Pt.slots] at X68 l68 y68 z68 st68 hQ68
  subst y68 z68
  obtain ⟨rfl, N68q, e68⟩ := hQ68
  refine oG (fun _ k => st68.trans k) ?_
  have N68 := oL l68 (Fr.app N0 N68q)
  show oF p e below (T68.setTop (mkF m 9 #[.val (.ref s_)] [(.int 1), (.int ((Int32.ofNat ds.length) <<< ((1 : Int32) &&& 31)))])) _
  refine oG (fun _ k => XS.ishr X68.here hx rfl (B d12_9) rfl k) ?_
  show oF p e below (T68.setTop (mkF m 10 #[.val (.ref s_)] [(.int (((Int32.ofNat ds.length) <<< ((1 : Int32) &&& 31)) >>> ((1 : Int32) &&& 31)))])) _
  obtain ⟨fs, hr, r1, r2, hW, r3⟩ := X68.leave (v := some (.int (((Int32.ofNat ds.length) <<< ((1 : Int32) &&& 31)) >>> ((1 : Int32) &&& 31)))) (fun h => by rw [Bd.returns] at h; cases h)
  refine ⟨_, _, ?_, r1, r2, _, _, rfl, ?_, ⟨_, rfl⟩, hW, r3.mono (by decide) (by decide)⟩
  ·exact o_retI X68 hx Bd.returns (B d12_10) hr
  ·show Qslen Z ds h0 n0 _ T68.heap _
   rw [e68]
   exact ⟨(by rw [o_sh1 h4]), N68, rfl⟩
theorem d17_0 : decode k13_ 0 = .ok (.iload_n 0, 1) := by decide +kernel
theorem d17_1 : decode k13_ 1 = .ok (.iload_n 1, 1) := by decide +kernel
theorem d17_2 : decode k13_ 2 = .ok (.if_icmp .lt 7, 3) := by decide +kernel
theorem d17_9 : decode k13_ 9 = .ok (.iload_n 1, 1) := by decide +kernel
theorem d17_10 : decode k13_ 10 = .ok (.ireturn, 1) := by decide +kernel
theorem d17_5 : decode k13_ 5 = .ok (.iload_n 0, 1) := by decide +kernel
theorem d17_6 : decode k13_ 6 = .ok (.goto 4, 3) := by decide +kernel
theorem ef_mxx (m : MethodId) (x0 : Int32) (x1 : Int32) : entryFrame m #[(.int x0), (.int x1)] 2 = mkF m 0 #[.val (.int x0), .val (.int x1)] [] := by first | (simp [entryFrame, mkF, argsToLocals, Value.category]; done) | rfl
def Qmxx (Z : State) (a : Int32) (b : Int32) (h0 : Heap) (n0 : Nat) (v : Option Value) (h : Heap) (L : List Loc) : Prop := v = some (.int (o_mx a b)) ∧ Fr n0 L ∧ h = h0
theorem mxx (l : Launch) (Z : State) (a0 : Array Value) (hw : ∀ d ∈ tables_1, d.before a0 Z = true) (ws : List Jvm.Cond) (a : Int32) (b : Int32) (h0 : Heap) (n0 : Nat) :
   o_MF l Z mN13 jdk_29_method_65_code 2 (some .int) ws rM0 #[(.int a), (.int b)] h0 (Qmxx Z a b h0 n0) := by
 refine MetFree.of_bodySF (Jvm.Free.JP.mathPlain rfl (by decide +kernel)) hisR ?_
 intro p e s m args below meth c s₁ Bd hml0 hP hK
 obtain ⟨rfl, hZ, hh⟩ := hP
 have hx := Bd.exec
 have hby := Bd.bytes
 have B := @hb _ _ hby
 have hml : c.maxLocals = 2 := hml0
 have hown : s.vm.findClass "java/lang/Math" = some m.cls := findClass_of_methodNamed Bd.named
 have X0 : Stand p l e rM0 s m #[(.int a), (.int b)] below meth c s₁ [] 0 0 := Stand.of_body Bd
 have e0 : s₁.heap = h0 := by rw [← hh, Bd.state]; rfl
 have N0 := Fr.nil n0
 refine o_start (ef_mxx m a b) (Q := o_QE s rM0 (Qmxx Z a b h0 n0)) ?_
 show oF p e below (s₁.setTop (mkF m 0 #[.val (.int a), .val (.int b)] [])) _
 refine oG (fun _ k => XS.iloadN X0.here hx rfl (B d17_0) rfl (XS.iloadN X0.here hx rfl (B d17_1) rfl k)) ?_
 show oF p e below (s₁.setTop (mkF m 2 #[.val (.int a), .val (.int b)] [(.int b), (.int a)])) _
 by_cases hc2_70 : a < b
 ·refine oG (fun _ k => XS.icmpYes X0.here hx rfl (pc0 := 2) (pc' := 9) rfl (B d17_2) rfl (tlt hc2_70).1 (by decide) (by decide) (XS.iloadN X0.here hx rfl (B d17_9) rfl k)) ?_
  show oF p e below (s₁.setTop (mkF m 10 #[.val (.int a), .val (.int b)] [(.int b)])) _
  obtain ⟨fs, hr, r1, r2, hW, r3⟩ := X0.leave (v := some (.int b)) (fun h => by rw [Bd.returns] at h; cases h)
  refine ⟨_, _, ?_, r1, r2, _, _, rfl, ?_, ⟨_, rfl⟩, hW, r3.mono (by decide) (by decide)⟩
  ·exact o_retI X0 hx Bd.returns (B d17_10) hr
  ·show Qmxx Z a b h0 n0 _ s₁.heap _
   rw [e0]
   exact ⟨(by simp [o_mx, hc2_70]), N0, rfl⟩
 ·refine oG (fun _ k => XS.icmpNo X0.here hx rfl (B d17_2) rfl (flt hc2_70).1 (XS.iloadN X0.here hx rfl (B d17_5) rfl (XS.goto X0.here hx rfl (pc0 := 6) (pc' := 10) rfl (B d17_6) (by decide) (by decide) k))) ?_
  show oF p e below (s₁.setTop (mkF m 10 #[.val (.int a), .val (.int b)] [(.int a)])) _
  obtain ⟨fs, hr, r1, r2, hW, r3⟩ := X0.leave (v := some (.int a)) (fun h => by rw [Bd.returns] at h; cases h)
  refine ⟨_, _, ?_, r1, r2, _, _, rfl, ?_, ⟨_, rfl⟩, hW, r3.mono (by decide) (by decide)⟩
  ·exact o_retI X0 hx Bd.returns (B d17_10) hr
  ·show Qmxx Z a b h0 n0 _ s₁.heap _
   rw [e0]
   exact ⟨(by simp [o_mx, hc2_70]), N0, rfl⟩
theorem d19_0 : decode k14_ 0 = .ok (.iload_n 0, 1) := by decide +kernel
theorem d19_1 : decode k14_ 1 = .ok (.iload_n 1, 1) := by decide +kernel
theorem d19_2 : decode k14_ 2 = .ok (.if_icmp .gt 7, 3) := by decide +kernel
theorem d19_9 : decode k14_ 9 = .ok (.iload_n 1, 1) := by decide +kernel
theorem d19_10 : decode k14_ 10 = .ok (.ireturn, 1) := by decide +kernel
theorem d19_5 : decode k14_ 5 = .ok (.iload_n 0, 1) := by decide +kernel
theorem d19_6 : decode k14_ 6 = .ok (.goto 4, 3) := by decide +kernel
def Qmnn (Z : State) (a : Int32) (b : Int32) (h0 : Heap) (n0 : Nat) (v : Option Value) (h : Heap) (L : List Loc) : Prop := v = some (.int (o_mn a b)) ∧ Fr n0 L ∧ h = h0
theorem mnn (l : Launch) (Z : State) (a0 : Array Value) (hw : ∀ d ∈ tables_1, d.before a0 Z = true) (ws : List Jvm.Cond) (a : Int32) (b : Int32) (h0 : Heap) (n0 : Nat) :
   o_MF l Z mN14 jdk_29_method_69_code 2 (some .int) ws rM0 #[(.int a), (.int b)] h0 (Qmnn Z a b h0 n0) := by
 refine MetFree.of_bodySF (Jvm.Free.JP.mathPlain rfl (by decide +kernel)) hisR ?_
 intro p e s m args below meth c s₁ Bd hml0 hP hK
 obtain ⟨rfl, hZ, hh⟩ := hP
 have hx := Bd.exec
 have hby := Bd.bytes
 have B := @hb _ _ hby
 have hml : c.maxLocals = 2 := hml0
 have hown : s.vm.findClass "java/lang/Math" = some m.cls := findClass_of_methodNamed Bd.named
 have X0 : Stand p l e rM0 s m #[(.int a), (.int b)] below meth c s₁ [] 0 0 := Stand.of_body Bd
 have e0 : s₁.heap = h0 := by rw [← hh, Bd.state]; rfl
 have N0 := Fr.nil n0
 refine o_start (ef_mxx m a b) (Q := o_QE s rM0 (Qmnn Z a b h0 n0)) ?_
 show oF p e below (s₁.setTop (mkF m 0 #[.val (.int a), .val (.int b)] [])) _
 refine oG (fun _ k => XS.iloadN X0.here hx rfl (B d19_0) rfl (XS.iloadN X0.here hx rfl (B d19_1) rfl k)) ?_
 show oF p e below (s₁.setTop (mkF m 2 #[.val (.int a), .val (.int b)] [(.int b), (.int a)])) _
 by_cases hc2_73 : b < a
 ·refine oG (fun _ k => XS.icmpYes X0.here hx rfl (pc0 := 2) (pc' := 9) rfl (B d19_2) rfl (tlt hc2_73).2.2.1 (by decide) (by decide) (XS.iloadN X0.here hx rfl (B d19_9) rfl k)) ?_
  show oF p e below (s₁.setTop (mkF m 10 #[.val (.int a), .val (.int b)] [(.int b)])) _
  obtain ⟨fs, hr, r1, r2, hW, r3⟩ := X0.leave (v := some (.int b)) (fun h => by rw [Bd.returns] at h; cases h)
  refine ⟨_, _, ?_, r1, r2, _, _, rfl, ?_, ⟨_, rfl⟩, hW, r3.mono (by decide) (by decide)⟩
  ·exact o_retI X0 hx Bd.returns (B d19_10) hr
  ·show Qmnn Z a b h0 n0 _ s₁.heap _
   rw [e0]
   exact ⟨(by simp [o_mn, hc2_73]), N0, rfl⟩
 ·refine oG (fun _ k => XS.icmpNo X0.here hx rfl (B d19_2) rfl (flt hc2_73).2.2.1 (XS.iloadN X0.here hx rfl (B d19_5) rfl (XS.goto X0.here hx rfl (pc0 := 6) (pc' := 10) rfl (B d19_6) (by decide) (by decide) k))) ?_
  show oF p e below (s₁.setTop (mkF m 10 #[.val (.int a), .val (.int b)] [(.int a)])) _
  obtain ⟨fs, hr, r1, r2, hW, r3⟩ := X0.leave (v := some (.int a)) (fun h => by rw [Bd.returns] at h; cases h)
  refine ⟨_, _, ?_, r1, r2, _, _, rfl, ?_, ⟨_, rfl⟩, hW, r3.mono (by decide) (by decide)⟩
  ·exact o_retI X0 hx Bd.returns (B d19_10) hr
  ·show Qmnn Z a b h0 n0 _ s₁.heap _
   rw [e0]
   exact ⟨(by simp [o_mn, hc2_73]), N0, rfl⟩
theorem d16_0 : decode k15_ 0 = .ok (.iload_n 0, 1) := by decide +kernel
theorem d16_1 : decode k15_ 1 = .ok (.iload_n 1, 1) := by decide +kernel
theorem d16_2 : decode k15_ 2 = .ok (.iload_n 2, 1) := by decide +kernel
theorem d16_3 : decode k15_ 3 = .ok (.invokestatic 194, 3) := by decide +kernel
theorem pd_10 : parseMethodDescriptor "(II)I" = some ⟨[.int, .int], some .int⟩ := by decide +kernel
theorem d16_6 : decode k15_ 6 = .ok (.iadd, 1) := by decide +kernel
theorem d16_7 : decode k15_ 7 = .ok (.istore_n 3, 1) := by decide +kernel
theorem d16_8 : decode k15_ 8 = .ok (.iconst 0, 1) := by decide +kernel
theorem d16_9 : decode k15_ 9 = .ok (.iload_n 3, 1) := by decide +kernel
theorem d16_10 : decode k15_ 10 = .ok (.if_icmp .ge 11, 3) := by decide +kernel
theorem d16_13 : decode k15_ 13 = .ok (.iload_n 3, 1) := by decide +kernel
theorem d16_14 : decode k15_ 14 = .ok (.ldc 200, 2) := by decide +kernel
theorem d16_16 : decode k15_ 16 = .ok (.if_icmp .gt 5, 3) := by decide +kernel
theorem d16_19 : decode k15_ 19 = .ok (.iload_n 3, 1) := by decide +kernel
theorem d16_20 : decode k15_ 20 = .ok (.ireturn, 1) := by decide +kernel
theorem pn_5 : plainName "jdk/internal/util/ArraysSupport" = true := by first | (simp [plainName, overriddenIn]; done) | decide +kernel
theorem ef_nle (m : MethodId) (x0 : Int32) (x1 : Int32) (x2 : Int32) : entryFrame m #[(.int x0), (.int x1), (.int x2)] 4 = mkF m 0 #[.val (.int x0), .val (.int x1), .val (.int x2), .unset] [] := by first | (simp [entryFrame, mkF, argsToLocals, Value.category]; done) | rfl
def Qnle (Z : State) (a : Int32) (i : Int32) (j : Int32) (h0 : Heap) (n0 : Nat) (v : Option Value) (h : Heap) (L : List Loc) : Prop := v = some (.int (a + (o_mx i j))) ∧ Fr n0 L ∧ h = h0
theorem nle (l : Launch) (Z : State) (a0 : Array Value) (hw : ∀ d ∈ tables_1, d.before a0 Z = true) (ws : List Jvm.Cond) (a : Int32) (i : Int32) (j : Int32) (h0 : Heap) (n0 : Nat) (h1 : (0 : Int32) < (a + (o_mx i j))) (h2 : ¬ ((2147483639 : Int32) < (a + (o_mx i j)))) :
   o_MF l Z mN15 jdk_48_method_27_code 4 (some .int) ws rM9 #[(.int a), (.int i), (.int j)] h0 (Qnle Z a i j h0 n0) := by
 refine MetFree.of_bodySF (plainFor_of_name pn_5) hisR ?_
 intro p e s m args below meth c s₁ Bd hml0 hP hK
 obtain ⟨rfl, hZ, hh⟩ := hP
 have hx := Bd.exec
 have hby := Bd.bytes
 have B := @hb _ _ hby
 have hml : c.maxLocals = 4 := hml0
 have hown : s.vm.findClass "jdk/internal/util/ArraysSupport" = some m.cls := findClass_of_methodNamed Bd.named
 have X0 : Stand p l e rM9 s m #[(.int a), (.int i), (.int j)] below meth c s₁ [] 0 0 := Stand.of_body Bd
 have e0 : s₁.heap = h0 := by rw [← hh, Bd.state]; rfl
 have N0 := Fr.nil n0
 refine o_start (ef_nle m a i j) (Q := o_QE s rM9 (Qnle Z a i j h0 n0)) ?_
 show oF p e below (s₁.setTop (mkF m 0 #[.val (.int a), .val (.int i), .val (.int j), .unset] [])) _
 refine oG (fun _ k => XS.iloadN X0.here hx rfl (B d16_0) rfl (XS.iloadN X0.here hx rfl (B d16_1) rfl (XS.iloadN X0.here hx rfl (B d16_2) rfl k))) ?_
 show oF p e below (s₁.setTop (mkF m 3 #[.val (.int a), .val (.int i), .val (.int j), .unset] [(.int j), (.int i), (.int a)])) _
 obtain ⟨_, _, ⟨T76, L76, k76, n76⟩, -, X76, ⟨Lc76, hQ76, l76, y76, z76⟩, st76⟩ := Jvm.LawKit.callS X0 hx (y := mN13) hown (mo hZ hw 103) (mo hZ hw 104) (mo hZ hw 105) (mo hZ hw 106) (by decide) (backOf (W := 1) (mxx l Z a0 hw [] i j h0 n0 ) hZ (ow hw 106) (ow hw 105) (by decide) (by decide)) (g := (mkF m 3 #[.val (.int a), .val (.int i), .val (.int j), .unset] [(.int j), (.int i), (.int a)])) rfl (by rw [hml]; rfl) (argsL := [(.int i), (.int j)]) (rest := [(.int a)]) (lenOf pd_10 rfl) rfl (by show 2 * 0 + _ ≤ _; exact Nat.le_of_eq rfl) (B d16_3) (fun _ _ => ⟨rfl, e0, (by decide : 0 + 0 ≤ _), (by decide : 0 + 0 ≤ _)⟩)
 dsimp only [Pt.U, Pt.locs, Pt.cells, Pt.slots] at X76 l76 y76 z76 st76 hQ76
 subst y76 z76
 obtain ⟨rfl, N76q, e76⟩ := hQ76
 refine oG st76 ?_
 have N76 := oL l76 (Fr.app N0 N76q)
 show oF p e below (T76.setTop (mkF m 6 #[.val (.int a), .val (.int i), .val (.int j), .unset] [(.int (o_mx i j)), (.int a)])) _
 refine oG (fun _ k => XS.iadd X76.here hx rfl (B d16_6) rfl (XS.istoreN X76.here hx rfl (B d16_7) rfl (l' := #[.val (.int a), .val (.int i), .val (.int j), .val (.int (a + (o_mx i j)))]) rfl (XS.iconst X76.here hx rfl (B d16_8) (XS.iloadN X76.here hx rfl (B d16_9) rfl (XS.icmpNo X76.here hx rfl (B d16_10) rfl (tlt h1).2.1 (XS.iloadN X76.here hx rfl (B d16_13) rfl k)))))) ?_
 show oF p e below (T76.setTop (mkF m 14 #[.val (.int a), .val (.int i), .val (.int j), .val (.int (a + (o_mx i j)))] [(.int (a + (o_mx i j)))])) _
 refine oG (fun _ k => X76.ldcInt hx hown (mo hZ hw 107) (g := (mkF m 14 #[.val (.int a), .val (.int i), .val (.int j), .val (.int (a + (o_mx i j)))] [(.int (a + (o_mx i j)))])) rfl (B d16_14) _ k) ?_
 show oF p e below (T76.setTop (mkF m 16 #[.val (.int a), .val (.int i), .val (.int j), .val (.int (a + (o_mx i j)))] [(.int 2147483639), (.int (a + (o_mx i j)))])) _
 refine oG (fun _ k => XS.icmpNo X76.here hx rfl (B d16_16) rfl (flt h2).2.2.1 (XS.iloadN X76.here hx rfl (B d16_19) rfl k)) ?_
 show oF p e below (T76.setTop (mkF m 20 #[.val (.int a), .val (.int i), .val (.int j), .val (.int (a + (o_mx i j)))] [(.int (a + (o_mx i j)))])) _
 obtain ⟨fs, hr, r1, r2, hW, r3⟩ := X76.leave (v := some (.int (a + (o_mx i j)))) (fun h => by rw [Bd.returns] at h; cases h)
 refine ⟨_, _, ?_, r1, r2, _, _, rfl, ?_, ⟨_, rfl⟩, hW, r3.mono (by decide) (by decide)⟩
 ·exact o_retI X76 hx Bd.returns (B d16_20) hr
 ·show Qnle Z a i j h0 n0 _ T76.heap _
  rw [e76]
  exact ⟨rfl, N76, rfl⟩
theorem d15_0 : decode k16_ 0 = .ok (.aload_n 0, 1) := by decide +kernel
theorem d15_1 : decode k16_ 1 = .ok (.getfield 15, 3) := by decide +kernel
theorem d15_4 : decode k16_ 4 = .ok (.arraylength, 1) := by decide +kernel
theorem d15_5 : decode k16_ 5 = .ok (.istore_n 2, 1) := by decide +kernel
theorem d15_6 : decode k16_ 6 = .ok (.iload_n 1, 1) := by decide +kernel
theorem d15_7 : decode k16_ 7 = .ok (.aload_n 0, 1) := by decide +kernel
theorem d15_8 : decode k16_ 8 = .ok (.getfield 22, 3) := by decide +kernel
theorem d15_11 : decode k16_ 11 = .ok (.ishl, 1) := by decide +kernel
theorem d15_12 : decode k16_ 12 = .ok (.istore_n 3, 1) := by decide +kernel
theorem d15_13 : decode k16_ 13 = .ok (.iload_n 3, 1) := by decide +kernel
theorem d15_14 : decode k16_ 14 = .ok (.iload_n 2, 1) := by decide +kernel
theorem d15_15 : decode k16_ 15 = .ok (.isub, 1) := by decide +kernel
theorem d15_16 : decode k16_ 16 = .ok (.istore 4, 2) := by decide +kernel
theorem d15_18 : decode k16_ 18 = .ok (.iload_n 2, 1) := by decide +kernel
theorem d15_19 : decode k16_ 19 = .ok (.iload 4, 2) := by decide +kernel
theorem d15_21 : decode k16_ 21 = .ok (.iload_n 2, 1) := by decide +kernel
theorem d15_22 : decode k16_ 22 = .ok (.iconst 2, 1) := by decide +kernel
theorem d15_23 : decode k16_ 23 = .ok (.aload_n 0, 1) := by decide +kernel
theorem d15_24 : decode k16_ 24 = .ok (.getfield 22, 3) := by decide +kernel
theorem d15_27 : decode k16_ 27 = .ok (.ishl, 1) := by decide +kernel
theorem d15_28 : decode k16_ 28 = .ok (.iadd, 1) := by decide +kernel
theorem d15_29 : decode k16_ 29 = .ok (.invokestatic 114, 3) := by decide +kernel
theorem d15_32 : decode k16_ 32 = .ok (.istore 5, 2) := by decide +kernel
theorem d15_34 : decode k16_ 34 = .ok (.iload 5, 2) := by decide +kernel
theorem d15_36 : decode k16_ 36 = .ok (.ldc 39, 2) := by decide +kernel
theorem d15_38 : decode k16_ 38 = .ok (.if_icmp .ne 13, 3) := by decide +kernel
theorem d15_51 : decode k16_ 51 = .ok (.iload 5, 2) := by decide +kernel
theorem d15_53 : decode k16_ 53 = .ok (.aload_n 0, 1) := by decide +kernel
theorem d15_54 : decode k16_ 54 = .ok (.getfield 22, 3) := by decide +kernel
theorem d15_57 : decode k16_ 57 = .ok (.ishr, 1) := by decide +kernel
theorem d15_58 : decode k16_ 58 = .ok (.ireturn, 1) := by decide +kernel
theorem ef_nc0 (m : MethodId) (x0 : Addr) (x1 : Int32) : entryFrame m #[(.ref x0), (.int x1)] 6 = mkF m 0 #[.val (.ref x0), .val (.int x1), .unset, .unset, .unset, .unset] [] := by first | (simp [entryFrame, mkF, argsToLocals, Value.category]; done) | rfl
def Qnc0 (Z : State) (N2 : Int32) (h0 : Heap) (n0 : Nat) (v : Option Value) (h : Heap) (L : List Loc) : Prop := v = some (.int N2) ∧ Fr n0 L ∧ h = h0
theorem nc0 (l : Launch) (Z : State) (a0 : Array Value) (hw : ∀ d ∈ tables_1, d.before a0 Z = true) (ws : List Jvm.Cond) (b : Addr) (m_ : Int32) (t : Addr) (kt : ClassId) (N : Int32) (N2 : Int32) (vs : List Value) (h0 : Heap) (n0 : Nat) (O : Old Z n0 h0) (j2_ : fL0 Z h0 b (.ref t)) (j1_ : fL2 Z h0 b (.int 0)) (V_t : Arv Z h0 t kt .byte N vs (.int 0)) (hgr : o_gr N N2 m_) :
   o_MF l Z mN16 jdk_68_method_10_code 6 (some .int) ws rM2 #[(.ref b), (.int m_)] h0 (Qnc0 Z N2 h0 n0) := by
 refine MetFree.of_bodySF (plainFor_of_name pn_4) hisR ?_
 intro p e s m args below meth c s₁ Bd hml0 hP hK
 obtain ⟨rfl, hZ, hh⟩ := hP
 have hx := Bd.exec
 have hby := Bd.bytes
 have B := @hb _ _ hby
 have hml : c.maxLocals = 6 := hml0
 have hown : s.vm.findClass "java/lang/AbstractStringBuilder" = some m.cls := findClass_of_methodNamed Bd.named
 have X0 : Stand p l e rM2 s m #[(.ref b), (.int m_)] below meth c s₁ [] 0 0 := Stand.of_body Bd
 have e0 : s₁.heap = h0 := by rw [← hh, Bd.state]; rfl
 have N0 := Fr.nil n0
 refine o_start (ef_nc0 m b m_) (Q := o_QE s rM2 (Qnc0 Z N2 h0 n0)) ?_
 show oF p e below (s₁.setTop (mkF m 0 #[.val (.ref b), .val (.int m_), .unset, .unset, .unset, .unset] [])) _
 refine oG (fun _ k => XS.aloadN X0.here hx rfl (B d15_0) rfl rfl k) ?_
 show oF p e below (s₁.setTop (mkF m 1 #[.val (.ref b), .val (.int m_), .unset, .unset, .unset, .unset] [(.ref b)])) _
 obtain ⟨T78, X78, e78, st78⟩ := getF X0 hx hZ hown (host := "") (Or.inl (ow hw 61)) Via.refl e0 j2_ (g := (mkF m 1 #[.val (.ref b), .val (.int m_), .unset, .unset, .unset, .unset] [(.ref b)])) rfl rfl (B d15_1)
 refine oG st78 ?_
 show oF p e below (T78.setTop (mkF m 4 #[.val (.ref b), .val (.int m_), .unset, .unset, .unset, .unset] [(.ref t)])) _
 obtain ⟨cl79, A79, -, S79, M79, -, -⟩ := id V_t
 refine oG (fun _ k => X78.arraylength hx (o_eqE e78 A79.1) (State.isArrayOf_alike hZ.alike A79.2.1) (g := (mkF m 4 #[.val (.ref b), .val (.int m_), .unset, .unset, .unset, .unset] [(.ref t)])) rfl rfl (B d15_4) _ (by rw [len_of S79 M79]; exact k)) ?_
 show oF p e below (T78.setTop (mkF m 5 #[.val (.ref b), .val (.int m_), .unset, .unset, .unset, .unset] [(.int N)])) _
 refine oG (fun _ k => XS.istoreN X78.here hx rfl (B d15_5) rfl (l' := #[.val (.ref b), .val (.int m_), .val (.int N), .unset, .unset, .unset]) rfl (XS.iloadN X78.here hx rfl (B d15_6) rfl (XS.aloadN X78.here hx rfl (B d15_7) rfl rfl k))) ?_
 show oF p e below (T78.setTop (mkF m 8 #[.val (.ref b), .val (.int m_), .val (.int N), .unset, .unset, .unset] [(.ref b), (.int m_)])) _
 obtain ⟨T80, X80, e80, st80⟩ := getF X78 hx hZ hown (host := "") (Or.inl (ow hw 63)) Via.refl e78 j1_ (g := (mkF m 8 #[.val (.ref b), .val (.int m_), .val (.int N), .unset, .unset, .unset] [(.ref b), (.int m_)])) rfl rfl (B d15_8)
 refine oG st80 ?_
 show oF p e below (T80.setTop (mkF m 11 #[.val (.ref b), .val (.int m_), .val (.int N), .unset, .unset, .unset] [(.int 0), (.int m_)])) _
 refine oG (fun _ k => XS.ishl X80.here hx rfl (B d15_11) rfl (XS.istoreN X80.here hx rfl (B d15_12) rfl (l' := #[.val (.ref b), .val (.int m_), .val (.int N), .val (.int (m_ <<< ((0 : Int32) &&& 31))), .unset, .unset]) rfl (XS.iloadN X80.here hx rfl (B d15_13) rfl (XS.iloadN X80.here hx rfl (B d15_14) rfl (XS.isub X80.here hx rfl (B d15_15) rfl (XS.istore X80.here hx rfl (B d15_16) rfl (l' := #[.val (.ref b), .val (.int m_), .val (.int N), .val (.int (m_ <<< ((0 : Int32) &&& 31))), .val (.int ((m_ <<< ((0 : Int32) &&& 31)) - N)), .unset]) rfl (XS.iloadN X80.here hx rfl (B d15_18) rfl (XS.iload X80.here hx rfl (B d15_19) rfl (XS.iloadN X80.here hx rfl (B d15_21) rfl (XS.iconst X80.here hx rfl (B d15_22) k)))))))))) ?_
 show oF p e below (T80.setTop (mkF m 23 #[.val (.ref b), .val (.int m_), .val (.int N), .val (.int (m_ <<< ((0 : Int32) &&& 31))), .val (.int ((m_ <<< ((0 : Int32) &&& 31)) - N)), .unset] [(.int 2), (.int N), (.int ((m_ <<< ((0 : Int32) &&& 31)) - N)), (.int N)])) _
 refine oG (fun _ k => XS.aloadN X80.here hx rfl (B d15_23) rfl rfl k) ?_
 show oF p e below (T80.setTop (mkF m 24 #[.val (.ref b), .val (.int m_), .val (.int N), .val (.int (m_ <<< ((0 : Int32) &&& 31))), .val (.int ((m_ <<< ((0 : Int32) &&& 31)) - N)), .unset] [(.ref b), (.int 2), (.int N), (.int ((m_ <<< ((0 : Int32) &&& 31)) - N)), (.int N)])) _
 obtain ⟨T81, X81, e81, st81⟩ := getF X80 hx hZ hown (host := "") (Or.inl (ow hw 63)) Via.refl e80 j1_ (g := (mkF m 24 #[.val (.ref b), .val (.int m_), .val (.int N), .val (.int (m_ <<< ((0 : Int32) &&& 31))), .val (.int ((m_ <<< ((0 : Int32) &&& 31)) - N)), .unset] [(.ref b), (.int 2), (.int N), (.int ((m_ <<< ((0 : Int32) &&& 31)) - N)), (.int N)])) rfl rfl (B d15_24)
 refine oG st81 ?_
 show oF p e below (T81.setTop (mkF m 27 #[.val (.ref b), .val (.int m_), .val (.int N), .val (.int (m_ <<< ((0 : Int32) &&& 31))), .val (.int ((m_ <<< ((0 : Int32) &&& 31)) - N)), .unset] [(.int 0), (.int 2), (.int N), (.int ((m_ <<< ((0 : Int32) &&& 31)) - N)), (.int N)])) _
 refine oG (fun _ k => XS.ishl X81.here hx rfl (B d15_27) rfl (XS.iadd X81.here hx rfl (B d15_28) rfl k)) ?_
 show oF p e below (T81.setTop (mkF m 29 #[.val (.ref b), .val (.int m_), .val (.int N), .val (.int (m_ <<< ((0 : Int32) &&& 31))), .val (.int ((m_ <<< ((0 : Int32) &&& 31)) - N)), .unset] [(.int (N + (2 : Int32))), (.int ((m_ <<< ((0 : Int32) &&& 31)) - N)), (.int N)])) _
 obtain ⟨_, _, ⟨T82, L82, k82, n82⟩, -, X82, ⟨Lc82, hQ82, l82, y82, z82⟩, st82⟩ := Jvm.LawKit.callS X81 hx (y := mN15) hown (mo hZ hw 99) (mo hZ hw 100) (mo hZ hw 101) (mo hZ hw 102) (by decide) (backOf (W := 0) (nle l Z a0 hw [] N ((m_ <<< ((0 : Int32) &&& 31)) - N) (N + (2 : Int32)) h0 n0 (o_g10 hgr).1 (o_g10 hgr).2.1) hZ (ow hw 102) (ow hw 101) (by decide) (by decide)) (g := (mkF m 29 #[.val (.ref b), .val (.int m_), .val (.int N), .val (.int (m_ <<< ((0 : Int32) &&& 31))), .val (.int ((m_ <<< ((0 : Int32) &&& 31)) - N)), .unset] [(.int (N + (2 : Int32))), (.int ((m_ <<< ((0 : Int32) &&& 31)) - N)), (.int N)])) rfl (by rw [hml]; rfl) (argsL := [(.int N), (.int ((m_ <<< ((0 : Int32) &&& 31)) - N)), (.int (N + (2 : Int32)))]) (rest := []) (lenOf pd_2 rfl) rfl (by show 2 * 0 + _ ≤ _; exact Nat.le_of_eq rfl) (B d15_29) (fun _ _ => ⟨rfl, e81, (by decide : 0 + 0 ≤ _), (by decide : 0 + 0 ≤ _)⟩)
 dsimp only [Pt.U, Pt.locs, Pt.cells, Pt.slots] at X82 l82 y82 z82 st82 hQ82
 subst y82 z82
 obtain ⟨rfl, N82q, e82⟩ := hQ82
 refine oG st82 ?_
 have N82 := oL l82 (Fr.app N0 N82q)
 show oF p e below (T82.setTop (mkF m 32 #[.val (.ref b), .val (.int m_), .val (.int N), .val (.int (m_ <<< ((0 : Int32) &&& 31))), .val (.int ((m_ <<< ((0 : Int32) &&& 31)) - N)), .unset] [(.int (N + (o_mx ((m_ <<< ((0 : Int32) &&& 31)) - N) (N + (2 : Int32)))))])) _
 refine oG (fun _ k => XS.istore X82.here hx rfl (B d15_32) rfl (l' := #[.val (.ref b), .val (.int m_), .val (.int N), .val (.int (m_ <<< ((0 : Int32) &&& 31))), .val (.int ((m_ <<< ((0 : Int32) &&& 31)) - N)), .val (.int (N + (o_mx ((m_ <<< ((0 : Int32) &&& 31)) - N) (N + (2 : Int32)))))]) rfl (XS.iload X82.here hx rfl (B d15_34) rfl k)) ?_
 show oF p e below (T82.setTop (mkF m 36 #[.val (.ref b), .val (.int m_), .val (.int N), .val (.int (m_ <<< ((0 : Int32) &&& 31))), .val (.int ((m_ <<< ((0 : Int32) &&& 31)) - N)), .val (.int (N + (o_mx ((m_ <<< ((0 : Int32) &&& 31)) - N) (N + (2 : Int32)))))] [(.int (N + (o_mx ((m_ <<< ((0 : Int32) &&& 31)) - N) (N + (2 : Int32)))))])) _
 refine oG (fun _ k => X82.ldcInt hx hown (mo hZ hw 108) (g := (mkF m 36 #[.val (.ref b), .val (.int m_), .val (.int N), .val (.int (m_ <<< ((0 : Int32) &&& 31))), .val (.int ((m_ <<< ((0 : Int32) &&& 31)) - N)), .val (.int (N + (o_mx ((m_ <<< ((0 : Int32) &&& 31)) - N) (N + (2 : Int32)))))] [(.int (N + (o_mx ((m_ <<< ((0 : Int32) &&& 31)) - N) (N + (2 : Int32)))))])) rfl (B d15_36) _ k) ?_
 show oF p e below (T82.setTop (mkF m 38 #[.val (.ref b), .val (.int m_), .val (.int N), .val (.int (m_ <<< ((0 : Int32) &&& 31))), .val (.int ((m_ <<< ((0 : Int32) &&& 31)) - N)), .val (.int (N + (o_mx ((m_ <<< ((0 : Int32) &&& 31)) - N) (N + (2 : Int32)))))] [(.int 2147483647), (.int (N + (o_mx ((m_ <<< ((0 : Int32) &&& 31)) - N) (N + (2 : Int32)))))])) _
 refine oG (fun _ k => XS.icmpYes X82.here hx rfl (pc0 := 38) (pc' := 51) rfl (B d15_38) rfl (feq (((o_g10 hgr).2.2.1) : ¬ ((N + (o_mx ((m_ <<< ((0 : Int32) &&& 31)) - N) (N + (2 : Int32)))) = (2147483647 : Int32)))).2 (by decide) (by decide) (XS.iload X82.here hx rfl (B d15_51) rfl (XS.aloadN X82.here hx rfl (B d15_53) rfl rfl k))) ?_
 show oF p e below (T82.setTop (mkF m 54 #[.val (.ref b), .val (.int m_), .val (.int N), .val (.int (m_ <<< ((0 : Int32) &&& 31))), .val (.int ((m_ <<< ((0 : Int32) &&& 31)) - N)), .val (.int (N + (o_mx ((m_ <<< ((0 : Int32) &&& 31)) - N) (N + (2 : Int32)))))] [(.ref b), (.int (N + (o_mx ((m_ <<< ((0 : Int32) &&& 31)) - N) (N + (2 : Int32)))))])) _
 obtain ⟨T83, X83, e83, st83⟩ := getF X82 hx hZ hown (host := "") (Or.inl (ow hw 63)) Via.refl e82 j1_ (g := (mkF m 54 #[.val (.ref b), .val (.int m_), .val (.int N), .val (.int (m_ <<< ((0 : Int32) &&& 31))), .val (.int ((m_ <<< ((0 : Int32) &&& 31)) - N)), .val (.int (N + (o_mx ((m_ <<< ((0 : Int32) &&& 31)) - N) (N + (2 : Int32)))))] [(.ref b), (.int (N + (o_mx ((m_ <<< ((0 : Int32) &&& 31)) - N) (N + (2 : Int32)))))])) rfl rfl (B d15_54)
 refine oG st83 ?_
 show oF p e below (T83.setTop (mkF m 57 #[.val (.ref b), .val (.int m_), .val (.int N), .val (.int (m_ <<< ((0 : Int32) &&& 31))), .val (.int ((m_ <<< ((0 : Int32) &&& 31)) - N)), .val (.int (N + (o_mx ((m_ <<< ((0 : Int32) &&& 31)) - N) (N + (2 : Int32)))))] [(.int 0), (.int (N + (o_mx ((m_ <<< ((0 : Int32) &&& 31)) - N) (N + (2 : Int32)))))])) _
 refine oG (fun _ k => XS.ishr X83.here hx rfl (B d15_57) rfl k) ?_
 show oF p e below (T83.setTop (mkF m 58 #[.val (.ref b), .val (.int m_), .val (.int N), .val (.int (m_ <<< ((0 : Int32) &&& 31))), .val (.int ((m_ <<< ((0 : Int32) &&& 31)) - N)), .val (.int (N + (o_mx ((m_ <<< ((0 : Int32) &&& 31)) - N) (N + (2 : Int32)))))] [(.int ((N + (o_mx ((m_ <<< ((0 : Int32) &&& 31)) - N) (N + (2 : Int32)))) >>> ((0 : Int32) &&& 31)))])) _
 obtain ⟨fs, hr, r1, r2, hW, r3⟩ := X83.leave (v := some (.int ((N + (o_mx ((m_ <<< ((0 : Int32) &&& 31)) - N) (N + (2 : Int32)))) >>> ((0 : Int32) &&& 31)))) (fun h => by rw [Bd.returns] at h; cases h)
 refine ⟨_, _, ?_, r1, r2, _, _, rfl, ?_, ⟨_, rfl⟩, hW, r3.mono (by decide) (by decide)⟩
 ·exact o_retI X83 hx Bd.returns (B d15_58) hr
 ·show Qnc0 Z N2 h0 n0 _ T83.heap _
  rw [e83]
  exact ⟨(by rw [(o_g10 hgr).2.2.2]), N82, rfl⟩
def Qnc1 (Z : State) (N2 : Int32) (h0 : Heap) (n0 : Nat) (v : Option Value) (h : Heap) (L : List Loc) : Prop := v = some (.int N2) ∧ Fr n0 L ∧ h = h0
theorem nc1 (l : Launch) (Z : State) (a0 : Array Value) (hw : ∀ d ∈ tables_1, d.before a0 Z = true) (ws : List Jvm.Cond) (b : Addr) (m_ : Int32) (t : Addr) (kt : ClassId) (N : Int32) (N2 : Int32) (vs : List Value) (h0 : Heap) (n0 : Nat) (O : Old Z n0 h0) (j2_ : fL0 Z h0 b (.ref t)) (j1_ : fL2 Z h0 b (.int 1)) (V_t : Arv Z h0 t kt .byte (N <<< ((1 : Int32) &&& 31)) vs (.int 0)) (hgr : o_gr N N2 m_) :
   o_MF l Z mN16 jdk_68_method_10_code 6 (some .int) ws rM2 #[(.ref b), (.int m_)] h0 (Qnc1 Z N2 h0 n0) := by
 refine MetFree.of_bodySF (plainFor_of_name pn_4) hisR ?_
 intro p e s m args below meth c s₁ Bd hml0 hP hK
 obtain ⟨rfl, hZ, hh⟩ := hP
 have hx := Bd.exec
 have hby := Bd.bytes
 have B := @hb _ _ hby
 have hml : c.maxLocals = 6 := hml0
 have hown : s.vm.findClass "java/lang/AbstractStringBuilder" = some m.cls := findClass_of_methodNamed Bd.named
 have X0 : Stand p l e rM2 s m #[(.ref b), (.int m_)] below meth c s₁ [] 0 0 := Stand.of_body Bd
 have e0 : s₁.heap = h0 := by rw [← hh, Bd.state]; rfl
 have N0 := Fr.nil n0
 refine o_start (ef_nc0 m b m_) (Q := o_QE s rM2 (Qnc1 Z N2 h0 n0)) ?_
 show oF p e below (s₁.setTop (mkF m 0 #[.val (.ref b), .val (.int m_), .unset, .unset, .unset, .unset] [])) _
 refine oG (fun _ k => XS.aloadN X0.here hx rfl (B d15_0) rfl rfl k) ?_
 show oF p e below (s₁.setTop (mkF m 1 #[.val (.ref b), .val (.int m_), .unset, .unset, .unset, .unset] [(.ref b)])) _
 obtain ⟨T85, X85, e85, st85⟩ := getF X0 hx hZ hown (host := "") (Or.inl (ow hw 61)) Via.refl e0 j2_ (g := (mkF m 1 #[.val (.ref b), .val (.int m_), .unset, .unset, .unset, .unset] [(.ref b)])) rfl rfl (B d15_1)
 refine oG st85 ?_
 show oF p e below (T85.setTop (mkF m 4 #[.val (.ref b), .val (.int m_), .unset, .unset, .unset, .unset] [(.ref t)])) _
 obtain ⟨cl86, A86, -, S86, M86, -, -⟩ := id V_t
 refine oG (fun _ k => X85.arraylength hx (o_eqE e85 A86.1) (State.isArrayOf_alike hZ.alike A86.2.1) (g := (mkF m 4 #[.val (.ref b), .val (.int m_), .unset, .unset, .unset, .unset] [(.ref t)])) rfl rfl (B d15_4) _ (by rw [len_of S86 M86]; exact k)) ?_
 show oF p e below (T85.setTop (mkF m 5 #[.val (.ref b), .val (.int m_), .unset, .unset, .unset, .unset] [(.int (N <<< ((1 : Int32) &&& 31)))])) _
 refine oG (fun _ k => XS.istoreN X85.here hx rfl (B d15_5) rfl (l' := #[.val (.ref b), .val (.int m_), .val (.int (N <<< ((1 : Int32) &&& 31))), .unset, .unset, .unset]) rfl (XS.iloadN X85.here hx rfl (B d15_6) rfl (XS.aloadN X85.here hx rfl (B d15_7) rfl rfl k))) ?_
 show oF p e below (T85.setTop (mkF m 8 #[.val (.ref b), .val (.int m_), .val (.int (N <<< ((1 : Int32) &&& 31))), .unset, .unset, .unset] [(.ref b), (.int m_)])) _
 obtain ⟨T87, X87, e87, st87⟩ := getF X85 hx hZ hown (host := "") (Or.inl (ow hw 63)) Via.refl e85 j1_ (g := (mkF m 8 #[.val (.ref b), .val (.int m_), .val (.int (N <<< ((1 : Int32) &&& 31))), .unset, .unset, .unset] [(.ref b), (.int m_)])) rfl rfl (B d15_8)
 refine oG st87 ?_
 show oF p e below (T87.setTop (mkF m 11 #[.val (.ref b), .val (.int m_), .val (.int (N <<< ((1 : Int32) &&& 31))), .unset, .unset, .unset] [(.int 1), (.int m_)])) _
 refine oG (fun _ k => XS.ishl X87.here hx rfl (B d15_11) rfl (XS.istoreN X87.here hx rfl (B d15_12) rfl (l' := #[.val (.ref b), .val (.int m_), .val (.int (N <<< ((1 : Int32) &&& 31))), .val (.int (m_ <<< ((1 : Int32) &&& 31))), .unset, .unset]) rfl (XS.iloadN X87.here hx rfl (B d15_13) rfl (XS.iloadN X87.here hx rfl (B d15_14) rfl (XS.isub X87.here hx rfl (B d15_15) rfl (XS.istore X87.here hx rfl (B d15_16) rfl (l' := #[.val (.ref b), .val (.int m_), .val (.int (N <<< ((1 : Int32) &&& 31))), .val (.int (m_ <<< ((1 : Int32) &&& 31))), .val (.int ((m_ <<< ((1 : Int32) &&& 31)) - (N <<< ((1 : Int32) &&& 31)))), .unset]) rfl (XS.iloadN X87.here hx rfl (B d15_18) rfl (XS.iload X87.here hx rfl (B d15_19) rfl (XS.iloadN X87.here hx rfl (B d15_21) rfl (XS.iconst X87.here hx rfl (B d15_22) k)))))))))) ?_
 show oF p e below (T87.setTop (mkF m 23 #[.val (.ref b), .val (.int m_), .val (.int (N <<< ((1 : Int32) &&& 31))), .val (.int (m_ <<< ((1 : Int32) &&& 31))), .val (.int ((m_ <<< ((1 : Int32) &&& 31)) - (N <<< ((1 : Int32) &&& 31)))), .unset] [(.int 2), (.int (N <<< ((1 : Int32) &&& 31))), (.int ((m_ <<< ((1 : Int32) &&& 31)) - (N <<< ((1 : Int32) &&& 31)))), (.int (N <<< ((1 : Int32) &&& 31)))])) _
 refine oG (fun _ k => XS.aloadN X87.here hx rfl (B d15_23) rfl rfl k) ?_
 show oF p e below (T87.setTop (mkF m 24 #[.val (.ref b), .val (.int m_), .val (.int (N <<< ((1 : Int32) &&& 31))), .val (.int (m_ <<< ((1 : Int32) &&& 31))), .val (.int ((m_ <<< ((1 : Int32) &&& 31)) - (N <<< ((1 : Int32) &&& 31)))), .unset] [(.ref b), (.int 2), (.int (N <<< ((1 : Int32) &&& 31))), (.int ((m_ <<< ((1 : Int32) &&& 31)) - (N <<< ((1 : Int32) &&& 31)))), (.int (N <<< ((1 : Int32) &&& 31)))])) _
 obtain ⟨T88, X88, e88, st88⟩ := getF X87 hx hZ hown (host := "") (Or.inl (ow hw 63)) Via.refl e87 j1_ (g := (mkF m 24 #[.val (.ref b), .val (.int m_), .val (.int (N <<< ((1 : Int32) &&& 31))), .val (.int (m_ <<< ((1 : Int32) &&& 31))), .val (.int ((m_ <<< ((1 : Int32) &&& 31)) - (N <<< ((1 : Int32) &&& 31)))), .unset] [(.ref b), (.int 2), (.int (N <<< ((1 : Int32) &&& 31))), (.int ((m_ <<< ((1 : Int32) &&& 31)) - (N <<< ((1 : Int32) &&& 31)))), (.int (N <<< ((1 : Int32) &&& 31)))])) rfl rfl (B d15_24)
 refine oG st88 ?_
 show oF p e below (T88.setTop (mkF m 27 #[.val (.ref b), .val (.int m_), .val (.int (N <<< ((1 : Int32) &&& 31))), .val (.int (m_ <<< ((1 : Int32) &&& 31))), .val (.int ((m_ <<< ((1 : Int32) &&& 31)) - (N <<< ((1 : Int32) &&& 31)))), .unset] [(.int 1), (.int 2), (.int (N <<< ((1 : Int32) &&& 31))), (.int ((m_ <<< ((1 : Int32) &&& 31)) - (N <<< ((1 : Int32) &&& 31)))), (.int (N <<< ((1 : Int32) &&& 31)))])) _
 refine oG (fun _ k => XS.ishl X88.here hx rfl (B d15_27) rfl (XS.iadd X88.here hx rfl (B d15_28) rfl k)) ?_
 show oF p e below (T88.setTop (mkF m 29 #[.val (.ref b), .val (.int m_), .val (.int (N <<< ((1 : Int32) &&& 31))), .val (.int (m_ <<< ((1 : Int32) &&& 31))), .val (.int ((m_ <<< ((1 : Int32) &&& 31)) - (N <<< ((1 : Int32) &&& 31)))), .unset] [(.int ((N <<< ((1 : Int32) &&& 31)) + (4 : Int32))), (.int ((m_ <<< ((1 : Int32) &&& 31)) - (N <<< ((1 : Int32) &&& 31)))), (.int (N <<< ((1 : Int32) &&& 31)))])) _
 obtain ⟨_, _, ⟨T89, L89, k89, n89⟩, -, X89, ⟨Lc89, hQ89, l89, y89, z89⟩, st89⟩ := Jvm.LawKit.callS X88 hx (y := mN15) hown (mo hZ hw 99) (mo hZ hw 100) (mo hZ hw 101) (mo hZ hw 102) (by decide) (backOf (W := 0) (nle l Z a0 hw [] (N <<< ((1 : Int32) &&& 31)) ((m_ <<< ((1 : Int32) &&& 31)) - (N <<< ((1 : Int32) &&& 31))) ((N <<< ((1 : Int32) &&& 31)) + (4 : Int32)) h0 n0 (o_g11 hgr).1 (o_g11 hgr).2.1) hZ (ow hw 102) (ow hw 101) (by decide) (by decide)) (g := (mkF m 29 #[.val (.ref b), .val (.int m_), .val (.int (N <<< ((1 : Int32) &&& 31))), .val (.int (m_ <<< ((1 : Int32) &&& 31))), .val (.int ((m_ <<< ((1 : Int32) &&& 31)) - (N <<< ((1 : Int32) &&& 31)))), .unset] [(.int ((N <<< ((1 : Int32) &&& 31)) + (4 : Int32))), (.int ((m_ <<< ((1 : Int32) &&& 31)) - (N <<< ((1 : Int32) &&& 31)))), (.int (N <<< ((1 : Int32) &&& 31)))])) rfl (by rw [hml]; rfl) (argsL := [(.int (N <<< ((1 : Int32) &&& 31))), (.int ((m_ <<< ((1 : Int32) &&& 31)) - (N <<< ((1 : Int32) &&& 31)))), (.int ((N <<< ((1 : Int32) &&& 31)) + (4 : Int32)))]) (rest := []) (lenOf pd_2 rfl) rfl (by show 2 * 0 + _ ≤ _; exact Nat.le_of_eq rfl) (B d15_29) (fun _ _ => ⟨rfl, e88, (by decide : 0 + 0 ≤ _), (by decide : 0 + 0 ≤ _)⟩)
 dsimp only [Pt.U, Pt.locs, Pt.cells, Pt.slots] at X89 l89 y89 z89 st89 hQ89
 subst y89 z89
 obtain ⟨rfl, N89q, e89⟩ := hQ89
 refine oG st89 ?_
 have N89 := oL l89 (Fr.app N0 N89q)
 show oF p e below (T89.setTop (mkF m 32 #[.val (.ref b), .val (.int m_), .val (.int (N <<< ((1 : Int32) &&& 31))), .val (.int (m_ <<< ((1 : Int32) &&& 31))), .val (.int ((m_ <<< ((1 : Int32) &&& 31)) - (N <<< ((1 : Int32) &&& 31)))), .unset] [(.int ((N <<< ((1 : Int32) &&& 31)) + (o_mx ((m_ <<< ((1 : Int32) &&& 31)) - (N <<< ((1 : Int32) &&& 31))) ((N <<< ((1 : Int32) &&& 31)) + (4 : Int32)))))])) _
 refine oG (fun _ k => XS.istore X89.here hx rfl (B d15_32) rfl (l' := #[.val (.ref b), .val (.int m_), .val (.int (N <<< ((1 : Int32) &&& 31))), .val (.int (m_ <<< ((1 : Int32) &&& 31))), .val (.int ((m_ <<< ((1 : Int32) &&& 31)) - (N <<< ((1 : Int32) &&& 31)))), .val (.int ((N <<< ((1 : Int32) &&& 31)) + (o_mx ((m_ <<< ((1 : Int32) &&& 31)) - (N <<< ((1 : Int32) &&& 31))) ((N <<< ((1 : Int32) &&& 31)) + (4 : Int32)))))]) rfl (XS.iload X89.here hx rfl (B d15_34) rfl k)) ?_
 show oF p e below (T89.setTop (mkF m 36 #[.val (.ref b), .val (.int m_), .val (.int (N <<< ((1 : Int32) &&& 31))), .val (.int (m_ <<< ((1 : Int32) &&& 31))), .val (.int ((m_ <<< ((1 : Int32) &&& 31)) - (N <<< ((1 : Int32) &&& 31)))), .val (.int ((N <<< ((1 : Int32) &&& 31)) + (o_mx ((m_ <<< ((1 : Int32) &&& 31)) - (N <<< ((1 : Int32) &&& 31))) ((N <<< ((1 : Int32) &&& 31)) + (4 : Int32)))))] [(.int ((N <<< ((1 : Int32) &&& 31)) + (o_mx ((m_ <<< ((1 : Int32) &&& 31)) - (N <<< ((1 : Int32) &&& 31))) ((N <<< ((1 : Int32) &&& 31)) + (4 : Int32)))))])) _
 refine oG (fun _ k => X89.ldcInt hx hown (mo hZ hw 108) (g := (mkF m 36 #[.val (.ref b), .val (.int m_), .val (.int (N <<< ((1 : Int32) &&& 31))), .val (.int (m_ <<< ((1 : Int32) &&& 31))), .val (.int ((m_ <<< ((1 : Int32) &&& 31)) - (N <<< ((1 : Int32) &&& 31)))), .val (.int ((N <<< ((1 : Int32) &&& 31)) + (o_mx ((m_ <<< ((1 : Int32) &&& 31)) - (N <<< ((1 : Int32) &&& 31))) ((N <<< ((1 : Int32) &&& 31)) + (4 : Int32)))))] [(.int ((N <<< ((1 : Int32) &&& 31)) + (o_mx ((m_ <<< ((1 : Int32) &&& 31)) - (N <<< ((1 : Int32) &&& 31))) ((N <<< ((1 : Int32) &&& 31)) + (4 : Int32)))))])) rfl (B d15_36) _ k) ?_
 show oF p e below (T89.setTop (mkF m 38 #[.val (.ref b), .val (.int m_), .val (.int (N <<< ((1 : Int32) &&& 31))), .val (.int (m_ <<< ((1 : Int32) &&& 31))), .val (.int ((m_ <<< ((1 : Int32) &&& 31)) - (N <<< ((1 : Int32) &&& 31)))), .val (.int ((N <<< ((1 : Int32) &&& 31)) + (o_mx ((m_ <<< ((1 : Int32) &&& 31)) - (N <<< ((1 : Int32) &&& 31))) ((N <<< ((1 : Int32) &&& 31)) + (4 : Int32)))))] [(.int 2147483647), (.int ((N <<< ((1 : Int32) &&& 31)) + (o_mx ((m_ <<< ((1 : Int32) &&& 31)) - (N <<< ((1 : Int32) &&& 31))) ((N <<< ((1 : Int32) &&& 31)) + (4 : Int32)))))])) _
 refine oG (fun _ k => XS.icmpYes X89.here hx rfl (pc0 := 38) (pc' := 51) rfl (B d15_38) rfl (feq (((o_g11 hgr).2.2.1) : ¬ (((N <<< ((1 : Int32) &&& 31)) + (o_mx ((m_ <<< ((1 : Int32) &&& 31)) - (N <<< ((1 : Int32) &&& 31))) ((N <<< ((1 : Int32) &&& 31)) + (4 : Int32)))) = (2147483647 : Int32)))).2 (by decide) (by decide) (XS.iload X89.here hx rfl (B d15_51) rfl (XS.aloadN X89.here hx rfl (B d15_53) rfl rfl k))) ?_
 show oF p e below (T89.setTop (mkF m 54 #[.val (.ref b), .val (.int m_), .val (.int (N <<< ((1 : Int32) &&& 31))), .val (.int (m_ <<< ((1 : Int32) &&& 31))), .val (.int ((m_ <<< ((1 : Int32) &&& 31)) - (N <<< ((1 : Int32) &&& 31)))), .val (.int ((N <<< ((1 : Int32) &&& 31)) + (o_mx ((m_ <<< ((1 : Int32) &&& 31)) - (N <<< ((1 : Int32) &&& 31))) ((N <<< ((1 : Int32) &&& 31)) + (4 : Int32)))))] [(.ref b), (.int ((N <<< ((1 : Int32) &&& 31)) + (o_mx ((m_ <<< ((1 : Int32) &&& 31)) - (N <<< ((1 : Int32) &&& 31))) ((N <<< ((1 : Int32) &&& 31)) + (4 : Int32)))))])) _
 obtain ⟨T90, X90, e90, st90⟩ := getF X89 hx hZ hown (host := "") (Or.inl (ow hw 63)) Via.refl e89 j1_ (g := (mkF m 54 #[.val (.ref b), .val (.int m_), .val (.int (N <<< ((1 : Int32) &&& 31))), .val (.int (m_ <<< ((1 : Int32) &&& 31))), .val (.int ((m_ <<< ((1 : Int32) &&& 31)) - (N <<< ((1 : Int32) &&& 31)))), .val (.int ((N <<< ((1 : Int32) &&& 31)) + (o_mx ((m_ <<< ((1 : Int32) &&& 31)) - (N <<< ((1 : Int32) &&& 31))) ((N <<< ((1 : Int32) &&& 31)) + (4 : Int32)))))] [(.ref b), (.int ((N <<< ((1 : Int32) &&& 31)) + (o_mx ((m_ <<< ((1 : Int32) &&& 31)) - (N <<< ((1 : Int32) &&& 31))) ((N <<< ((1 : Int32) &&& 31)) + (4 : Int32)))))])) rfl rfl (B d15_54)
 refine oG st90 ?_
 show oF p e below (T90.setTop (mkF m 57 #[.val (.ref b), .val (.int m_), .val (.int (N <<< ((1 : Int32) &&& 31))), .val (.int (m_ <<< ((1 : Int32) &&& 31))), .val (.int ((m_ <<< ((1 : Int32) &&& 31)) - (N <<< ((1 : Int32) &&& 31)))), .val (.int ((N <<< ((1 : Int32) &&& 31)) + (o_mx ((m_ <<< ((1 : Int32) &&& 31)) - (N <<< ((1 : Int32) &&& 31))) ((N <<< ((1 : Int32) &&& 31)) + (4 : Int32)))))] [(.int 1), (.int ((N <<< ((1 : Int32) &&& 31)) + (o_mx ((m_ <<< ((1 : Int32) &&& 31)) - (N <<< ((1 : Int32) &&& 31))) ((N <<< ((1 : Int32) &&& 31)) + (4 : Int32)))))])) _
 refine oG (fun _ k => XS.ishr X90.here hx rfl (B d15_57) rfl k) ?_
 show oF p e below (T90.setTop (mkF m 58 #[.val (.ref b), .val (.int m_), .val (.int (N <<< ((1 : Int32) &&& 31))), .val (.int (m_ <<< ((1 : Int32) &&& 31))), .val (.int ((m_ <<< ((1 : Int32) &&& 31)) - (N <<< ((1 : Int32) &&& 31)))), .val (.int ((N <<< ((1 : Int32) &&& 31)) + (o_mx ((m_ <<< ((1 : Int32) &&& 31)) - (N <<< ((1 : Int32) &&& 31))) ((N <<< ((1 : Int32) &&& 31)) + (4 : Int32)))))] [(.int (((N <<< ((1 : Int32) &&& 31)) + (o_mx ((m_ <<< ((1 : Int32) &&& 31)) - (N <<< ((1 : Int32) &&& 31))) ((N <<< ((1 : Int32) &&& 31)) + (4 : Int32)))) >>> ((1 : Int32) &&& 31)))])) _
 obtain ⟨fs, hr, r1, r2, hW, r3⟩ := X90.leave (v := some (.int (((N <<< ((1 : Int32) &&& 31)) + (o_mx ((m_ <<< ((1 : Int32) &&& 31)) - (N <<< ((1 : Int32) &&& 31))) ((N <<< ((1 : Int32) &&& 31)) + (4 : Int32)))) >>> ((1 : Int32) &&& 31)))) (fun h => by rw [Bd.returns] at h; cases h)
 refine ⟨_, _, ?_, r1, r2, _, _, rfl, ?_, ⟨_, rfl⟩, hW, r3.mono (by decide) (by decide)⟩
 ·exact o_retI X90 hx Bd.returns (B d15_58) hr
 ·show Qnc1 Z N2 h0 n0 _ T90.heap _
  rw [e90]
  exact ⟨(by rw [(o_g11 hgr).2.2.2]), N89, rfl⟩
theorem d18_0 : decode k17_ 0 = .ok (.iload_n 1, 1) := by decide +kernel
theorem d18_1 : decode k17_ 1 = .ok (.aload_n 0, 1) := by decide +kernel
theorem d18_2 : decode k17_ 2 = .ok (.arraylength, 1) := by decide +kernel
theorem d18_3 : decode k17_ 3 = .ok (.if_icmp .ne 11, 3) := by decide +kernel
theorem d18_14 : decode k17_ 14 = .ok (.iload_n 1, 1) := by decide +kernel
theorem d18_15 : decode k17_ 15 = .ok (.newarray .byte, 2) := by decide +kernel
theorem d18_17 : decode k17_ 17 = .ok (.astore_n 2, 1) := by decide +kernel
theorem d18_18 : decode k17_ 18 = .ok (.aload_n 0, 1) := by decide +kernel
theorem d18_19 : decode k17_ 19 = .ok (.iconst 0, 1) := by decide +kernel
theorem d18_20 : decode k17_ 20 = .ok (.aload_n 2, 1) := by decide +kernel
theorem d18_21 : decode k17_ 21 = .ok (.iconst 0, 1) := by decide +kernel
theorem d18_22 : decode k17_ 22 = .ok (.aload_n 0, 1) := by decide +kernel
theorem d18_23 : decode k17_ 23 = .ok (.arraylength, 1) := by decide +kernel
theorem d18_24 : decode k17_ 24 = .ok (.iload_n 1, 1) := by decide +kernel
theorem d18_25 : decode k17_ 25 = .ok (.invokestatic 304, 3) := by decide +kernel
theorem d18_28 : decode k17_ 28 = .ok (.invokestatic 150, 3) := by decide +kernel
theorem d18_31 : decode k17_ 31 = .ok (.aload_n 2, 1) := by decide +kernel
theorem d18_32 : decode k17_ 32 = .ok (.areturn, 1) := by decide +kernel
theorem pn_6 : plainName "java/util/Arrays" = true := by first | (simp [plainName, overriddenIn]; done) | decide +kernel
theorem ef_cof (m : MethodId) (x0 : Addr) (x1 : Int32) : entryFrame m #[(.ref x0), (.int x1)] 3 = mkF m 0 #[.val (.ref x0), .val (.int x1), .unset] [] := by first | (simp [entryFrame, mkF, argsToLocals, Value.category]; done) | rfl
def Qcof (Z : State) (mn : Int32) (vs : List Value) (h0 : Heap) (n0 : Nat) (v : Option Value) (h : Heap) (L : List Loc) : Prop := ∃ (b_ : Addr) (k_ : ClassId), v = some (.ref b_) ∧ Fr n0 L ∧ Keep h0 h [] ∧ h0.size ≤ b_ ∧ Arv Z h b_ k_ .byte mn vs (.int 0) ∧ eX0 Z h b_
theorem cof (l : Launch) (Z : State) (a0 : Array Value) (hw : ∀ d ∈ tables_1, d.before a0 Z = true) (ws : List Jvm.Cond) (a : Addr) (mn : Int32) (ka : ClassId) (M : Int32) (vs : List Value) (h0 : Heap) (n0 : Nat) (O : Old Z n0 h0) (V_a : Arv Z h0 a ka .byte M vs (.int 0)) (hM0 : ¬ M < 0) (hvl : vs.length ≤ M.toNatClampNeg) (hmm : ¬ (mn < M)) (hne : ¬ (mn = M)) (hm0 : ¬ (mn < 0)) (hmM : M.toNatClampNeg ≤ mn.toNatClampNeg) (hcap : mn.toNatClampNeg ≤ 140) :
   o_MF l Z mN17 jdk_65_method_121_code 3 (some (.array .byte)) ws rM10 #[(.ref a), (.int mn)] h0 (Qcof Z mn vs h0 n0) := by
 refine MetFree.of_bodySF (plainFor_of_name pn_6) hisR ?_
 intro p e s m args below meth c s₁ Bd hml0 hP hK
 obtain ⟨rfl, hZ, hh⟩ := hP
 have hx := Bd.exec
 have hby := Bd.bytes
 have B := @hb _ _ hby
 have hml : c.maxLocals = 3 := hml0
 have hown : s.vm.findClass "java/util/Arrays" = some m.cls := findClass_of_methodNamed Bd.named
 have X0 : Stand p l e rM10 s m #[(.ref a), (.int mn)] below meth c s₁ [] 0 0 := Stand.of_body Bd
 have e0 : s₁.heap = h0 := by rw [← hh, Bd.state]; rfl
 have N0 := Fr.nil n0
 have K0 := Keep.refl h0 []
 refine o_start (ef_cof m a mn) (Q := o_QE s rM10 (Qcof Z mn vs h0 n0)) ?_
 show oF p e below (s₁.setTop (mkF m 0 #[.val (.ref a), .val (.int mn), .unset] [])) _
 refine oG (fun _ k => XS.iloadN X0.here hx rfl (B d18_0) rfl (XS.aloadN X0.here hx rfl (B d18_1) rfl rfl k)) ?_
 show oF p e below (s₁.setTop (mkF m 2 #[.val (.ref a), .val (.int mn), .unset] [(.ref a), (.int mn)])) _
 obtain ⟨cl92, A92, -, S92, M92, -, -⟩ := id V_a
 refine oG (fun _ k => X0.arraylength hx (o_eqE e0 A92.1) (State.isArrayOf_alike hZ.alike A92.2.1) (g := (mkF m 2 #[.val (.ref a), .val (.int mn), .unset] [(.ref a), (.int mn)])) rfl rfl (B d18_2) _ (by rw [len_of S92 M92]; exact k)) ?_
 show oF p e below (s₁.setTop (mkF m 3 #[.val (.ref a), .val (.int mn), .unset] [(.int M), (.int mn)])) _
 refine oG (fun _ k => XS.icmpYes X0.here hx rfl (pc0 := 3) (pc' := 14) rfl (B d18_3) rfl (feq hne).2 (by decide) (by decide) (XS.iloadN X0.here hx rfl (B d18_14) rfl k)) ?_
 show oF p e below (s₁.setTop (mkF m 15 #[.val (.ref a), .val (.int mn), .unset] [(.int mn)])) _
 obtain ⟨T93, h93, k93, X93, e93, E93, A93, B93, st93⟩ := newPE X0 hx hZ (ow hw 27) e0 (g := (mkF m 15 #[.val (.ref a), .val (.int mn), .unset] [(.int mn)])) rfl (B d18_15) rfl hm0 (cap := 140) hcap (by decide) (by decide) (by decide) (ad := "[B") (by decide)
 obtain ⟨b93, g93⟩ : ∃ z, z = h0.size := ⟨_, rfl⟩
 rw [← g93] at A93 st93 B93
 refine oG st93 ?_
 have ne_a_b93 : a ≠ b93 := Nat.ne_of_lt (Nat.lt_of_lt_of_le V_a.lt (Nat.le_of_eq g93.symm))
 have g_b93 : n0 ≤ b93 := Nat.le_trans (o_osz O) (Nat.le_of_eq g93.symm)
 have j148_ : h0.size ≤ b93 := Nat.le_trans K0.1 (Nat.le_of_eq g93.symm)
 have V_a := V_a.ext E93
 have O := O.ext E93
 have K94 := K0.ext E93
 have E_b93 := B93
 have V_b93 : Arv Z h93 b93 k93 .byte mn [] (.int 0) := Arv.new A93 hm0
 show oF p e below (T93.setTop (mkF m 17 #[.val (.ref a), .val (.int mn), .unset] [(.ref b93)])) _
 refine oG (fun _ k => XS.astoreN X93.here hx rfl (B d18_17) rfl rfl (l' := #[.val (.ref a), .val (.int mn), .val (.ref b93)]) rfl (XS.aloadN X93.here hx rfl (B d18_18) rfl rfl (XS.iconst X93.here hx rfl (B d18_19) (XS.aloadN X93.here hx rfl (B d18_20) rfl rfl (XS.iconst X93.here hx rfl (B d18_21) (XS.aloadN X93.here hx rfl (B d18_22) rfl rfl k)))))) ?_
 show oF p e below (T93.setTop (mkF m 23 #[.val (.ref a), .val (.int mn), .val (.ref b93)] [(.ref a), (.int 0), (.ref b93), (.int 0), (.ref a)])) _
 obtain ⟨cl95, A95, -, S95, M95, -, -⟩ := id V_a
 refine oG (fun _ k => X93.arraylength hx (o_eqE e93 A95.1) (State.isArrayOf_alike hZ.alike A95.2.1) (g := (mkF m 23 #[.val (.ref a), .val (.int mn), .val (.ref b93)] [(.ref a), (.int 0), (.ref b93), (.int 0), (.ref a)])) rfl rfl (B d18_23) _ (by rw [len_of S95 M95]; exact k)) ?_
 show oF p e below (T93.setTop (mkF m 24 #[.val (.ref a), .val (.int mn), .val (.ref b93)] [(.int M), (.int 0), (.ref b93), (.int 0), (.ref a)])) _
 refine oG (fun _ k => XS.iloadN X93.here hx rfl (B d18_24) rfl k) ?_
 show oF p e below (T93.setTop (mkF m 25 #[.val (.ref a), .val (.int mn), .val (.ref b93)] [(.int mn), (.int M), (.int 0), (.ref b93), (.int 0), (.ref a)])) _
 obtain ⟨_, _, ⟨T96, L96, k96, n96⟩, -, X96, ⟨Lc96, hQ96, l96, y96, z96⟩, st96⟩ := Jvm.LawKit.callS X93 hx (y := mN14) hown (mo hZ hw 113) (mo hZ hw 114) (mo hZ hw 105) (mo hZ hw 115) (by decide) (backOf (W := 4) (mnn l Z a0 hw [] M mn h93 n0 ) hZ (ow hw 115) (ow hw 105) (by decide) (by decide)) (g := (mkF m 25 #[.val (.ref a), .val (.int mn), .val (.ref b93)] [(.int mn), (.int M), (.int 0), (.ref b93), (.int 0), (.ref a)])) rfl (by rw [hml]; rfl) (argsL := [(.int M), (.int mn)]) (rest := [(.int 0), (.ref b93), (.int 0), (.ref a)]) (lenOf pd_10 rfl) rfl (by show 2 * 0 + _ ≤ _; exact Nat.le_of_eq rfl) (B d18_25) (fun _ _ => ⟨rfl, e93, (by decide : 1 + 0 ≤ _), (by decide : 140 + 0 ≤ _)⟩)
 dsimp only [Pt.U, Pt.locs, Pt.cells, Pt.slots] at X96 l96 y96 z96 st96 hQ96
 subst y96 z96
 obtain ⟨rfl, N96q, e96⟩ := hQ96
 refine oG st96 ?_
 have N96 := oL l96 (Fr.app N0 N96q)
 show oF p e below (T96.setTop (mkF m 28 #[.val (.ref a), .val (.int mn), .val (.ref b93)] [(.int (o_mn M mn)), (.int 0), (.ref b93), (.int 0), (.ref a)])) _
 rw [show o_mn M mn = M from if_neg hmm]
 have V_b93 := V_b93.pad (pad_rep [] (.int 0) mn.toNatClampNeg)
 show oF p e below (T96.setTop (mkF m 28 #[.val (.ref a), .val (.int mn), .val (.ref b93)] [(.int M), (.int 0), (.ref b93), (.int 0), (.ref a)])) _
 obtain ⟨T97, h97, L97, X97, e97, Nq97, Kq97, V97, st97⟩ := cpA X96 hx hZ hown (ow hw 116) (ow hw 119) (ow hw 117) (ow hw 118) e96 V_a V_b93 (Or.inl ⟨rfl, rfl⟩) (by decide) (by decide) hM0 (by rw [show (0 : Int32).toNatClampNeg = 0 from by decide]; omega) (by rw [show (0 : Int32).toNatClampNeg = 0 from by decide]; omega) (sp := (0 : Int32)) (dp := (0 : Int32)) (us := vs ++ List.replicate (M.toNatClampNeg - vs.length) (.int 0)) (o_usx vs _ _ hvl) (by rw [show (0 : Int32).toNatClampNeg = 0 from by decide]; simp <;> omega) N96 g_b93 (g := (mkF m 28 #[.val (.ref a), .val (.int mn), .val (.ref b93)] [(.int M), (.int 0), (.ref b93), (.int 0), (.ref a)])) rfl (by rw [hml]; rfl) rfl (B d18_28) (by decide) (W := 0) (by show 2 * 0 + _ ≤ _; exact Nat.le_of_eq rfl) (by decide)
 refine oG st97 ?_
 have V_a := V_a.keep Kq97 (ninS ne_a_b93 nin0)
 have E_b93 := E_b93.keep Kq97
 have O := O.keep Kq97 (allS g_b93 all0)
 have K98 := K94.trans Kq97 (allS (Or.inr j148_) all0)
 have V_b93 : Arv Z h97 b93 k93 .byte mn vs (.int 0) := V97.pad (o_cpz vs _ _ _)
 show oF p e below (T97.setTop (mkF m 31 #[.val (.ref a), .val (.int mn), .val (.ref b93)] [])) _
 refine oG (fun _ k => XS.aloadN X97.here hx rfl (B d18_31) rfl rfl k) ?_
 show oF p e below (T97.setTop (mkF m 32 #[.val (.ref a), .val (.int mn), .val (.ref b93)] [(.ref b93)])) _
 obtain ⟨fs, hr, r1, r2, hW, r3⟩ := X97.leave (v := some (.ref b93)) (fun h => by rw [Bd.returns] at h; cases h)
 refine ⟨_, _, ?_, r1, r2, _, _, rfl, ?_, ⟨_, rfl⟩, hW, r3.mono (by decide) (by decide)⟩
 ·exact X97.areturnOut hx rfl Bd.returns rfl (B d18_32) hr
 ·show Qcof Z mn vs h0 n0 _ T97.heap _
  rw [e97]
  exact ⟨b93, k93, rfl, Nq97, K98, j148_, V_b93, E_b93⟩
theorem o_cg0 {N N2 m : Int32} {cs : List Int32} (h : o_gr N N2 m) (hl : (cs.length : Int) ≤ N.toInt) : ¬ N < 0 ∧ (o_u8 cs).length ≤ N.toNatClampNeg ∧ ¬ (N2 < N) ∧ ¬ (N2 = N) ∧ ¬ (N2 < 0) ∧ N.toNatClampNeg ≤ N2.toNatClampNeg ∧ N2.toNatClampNeg ≤ 140 := by
 have g := o_g2 h
 have a := o_cn (N := N) (by omega)
 have b := o_cn (N := N2) (by omega)
 refine ⟨o_nn (by omega), by rw [o_u8l]; omega, by rw [Int32.lt_iff_toInt_lt]; omega, by rw [← Int32.toInt_inj]; omega, o_nn (by omega), by omega, by omega⟩
theorem o_cg1 {N N2 m : Int32} {cs : List Int32} (h : o_gr N N2 m) (hl : (cs.length : Int) ≤ N.toInt) : ¬ (N <<< ((1 : Int32) &&& 31)) < 0 ∧ (o_u16 cs).length ≤ (N <<< ((1 : Int32) &&& 31)).toNatClampNeg ∧ ¬ ((N2 <<< ((1 : Int32) &&& 31)) < (N <<< ((1 : Int32) &&& 31))) ∧ ¬ ((N2 <<< ((1 : Int32) &&& 31)) = (N <<< ((1 : Int32) &&& 31))) ∧ ¬ ((N2 <<< ((1 : Int32) &&& 31)) < 0) ∧ (N <<< ((1 : Int32) &&& 31)).toNatClampNeg ≤ (N2 <<< ((1 : Int32) &&& 31)).toNatClampNeg ∧ (N2 <<< ((1 : Int32) &&& 31)).toNatClampNeg ≤ 140 := by
 have g := o_g2 h
 have c := o_x2i (N := N) (by omega) (by omega)
 have d := o_x2i (N := N2) (by omega) (by omega)
 have a := o_cn (N := N <<< ((1 : Int32) &&& 31)) (by omega)
 have b := o_cn (N := N2 <<< ((1 : Int32) &&& 31)) (by omega)
 refine ⟨o_nn (by omega), by rw [o_u16l]; omega, by rw [Int32.lt_iff_toInt_lt]; omega, by rw [← Int32.toInt_inj]; omega, o_nn (by omega), by omega, by omega⟩
theorem d14_0 : decode k18_ 0 = .ok (.aload_n 0, 1) := by decide +kernel
theorem d14_1 : decode k18_ 1 = .ok (.getfield 15, 3) := by decide +kernel
theorem d14_4 : decode k18_ 4 = .ok (.arraylength, 1) := by decide +kernel
theorem d14_5 : decode k18_ 5 = .ok (.aload_n 0, 1) := by decide +kernel
theorem d14_6 : decode k18_ 6 = .ok (.getfield 22, 3) := by decide +kernel
theorem d14_9 : decode k18_ 9 = .ok (.ishr, 1) := by decide +kernel
theorem d14_10 : decode k18_ 10 = .ok (.istore_n 2, 1) := by decide +kernel
theorem d14_11 : decode k18_ 11 = .ok (.iload_n 1, 1) := by decide +kernel
theorem d14_12 : decode k18_ 12 = .ok (.iload_n 2, 1) := by decide +kernel
theorem d14_13 : decode k18_ 13 = .ok (.isub, 1) := by decide +kernel
theorem d14_14 : decode k18_ 14 = .ok (.ifCond .le 24, 3) := by decide +kernel
theorem d14_38 : decode k18_ 38 = .ok (.return_, 1) := by decide +kernel
theorem d14_17 : decode k18_ 17 = .ok (.aload_n 0, 1) := by decide +kernel
theorem d14_18 : decode k18_ 18 = .ok (.aload_n 0, 1) := by decide +kernel
theorem d14_19 : decode k18_ 19 = .ok (.getfield 15, 3) := by decide +kernel
theorem d14_22 : decode k18_ 22 = .ok (.aload_n 0, 1) := by decide +kernel
theorem d14_23 : decode k18_ 23 = .ok (.iload_n 1, 1) := by decide +kernel
theorem d14_24 : decode k18_ 24 = .ok (.invokevirtual 104, 3) := by decide +kernel
theorem d14_27 : decode k18_ 27 = .ok (.aload_n 0, 1) := by decide +kernel
theorem d14_28 : decode k18_ 28 = .ok (.getfield 22, 3) := by decide +kernel
theorem d14_31 : decode k18_ 31 = .ok (.ishl, 1) := by decide +kernel
theorem d14_32 : decode k18_ 32 = .ok (.invokestatic 108, 3) := by decide +kernel
theorem pd_11 : parseMethodDescriptor "([BI)[B" = some ⟨[(.array .byte), .int], some (.array .byte)⟩ := by decide +kernel
theorem d14_35 : decode k18_ 35 = .ok (.putfield 15, 3) := by decide +kernel
def Qec (Z : State) (b : Addr) (t : Addr) (cn : Int32) (cs : List Int32) (N2 : Int32) (h0 : Heap) (n0 : Nat) (v : Option Value) (h : Heap) (L : List Loc) : Prop := ∃ (t2_ : Addr) (k2_ : ClassId), v = none ∧ Fr n0 L ∧ Keep h0 h [b] ∧ (t2_ = t ∨ h0.size ≤ t2_) ∧ n0 ≤ t2_ ∧ b ≠ t2_ ∧ eX1 Z h b ∧ fL5 Z h b (.int cn) ∧ eX0 Z h t2_ ∧ o_SB Z h b t2_ k2_ N2 cs
theorem ec (l : Launch) (Z : State) (a0 : Array Value) (hw : ∀ d ∈ tables_1, d.before a0 Z = true) (ws : List Jvm.Cond) (b : Addr) (m_ : Int32) (t : Addr) (kt : ClassId) (N : Int32) (cn : Int32) (cs : List Int32) (N2 : Int32) (h0 : Heap) (n0 : Nat) (O : Old Z n0 h0) (E_b : eX1 Z h0 b) (j0_ : fL5 Z h0 b (.int cn)) (j12_ : o_SB Z h0 b t kt N cs) (E_t : eX0 Z h0 t) (g_b : n0 ≤ b) (g_t : n0 ≤ t) (nbt : b ≠ t) (hcp : o_cap N N2 m_) (hle : (cs.length : Int) ≤ N.toInt) :
   o_MF l Z mN18 jdk_68_method_9_code 3 none ws rM11 #[(.ref b), (.int m_)] h0 (Qec Z b t cn cs N2 h0 n0) := by
 refine MetFree.of_bodySF (plainFor_of_name pn_4) hisR ?_
 intro p e s m args below meth c s₁ Bd hml0 hP hK
 obtain ⟨rfl, hZ, hh⟩ := hP
 have hx := Bd.exec
 have hby := Bd.bytes
 have B := @hb _ _ hby
 have hml : c.maxLocals = 3 := hml0
 have hown : s.vm.findClass "java/lang/AbstractStringBuilder" = some m.cls := findClass_of_methodNamed Bd.named
 have X0 : Stand p l e rM11 s m #[(.ref b), (.int m_)] below meth c s₁ [] 0 0 := Stand.of_body Bd
 have e0 : s₁.heap = h0 := by rw [← hh, Bd.state]; rfl
 have N0 := Fr.nil n0
 have K0 := Keep.refl h0 [b]
 refine o_start (ef_cof m b m_) (Q := o_QE s rM11 (Qec Z b t cn cs N2 h0 n0)) ?_
 show oF p e below (s₁.setTop (mkF m 0 #[.val (.ref b), .val (.int m_), .unset] [])) _
 obtain ⟨j2_, j4_, hrg, hdb⟩ := j12_
 rcases hdb with ⟨j1_, V_t, hla⟩ | ⟨j1_, V_t, hbg⟩
 ·rcases hcp with ⟨hN2, hm0, hm1, hN1⟩ | hgr
  ·show oF p e below (s₁.setTop (mkF m 0 #[.val (.ref b), .val (.int m_), .unset] [])) _
   refine oG (fun _ k => XS.aloadN X0.here hx rfl (B d14_0) rfl rfl k) ?_
   show oF p e below (s₁.setTop (mkF m 1 #[.val (.ref b), .val (.int m_), .unset] [(.ref b)])) _
   obtain ⟨T0a, X0a, e0a, st0a⟩ := getF X0 hx hZ hown (host := "") (Or.inl (ow hw 61)) Via.refl e0 j2_ (g := (mkF m 1 #[.val (.ref b), .val (.int m_), .unset] [(.ref b)])) rfl rfl (B d14_1)
   refine oG st0a ?_
   show oF p e below (T0a.setTop (mkF m 4 #[.val (.ref b), .val (.int m_), .unset] [(.ref t)])) _
   obtain ⟨cl0b, A0b, -, S0b, M0b, -, -⟩ := id V_t
   refine oG (fun _ k => X0a.arraylength hx (o_eqE e0a A0b.1) (State.isArrayOf_alike hZ.alike A0b.2.1) (g := (mkF m 4 #[.val (.ref b), .val (.int m_), .unset] [(.ref t)])) rfl rfl (B d14_4) _ (by rw [len_of S0b M0b]; exact k)) ?_
   show oF p e below (T0a.setTop (mkF m 5 #[.val (.ref b), .val (.int m_), .unset] [(.int N)])) _
   refine oG (fun _ k => XS.aloadN X0a.here hx rfl (B d14_5) rfl rfl k) ?_
   show oF p e below (T0a.setTop (mkF m 6 #[.val (.ref b), .val (.int m_), .unset] [(.ref b), (.int N)])) _
   obtain ⟨T0c, X0c, e0c, st0c⟩ := getF X0a hx hZ hown (host := "") (Or.inl (ow hw 63)) Via.refl e0a j1_ (g := (mkF m 6 #[.val (.ref b), .val (.int m_), .unset] [(.ref b), (.int N)])) rfl rfl (B d14_6)
   refine oG st0c ?_
   show oF p e below (T0c.setTop (mkF m 9 #[.val (.ref b), .val (.int m_), .unset] [(.int 0), (.int N)])) _
   refine oG (fun _ k => XS.ishr X0c.here hx rfl (B d14_9) rfl (XS.istoreN X0c.here hx rfl (B d14_10) rfl (l' := #[.val (.ref b), .val (.int m_), .val (.int (N >>> ((0 : Int32) &&& 31)))]) rfl (XS.iloadN X0c.here hx rfl (B d14_11) rfl (XS.iloadN X0c.here hx rfl (B d14_12) rfl (XS.isub X0c.here hx rfl (B d14_13) rfl (XS.ifYes X0c.here hx rfl (pc0 := 14) (pc' := 38) rfl (B d14_14) rfl ((if0 _ _).trans (flt ((o_n00 hm0 hm1) : ¬ ((0 : Int32) < (m_ - (N >>> ((0 : Int32) &&& 31)))))).2.2.2) (by decide) (by decide) k)))))) ?_
   show oF p e below (T0c.setTop (mkF m 38 #[.val (.ref b), .val (.int m_), .val (.int (N >>> ((0 : Int32) &&& 31)))] [])) _
   obtain ⟨fs, hr, r1, r2, hW, r3⟩ := X0c.leave (v := none) (fun _ => rfl)
   refine ⟨_, _, ?_, r1, r2, _, _, rfl, ?_, ⟨_, rfl⟩, hW, r3.mono (by decide) (by decide)⟩
   ·exact X0c.returnOut hx Bd.returns (B d14_38) hr
   ·show Qec Z b t cn cs N2 h0 n0 _ T0c.heap _
    rw [e0c]
    exact ⟨t, kt, rfl, N0, K0, (Or.inl rfl), g_t, nbt, E_b, j0_, E_t, (by rw [hN2]; exact ⟨j2_, j4_, hrg, Or.inl ⟨j1_, V_t, hla⟩⟩)⟩
  ·show oF p e below (s₁.setTop (mkF m 0 #[.val (.ref b), .val (.int m_), .unset] [])) _
   refine oG (fun _ k => XS.aloadN X0.here hx rfl (B d14_0) rfl rfl k) ?_
   show oF p e below (s₁.setTop (mkF m 1 #[.val (.ref b), .val (.int m_), .unset] [(.ref b)])) _
   obtain ⟨T0d, X0d, e0d, st0d⟩ := getF X0 hx hZ hown (host := "") (Or.inl (ow hw 61)) Via.refl e0 j2_ (g := (mkF m 1 #[.val (.ref b), .val (.int m_), .unset] [(.ref b)])) rfl rfl (B d14_1)
   refine oG st0d ?_
   show oF p e below (T0d.setTop (mkF m 4 #[.val (.ref b), .val (.int m_), .unset] [(.ref t)])) _
   obtain ⟨cl0e, A0e, -, S0e, M0e, -, -⟩ := id V_t
   refine oG (fun _ k => X0d.arraylength hx (o_eqE e0d A0e.1) (State.isArrayOf_alike hZ.alike A0e.2.1) (g := (mkF m 4 #[.val (.ref b), .val (.int m_), .unset] [(.ref t)])) rfl rfl (B d14_4) _ (by rw [len_of S0e M0e]; exact k)) ?_
   show oF p e below (T0d.setTop (mkF m 5 #[.val (.ref b), .val (.int m_), .unset] [(.int N)])) _
   refine oG (fun _ k => XS.aloadN X0d.here hx rfl (B d14_5) rfl rfl k) ?_
   show oF p e below (T0d.setTop (mkF m 6 #[.val (.ref b), .val (.int m_), .unset] [(.ref b), (.int N)])) _
   obtain ⟨T0f, X0f, e0f, st0f⟩ := getF X0d hx hZ hown (host := "") (Or.inl (ow hw 63)) Via.refl e0d j1_ (g := (mkF m 6 #[.val (.ref b), .val (.int m_), .unset] [(.ref b), (.int N)])) rfl rfl (B d14_6)
   refine oG st0f ?_
   show oF p e below (T0f.setTop (mkF m 9 #[.val (.ref b), .val (.int m_), .unset] [(.int 0), (.int N)])) _
   refine oG (fun _ k => XS.ishr X0f.here hx rfl (B d14_9) rfl (XS.istoreN X0f.here hx rfl (B d14_10) rfl (l' := #[.val (.ref b), .val (.int m_), .val (.int (N >>> ((0 : Int32) &&& 31)))]) rfl (XS.iloadN X0f.here hx rfl (B d14_11) rfl (XS.iloadN X0f.here hx rfl (B d14_12) rfl (XS.isub X0f.here hx rfl (B d14_13) rfl (XS.ifNo X0f.here hx rfl (B d14_14) rfl ((if0 _ _).trans (tlt ((o_g00 hgr) : (0 : Int32) < (m_ - (N >>> ((0 : Int32) &&& 31))))).2.2.2) (XS.aloadN X0f.here hx rfl (B d14_17) rfl rfl (XS.aloadN X0f.here hx rfl (B d14_18) rfl rfl k)))))))) ?_
   show oF p e below (T0f.setTop (mkF m 19 #[.val (.ref b), .val (.int m_), .val (.int (N >>> ((0 : Int32) &&& 31)))] [(.ref b), (.ref b)])) _
   obtain ⟨T0g, X0g, e0g, st0g⟩ := getF X0f hx hZ hown (host := "") (Or.inl (ow hw 61)) Via.refl e0f j2_ (g := (mkF m 19 #[.val (.ref b), .val (.int m_), .val (.int (N >>> ((0 : Int32) &&& 31)))] [(.ref b), (.ref b)])) rfl rfl (B d14_19)
   refine oG st0g ?_
   show oF p e below (T0g.setTop (mkF m 22 #[.val (.ref b), .val (.int m_), .val (.int (N >>> ((0 : Int32) &&& 31)))] [(.ref t), (.ref b)])) _
   refine oG (fun _ k => XS.aloadN X0g.here hx rfl (B d14_22) rfl rfl (XS.iloadN X0g.here hx rfl (B d14_23) rfl k)) ?_
   show oF p e below (T0g.setTop (mkF m 24 #[.val (.ref b), .val (.int m_), .val (.int (N >>> ((0 : Int32) &&& 31)))] [(.int m_), (.ref b), (.ref t), (.ref b)])) _
   obtain ⟨cq0h, q0h, q0h'⟩ := E_b.cell
   obtain ⟨_, _, ⟨T0h, L0h, k0h, n0h⟩, -, X0h, ⟨Lc0h, hQ0h, l0h, y0h, z0h⟩, st0h⟩ := X0g.privateBack hx (y := mN16) hown (mo hZ hw 94) (mo hZ hw 95) (o_selS (mo hZ hw 92) (by exact rfl) (Cond.privateMethod_at (mvP hZ (ow hw 96) (args := #[]))) (mo hZ hw 95) (by decide)) (Cond.privateMethod_at (mvP hZ (ow hw 96) (args := #[]))) (mo hZ hw 98) (by decide) (backOf (W := 2) (nc0 l Z a0 hw [] b m_ t kt N N2 (o_u8 cs) h0 n0 O j2_ j1_ V_t (by first | assumption | rfl | decide | omega)) hZ (ow hw 98) (ow hw 57) (by decide) (by decide)) (g := (mkF m 24 #[.val (.ref b), .val (.int m_), .val (.int (N >>> ((0 : Int32) &&& 31)))] [(.int m_), (.ref b), (.ref t), (.ref b)])) rfl (by rw [hml]; rfl) (Steps.refl _) (a := b) (o_eqE e0g q0h) q0h' (argsL := [(.int m_)]) (rest := [(.ref t), (.ref b)]) (lenOf pd_6 rfl) rfl (by show 2 * 0 + _ ≤ _; exact Nat.le_of_eq rfl) (B d14_24) (fun _ _ => ⟨rfl, e0g, (by decide : 0 + 0 ≤ _), (by decide : 0 + 0 ≤ _)⟩)
   dsimp only [Pt.U, Pt.locs, Pt.cells, Pt.slots] at X0h l0h y0h z0h st0h hQ0h
   subst y0h z0h
   obtain ⟨rfl, N0hq, e0h⟩ := hQ0h
   refine oG (fun _ k => st0h.trans k) ?_
   have N0h := oL l0h (Fr.app N0 N0hq)
   show oF p e below (T0h.setTop (mkF m 27 #[.val (.ref b), .val (.int m_), .val (.int (N >>> ((0 : Int32) &&& 31)))] [(.int N2), (.ref t), (.ref b)])) _
   refine oG (fun _ k => XS.aloadN X0h.here hx rfl (B d14_27) rfl rfl k) ?_
   show oF p e below (T0h.setTop (mkF m 28 #[.val (.ref b), .val (.int m_), .val (.int (N >>> ((0 : Int32) &&& 31)))] [(.ref b), (.int N2), (.ref t), (.ref b)])) _
   obtain ⟨T0i, X0i, e0i, st0i⟩ := getF X0h hx hZ hown (host := "") (Or.inl (ow hw 63)) Via.refl e0h j1_ (g := (mkF m 28 #[.val (.ref b), .val (.int m_), .val (.int (N >>> ((0 : Int32) &&& 31)))] [(.ref b), (.int N2), (.ref t), (.ref b)])) rfl rfl (B d14_28)
   refine oG st0i ?_
   show oF p e below (T0i.setTop (mkF m 31 #[.val (.ref b), .val (.int m_), .val (.int (N >>> ((0 : Int32) &&& 31)))] [(.int 0), (.int N2), (.ref t), (.ref b)])) _
   refine oG (fun _ k => XS.ishl X0i.here hx rfl (B d14_31) rfl k) ?_
   show oF p e below (T0i.setTop (mkF m 32 #[.val (.ref b), .val (.int m_), .val (.int (N >>> ((0 : Int32) &&& 31)))] [(.int (N2 <<< ((0 : Int32) &&& 31))), (.ref t), (.ref b)])) _
   rw [o_sl0]
   show oF p e below (T0i.setTop (mkF m 32 #[.val (.ref b), .val (.int m_), .val (.int (N >>> ((0 : Int32) &&& 31)))] [(.int N2), (.ref t), (.ref b)])) _
   obtain ⟨_, _, ⟨T0j, L0j, k0j, n0j⟩, -, X0j, ⟨Lc0j, hQ0j, l0j, y0j, z0j⟩, st0j⟩ := Jvm.LawKit.callS X0i hx (y := mN17) hown (mo hZ hw 109) (mo hZ hw 110) (mo hZ hw 111) (mo hZ hw 112) (by decide) (backOf (W := 1) (cof l Z a0 hw [] t N2 kt N (o_u8 cs) h0 n0 O V_t (o_cg0 hgr hle).1 (o_cg0 hgr hle).2.1 (o_cg0 hgr hle).2.2.1 (o_cg0 hgr hle).2.2.2.1 (o_cg0 hgr hle).2.2.2.2.1 (o_cg0 hgr hle).2.2.2.2.2.1 (o_cg0 hgr hle).2.2.2.2.2.2) hZ (ow hw 112) (ow hw 111) (by decide) (by decide)) (g := (mkF m 32 #[.val (.ref b), .val (.int m_), .val (.int (N >>> ((0 : Int32) &&& 31)))] [(.int N2), (.ref t), (.ref b)])) rfl (by rw [hml]; rfl) (argsL := [(.ref t), (.int N2)]) (rest := [(.ref b)]) (lenOf pd_11 rfl) rfl (by show 2 * 0 + _ ≤ _; exact Nat.le_of_eq rfl) (B d14_32) (fun _ _ => ⟨rfl, e0i, (by decide : 0 + 1 ≤ _), (by decide : 0 + 140 ≤ _)⟩)
   dsimp only [Pt.U, Pt.locs, Pt.cells, Pt.slots] at X0j l0j y0j z0j st0j hQ0j
   subst y0j z0j
   obtain ⟨b_0k, k_0l, rfl, N0jq, Kq0j, P0j_0, P0j_1, P0j_2⟩ := hQ0j
   refine oG st0j ?_
   have N0j := oL l0j (Fr.app N0h N0jq)
   have j149_ : b ≠ b_0k := Nat.ne_of_lt (Nat.lt_of_lt_of_le E_b.lt P0j_0)
   have ne_t_b_111 : t ≠ b_0k := Nat.ne_of_lt (Nat.lt_of_lt_of_le E_t.lt P0j_0)
   have g_b_111 : n0 ≤ b_0k := Nat.le_trans (o_osz O) P0j_0
   have sz_b_111 : h0.size ≤ b_0k := Nat.le_trans K0.1 P0j_0
   have E_b := E_b.keep Kq0j
   have j0_ := j0_.keep Kq0j nin0
   have E_t := E_t.keep Kq0j
   have j2_ := j2_.keep Kq0j nin0
   have j4_ := j4_.keep Kq0j nin0
   have j1_ := j1_.keep Kq0j nin0
   have V_t := V_t.keep Kq0j nin0
   have O := O.keep Kq0j all0
   have K0m := K0.trans Kq0j all0
   have j116_ := P0j_1
   have j117_ := P0j_2
   obtain ⟨T0n, h0n, X0n, e0n, W0n, st0n⟩ := putF X0j hx hZ hown (host := "") (Or.inl (ow hw 61)) Via.refl rfl j2_ E_b (Or.inl (ow hw 62)) (ow hw 48) (ty := (.array .byte)) (by decide) rfl rfl (g := (mkF m 35 #[.val (.ref b), .val (.int m_), .val (.int (N >>> ((0 : Int32) &&& 31)))] [(.ref b_0k), (.ref b)])) rfl rfl (B d14_35)
   refine oG st0n ?_
   have E_b := E_b.wr W0n
   have j0_ := j0_.other W0n (Or.inr (slot_ne (Or.inl (ow hw 88)) (Or.inl (ow hw 62)) (by decide) (t := .int) (t' := (.array .byte)) (by decide) (by decide)))
   have E_t := E_t.wr W0n
   have j4_ := j4_.other W0n (Or.inr (slot_ne (Or.inl (ow hw 267)) (Or.inl (ow hw 62)) (by decide) (t := .boolean) (t' := (.array .byte)) (by decide) (by decide)))
   have j1_ := j1_.other W0n (Or.inr (slot_ne (Or.inl (ow hw 64)) (Or.inl (ow hw 62)) (by decide) (t := .byte) (t' := (.array .byte)) (by decide) (by decide)))
   have V_t := V_t.other W0n (Ne.symm nbt)
   have j116_ := j116_.other W0n (Ne.symm j149_)
   have j117_ := j117_.wr W0n
   have O := O.wr W0n g_b
   have K0o := K0m.wr W0n (Or.inl (List.mem_of_getElem? (i := 0) rfl))
   have j2_ := j2_.same W0n
   have N0n := Fr.snoc X0n N0j g_b
   show oF p e below (T0n.setTop (mkF m 38 #[.val (.ref b), .val (.int m_), .val (.int (N >>> ((0 : Int32) &&& 31)))] [])) _
   obtain ⟨fs, hr, r1, r2, hW, r3⟩ := X0n.leave (v := none) (fun _ => rfl)
   refine ⟨_, _, ?_, r1, r2, _, _, rfl, ?_, ⟨_, rfl⟩, hW, r3.mono (by decide) (by decide)⟩
   ·exact X0n.returnOut hx Bd.returns (B d14_38) hr
   ·show Qec Z b t cn cs N2 h0 n0 _ T0n.heap _
    rw [e0n]
    exact ⟨b_0k, k_0l, rfl, N0n, K0o, (Or.inr sz_b_111), g_b_111, j149_, E_b, j0_, j117_, ⟨j2_, j4_, hrg, Or.inl ⟨j1_, j116_, hla⟩⟩⟩
 ·rcases hcp with ⟨hN2, hm0, hm1, hN1⟩ | hgr
  ·show oF p e below (s₁.setTop (mkF m 0 #[.val (.ref b), .val (.int m_), .unset] [])) _
   refine oG (fun _ k => XS.aloadN X0.here hx rfl (B d14_0) rfl rfl k) ?_
   show oF p e below (s₁.setTop (mkF m 1 #[.val (.ref b), .val (.int m_), .unset] [(.ref b)])) _
   obtain ⟨T0p, X0p, e0p, st0p⟩ := getF X0 hx hZ hown (host := "") (Or.inl (ow hw 61)) Via.refl e0 j2_ (g := (mkF m 1 #[.val (.ref b), .val (.int m_), .unset] [(.ref b)])) rfl rfl (B d14_1)
   refine oG st0p ?_
   show oF p e below (T0p.setTop (mkF m 4 #[.val (.ref b), .val (.int m_), .unset] [(.ref t)])) _
   obtain ⟨cl0q, A0q, -, S0q, M0q, -, -⟩ := id V_t
   refine oG (fun _ k => X0p.arraylength hx (o_eqE e0p A0q.1) (State.isArrayOf_alike hZ.alike A0q.2.1) (g := (mkF m 4 #[.val (.ref b), .val (.int m_), .unset] [(.ref t)])) rfl rfl (B d14_4) _ (by rw [len_of S0q M0q]; exact k)) ?_
   show oF p e below (T0p.setTop (mkF m 5 #[.val (.ref b), .val (.int m_), .unset] [(.int (N <<< ((1 : Int32) &&& 31)))])) _
   refine oG (fun _ k => XS.aloadN X0p.here hx rfl (B d14_5) rfl rfl k) ?_
   show oF p e below (T0p.setTop (mkF m 6 #[.val (.ref b), .val (.int m_), .unset] [(.ref b), (.int (N <<< ((1 : Int32) &&& 31)))])) _
   obtain ⟨T0r, X0r, e0r, st0r⟩ := getF X0p hx hZ hown (host := "") (Or.inl (ow hw 63)) Via.refl e0p j1_ (g := (mkF m 6 #[.val (.ref b), .val (.int m_), .unset] [(.ref b), (.int (N <<< ((1 : Int32) &&& 31)))])) rfl rfl (B d14_6)
   refine oG st0r ?_
   show oF p e below (T0r.setTop (mkF m 9 #[.val (.ref b), .val (.int m_), .unset] [(.int 1), (.int (N <<< ((1 : Int32) &&& 31)))])) _
   refine oG (fun _ k => XS.ishr X0r.here hx rfl (B d14_9) rfl (XS.istoreN X0r.here hx rfl (B d14_10) rfl (l' := #[.val (.ref b), .val (.int m_), .val (.int ((N <<< ((1 : Int32) &&& 31)) >>> ((1 : Int32) &&& 31)))]) rfl (XS.iloadN X0r.here hx rfl (B d14_11) rfl (XS.iloadN X0r.here hx rfl (B d14_12) rfl (XS.isub X0r.here hx rfl (B d14_13) rfl (XS.ifYes X0r.here hx rfl (pc0 := 14) (pc' := 38) rfl (B d14_14) rfl ((if0 _ _).trans (flt ((o_n01 hm0 hm1 hN1) : ¬ ((0 : Int32) < (m_ - ((N <<< ((1 : Int32) &&& 31)) >>> ((1 : Int32) &&& 31)))))).2.2.2) (by decide) (by decide) k)))))) ?_
   show oF p e below (T0r.setTop (mkF m 38 #[.val (.ref b), .val (.int m_), .val (.int ((N <<< ((1 : Int32) &&& 31)) >>> ((1 : Int32) &&& 31)))] [])) _
   obtain ⟨fs, hr, r1, r2, hW, r3⟩ := X0r.leave (v := none) (fun _ => rfl)
   refine ⟨_, _, ?_, r1, r2, _, _, rfl, ?_, ⟨_, rfl⟩, hW, r3.mono (by decide) (by decide)⟩
   ·exact X0r.returnOut hx Bd.returns (B d14_38) hr
   ·show Qec Z b t cn cs N2 h0 n0 _ T0r.heap _
    rw [e0r]
    exact ⟨t, kt, rfl, N0, K0, (Or.inl rfl), g_t, nbt, E_b, j0_, E_t, (by rw [hN2]; exact ⟨j2_, j4_, hrg, Or.inr ⟨j1_, V_t, hbg⟩⟩)⟩
  ·show oF p e below (s₁.setTop (mkF m 0 #[.val (.ref b), .val (.int m_), .unset] [])) _
   refine oG (fun _ k => XS.aloadN X0.here hx rfl (B d14_0) rfl rfl k) ?_
   show oF p e below (s₁.setTop (mkF m 1 #[.val (.ref b), .val (.int m_), .unset] [(.ref b)])) _
   obtain ⟨T0s, X0s, e0s, st0s⟩ := getF X0 hx hZ hown (host := "") (Or.inl (ow hw 61)) Via.refl e0 j2_ (g := (mkF m 1 #[.val (.ref b), .val (.int m_), .unset] [(.ref b)])) rfl rfl (B d14_1)
   refine oG st0s ?_
   show oF p e below (T0s.setTop (mkF m 4 #[.val (.ref b), .val (.int m_), .unset] [(.ref t)])) _
   obtain ⟨cl0t, A0t, -, S0t, M0t, -, -⟩ := id V_t
   refine oG (fun _ k => X0s.arraylength hx (o_eqE e0s A0t.1) (State.isArrayOf_alike hZ.alike A0t.2.1) (g := (mkF m 4 #[.val (.ref b), .val (.int m_), .unset] [(.ref t)])) rfl rfl (B d14_4) _ (by rw [len_of S0t M0t]; exact k)) ?_
   show oF p e below (T0s.setTop (mkF m 5 #[.val (.ref b), .val (.int m_), .unset] [(.int (N <<< ((1 : Int32) &&& 31)))])) _
   refine oG (fun _ k => XS.aloadN X0s.here hx rfl (B d14_5) rfl rfl k) ?_
   show oF p e below (T0s.setTop (mkF m 6 #[.val (.ref b), .val (.int m_), .unset] [(.ref b), (.int (N <<< ((1 : Int32) &&& 31)))])) _
   obtain ⟨T0u, X0u, e0u, st0u⟩ := getF X0s hx hZ hown (host := "") (Or.inl (ow hw 63)) Via.refl e0s j1_ (g := (mkF m 6 #[.val (.ref b), .val (.int m_), .unset] [(.ref b), (.int (N <<< ((1 : Int32) &&& 31)))])) rfl rfl (B d14_6)
   refine oG st0u ?_
   show oF p e below (T0u.setTop (mkF m 9 #[.val (.ref b), .val (.int m_), .unset] [(.int 1), (.int (N <<< ((1 : Int32) &&& 31)))])) _
   refine oG (fun _ k => XS.ishr X0u.here hx rfl (B d14_9) rfl (XS.istoreN X0u.here hx rfl (B d14_10) rfl (l' := #[.val (.ref b), .val (.int m_), .val (.int ((N <<< ((1 : Int32) &&& 31)) >>> ((1 : Int32) &&& 31)))]) rfl (XS.iloadN X0u.here hx rfl (B d14_11) rfl (XS.iloadN X0u.here hx rfl (B d14_12) rfl (XS.isub X0u.here hx rfl (B d14_13) rfl (XS.ifNo X0u.here hx rfl (B d14_14) rfl ((if0 _ _).trans (tlt ((o_g01 hgr) : (0 : Int32) < (m_ - ((N <<< ((1 : Int32) &&& 31)) >>> ((1 : Int32) &&& 31))))).2.2.2) (XS.aloadN X0u.here hx rfl (B d14_17) rfl rfl (XS.aloadN X0u.here hx rfl (B d14_18) rfl rfl k)))))))) ?_
   show oF p e below (T0u.setTop (mkF m 19 #[.val (.ref b), .val (.int m_), .val (.int ((N <<< ((1 : Int32) &&& 31)) >>> ((1 : Int32) &&& 31)))] [(.ref b), (.ref b)])) _
   obtain ⟨T0v, X0v, e0v, st0v⟩ := getF X0u hx hZ hown (host := "") (Or.inl (ow hw 61)) Via.refl e0u j2_ (g := (mkF m 19 #[.val (.ref b), .val (.int m_), .val (.int ((N <<< ((1 : Int32) &&& 31)) >>> ((1 : Int32) &&& 31)))] [(.ref b), (.ref b)])) rfl rfl (B d14_19)
   refine oG st0v ?_
   show oF p e below (T0v.setTop (mkF m 22 #[.val (.ref b), .val (.int m_), .val (.int ((N <<< ((1 : Int32) &&& 31)) >>> ((1 : Int32) &&& 31)))] [(.ref t), (.ref b)])) _
   refine oG (fun _ k => XS.aloadN X0v.here hx rfl (B d14_22) rfl rfl (XS.iloadN X0v.here hx rfl (B d14_23) rfl k)) ?_
   show oF p e below (T0v.setTop (mkF m 24 #[.val (.ref b), .val (.int m_), .val (.int ((N <<< ((1 : Int32) &&& 31)) >>> ((1 : Int32) &&& 31)))] [(.int m_), (.ref b), (.ref t), (.ref b)])) _
   obtain ⟨cq0w, q0w, q0w'⟩ := E_b.cell
   obtain ⟨_, _, ⟨T0w, L0w, k0w, n0w⟩, -, X0w, ⟨Lc0w, hQ0w, l0w, y0w, z0w⟩, st0w⟩ := X0v.privateBack hx (y := mN16) hown (mo hZ hw 94) (mo hZ hw 95) (o_selS (mo hZ hw 92) (by exact rfl) (Cond.privateMethod_at (mvP hZ (ow hw 96) (args := #[]))) (mo hZ hw 95) (by decide)) (Cond.privateMethod_at (mvP hZ (ow hw 96) (args := #[]))) (mo hZ hw 98) (by decide) (backOf (W := 2) (nc1 l Z a0 hw [] b m_ t kt N N2 (o_u16 cs) h0 n0 O j2_ j1_ V_t (by first | assumption | rfl | decide | omega)) hZ (ow hw 98) (ow hw 57) (by decide) (by decide)) (g := (mkF m 24 #[.val (.ref b), .val (.int m_), .val (.int ((N <<< ((1 : Int32) &&& 31)) >>> ((1 : Int32) &&& 31)))] [(.int m_), (.ref b), (.ref t), (.ref b)])) rfl (by rw [hml]; rfl) (Steps.refl _) (a := b) (o_eqE e0v q0w) q0w' (argsL := [(.int m_)]) (rest := [(.ref t), (.ref b)]) (lenOf pd_6 rfl) rfl (by show 2 * 0 + _ ≤ _; exact Nat.le_of_eq rfl) (B d14_24) (fun _ _ => ⟨rfl, e0v, (by decide : 0 + 0 ≤ _), (by decide : 0 + 0 ≤ _)⟩)
   dsimp only [Pt.U, Pt.locs, Pt.cells, Pt.slots] at X0w l0w y0w z0w st0w hQ0w
   subst y0w z0w
   obtain ⟨rfl, N0wq, e0w⟩ := hQ0w
   refine oG (fun _ k => st0w.trans k) ?_
   have N0w := oL l0w (Fr.app N0 N0wq)
   show oF p e below (T0w.setTop (mkF m 27 #[.val (.ref b), .val (.int m_), .val (.int ((N <<< ((1 : Int32) &&& 31)) >>> ((1 : Int32) &&& 31)))] [(.int N2), (.ref t), (.ref b)])) _
   refine oG (fun _ k => XS.aloadN X0w.here hx rfl (B d14_27) rfl rfl k) ?_
   show oF p e below (T0w.setTop (mkF m 28 #[.val (.ref b), .val (.int m_), .val (.int ((N <<< ((1 : Int32) &&& 31)) >>> ((1 : Int32) &&& 31)))] [(.ref b), (.int N2), (.ref t), (.ref b)])) _
   obtain ⟨T0x, X0x, e0x, st0x⟩ := getF X0w hx hZ hown (host := "") (Or.inl (ow hw 63)) Via.refl e0w j1_ (g := (mkF m 28 #[.val (.ref b), .val (.int m_), .val (.int ((N <<< ((1 : Int32) &&& 31)) >>> ((1 : Int32) &&& 31)))] [(.ref b), (.int N2), (.ref t), (.ref b)])) rfl rfl (B d14_28)
   refine oG st0x ?_
   show oF p e below (T0x.setTop (mkF m 31 #[.val (.ref b), .val (.int m_), .val (.int ((N <<< ((1 : Int32) &&& 31)) >>> ((1 : Int32) &&& 31)))] [(.int 1), (.int N2), (.ref t), (.ref b)])) _
   refine oG (fun _ k => XS.ishl X0x.here hx rfl (B d14_31) rfl k) ?_
   show oF p e below (T0x.setTop (mkF m 32 #[.val (.ref b), .val (.int m_), .val (.int ((N <<< ((1 : Int32) &&& 31)) >>> ((1 : Int32) &&& 31)))] [(.int (N2 <<< ((1 : Int32) &&& 31))), (.ref t), (.ref b)])) _
   obtain ⟨_, _, ⟨T0y, L0y, k0y, n0y⟩, -, X0y, ⟨Lc0y, hQ0y, l0y, y0y, z0y⟩, st0y⟩ := Jvm.LawKit.callS X0x hx (y := mN17) hown (mo hZ hw 109) (mo hZ hw 110) (mo hZ hw 111) (mo hZ hw 112) (by decide) (backOf (W := 1) (cof l Z a0 hw [] t (N2 <<< ((1 : Int32) &&& 31)) kt (N <<< ((1 : Int32) &&& 31)) (o_u16 cs) h0 n0 O V_t (o_cg1 hgr hle).1 (o_cg1 hgr hle).2.1 (o_cg1 hgr hle).2.2.1 (o_cg1 hgr hle).2.2.2.1 (o_cg1 hgr hle).2.2.2.2.1 (o_cg1 hgr hle).2.2.2.2.2.1 (o_cg1 hgr hle).2.2.2.2.2.2) hZ (ow hw 112) (ow hw 111) (by decide) (by decide)) (g := (mkF m 32 #[.val (.ref b), .val (.int m_), .val (.int ((N <<< ((1 : Int32) &&& 31)) >>> ((1 : Int32) &&& 31)))] [(.int (N2 <<< ((1 : Int32) &&& 31))), (.ref t), (.ref b)])) rfl (by rw [hml]; rfl) (argsL := [(.ref t), (.int (N2 <<< ((1 : Int32) &&& 31)))]) (rest := [(.ref b)]) (lenOf pd_11 rfl) rfl (by show 2 * 0 + _ ≤ _; exact Nat.le_of_eq rfl) (B d14_32) (fun _ _ => ⟨rfl, e0x, (by decide : 0 + 1 ≤ _), (by decide : 0 + 140 ≤ _)⟩)
   dsimp only [Pt.U, Pt.locs, Pt.cells, Pt.slots] at X0y l0y y0y z0y st0y hQ0y
   subst y0y z0y
   obtain ⟨b_0z, k_0A, rfl, N0yq, Kq0y, P0y_0, P0y_1, P0y_2⟩ := hQ0y
   refine oG st0y ?_
   have N0y := oL l0y (Fr.app N0w N0yq)
   have j150_ : b ≠ b_0z := Nat.ne_of_lt (Nat.lt_of_lt_of_le E_b.lt P0y_0)
   have ne_t_b_128 : t ≠ b_0z := Nat.ne_of_lt (Nat.lt_of_lt_of_le E_t.lt P0y_0)
   have g_b_128 : n0 ≤ b_0z := Nat.le_trans (o_osz O) P0y_0
   have sz_b_128 : h0.size ≤ b_0z := Nat.le_trans K0.1 P0y_0
   have E_b := E_b.keep Kq0y
   have j0_ := j0_.keep Kq0y nin0
   have E_t := E_t.keep Kq0y
   have j2_ := j2_.keep Kq0y nin0
   have j4_ := j4_.keep Kq0y nin0
   have j1_ := j1_.keep Kq0y nin0
   have V_t := V_t.keep Kq0y nin0
   have O := O.keep Kq0y all0
   have K0B := K0.trans Kq0y all0
   have j118_ := P0y_1
   have j119_ := P0y_2
   obtain ⟨T0C, h0C, X0C, e0C, W0C, st0C⟩ := putF X0y hx hZ hown (host := "") (Or.inl (ow hw 61)) Via.refl rfl j2_ E_b (Or.inl (ow hw 62)) (ow hw 48) (ty := (.array .byte)) (by decide) rfl rfl (g := (mkF m 35 #[.val (.ref b), .val (.int m_), .val (.int ((N <<< ((1 : Int32) &&& 31)) >>> ((1 : Int32) &&& 31)))] [(.ref b_0z), (.ref b)])) rfl rfl (B d14_35)
   refine oG st0C ?_
   have E_b := E_b.wr W0C
   have j0_ := j0_.other W0C (Or.inr (slot_ne (Or.inl (ow hw 88)) (Or.inl (ow hw 62)) (by decide) (t := .int) (t' := (.array .byte)) (by decide) (by decide)))
   have E_t := E_t.wr W0C
   have j4_ := j4_.other W0C (Or.inr (slot_ne (Or.inl (ow hw 267)) (Or.inl (ow hw 62)) (by decide) (t := .boolean) (t' := (.array .byte)) (by decide) (by decide)))
   have j1_ := j1_.other W0C (Or.inr (slot_ne (Or.inl (ow hw 64)) (Or.inl (ow hw 62)) (by decide) (t := .byte) (t' := (.array .byte)) (by decide) (by decide)))
   have V_t := V_t.other W0C (Ne.symm nbt)
   have j118_ := j118_.other W0C (Ne.symm j150_)
   have j119_ := j119_.wr W0C
   have O := O.wr W0C g_b
   have K0D := K0B.wr W0C (Or.inl (List.mem_of_getElem? (i := 0) rfl))
   have j2_ := j2_.same W0C
   have N0C := Fr.snoc X0C N0y g_b
   show oF p e below (T0C.setTop (mkF m 38 #[.val (.ref b), .val (.int m_), .val (.int ((N <<< ((1 : Int32) &&& 31)) >>> ((1 : Int32) &&& 31)))] [])) _
   obtain ⟨fs, hr, r1, r2, hW, r3⟩ := X0C.leave (v := none) (fun _ => rfl)
   refine ⟨_, _, ?_, r1, r2, _, _, rfl, ?_, ⟨_, rfl⟩, hW, r3.mono (by decide) (by decide)⟩
   ·exact X0C.returnOut hx Bd.returns (B d14_38) hr
   ·show Qec Z b t cn cs N2 h0 n0 _ T0C.heap _
    rw [e0C]
    exact ⟨b_0z, k_0A, rfl, N0C, K0D, (Or.inr sz_b_128), g_b_128, j150_, E_b, j0_, j119_, ⟨j2_, j4_, hrg, Or.inr ⟨j1_, j118_, hbg⟩⟩⟩
theorem o_dq0 {d : Int32} {vs : List Value} (h : (vs.length : Int) = d.toInt) : (d <<< ((0 : Int32) &&& 31)).toNatClampNeg = vs.length := by
 rw [o_sl0]; have := o_cn (N := d) (by omega); omega
theorem o_dq1 {d : Int32} {vs : List Value} (h : (vs.length : Int) = 2 * d.toInt) (h1 : (vs.length : Int) ≤ 900) : (d <<< ((1 : Int32) &&& 31)).toNatClampNeg = vs.length := by
 have a := o_x2i (N := d) (by omega) (by omega)
 have := o_cn (N := d <<< ((1 : Int32) &&& 31)) (by omega); omega
theorem o_nq0 {ds : List Int32} (h : ds.length ≤ 100) : (Int32.ofNat ds.length).toNatClampNeg = (o_u8 ds).length := by rw [o_oc (by omega), o_u8l]
theorem o_nq1 {ds : List Int32} (h : ds.length ≤ 100) : ((Int32.ofNat ds.length) <<< ((1 : Int32) &&& 31)).toNatClampNeg = (o_u16 ds).length := by rw [o_zc h, o_u16l]
theorem o_c0 : (0 : Int32).toNatClampNeg = 0 := by decide
theorem o_ncl {x : Int32} {n : Nat} (h : x.toNatClampNeg = n) (h0 : 0 ≤ x.toInt) : ¬ x < 0 := o_nn h0
theorem d22_0 : decode k19_ 0 = .ok (.aload_n 0, 1) := by decide +kernel
theorem d22_1 : decode k19_ 1 = .ok (.invokevirtual 335, 3) := by decide +kernel
theorem d22_4 : decode k19_ 4 = .ok (.iload_n 3, 1) := by decide +kernel
theorem d22_5 : decode k19_ 5 = .ok (.if_icmp .ne 23, 3) := by decide +kernel
theorem d22_8 : decode k19_ 8 = .ok (.aload_n 0, 1) := by decide +kernel
theorem d22_9 : decode k19_ 9 = .ok (.getfield 9, 3) := by decide +kernel
theorem d22_12 : decode k19_ 12 = .ok (.iconst 0, 1) := by decide +kernel
theorem d22_13 : decode k19_ 13 = .ok (.aload_n 1, 1) := by decide +kernel
theorem d22_14 : decode k19_ 14 = .ok (.iload_n 2, 1) := by decide +kernel
theorem d22_15 : decode k19_ 15 = .ok (.iload_n 3, 1) := by decide +kernel
theorem d22_16 : decode k19_ 16 = .ok (.ishl, 1) := by decide +kernel
theorem d22_17 : decode k19_ 17 = .ok (.aload_n 0, 1) := by decide +kernel
theorem d22_18 : decode k19_ 18 = .ok (.getfield 9, 3) := by decide +kernel
theorem d22_21 : decode k19_ 21 = .ok (.arraylength, 1) := by decide +kernel
theorem d22_22 : decode k19_ 22 = .ok (.invokestatic 212, 3) := by decide +kernel
theorem d22_25 : decode k19_ 25 = .ok (.goto 18, 3) := by decide +kernel
theorem d22_43 : decode k19_ 43 = .ok (.return_, 1) := by decide +kernel
theorem ef_gb0 (m : MethodId) (x0 : Addr) (x1 : Addr) (x2 : Int32) (x3 : Int32) : entryFrame m #[(.ref x0), (.ref x1), (.int x2), (.int x3)] 4 = mkF m 0 #[.val (.ref x0), .val (.ref x1), .val (.int x2), .val (.int x3)] [] := by first | (simp [entryFrame, mkF, argsToLocals, Value.category]; done) | rfl
def Qgb0 (Z : State) (t2 : Addr) (ds : List Int32) (k2 : ClassId) (M : Int32) (vs : List Value) (h0 : Heap) (n0 : Nat) (v : Option Value) (h : Heap) (L : List Loc) : Prop := v = none ∧ Fr n0 L ∧ Keep h0 h [t2] ∧ Arv Z h t2 k2 .byte M (vs ++ (o_u8 ds)) (.int 0)
theorem gb0 (l : Launch) (Z : State) (a0 : Array Value) (hw : ∀ d ∈ tables_1, d.before a0 Z = true) (ws : List Jvm.Cond) (s_ : Addr) (t2 : Addr) (d_ : Int32) (z : Int32) (ts : Addr) (ks : ClassId) (ds : List Int32) (k2 : ClassId) (M : Int32) (vs : List Value) (h0 : Heap) (n0 : Nat) (O : Old Z n0 h0) (j6_ : sT4 Z (.int z)) (hz : ¬ (z = (0 : Int32))) (E_s_ : eX2 Z h0 s_) (j3_ : fL4 Z h0 s_ (.int 0)) (j5_ : fL3 Z h0 s_ (.ref ts)) (V_ts : Arv Z h0 ts ks .byte (Int32.ofNat ds.length) (o_u8 ds) (.int 0)) (V_t2 : Arv Z h0 t2 k2 .byte M vs (.int 0)) (g_t2 : n0 ≤ t2) (ntt : ts ≠ t2) (nst : s_ ≠ t2) (hd_ : (vs.length : Int) = d_.toInt) (hM : (vs.length : Int) + ((o_u8 ds).length : Int) ≤ M.toInt) (h16 : M.toInt ≤ 900) (h4 : ds.length ≤ 100) :
   o_MF l Z mN19 jdk_42_method_147_code 4 none ws rM12 #[(.ref s_), (.ref t2), (.int d_), (.int 0)] h0 (Qgb0 Z t2 ds k2 M vs h0 n0) := by
 refine MetFree.of_bodySF (plainFor_of_name pn_2) hisR ?_
 intro p e s m args below meth c s₁ Bd hml0 hP hK
 obtain ⟨rfl, hZ, hh⟩ := hP
 have hx := Bd.exec
 have hby := Bd.bytes
 have B := @hb _ _ hby
 have hml : c.maxLocals = 4 := hml0
 have hown : s.vm.findClass "java/lang/String" = some m.cls := findClass_of_methodNamed Bd.named
 have X0 : Stand p l e rM12 s m #[(.ref s_), (.ref t2), (.int d_), (.int 0)] below meth c s₁ [] 0 0 := Stand.of_body Bd
 have e0 : s₁.heap = h0 := by rw [← hh, Bd.state]; rfl
 have N0 := Fr.nil n0
 have K0 := Keep.refl h0 [t2]
 refine o_start (ef_gb0 m s_ t2 d_ (0 : Int32)) (Q := o_QE s rM12 (Qgb0 Z t2 ds k2 M vs h0 n0)) ?_
 show oF p e below (s₁.setTop (mkF m 0 #[.val (.ref s_), .val (.ref t2), .val (.int d_), .val (.int 0)] [])) _
 refine oG (fun _ k => XS.aloadN X0.here hx rfl (B d22_0) rfl rfl k) ?_
 show oF p e below (s₁.setTop (mkF m 1 #[.val (.ref s_), .val (.ref t2), .val (.int d_), .val (.int 0)] [(.ref s_)])) _
 obtain ⟨cq0E, kq0E, q0Ea, q0Eb, q0Ec⟩ := isOf hZ e0 E_s_
 obtain ⟨_, _, ⟨T0E, L0E, k0E, n0E⟩, -, X0E, ⟨Lc0E, hQ0E, l0E, y0E, z0E⟩, st0E⟩ := X0.virtualBack hx (y := mN10) (z := mN10) hown (mo hZ hw 81) (mo hZ hw 82) (notFace_of_selects (args := #[]) (mo hZ hw 84)) (mo hZ hw 84) (mo hZ hw 83) (by decide) (backOf (W := 0) (cd0 l Z a0 hw [] s_ z h0 n0 O j6_ hz j3_) hZ (ow hw 85) (ow hw 15) (by decide) (by decide)) q0Ea q0Ec (g := (mkF m 1 #[.val (.ref s_), .val (.ref t2), .val (.int d_), .val (.int 0)] [(.ref s_)])) rfl (by rw [hml]; rfl) (Steps.refl _) (argsL := []) (rest := []) (lenOf pd_9 rfl) rfl (by show 2 * 0 + _ ≤ _; exact Nat.le_of_eq rfl) (B d22_1) (fun _ _ => ⟨rfl, e0, (by decide : 0 + 0 ≤ _), (by decide : 0 + 0 ≤ _)⟩)
 dsimp only [Pt.U, Pt.locs, Pt.cells, Pt.slots] at X0E l0E y0E z0E st0E hQ0E
 subst y0E z0E
 obtain ⟨rfl, N0Eq, e0E⟩ := hQ0E
 refine oG (fun _ k => st0E.trans k) ?_
 have N0E := oL l0E (Fr.app N0 N0Eq)
 show oF p e below (T0E.setTop (mkF m 4 #[.val (.ref s_), .val (.ref t2), .val (.int d_), .val (.int 0)] [(.int 0)])) _
 refine oG (fun _ k => XS.iloadN X0E.here hx rfl (B d22_4) rfl (XS.icmpNo X0E.here hx rfl (B d22_5) rfl (teq (by decide : (0 : Int32) = (0 : Int32))).2 (XS.aloadN X0E.here hx rfl (B d22_8) rfl rfl k))) ?_
 show oF p e below (T0E.setTop (mkF m 9 #[.val (.ref s_), .val (.ref t2), .val (.int d_), .val (.int 0)] [(.ref s_)])) _
 obtain ⟨T0F, X0F, e0F, st0F⟩ := getF X0E hx hZ hown (host := "") (Or.inl (ow hw 32)) Via.refl e0E j5_ (g := (mkF m 9 #[.val (.ref s_), .val (.ref t2), .val (.int d_), .val (.int 0)] [(.ref s_)])) rfl rfl (B d22_9)
 refine oG st0F ?_
 show oF p e below (T0F.setTop (mkF m 12 #[.val (.ref s_), .val (.ref t2), .val (.int d_), .val (.int 0)] [(.ref ts)])) _
 refine oG (fun _ k => XS.iconst X0F.here hx rfl (B d22_12) (XS.aloadN X0F.here hx rfl (B d22_13) rfl rfl (XS.iloadN X0F.here hx rfl (B d22_14) rfl (XS.iloadN X0F.here hx rfl (B d22_15) rfl (XS.ishl X0F.here hx rfl (B d22_16) rfl (XS.aloadN X0F.here hx rfl (B d22_17) rfl rfl k)))))) ?_
 show oF p e below (T0F.setTop (mkF m 18 #[.val (.ref s_), .val (.ref t2), .val (.int d_), .val (.int 0)] [(.ref s_), (.int (d_ <<< ((0 : Int32) &&& 31))), (.ref t2), (.int 0), (.ref ts)])) _
 obtain ⟨T0G, X0G, e0G, st0G⟩ := getF X0F hx hZ hown (host := "") (Or.inl (ow hw 32)) Via.refl e0F j5_ (g := (mkF m 18 #[.val (.ref s_), .val (.ref t2), .val (.int d_), .val (.int 0)] [(.ref s_), (.int (d_ <<< ((0 : Int32) &&& 31))), (.ref t2), (.int 0), (.ref ts)])) rfl rfl (B d22_18)
 refine oG st0G ?_
 show oF p e below (T0G.setTop (mkF m 21 #[.val (.ref s_), .val (.ref t2), .val (.int d_), .val (.int 0)] [(.ref ts), (.int (d_ <<< ((0 : Int32) &&& 31))), (.ref t2), (.int 0), (.ref ts)])) _
 obtain ⟨cl0H, A0H, -, S0H, M0H, -, -⟩ := id V_ts
 refine oG (fun _ k => X0G.arraylength hx (o_eqE e0G A0H.1) (State.isArrayOf_alike hZ.alike A0H.2.1) (g := (mkF m 21 #[.val (.ref s_), .val (.ref t2), .val (.int d_), .val (.int 0)] [(.ref ts), (.int (d_ <<< ((0 : Int32) &&& 31))), (.ref t2), (.int 0), (.ref ts)])) rfl rfl (B d22_21) _ (by rw [len_of S0H M0H]; exact k)) ?_
 show oF p e below (T0G.setTop (mkF m 22 #[.val (.ref s_), .val (.ref t2), .val (.int d_), .val (.int 0)] [(.int (Int32.ofNat ds.length)), (.int (d_ <<< ((0 : Int32) &&& 31))), (.ref t2), (.int 0), (.ref ts)])) _
 have hdp : (d_ <<< ((0 : Int32) &&& 31)).toNatClampNeg = vs.length := o_dq0 hd_
 have hnn : (Int32.ofNat ds.length).toNatClampNeg = (o_u8 ds).length := o_nq0 h4
 have hMM := o_cn (N := M) (by omega)
 have hdi : ¬ (d_ <<< ((0 : Int32) &&& 31)) < 0 := o_nn (by rw [o_sl0]; omega)
 have hni : ¬ (Int32.ofNat ds.length) < 0 := o_nn (by rw [o_oi (by omega)]; omega)
 have V_t2 := V_t2.pad (pad_rep vs (.int 0) (Int32.ofNat ds.length).toNatClampNeg)
 obtain ⟨T0I, h0I, L0I, X0I, e0I, Nq0I, Kq0I, V0I, st0I⟩ := cpA X0G hx hZ hown (ow hw 136) (ow hw 119) (ow hw 117) (ow hw 118) e0G V_ts V_t2 (Or.inl ⟨rfl, rfl⟩) (by decide) hdi hni (by rw [o_c0]; omega) (by rw [hdp, hnn]; omega) (sp := (0 : Int32)) (dp := (d_ <<< ((0 : Int32) &&& 31))) (us := (o_u8 ds)) (by rw [o_c0]; exact o_usf _ _ _ hnn.symm) (by rw [hdp, List.length_append, List.length_replicate]; omega) N0E g_t2 (g := (mkF m 22 #[.val (.ref s_), .val (.ref t2), .val (.int d_), .val (.int 0)] [(.int (Int32.ofNat ds.length)), (.int (d_ <<< ((0 : Int32) &&& 31))), (.ref t2), (.int 0), (.ref ts)])) rfl (by rw [hml]; rfl) rfl (B d22_22) (by decide) (W := 0) (by show 2 * 0 + _ ≤ _; exact Nat.le_of_eq rfl) (by decide)
 rw [o_cpl _ _ _ _ _ hdp] at V0I
 refine oG st0I ?_
 have E_s_ := E_s_.keep Kq0I
 have j3_ := j3_.keep Kq0I (ninS nst nin0)
 have j5_ := j5_.keep Kq0I (ninS nst nin0)
 have V_ts := V_ts.keep Kq0I (ninS ntt nin0)
 have O := O.keep Kq0I (allS g_t2 all0)
 have K0J := K0.trans Kq0I (allS (Or.inl (List.mem_of_getElem? (i := 0) rfl)) all0)
 have V_t2 : Arv Z h0I t2 k2 .byte M (vs ++ (o_u8 ds)) (.int 0) := V0I
 show oF p e below (T0I.setTop (mkF m 25 #[.val (.ref s_), .val (.ref t2), .val (.int d_), .val (.int 0)] [])) _
 refine oG (fun _ k => XS.goto X0I.here hx rfl (pc0 := 25) (pc' := 43) rfl (B d22_25) (by decide) (by decide) k) ?_
 show oF p e below (T0I.setTop (mkF m 43 #[.val (.ref s_), .val (.ref t2), .val (.int d_), .val (.int 0)] [])) _
 obtain ⟨fs, hr, r1, r2, hW, r3⟩ := X0I.leave (v := none) (fun _ => rfl)
 refine ⟨_, _, ?_, r1, r2, _, _, rfl, ?_, ⟨_, rfl⟩, hW, r3.mono (by decide) (by decide)⟩
 ·exact X0I.returnOut hx Bd.returns (B d22_43) hr
 ·show Qgb0 Z t2 ds k2 M vs h0 n0 _ T0I.heap _
  rw [e0I]
  exact ⟨rfl, Nq0I, K0J, V_t2⟩
def Qgb1 (Z : State) (t2 : Addr) (ds : List Int32) (k2 : ClassId) (M : Int32) (vs : List Value) (h0 : Heap) (n0 : Nat) (v : Option Value) (h : Heap) (L : List Loc) : Prop := v = none ∧ Fr n0 L ∧ Keep h0 h [t2] ∧ Arv Z h t2 k2 .byte M (vs ++ (o_u16 ds)) (.int 0)
theorem gb1 (l : Launch) (Z : State) (a0 : Array Value) (hw : ∀ d ∈ tables_1, d.before a0 Z = true) (ws : List Jvm.Cond) (s_ : Addr) (t2 : Addr) (d_ : Int32) (z : Int32) (ts : Addr) (ks : ClassId) (ds : List Int32) (k2 : ClassId) (M : Int32) (vs : List Value) (h0 : Heap) (n0 : Nat) (O : Old Z n0 h0) (j6_ : sT4 Z (.int z)) (hz : ¬ (z = (0 : Int32))) (E_s_ : eX2 Z h0 s_) (j3_ : fL4 Z h0 s_ (.int 1)) (j5_ : fL3 Z h0 s_ (.ref ts)) (V_ts : Arv Z h0 ts ks .byte ((Int32.ofNat ds.length) <<< ((1 : Int32) &&& 31)) (o_u16 ds) (.int 0)) (V_t2 : Arv Z h0 t2 k2 .byte M vs (.int 0)) (g_t2 : n0 ≤ t2) (ntt : ts ≠ t2) (nst : s_ ≠ t2) (hd_ : (vs.length : Int) = 2 * d_.toInt) (hM : (vs.length : Int) + ((o_u16 ds).length : Int) ≤ M.toInt) (h16 : M.toInt ≤ 900) (h4 : ds.length ≤ 100) :
   o_MF l Z mN19 jdk_42_method_147_code 4 none ws rM12 #[(.ref s_), (.ref t2), (.int d_), (.int 1)] h0 (Qgb1 Z t2 ds k2 M vs h0 n0) := by
 refine MetFree.of_bodySF (plainFor_of_name pn_2) hisR ?_
 intro p e s m args below meth c s₁ Bd hml0 hP hK
 obtain ⟨rfl, hZ, hh⟩ := hP
 have hx := Bd.exec
 have hby := Bd.bytes
 have B := @hb _ _ hby
 have hml : c.maxLocals = 4 := hml0
 have hown : s.vm.findClass "java/lang/String" = some m.cls := findClass_of_methodNamed Bd.named
 have X0 : Stand p l e rM12 s m #[(.ref s_), (.ref t2), (.int d_), (.int 1)] below meth c s₁ [] 0 0 := Stand.of_body Bd
 have e0 : s₁.heap = h0 := by rw [← hh, Bd.state]; rfl
 have N0 := Fr.nil n0
 have K0 := Keep.refl h0 [t2]
 refine o_start (ef_gb0 m s_ t2 d_ (1 : Int32)) (Q := o_QE s rM12 (Qgb1 Z t2 ds k2 M vs h0 n0)) ?_
 show oF p e below (s₁.setTop (mkF m 0 #[.val (.ref s_), .val (.ref t2), .val (.int d_), .val (.int 1)] [])) _
 refine oG (fun _ k => XS.aloadN X0.here hx rfl (B d22_0) rfl rfl k) ?_
 show oF p e below (s₁.setTop (mkF m 1 #[.val (.ref s_), .val (.ref t2), .val (.int d_), .val (.int 1)] [(.ref s_)])) _
 obtain ⟨cq0K, kq0K, q0Ka, q0Kb, q0Kc⟩ := isOf hZ e0 E_s_
 obtain ⟨_, _, ⟨T0K, L0K, k0K, n0K⟩, -, X0K, ⟨Lc0K, hQ0K, l0K, y0K, z0K⟩, st0K⟩ := X0.virtualBack hx (y := mN10) (z := mN10) hown (mo hZ hw 81) (mo hZ hw 82) (notFace_of_selects (args := #[]) (mo hZ hw 84)) (mo hZ hw 84) (mo hZ hw 83) (by decide) (backOf (W := 0) (cd1 l Z a0 hw [] s_ z h0 n0 O j6_ hz j3_) hZ (ow hw 85) (ow hw 15) (by decide) (by decide)) q0Ka q0Kc (g := (mkF m 1 #[.val (.ref s_), .val (.ref t2), .val (.int d_), .val (.int 1)] [(.ref s_)])) rfl (by rw [hml]; rfl) (Steps.refl _) (argsL := []) (rest := []) (lenOf pd_9 rfl) rfl (by show 2 * 0 + _ ≤ _; exact Nat.le_of_eq rfl) (B d22_1) (fun _ _ => ⟨rfl, e0, (by decide : 0 + 0 ≤ _), (by decide : 0 + 0 ≤ _)⟩)
 dsimp only [Pt.U, Pt.locs, Pt.cells, Pt.slots] at X0K l0K y0K z0K st0K hQ0K
 subst y0K z0K
 obtain ⟨rfl, N0Kq, e0K⟩ := hQ0K
 refine oG (fun _ k => st0K.trans k) ?_
 have N0K := oL l0K (Fr.app N0 N0Kq)
 show oF p e below (T0K.setTop (mkF m 4 #[.val (.ref s_), .val (.ref t2), .val (.int d_), .val (.int 1)] [(.int 1)])) _
 refine oG (fun _ k => XS.iloadN X0K.here hx rfl (B d22_4) rfl (XS.icmpNo X0K.here hx rfl (B d22_5) rfl (teq (by decide : (1 : Int32) = (1 : Int32))).2 (XS.aloadN X0K.here hx rfl (B d22_8) rfl rfl k))) ?_
 show oF p e below (T0K.setTop (mkF m 9 #[.val (.ref s_), .val (.ref t2), .val (.int d_), .val (.int 1)] [(.ref s_)])) _
 obtain ⟨T0L, X0L, e0L, st0L⟩ := getF X0K hx hZ hown (host := "") (Or.inl (ow hw 32)) Via.refl e0K j5_ (g := (mkF m 9 #[.val (.ref s_), .val (.ref t2), .val (.int d_), .val (.int 1)] [(.ref s_)])) rfl rfl (B d22_9)
 refine oG st0L ?_
 show oF p e below (T0L.setTop (mkF m 12 #[.val (.ref s_), .val (.ref t2), .val (.int d_), .val (.int 1)] [(.ref ts)])) _
 refine oG (fun _ k => XS.iconst X0L.here hx rfl (B d22_12) (XS.aloadN X0L.here hx rfl (B d22_13) rfl rfl (XS.iloadN X0L.here hx rfl (B d22_14) rfl (XS.iloadN X0L.here hx rfl (B d22_15) rfl (XS.ishl X0L.here hx rfl (B d22_16) rfl (XS.aloadN X0L.here hx rfl (B d22_17) rfl rfl k)))))) ?_
 show oF p e below (T0L.setTop (mkF m 18 #[.val (.ref s_), .val (.ref t2), .val (.int d_), .val (.int 1)] [(.ref s_), (.int (d_ <<< ((1 : Int32) &&& 31))), (.ref t2), (.int 0), (.ref ts)])) _
 obtain ⟨T0M, X0M, e0M, st0M⟩ := getF X0L hx hZ hown (host := "") (Or.inl (ow hw 32)) Via.refl e0L j5_ (g := (mkF m 18 #[.val (.ref s_), .val (.ref t2), .val (.int d_), .val (.int 1)] [(.ref s_), (.int (d_ <<< ((1 : Int32) &&& 31))), (.ref t2), (.int 0), (.ref ts)])) rfl rfl (B d22_18)
 refine oG st0M ?_
 show oF p e below (T0M.setTop (mkF m 21 #[.val (.ref s_), .val (.ref t2), .val (.int d_), .val (.int 1)] [(.ref ts), (.int (d_ <<< ((1 : Int32) &&& 31))), (.ref t2), (.int 0), (.ref ts)])) _
 obtain ⟨cl0N, A0N, -, S0N, M0N, -, -⟩ := id V_ts
 refine oG (fun _ k => X0M.arraylength hx (o_eqE e0M A0N.1) (State.isArrayOf_alike hZ.alike A0N.2.1) (g := (mkF m 21 #[.val (.ref s_), .val (.ref t2), .val (.int d_), .val (.int 1)] [(.ref ts), (.int (d_ <<< ((1 : Int32) &&& 31))), (.ref t2), (.int 0), (.ref ts)])) rfl rfl (B d22_21) _ (by rw [len_of S0N M0N]; exact k)) ?_
 show oF p e below (T0M.setTop (mkF m 22 #[.val (.ref s_), .val (.ref t2), .val (.int d_), .val (.int 1)] [(.int ((Int32.ofNat ds.length) <<< ((1 : Int32) &&& 31))), (.int (d_ <<< ((1 : Int32) &&& 31))), (.ref t2), (.int 0), (.ref ts)])) _
 have hdp : (d_ <<< ((1 : Int32) &&& 31)).toNatClampNeg = vs.length := o_dq1 hd_ (by omega)
 have hnn : ((Int32.ofNat ds.length) <<< ((1 : Int32) &&& 31)).toNatClampNeg = (o_u16 ds).length := o_nq1 h4
 have hMM := o_cn (N := M) (by omega)
 have hdi : ¬ (d_ <<< ((1 : Int32) &&& 31)) < 0 := o_nn (by rw [o_x2i (by omega) (by omega)]; omega)
 have hni : ¬ ((Int32.ofNat ds.length) <<< ((1 : Int32) &&& 31)) < 0 := o_nn (by rw [o_zi h4]; omega)
 have V_t2 := V_t2.pad (pad_rep vs (.int 0) ((Int32.ofNat ds.length) <<< ((1 : Int32) &&& 31)).toNatClampNeg)
 obtain ⟨T0O, h0O, L0O, X0O, e0O, Nq0O, Kq0O, V0O, st0O⟩ := cpA X0M hx hZ hown (ow hw 136) (ow hw 119) (ow hw 117) (ow hw 118) e0M V_ts V_t2 (Or.inl ⟨rfl, rfl⟩) (by decide) hdi hni (by rw [o_c0]; omega) (by rw [hdp, hnn]; omega) (sp := (0 : Int32)) (dp := (d_ <<< ((1 : Int32) &&& 31))) (us := (o_u16 ds)) (by rw [o_c0]; exact o_usf _ _ _ hnn.symm) (by rw [hdp, List.length_append, List.length_replicate]; omega) N0K g_t2 (g := (mkF m 22 #[.val (.ref s_), .val (.ref t2), .val (.int d_), .val (.int 1)] [(.int ((Int32.ofNat ds.length) <<< ((1 : Int32) &&& 31))), (.int (d_ <<< ((1 : Int32) &&& 31))), (.ref t2), (.int 0), (.ref ts)])) rfl (by rw [hml]; rfl) rfl (B d22_22) (by decide) (W := 0) (by show 2 * 0 + _ ≤ _; exact Nat.le_of_eq rfl) (by decide)
 rw [o_cpl _ _ _ _ _ hdp] at V0O
 refine oG st0O ?_
 have E_s_ := E_s_.keep Kq0O
 have j3_ := j3_.keep Kq0O (ninS nst nin0)
 have j5_ := j5_.keep Kq0O (ninS nst nin0)
 have V_ts := V_ts.keep Kq0O (ninS ntt nin0)
 have O := O.keep Kq0O (allS g_t2 all0)
 have K0P := K0.trans Kq0O (allS (Or.inl (List.mem_of_getElem? (i := 0) rfl)) all0)
 have V_t2 : Arv Z h0O t2 k2 .byte M (vs ++ (o_u16 ds)) (.int 0) := V0O
 show oF p e below (T0O.setTop (mkF m 25 #[.val (.ref s_), .val (.ref t2), .val (.int d_), .val (.int 1)] [])) _
 refine oG (fun _ k => XS.goto X0O.here hx rfl (pc0 := 25) (pc' := 43) rfl (B d22_25) (by decide) (by decide) k) ?_
 show oF p e below (T0O.setTop (mkF m 43 #[.val (.ref s_), .val (.ref t2), .val (.int d_), .val (.int 1)] [])) _
 obtain ⟨fs, hr, r1, r2, hW, r3⟩ := X0O.leave (v := none) (fun _ => rfl)
 refine ⟨_, _, ?_, r1, r2, _, _, rfl, ?_, ⟨_, rfl⟩, hW, r3.mono (by decide) (by decide)⟩
 ·exact X0O.returnOut hx Bd.returns (B d22_43) hr
 ·show Qgb1 Z t2 ds k2 M vs h0 n0 _ T0O.heap _
  rw [e0O]
  exact ⟨rfl, Nq0O, K0P, V_t2⟩
theorem d22_28 : decode k19_ 28 = .ok (.aload_n 0, 1) := by decide +kernel
theorem d22_29 : decode k19_ 29 = .ok (.getfield 9, 3) := by decide +kernel
theorem d22_32 : decode k19_ 32 = .ok (.iconst 0, 1) := by decide +kernel
theorem d22_33 : decode k19_ 33 = .ok (.aload_n 1, 1) := by decide +kernel
theorem d22_34 : decode k19_ 34 = .ok (.iload_n 2, 1) := by decide +kernel
theorem d22_35 : decode k19_ 35 = .ok (.aload_n 0, 1) := by decide +kernel
theorem d22_36 : decode k19_ 36 = .ok (.getfield 9, 3) := by decide +kernel
theorem d22_39 : decode k19_ 39 = .ok (.arraylength, 1) := by decide +kernel
theorem d22_40 : decode k19_ 40 = .ok (.invokestatic 106, 3) := by decide +kernel
def Qgbm (Z : State) (t2 : Addr) (ds : List Int32) (k2 : ClassId) (M : Int32) (vs : List Value) (h0 : Heap) (n0 : Nat) (v : Option Value) (h : Heap) (L : List Loc) : Prop := v = none ∧ Fr n0 L ∧ Keep h0 h [t2] ∧ Arv Z h t2 k2 .byte M (vs ++ o_u16 ds) (.int 0)
theorem gbm (l : Launch) (Z : State) (a0 : Array Value) (hw : ∀ d ∈ tables_1, d.before a0 Z = true) (ws : List Jvm.Cond) (s_ : Addr) (t2 : Addr) (d_ : Int32) (z : Int32) (ts : Addr) (ks : ClassId) (ds : List Int32) (k2 : ClassId) (M : Int32) (vs : List Value) (fm : Value) (h0 : Heap) (n0 : Nat) (O : Old Z n0 h0) (j8_ : sT0 Z (.int 1)) (j9_ : sT1 Z (.int 0)) (j10_ : sT2 Z (.int 8)) (j13_ : sT3 Z fm) (hfm : fm.isRef = true) (j6_ : sT4 Z (.int z)) (hz : ¬ (z = (0 : Int32))) (E_s_ : eX2 Z h0 s_) (j3_ : fL4 Z h0 s_ (.int 0)) (j5_ : fL3 Z h0 s_ (.ref ts)) (V_ts : Arv Z h0 ts ks .byte (Int32.ofNat ds.length) (o_u8 ds) (.int 0)) (V_t2 : Arv Z h0 t2 k2 .byte M vs (.int 0)) (g_t2 : n0 ≤ t2) (ntt : ts ≠ t2) (nst : s_ ≠ t2) (hrg : o_rng ds) (hl : o_lat ds) (hd_ : (vs.length : Int) = 2 * d_.toInt) (hM : (vs.length : Int) + 2 * (ds.length : Int) ≤ M.toInt) (h16 : M.toInt ≤ 900) (h4 : ds.length ≤ 100) :
   o_MF l Z mN19 jdk_42_method_147_code 4 none ws rM13 #[(.ref s_), (.ref t2), (.int d_), (.int 1)] h0 (Qgbm Z t2 ds k2 M vs h0 n0) := by
 refine MetFree.of_bodySF (plainFor_of_name pn_2) hisR ?_
 intro p e s m args below meth c s₁ Bd hml0 hP hK
 obtain ⟨rfl, hZ, hh⟩ := hP
 have hx := Bd.exec
 have hby := Bd.bytes
 have B := @hb _ _ hby
 have hml : c.maxLocals = 4 := hml0
 have hown : s.vm.findClass "java/lang/String" = some m.cls := findClass_of_methodNamed Bd.named
 have X0 : Stand p l e rM13 s m #[(.ref s_), (.ref t2), (.int d_), (.int 1)] below meth c s₁ [] 0 0 := Stand.of_body Bd
 have e0 : s₁.heap = h0 := by rw [← hh, Bd.state]; rfl
 have N0 := Fr.nil n0
 have K0 := Keep.refl h0 [t2]
 refine o_start (ef_gb0 m s_ t2 d_ (1 : Int32)) (Q := o_QE s rM13 (Qgbm Z t2 ds k2 M vs h0 n0)) ?_
 show oF p e below (s₁.setTop (mkF m 0 #[.val (.ref s_), .val (.ref t2), .val (.int d_), .val (.int 1)] [])) _
 refine oG (fun _ k => XS.aloadN X0.here hx rfl (B d22_0) rfl rfl k) ?_
 show oF p e below (s₁.setTop (mkF m 1 #[.val (.ref s_), .val (.ref t2), .val (.int d_), .val (.int 1)] [(.ref s_)])) _
 obtain ⟨cq0Q, kq0Q, q0Qa, q0Qb, q0Qc⟩ := isOf hZ e0 E_s_
 obtain ⟨_, _, ⟨T0Q, L0Q, k0Q, n0Q⟩, -, X0Q, ⟨Lc0Q, hQ0Q, l0Q, y0Q, z0Q⟩, st0Q⟩ := X0.virtualBack hx (y := mN10) (z := mN10) hown (mo hZ hw 81) (mo hZ hw 82) (notFace_of_selects (args := #[]) (mo hZ hw 84)) (mo hZ hw 84) (mo hZ hw 83) (by decide) (backOf (W := 0) (cd0 l Z a0 hw [] s_ z h0 n0 O j6_ hz j3_) hZ (ow hw 85) (ow hw 15) (by decide) (by decide)) q0Qa q0Qc (g := (mkF m 1 #[.val (.ref s_), .val (.ref t2), .val (.int d_), .val (.int 1)] [(.ref s_)])) rfl (by rw [hml]; rfl) (Steps.refl _) (argsL := []) (rest := []) (lenOf pd_9 rfl) rfl (by show 2 * 0 + _ ≤ _; exact Nat.le_of_eq rfl) (B d22_1) (fun _ _ => ⟨rfl, e0, (by decide : 0 + 0 ≤ _), (by decide : 0 + 0 ≤ _)⟩)
 dsimp only [Pt.U, Pt.locs, Pt.cells, Pt.slots] at X0Q l0Q y0Q z0Q st0Q hQ0Q
 subst y0Q z0Q
 obtain ⟨rfl, N0Qq, e0Q⟩ := hQ0Q
 refine oG (fun _ k => st0Q.trans k) ?_
 have N0Q := oL l0Q (Fr.app N0 N0Qq)
 show oF p e below (T0Q.setTop (mkF m 4 #[.val (.ref s_), .val (.ref t2), .val (.int d_), .val (.int 1)] [(.int 0)])) _
 refine oG (fun _ k => XS.iloadN X0Q.here hx rfl (B d22_4) rfl (XS.icmpYes X0Q.here hx rfl (pc0 := 5) (pc' := 28) rfl (B d22_5) rfl (feq (by decide : ¬ ((0 : Int32) = (1 : Int32)))).2 (by decide) (by decide) (XS.aloadN X0Q.here hx rfl (B d22_28) rfl rfl k))) ?_
 show oF p e below (T0Q.setTop (mkF m 29 #[.val (.ref s_), .val (.ref t2), .val (.int d_), .val (.int 1)] [(.ref s_)])) _
 obtain ⟨T0R, X0R, e0R, st0R⟩ := getF X0Q hx hZ hown (host := "") (Or.inl (ow hw 32)) Via.refl e0Q j5_ (g := (mkF m 29 #[.val (.ref s_), .val (.ref t2), .val (.int d_), .val (.int 1)] [(.ref s_)])) rfl rfl (B d22_29)
 refine oG st0R ?_
 show oF p e below (T0R.setTop (mkF m 32 #[.val (.ref s_), .val (.ref t2), .val (.int d_), .val (.int 1)] [(.ref ts)])) _
 refine oG (fun _ k => XS.iconst X0R.here hx rfl (B d22_32) (XS.aloadN X0R.here hx rfl (B d22_33) rfl rfl (XS.iloadN X0R.here hx rfl (B d22_34) rfl (XS.aloadN X0R.here hx rfl (B d22_35) rfl rfl k)))) ?_
 show oF p e below (T0R.setTop (mkF m 36 #[.val (.ref s_), .val (.ref t2), .val (.int d_), .val (.int 1)] [(.ref s_), (.int d_), (.ref t2), (.int 0), (.ref ts)])) _
 obtain ⟨T0S, X0S, e0S, st0S⟩ := getF X0R hx hZ hown (host := "") (Or.inl (ow hw 32)) Via.refl e0R j5_ (g := (mkF m 36 #[.val (.ref s_), .val (.ref t2), .val (.int d_), .val (.int 1)] [(.ref s_), (.int d_), (.ref t2), (.int 0), (.ref ts)])) rfl rfl (B d22_36)
 refine oG st0S ?_
 show oF p e below (T0S.setTop (mkF m 39 #[.val (.ref s_), .val (.ref t2), .val (.int d_), .val (.int 1)] [(.ref ts), (.int d_), (.ref t2), (.int 0), (.ref ts)])) _
 obtain ⟨cl0T, A0T, -, S0T, M0T, -, -⟩ := id V_ts
 refine oG (fun _ k => X0S.arraylength hx (o_eqE e0S A0T.1) (State.isArrayOf_alike hZ.alike A0T.2.1) (g := (mkF m 39 #[.val (.ref s_), .val (.ref t2), .val (.int d_), .val (.int 1)] [(.ref ts), (.int d_), (.ref t2), (.int 0), (.ref ts)])) rfl rfl (B d22_39) _ (by rw [len_of S0T M0T]; exact k)) ?_
 show oF p e below (T0S.setTop (mkF m 40 #[.val (.ref s_), .val (.ref t2), .val (.int d_), .val (.int 1)] [(.int (Int32.ofNat ds.length)), (.int d_), (.ref t2), (.int 0), (.ref ts)])) _
 obtain ⟨_, _, ⟨T0U, L0U, k0U, n0U⟩, -, X0U, ⟨Lc0U, hQ0U, l0U, y0U, z0U⟩, st0U⟩ := Jvm.LawKit.callS X0S hx (y := mN6) hown (mo hZ hw 253) (mo hZ hw 234) (mo hZ hw 206) (mo hZ hw 235) (by decide) (backOf (W := 0) (lin l Z a0 hw [] ts t2 d_ (Int32.ofNat ds.length) ks (Int32.ofNat ds.length) ds k2 M vs fm h0 n0 O j8_ j9_ j10_ j13_ hfm V_ts V_t2 g_t2 ntt hrg hl (by rw [o_oi (by omega)]; omega) (o_oi (by omega)) hd_ hM h16) hZ (ow hw 235) (ow hw 206) (by decide) (by decide)) (g := (mkF m 40 #[.val (.ref s_), .val (.ref t2), .val (.int d_), .val (.int 1)] [(.int (Int32.ofNat ds.length)), (.int d_), (.ref t2), (.int 0), (.ref ts)])) rfl (by rw [hml]; rfl) (argsL := [(.ref ts), (.int 0), (.ref t2), (.int d_), (.int (Int32.ofNat ds.length))]) (rest := []) (lenOf pd_5 rfl) rfl (by show 2 * 0 + _ ≤ _; exact Nat.le_of_eq rfl) (B d22_40) (fun _ _ => ⟨rfl, e0S, (by decide : 0 + 0 ≤ _), (by decide : 0 + 0 ≤ _)⟩)
 dsimp only [Pt.U, Pt.locs, Pt.cells, Pt.slots] at X0U l0U y0U z0U st0U hQ0U
 subst y0U z0U
 obtain ⟨rfl, N0Uq, Kq0U, P0U_0⟩ := hQ0U
 refine oG st0U ?_
 have N0U := oL l0U (Fr.app N0Q N0Uq)
 have E_s_ := E_s_.keep Kq0U
 have j3_ := j3_.keep Kq0U (ninS nst nin0)
 have j5_ := j5_.keep Kq0U (ninS nst nin0)
 have V_ts := V_ts.keep Kq0U (ninS ntt nin0)
 clear V_t2
 have O := O.keep Kq0U (allS g_t2 all0)
 have K0V := K0.trans Kq0U (allS (Or.inl (List.mem_of_getElem? (i := 0) rfl)) all0)
 have V_t2 := P0U_0
 show oF p e below (T0U.setTop (mkF m 43 #[.val (.ref s_), .val (.ref t2), .val (.int d_), .val (.int 1)] [])) _
 obtain ⟨fs, hr, r1, r2, hW, r3⟩ := X0U.leave (v := none) (fun _ => rfl)
 refine ⟨_, _, ?_, r1, r2, _, _, rfl, ?_, ⟨_, rfl⟩, hW, r3.mono (by decide) (by decide)⟩
 ·exact X0U.returnOut hx Bd.returns (B d22_43) hr
 ·show Qgbm Z t2 ds k2 M vs h0 n0 _ T0U.heap _
  exact ⟨rfl, N0U, K0V, V_t2⟩
theorem d21_0 : decode k20_ 0 = .ok (.getstatic 18, 3) := by decide +kernel
theorem d21_3 : decode k20_ 3 = .ok (.ifCond .eq 18, 3) := by decide +kernel
theorem d21_6 : decode k20_ 6 = .ok (.aload_n 0, 1) := by decide +kernel
theorem d21_7 : decode k20_ 7 = .ok (.getfield 22, 3) := by decide +kernel
theorem d21_10 : decode k20_ 10 = .ok (.aload_n 1, 1) := by decide +kernel
theorem d21_11 : decode k20_ 11 = .ok (.invokevirtual 40, 3) := by decide +kernel
theorem d21_14 : decode k20_ 14 = .ok (.if_icmp .eq 7, 3) := by decide +kernel
theorem d21_21 : decode k20_ 21 = .ok (.return_, 1) := by decide +kernel
theorem ef_iin00 (m : MethodId) (x0 : Addr) (x1 : Addr) : entryFrame m #[(.ref x0), (.ref x1)] 2 = mkF m 0 #[.val (.ref x0), .val (.ref x1)] [] := by first | (simp [entryFrame, mkF, argsToLocals, Value.category]; done) | rfl
def Qiin00 (Z : State)  (h0 : Heap) (n0 : Nat) (v : Option Value) (h : Heap) (L : List Loc) : Prop := v = none ∧ Fr n0 L ∧ h = h0
theorem iin00 (l : Launch) (Z : State) (a0 : Array Value) (hw : ∀ d ∈ tables_1, d.before a0 Z = true) (ws : List Jvm.Cond) (b : Addr) (s_ : Addr) (z : Int32) (h0 : Heap) (n0 : Nat) (O : Old Z n0 h0) (j6_ : sT4 Z (.int z)) (hz : ¬ (z = (0 : Int32))) (E_b : eX1 Z h0 b) (E_s_ : eX2 Z h0 s_) (j1_ : fL2 Z h0 b (.int 0)) (j3_ : fL4 Z h0 s_ (.int 0)) :
   o_MF l Z mN20 jdk_68_method_71_code 2 none ws rM8 #[(.ref b), (.ref s_)] h0 (Qiin00 Z  h0 n0) := by
 refine MetFree.of_bodySF (plainFor_of_name pn_4) hisR ?_
 intro p e s m args below meth c s₁ Bd hml0 hP hK
 obtain ⟨rfl, hZ, hh⟩ := hP
 have hx := Bd.exec
 have hby := Bd.bytes
 have B := @hb _ _ hby
 have hml : c.maxLocals = 2 := hml0
 have hown : s.vm.findClass "java/lang/AbstractStringBuilder" = some m.cls := findClass_of_methodNamed Bd.named
 have X0 : Stand p l e rM8 s m #[(.ref b), (.ref s_)] below meth c s₁ [] 0 0 := Stand.of_body Bd
 have e0 : s₁.heap = h0 := by rw [← hh, Bd.state]; rfl
 have N0 := Fr.nil n0
 refine o_start (ef_iin00 m b s_) (Q := o_QE s rM8 (Qiin00 Z  h0 n0)) ?_
 show oF p e below (s₁.setTop (mkF m 0 #[.val (.ref b), .val (.ref s_)] [])) _
 obtain ⟨T0W, X0W, e0W, st0W⟩ := getS2 X0 hx hZ hown (host := "") (Or.inl (ow hw 60)) Via.refl e0 (j6_.ext O.2) (g := (mkF m 0 #[.val (.ref b), .val (.ref s_)] [])) rfl (B d21_0)
 refine oG st0W ?_
 show oF p e below (T0W.setTop (mkF m 3 #[.val (.ref b), .val (.ref s_)] [(.int z)])) _
 refine oG (fun _ k => XS.ifNo X0W.here hx rfl (B d21_3) rfl ((if0 _ _).trans (feq hz).1) (XS.aloadN X0W.here hx rfl (B d21_6) rfl rfl k)) ?_
 show oF p e below (T0W.setTop (mkF m 7 #[.val (.ref b), .val (.ref s_)] [(.ref b)])) _
 obtain ⟨T0X, X0X, e0X, st0X⟩ := getF X0W hx hZ hown (host := "") (Or.inl (ow hw 63)) Via.refl e0W j1_ (g := (mkF m 7 #[.val (.ref b), .val (.ref s_)] [(.ref b)])) rfl rfl (B d21_7)
 refine oG st0X ?_
 show oF p e below (T0X.setTop (mkF m 10 #[.val (.ref b), .val (.ref s_)] [(.int 0)])) _
 refine oG (fun _ k => XS.aloadN X0X.here hx rfl (B d21_10) rfl rfl k) ?_
 show oF p e below (T0X.setTop (mkF m 11 #[.val (.ref b), .val (.ref s_)] [(.ref s_), (.int 0)])) _
 obtain ⟨cq0Y, kq0Y, q0Ya, q0Yb, q0Yc⟩ := isOf hZ e0X E_s_
 obtain ⟨_, _, ⟨T0Y, L0Y, k0Y, n0Y⟩, -, X0Y, ⟨Lc0Y, hQ0Y, l0Y, y0Y, z0Y⟩, st0Y⟩ := X0X.virtualBack hx (y := mN10) (z := mN10) hown (mo hZ hw 130) (mo hZ hw 82) (notFace_of_selects (args := #[]) (mo hZ hw 84)) (mo hZ hw 84) (mo hZ hw 83) (by decide) (backOf (W := 1) (cd0 l Z a0 hw [] s_ z h0 n0 O j6_ hz j3_) hZ (ow hw 85) (ow hw 15) (by decide) (by decide)) q0Ya q0Yc (g := (mkF m 11 #[.val (.ref b), .val (.ref s_)] [(.ref s_), (.int 0)])) rfl (by rw [hml]; rfl) (Steps.refl _) (argsL := []) (rest := [(.int 0)]) (lenOf pd_9 rfl) rfl (by show 2 * 0 + _ ≤ _; exact Nat.le_of_eq rfl) (B d21_11) (fun _ _ => ⟨rfl, e0X, (by decide : 0 + 0 ≤ _), (by decide : 0 + 0 ≤ _)⟩)
 dsimp only [Pt.U, Pt.locs, Pt.cells, Pt.slots] at X0Y l0Y y0Y z0Y st0Y hQ0Y
 subst y0Y z0Y
 obtain ⟨rfl, N0Yq, e0Y⟩ := hQ0Y
 refine oG (fun _ k => st0Y.trans k) ?_
 have N0Y := oL l0Y (Fr.app N0 N0Yq)
 show oF p e below (T0Y.setTop (mkF m 14 #[.val (.ref b), .val (.ref s_)] [(.int 0), (.int 0)])) _
 refine oG (fun _ k => XS.icmpYes X0Y.here hx rfl (pc0 := 14) (pc' := 21) rfl (B d21_14) rfl (teq (by decide : (0 : Int32) = (0 : Int32))).1 (by decide) (by decide) k) ?_
 show oF p e below (T0Y.setTop (mkF m 21 #[.val (.ref b), .val (.ref s_)] [])) _
 obtain ⟨fs, hr, r1, r2, hW, r3⟩ := X0Y.leave (v := none) (fun _ => rfl)
 refine ⟨_, _, ?_, r1, r2, _, _, rfl, ?_, ⟨_, rfl⟩, hW, r3.mono (by decide) (by decide)⟩
 ·exact X0Y.returnOut hx Bd.returns (B d21_21) hr
 ·show Qiin00 Z  h0 n0 _ T0Y.heap _
  rw [e0Y]
  exact ⟨rfl, N0Y, rfl⟩
def Qiin11 (Z : State)  (h0 : Heap) (n0 : Nat) (v : Option Value) (h : Heap) (L : List Loc) : Prop := v = none ∧ Fr n0 L ∧ h = h0
theorem iin11 (l : Launch) (Z : State) (a0 : Array Value) (hw : ∀ d ∈ tables_1, d.before a0 Z = true) (ws : List Jvm.Cond) (b : Addr) (s_ : Addr) (z : Int32) (h0 : Heap) (n0 : Nat) (O : Old Z n0 h0) (j6_ : sT4 Z (.int z)) (hz : ¬ (z = (0 : Int32))) (E_b : eX1 Z h0 b) (E_s_ : eX2 Z h0 s_) (j1_ : fL2 Z h0 b (.int 1)) (j3_ : fL4 Z h0 s_ (.int 1)) :
   o_MF l Z mN20 jdk_68_method_71_code 2 none ws rM8 #[(.ref b), (.ref s_)] h0 (Qiin11 Z  h0 n0) := by
 refine MetFree.of_bodySF (plainFor_of_name pn_4) hisR ?_
 intro p e s m args below meth c s₁ Bd hml0 hP hK
 obtain ⟨rfl, hZ, hh⟩ := hP
 have hx := Bd.exec
 have hby := Bd.bytes
 have B := @hb _ _ hby
 have hml : c.maxLocals = 2 := hml0
 have hown : s.vm.findClass "java/lang/AbstractStringBuilder" = some m.cls := findClass_of_methodNamed Bd.named
 have X0 : Stand p l e rM8 s m #[(.ref b), (.ref s_)] below meth c s₁ [] 0 0 := Stand.of_body Bd
 have e0 : s₁.heap = h0 := by rw [← hh, Bd.state]; rfl
 have N0 := Fr.nil n0
 refine o_start (ef_iin00 m b s_) (Q := o_QE s rM8 (Qiin11 Z  h0 n0)) ?_
 show oF p e below (s₁.setTop (mkF m 0 #[.val (.ref b), .val (.ref s_)] [])) _
 obtain ⟨T0Z, X0Z, e0Z, st0Z⟩ := getS2 X0 hx hZ hown (host := "") (Or.inl (ow hw 60)) Via.refl e0 (j6_.ext O.2) (g := (mkF m 0 #[.val (.ref b), .val (.ref s_)] [])) rfl (B d21_0)
 refine oG st0Z ?_
 show oF p e below (T0Z.setTop (mkF m 3 #[.val (.ref b), .val (.ref s_)] [(.int z)])) _
 refine oG (fun _ k => XS.ifNo X0Z.here hx rfl (B d21_3) rfl ((if0 _ _).trans (feq hz).1) (XS.aloadN X0Z.here hx rfl (B d21_6) rfl rfl k)) ?_
 show oF p e below (T0Z.setTop (mkF m 7 #[.val (.ref b), .val (.ref s_)] [(.ref b)])) _
 obtain ⟨T1a, X1a, e1a, st1a⟩ := getF X0Z hx hZ hown (host := "") (Or.inl (ow hw 63)) Via.refl e0Z j1_ (g := (mkF m 7 #[.val (.ref b), .val (.ref s_)] [(.ref b)])) rfl rfl (B d21_7)
 refine oG st1a ?_
 show oF p e below (T1a.setTop (mkF m 10 #[.val (.ref b), .val (.ref s_)] [(.int 1)])) _
 refine oG (fun _ k => XS.aloadN X1a.here hx rfl (B d21_10) rfl rfl k) ?_
 show oF p e below (T1a.setTop (mkF m 11 #[.val (.ref b), .val (.ref s_)] [(.ref s_), (.int 1)])) _
 obtain ⟨cq1b, kq1b, q1ba, q1bb, q1bc⟩ := isOf hZ e1a E_s_
 obtain ⟨_, _, ⟨T1b, L1b, k1b, n1b⟩, -, X1b, ⟨Lc1b, hQ1b, l1b, y1b, z1b⟩, st1b⟩ := X1a.virtualBack hx (y := mN10) (z := mN10) hown (mo hZ hw 130) (mo hZ hw 82) (notFace_of_selects (args := #[]) (mo hZ hw 84)) (mo hZ hw 84) (mo hZ hw 83) (by decide) (backOf (W := 1) (cd1 l Z a0 hw [] s_ z h0 n0 O j6_ hz j3_) hZ (ow hw 85) (ow hw 15) (by decide) (by decide)) q1ba q1bc (g := (mkF m 11 #[.val (.ref b), .val (.ref s_)] [(.ref s_), (.int 1)])) rfl (by rw [hml]; rfl) (Steps.refl _) (argsL := []) (rest := [(.int 1)]) (lenOf pd_9 rfl) rfl (by show 2 * 0 + _ ≤ _; exact Nat.le_of_eq rfl) (B d21_11) (fun _ _ => ⟨rfl, e1a, (by decide : 0 + 0 ≤ _), (by decide : 0 + 0 ≤ _)⟩)
 dsimp only [Pt.U, Pt.locs, Pt.cells, Pt.slots] at X1b l1b y1b z1b st1b hQ1b
 subst y1b z1b
 obtain ⟨rfl, N1bq, e1b⟩ := hQ1b
 refine oG (fun _ k => st1b.trans k) ?_
 have N1b := oL l1b (Fr.app N0 N1bq)
 show oF p e below (T1b.setTop (mkF m 14 #[.val (.ref b), .val (.ref s_)] [(.int 1), (.int 1)])) _
 refine oG (fun _ k => XS.icmpYes X1b.here hx rfl (pc0 := 14) (pc' := 21) rfl (B d21_14) rfl (teq (by decide : (1 : Int32) = (1 : Int32))).1 (by decide) (by decide) k) ?_
 show oF p e below (T1b.setTop (mkF m 21 #[.val (.ref b), .val (.ref s_)] [])) _
 obtain ⟨fs, hr, r1, r2, hW, r3⟩ := X1b.leave (v := none) (fun _ => rfl)
 refine ⟨_, _, ?_, r1, r2, _, _, rfl, ?_, ⟨_, rfl⟩, hW, r3.mono (by decide) (by decide)⟩
 ·exact X1b.returnOut hx Bd.returns (B d21_21) hr
 ·show Qiin11 Z  h0 n0 _ T1b.heap _
  rw [e1b]
  exact ⟨rfl, N1b, rfl⟩
theorem d21_17 : decode k20_ 17 = .ok (.aload_n 0, 1) := by decide +kernel
theorem d21_18 : decode k20_ 18 = .ok (.invokevirtual 195, 3) := by decide +kernel
theorem pd_12 : parseMethodDescriptor "()V" = some ⟨[], none⟩ := by decide +kernel
def Qiin10 (Z : State)  (h0 : Heap) (n0 : Nat) (v : Option Value) (h : Heap) (L : List Loc) : Prop := v = none ∧ Fr n0 L ∧ h = h0
theorem iin10 (l : Launch) (Z : State) (a0 : Array Value) (hw : ∀ d ∈ tables_1, d.before a0 Z = true) (ws : List Jvm.Cond) (b : Addr) (s_ : Addr) (z : Int32) (h0 : Heap) (n0 : Nat) (O : Old Z n0 h0) (j6_ : sT4 Z (.int z)) (hz : ¬ (z = (0 : Int32))) (E_b : eX1 Z h0 b) (E_s_ : eX2 Z h0 s_) (j1_ : fL2 Z h0 b (.int 1)) (j3_ : fL4 Z h0 s_ (.int 0)) :
   o_MF l Z mN20 jdk_68_method_71_code 2 none ws rM14 #[(.ref b), (.ref s_)] h0 (Qiin10 Z  h0 n0) := by
 refine MetFree.of_bodySF (plainFor_of_name pn_4) hisR ?_
 intro p e s m args below meth c s₁ Bd hml0 hP hK
 obtain ⟨rfl, hZ, hh⟩ := hP
 have hx := Bd.exec
 have hby := Bd.bytes
 have B := @hb _ _ hby
 have hml : c.maxLocals = 2 := hml0
 have hown : s.vm.findClass "java/lang/AbstractStringBuilder" = some m.cls := findClass_of_methodNamed Bd.named
 have X0 : Stand p l e rM14 s m #[(.ref b), (.ref s_)] below meth c s₁ [] 0 0 := Stand.of_body Bd
 have e0 : s₁.heap = h0 := by rw [← hh, Bd.state]; rfl
 have N0 := Fr.nil n0
 refine o_start (ef_iin00 m b s_) (Q := o_QE s rM14 (Qiin10 Z  h0 n0)) ?_
 show oF p e below (s₁.setTop (mkF m 0 #[.val (.ref b), .val (.ref s_)] [])) _
 obtain ⟨T1c, X1c, e1c, st1c⟩ := getS2 X0 hx hZ hown (host := "") (Or.inl (ow hw 60)) Via.refl e0 (j6_.ext O.2) (g := (mkF m 0 #[.val (.ref b), .val (.ref s_)] [])) rfl (B d21_0)
 refine oG st1c ?_
 show oF p e below (T1c.setTop (mkF m 3 #[.val (.ref b), .val (.ref s_)] [(.int z)])) _
 refine oG (fun _ k => XS.ifNo X1c.here hx rfl (B d21_3) rfl ((if0 _ _).trans (feq hz).1) (XS.aloadN X1c.here hx rfl (B d21_6) rfl rfl k)) ?_
 show oF p e below (T1c.setTop (mkF m 7 #[.val (.ref b), .val (.ref s_)] [(.ref b)])) _
 obtain ⟨T1d, X1d, e1d, st1d⟩ := getF X1c hx hZ hown (host := "") (Or.inl (ow hw 63)) Via.refl e1c j1_ (g := (mkF m 7 #[.val (.ref b), .val (.ref s_)] [(.ref b)])) rfl rfl (B d21_7)
 refine oG st1d ?_
 show oF p e below (T1d.setTop (mkF m 10 #[.val (.ref b), .val (.ref s_)] [(.int 1)])) _
 refine oG (fun _ k => XS.aloadN X1d.here hx rfl (B d21_10) rfl rfl k) ?_
 show oF p e below (T1d.setTop (mkF m 11 #[.val (.ref b), .val (.ref s_)] [(.ref s_), (.int 1)])) _
 obtain ⟨cq1e, kq1e, q1ea, q1eb, q1ec⟩ := isOf hZ e1d E_s_
 obtain ⟨_, _, ⟨T1e, L1e, k1e, n1e⟩, -, X1e, ⟨Lc1e, hQ1e, l1e, y1e, z1e⟩, st1e⟩ := X1d.virtualBack hx (y := mN10) (z := mN10) hown (mo hZ hw 130) (mo hZ hw 82) (notFace_of_selects (args := #[]) (mo hZ hw 84)) (mo hZ hw 84) (mo hZ hw 83) (by decide) (backOf (W := 1) (cd0 l Z a0 hw [] s_ z h0 n0 O j6_ hz j3_) hZ (ow hw 85) (ow hw 15) (by decide) (by decide)) q1ea q1ec (g := (mkF m 11 #[.val (.ref b), .val (.ref s_)] [(.ref s_), (.int 1)])) rfl (by rw [hml]; rfl) (Steps.refl _) (argsL := []) (rest := [(.int 1)]) (lenOf pd_9 rfl) rfl (by show 2 * 0 + _ ≤ _; exact Nat.le_of_eq rfl) (B d21_11) (fun _ _ => ⟨rfl, e1d, (by decide : 0 + 0 ≤ _), (by decide : 0 + 0 ≤ _)⟩)
 dsimp only [Pt.U, Pt.locs, Pt.cells, Pt.slots] at X1e l1e y1e z1e st1e hQ1e
 subst y1e z1e
 obtain ⟨rfl, N1eq, e1e⟩ := hQ1e
 refine oG (fun _ k => st1e.trans k) ?_
 have N1e := oL l1e (Fr.app N0 N1eq)
 show oF p e below (T1e.setTop (mkF m 14 #[.val (.ref b), .val (.ref s_)] [(.int 0), (.int 1)])) _
 refine oG (fun _ k => XS.icmpNo X1e.here hx rfl (B d21_14) rfl (feq (by decide : ¬ ((1 : Int32) = (0 : Int32)))).1 (XS.aloadN X1e.here hx rfl (B d21_17) rfl rfl k)) ?_
 show oF p e below (T1e.setTop (mkF m 18 #[.val (.ref b), .val (.ref s_)] [(.ref b)])) _
 obtain ⟨cq1f, q1f, q1f'⟩ := E_b.cell
 obtain ⟨_, _, ⟨T1f, L1f, k1f, n1f⟩, -, X1f, ⟨Lc1f, hQ1f, l1f, y1f, z1f⟩, st1f⟩ := X1e.privateBack hx (y := mN11) hown (mo hZ hw 227) (mo hZ hw 228) (o_selS (mo hZ hw 92) (by exact rfl) (Cond.privateMethod_at (mvP hZ (ow hw 229) (args := #[]))) (mo hZ hw 228) (by decide)) (Cond.privateMethod_at (mvP hZ (ow hw 229) (args := #[]))) (mo hZ hw 231) (by decide) (backOf (W := 0) (ifn l Z a0 hw [] b z h0 n0 O j6_ hz E_b j1_) hZ (ow hw 231) (ow hw 57) (by decide) (by decide)) (g := (mkF m 18 #[.val (.ref b), .val (.ref s_)] [(.ref b)])) rfl (by rw [hml]; rfl) (Steps.refl _) (a := b) (o_eqE e1e q1f) q1f' (argsL := []) (rest := []) (lenOf pd_12 rfl) rfl (by show 2 * 0 + _ ≤ _; exact Nat.le_of_eq rfl) (B d21_18) (fun _ _ => ⟨rfl, e1e, (by decide : 0 + 0 ≤ _), (by decide : 0 + 0 ≤ _)⟩)
 dsimp only [Pt.U, Pt.locs, Pt.cells, Pt.slots] at X1f l1f y1f z1f st1f hQ1f
 subst y1f z1f
 obtain ⟨rfl, N1fq, e1f⟩ := hQ1f
 refine oG (fun _ k => st1f.trans k) ?_
 have N1f := oL l1f (Fr.app N1e N1fq)
 show oF p e below (T1f.setTop (mkF m 21 #[.val (.ref b), .val (.ref s_)] [])) _
 obtain ⟨fs, hr, r1, r2, hW, r3⟩ := X1f.leave (v := none) (fun _ => rfl)
 refine ⟨_, _, ?_, r1, r2, _, _, rfl, ?_, ⟨_, rfl⟩, hW, r3.mono (by decide) (by decide)⟩
 ·exact X1f.returnOut hx Bd.returns (B d21_21) hr
 ·show Qiin10 Z  h0 n0 _ T1f.heap _
  rw [e1f]
  exact ⟨rfl, N1f, rfl⟩
def Qiin01 (Z : State) (b : Addr) (N : Int32) (cn : Int32) (cs : List Int32) (h0 : Heap) (n0 : Nat) (v : Option Value) (h : Heap) (L : List Loc) : Prop := ∃ (t2_ : Addr) (k2_ : ClassId), v = none ∧ Fr n0 L ∧ Keep h0 h [b] ∧ h0.size ≤ t2_ ∧ eX1 Z h b ∧ fL0 Z h b (.ref t2_) ∧ fL2 Z h b (.int 1) ∧ fL5 Z h b (.int cn) ∧ fL1 Z h b (.int 0) ∧ Arv Z h t2_ k2_ .byte (N <<< ((1 : Int32) &&& 31)) (o_u16 cs) (.int 0) ∧ eX0 Z h t2_
theorem iin01 (l : Launch) (Z : State) (a0 : Array Value) (hw : ∀ d ∈ tables_1, d.before a0 Z = true) (ws : List Jvm.Cond) (b : Addr) (s_ : Addr) (z : Int32) (t : Addr) (kt : ClassId) (N : Int32) (cn : Int32) (cs : List Int32) (fm : Value) (h0 : Heap) (n0 : Nat) (O : Old Z n0 h0) (j6_ : sT4 Z (.int z)) (hz : ¬ (z = (0 : Int32))) (j8_ : sT0 Z (.int 1)) (j9_ : sT1 Z (.int 0)) (j10_ : sT2 Z (.int 8)) (j13_ : sT3 Z fm) (hfm : fm.isRef = true) (E_b : eX1 Z h0 b) (j2_ : fL0 Z h0 b (.ref t)) (j1_ : fL2 Z h0 b (.int 0)) (j0_ : fL5 Z h0 b (.int cn)) (j4_ : fL1 Z h0 b (.int 0)) (V_t : Arv Z h0 t kt .byte N (o_u8 cs) (.int 0)) (E_t : eX0 Z h0 t) (E_s_ : eX2 Z h0 s_) (j3_ : fL4 Z h0 s_ (.int 1)) (nsb : s_ ≠ b) (g_b : n0 ≤ b) (g_t : n0 ≤ t) (nbt : b ≠ t) (hrg : o_rng cs) (hla : o_lat cs) (hcn : cn.toInt = (cs.length : Int)) (hle : (cs.length : Int) ≤ N.toInt) (hN1 : N.toInt ≤ 100) :
   o_MF l Z mN20 jdk_68_method_71_code 2 none ws rM15 #[(.ref b), (.ref s_)] h0 (Qiin01 Z b N cn cs h0 n0) := by
 refine MetFree.of_bodySF (plainFor_of_name pn_4) hisR ?_
 intro p e s m args below meth c s₁ Bd hml0 hP hK
 obtain ⟨rfl, hZ, hh⟩ := hP
 have hx := Bd.exec
 have hby := Bd.bytes
 have B := @hb _ _ hby
 have hml : c.maxLocals = 2 := hml0
 have hown : s.vm.findClass "java/lang/AbstractStringBuilder" = some m.cls := findClass_of_methodNamed Bd.named
 have X0 : Stand p l e rM15 s m #[(.ref b), (.ref s_)] below meth c s₁ [] 0 0 := Stand.of_body Bd
 have e0 : s₁.heap = h0 := by rw [← hh, Bd.state]; rfl
 have N0 := Fr.nil n0
 have K0 := Keep.refl h0 [b]
 refine o_start (ef_iin00 m b s_) (Q := o_QE s rM15 (Qiin01 Z b N cn cs h0 n0)) ?_
 show oF p e below (s₁.setTop (mkF m 0 #[.val (.ref b), .val (.ref s_)] [])) _
 obtain ⟨T1g, X1g, e1g, st1g⟩ := getS2 X0 hx hZ hown (host := "") (Or.inl (ow hw 60)) Via.refl e0 (j6_.ext O.2) (g := (mkF m 0 #[.val (.ref b), .val (.ref s_)] [])) rfl (B d21_0)
 refine oG st1g ?_
 show oF p e below (T1g.setTop (mkF m 3 #[.val (.ref b), .val (.ref s_)] [(.int z)])) _
 refine oG (fun _ k => XS.ifNo X1g.here hx rfl (B d21_3) rfl ((if0 _ _).trans (feq hz).1) (XS.aloadN X1g.here hx rfl (B d21_6) rfl rfl k)) ?_
 show oF p e below (T1g.setTop (mkF m 7 #[.val (.ref b), .val (.ref s_)] [(.ref b)])) _
 obtain ⟨T1h, X1h, e1h, st1h⟩ := getF X1g hx hZ hown (host := "") (Or.inl (ow hw 63)) Via.refl e1g j1_ (g := (mkF m 7 #[.val (.ref b), .val (.ref s_)] [(.ref b)])) rfl rfl (B d21_7)
 refine oG st1h ?_
 show oF p e below (T1h.setTop (mkF m 10 #[.val (.ref b), .val (.ref s_)] [(.int 0)])) _
 refine oG (fun _ k => XS.aloadN X1h.here hx rfl (B d21_10) rfl rfl k) ?_
 show oF p e below (T1h.setTop (mkF m 11 #[.val (.ref b), .val (.ref s_)] [(.ref s_), (.int 0)])) _
 obtain ⟨cq1i, kq1i, q1ia, q1ib, q1ic⟩ := isOf hZ e1h E_s_
 obtain ⟨_, _, ⟨T1i, L1i, k1i, n1i⟩, -, X1i, ⟨Lc1i, hQ1i, l1i, y1i, z1i⟩, st1i⟩ := X1h.virtualBack hx (y := mN10) (z := mN10) hown (mo hZ hw 130) (mo hZ hw 82) (notFace_of_selects (args := #[]) (mo hZ hw 84)) (mo hZ hw 84) (mo hZ hw 83) (by decide) (backOf (W := 1) (cd1 l Z a0 hw [] s_ z h0 n0 O j6_ hz j3_) hZ (ow hw 85) (ow hw 15) (by decide) (by decide)) q1ia q1ic (g := (mkF m 11 #[.val (.ref b), .val (.ref s_)] [(.ref s_), (.int 0)])) rfl (by rw [hml]; rfl) (Steps.refl _) (argsL := []) (rest := [(.int 0)]) (lenOf pd_9 rfl) rfl (by show 2 * 0 + _ ≤ _; exact Nat.le_of_eq rfl) (B d21_11) (fun _ _ => ⟨rfl, e1h, (by decide : 0 + 0 ≤ _), (by decide : 0 + 0 ≤ _)⟩)
 dsimp only [Pt.U, Pt.locs, Pt.cells, Pt.slots] at X1i l1i y1i z1i st1i hQ1i
 subst y1i z1i
 obtain ⟨rfl, N1iq, e1i⟩ := hQ1i
 refine oG (fun _ k => st1i.trans k) ?_
 have N1i := oL l1i (Fr.app N0 N1iq)
 show oF p e below (T1i.setTop (mkF m 14 #[.val (.ref b), .val (.ref s_)] [(.int 1), (.int 0)])) _
 refine oG (fun _ k => XS.icmpNo X1i.here hx rfl (B d21_14) rfl (feq (by decide : ¬ ((0 : Int32) = (1 : Int32)))).1 (XS.aloadN X1i.here hx rfl (B d21_17) rfl rfl k)) ?_
 show oF p e below (T1i.setTop (mkF m 18 #[.val (.ref b), .val (.ref s_)] [(.ref b)])) _
 obtain ⟨cq1j, q1j, q1j'⟩ := E_b.cell
 obtain ⟨_, _, ⟨T1j, L1j, k1j, n1j⟩, -, X1j, ⟨Lc1j, hQ1j, l1j, y1j, z1j⟩, st1j⟩ := X1i.privateBack hx (y := mN11) hown (mo hZ hw 227) (mo hZ hw 228) (o_selS (mo hZ hw 92) (by exact rfl) (Cond.privateMethod_at (mvP hZ (ow hw 229) (args := #[]))) (mo hZ hw 228) (by decide)) (Cond.privateMethod_at (mvP hZ (ow hw 229) (args := #[]))) (mo hZ hw 231) (by decide) (backOf (W := 0) (ifl l Z a0 hw [] b z t kt N cn cs fm h0 n0 O j6_ hz j8_ j9_ j10_ j13_ hfm E_b j2_ j1_ j0_ j4_ V_t E_t g_b g_t nbt hrg hla hcn hle hN1) hZ (ow hw 231) (ow hw 57) (by decide) (by decide)) (g := (mkF m 18 #[.val (.ref b), .val (.ref s_)] [(.ref b)])) rfl (by rw [hml]; rfl) (Steps.refl _) (a := b) (o_eqE e1i q1j) q1j' (argsL := []) (rest := []) (lenOf pd_12 rfl) rfl (by show 2 * 0 + _ ≤ _; exact Nat.le_of_eq rfl) (B d21_18) (fun _ _ => ⟨rfl, e1i, (by decide : 0 + 1 ≤ _), (by decide : 0 + 200 ≤ _)⟩)
 dsimp only [Pt.U, Pt.locs, Pt.cells, Pt.slots] at X1j l1j y1j z1j st1j hQ1j
 subst y1j z1j
 obtain ⟨t2_1k, k2_1l, rfl, N1jq, Kq1j, P1j_0, P1j_1, P1j_2, P1j_3, P1j_4, P1j_5, P1j_6, P1j_7⟩ := hQ1j
 refine oG (fun _ k => st1j.trans k) ?_
 have N1j := oL l1j (Fr.app N1i N1jq)
 have ne_b_t2_172 : b ≠ t2_1k := Nat.ne_of_lt (Nat.lt_of_lt_of_le E_b.lt P1j_0)
 have ne_t_t2_172 : t ≠ t2_1k := Nat.ne_of_lt (Nat.lt_of_lt_of_le V_t.lt P1j_0)
 have ne_s__t2_172 : s_ ≠ t2_1k := Nat.ne_of_lt (Nat.lt_of_lt_of_le E_s_.lt P1j_0)
 have g_t2_172 : n0 ≤ t2_1k := Nat.le_trans (o_osz O) P1j_0
 have sz_t2_172 : h0.size ≤ t2_1k := Nat.le_trans K0.1 P1j_0
 have E_b := E_b.keep Kq1j
 clear j2_
 clear j1_
 clear j0_
 clear j4_
 have V_t := V_t.keep Kq1j (ninS (Ne.symm nbt) nin0)
 have E_t := E_t.keep Kq1j
 have E_s_ := E_s_.keep Kq1j
 have j3_ := j3_.keep Kq1j (ninS nsb nin0)
 have O := O.keep Kq1j (allS g_b all0)
 have K1m := K0.trans Kq1j (allS (Or.inl (List.mem_of_getElem? (i := 0) rfl)) all0)
 have E_b := P1j_1
 have j2_ := P1j_2
 have j1_ := P1j_3
 have j0_ := P1j_4
 have j4_ := P1j_5
 have V_t2_172 := P1j_6
 have E_t2_172 := P1j_7
 show oF p e below (T1j.setTop (mkF m 21 #[.val (.ref b), .val (.ref s_)] [])) _
 obtain ⟨fs, hr, r1, r2, hW, r3⟩ := X1j.leave (v := none) (fun _ => rfl)
 refine ⟨_, _, ?_, r1, r2, _, _, rfl, ?_, ⟨_, rfl⟩, hW, r3.mono (by decide) (by decide)⟩
 ·exact X1j.returnOut hx Bd.returns (B d21_21) hr
 ·show Qiin01 Z b N cn cs h0 n0 _ T1j.heap _
  exact ⟨t2_1k, k2_1l, rfl, N1j, K1m, sz_t2_172, E_b, j2_, j1_, j0_, j4_, V_t2_172, E_t2_172⟩
theorem d20_0 : decode k21_ 0 = .ok (.aload_n 0, 1) := by decide +kernel
theorem d20_1 : decode k21_ 1 = .ok (.aload_n 2, 1) := by decide +kernel
theorem d20_2 : decode k21_ 2 = .ok (.invokevirtual 397, 3) := by decide +kernel
theorem pd_13 : parseMethodDescriptor "(Ljava/lang/String;)V" = some ⟨[(.object "java/lang/String")], none⟩ := by decide +kernel
theorem d20_5 : decode k21_ 5 = .ok (.aload_n 2, 1) := by decide +kernel
theorem d20_6 : decode k21_ 6 = .ok (.aload_n 0, 1) := by decide +kernel
theorem d20_7 : decode k21_ 7 = .ok (.getfield 15, 3) := by decide +kernel
theorem d20_10 : decode k21_ 10 = .ok (.iload_n 1, 1) := by decide +kernel
theorem d20_11 : decode k21_ 11 = .ok (.aload_n 0, 1) := by decide +kernel
theorem d20_12 : decode k21_ 12 = .ok (.getfield 22, 3) := by decide +kernel
theorem d20_15 : decode k21_ 15 = .ok (.invokevirtual 399, 3) := by decide +kernel
theorem pd_14 : parseMethodDescriptor "([BIB)V" = some ⟨[(.array .byte), .int, .byte], none⟩ := by decide +kernel
theorem d20_18 : decode k21_ 18 = .ok (.return_, 1) := by decide +kernel
theorem ef_psa (m : MethodId) (x0 : Addr) (x1 : Int32) (x2 : Addr) : entryFrame m #[(.ref x0), (.int x1), (.ref x2)] 3 = mkF m 0 #[.val (.ref x0), .val (.int x1), .val (.ref x2)] [] := by first | (simp [entryFrame, mkF, argsToLocals, Value.category]; done) | rfl
def Qpsa (Z : State) (b : Addr) (cn : Int32) (t : Addr) (N : Int32) (cs : List Int32) (ds : List Int32) (h0 : Heap) (n0 : Nat) (v : Option Value) (h : Heap) (L : List Loc) : Prop := ∃ (t2_ : Addr) (k2_ : ClassId), v = none ∧ Fr n0 L ∧ Keep h0 h [b, t] ∧ (t2_ = t ∨ h0.size ≤ t2_) ∧ n0 ≤ t2_ ∧ b ≠ t2_ ∧ eX1 Z h b ∧ fL5 Z h b (.int cn) ∧ eX0 Z h t2_ ∧ o_SB Z h b t2_ k2_ N (cs ++ ds)
theorem psa (l : Launch) (Z : State) (a0 : Array Value) (hw : ∀ d ∈ tables_1, d.before a0 Z = true) (ws : List Jvm.Cond) (b : Addr) (cn : Int32) (s_ : Addr) (z : Int32) (t : Addr) (kt : ClassId) (N : Int32) (cs : List Int32) (ts : Addr) (ks : ClassId) (ds : List Int32) (fm : Value) (h0 : Heap) (n0 : Nat) (O : Old Z n0 h0) (j8_ : sT0 Z (.int 1)) (j9_ : sT1 Z (.int 0)) (j10_ : sT2 Z (.int 8)) (j13_ : sT3 Z fm) (hfm : fm.isRef = true) (j6_ : sT4 Z (.int z)) (hz : ¬ (z = (0 : Int32))) (E_b : eX1 Z h0 b) (j0_ : fL5 Z h0 b (.int cn)) (j12_ : o_SB Z h0 b t kt N cs) (E_t : eX0 Z h0 t) (g_b : n0 ≤ b) (g_t : n0 ≤ t) (nbt : b ≠ t) (E_s_ : eX2 Z h0 s_) (j7_ : o_ST Z h0 s_ ts ks ds) (h4 : ds.length ≤ 100) (nst : s_ ≠ t) (nsb : s_ ≠ b) (nTt : ts ≠ t) (nTb : ts ≠ b) (hcn : cn.toInt = (cs.length : Int)) (hl2 : (cs.length : Int) + (ds.length : Int) ≤ N.toInt) (hN1 : N.toInt ≤ 100) :
   o_MF l Z mN21 jdk_68_method_73_code 3 none ws rM16 #[(.ref b), (.int cn), (.ref s_)] h0 (Qpsa Z b cn t N cs ds h0 n0) := by
 refine MetFree.of_bodySF (plainFor_of_name pn_4) hisR ?_
 intro p e s m args below meth c s₁ Bd hml0 hP hK
 obtain ⟨rfl, hZ, hh⟩ := hP
 have hx := Bd.exec
 have hby := Bd.bytes
 have B := @hb _ _ hby
 have hml : c.maxLocals = 3 := hml0
 have hown : s.vm.findClass "java/lang/AbstractStringBuilder" = some m.cls := findClass_of_methodNamed Bd.named
 have X0 : Stand p l e rM16 s m #[(.ref b), (.int cn), (.ref s_)] below meth c s₁ [] 0 0 := Stand.of_body Bd
 have e0 : s₁.heap = h0 := by rw [← hh, Bd.state]; rfl
 have N0 := Fr.nil n0
 have K0 := Keep.refl h0 [b, t]
 refine o_start (ef_psa m b cn s_) (Q := o_QE s rM16 (Qpsa Z b cn t N cs ds h0 n0)) ?_
 show oF p e below (s₁.setTop (mkF m 0 #[.val (.ref b), .val (.int cn), .val (.ref s_)] [])) _
 obtain ⟨j2_, j4_, hrg, hdb⟩ := j12_
 rcases hdb with ⟨j1_, V_t, hla⟩ | ⟨j1_, V_t, hbg⟩
 ·obtain ⟨j5_, hrd, hdd⟩ := j7_
  rcases hdd with ⟨j3_, V_ts, hlad⟩ | ⟨j3_, V_ts, hbgd⟩
  ·show oF p e below (s₁.setTop (mkF m 0 #[.val (.ref b), .val (.int cn), .val (.ref s_)] [])) _
   refine oG (fun _ k => XS.aloadN X0.here hx rfl (B d20_0) rfl rfl (XS.aloadN X0.here hx rfl (B d20_1) rfl rfl k)) ?_
   show oF p e below (s₁.setTop (mkF m 2 #[.val (.ref b), .val (.int cn), .val (.ref s_)] [(.ref s_), (.ref b)])) _
   obtain ⟨cq1n, q1n, q1n'⟩ := E_b.cell
   obtain ⟨_, _, ⟨T1n, L1n, k1n, n1n⟩, -, X1n, ⟨Lc1n, hQ1n, l1n, y1n, z1n⟩, st1n⟩ := X0.privateBack hx (y := mN20) hown (mo hZ hw 125) (mo hZ hw 126) (o_selS (mo hZ hw 92) (by exact rfl) (Cond.privateMethod_at (mvP hZ (ow hw 127) (args := #[]))) (mo hZ hw 126) (by decide)) (Cond.privateMethod_at (mvP hZ (ow hw 127) (args := #[]))) (mo hZ hw 129) (by decide) (backOf (W := 0) (iin00 l Z a0 hw [] b s_ z h0 n0 O j6_ hz E_b E_s_ j1_ j3_) hZ (ow hw 129) (ow hw 57) (by decide) (by decide)) (g := (mkF m 2 #[.val (.ref b), .val (.int cn), .val (.ref s_)] [(.ref s_), (.ref b)])) rfl (by rw [hml]; rfl) (Steps.refl _) (a := b) (o_eqE e0 q1n) q1n' (argsL := [(.ref s_)]) (rest := []) (lenOf pd_13 rfl) rfl (by show 2 * 0 + _ ≤ _; exact Nat.le_of_eq rfl) (B d20_2) (fun _ _ => ⟨rfl, e0, (by decide : 0 + 0 ≤ _), (by decide : 0 + 0 ≤ _)⟩)
   dsimp only [Pt.U, Pt.locs, Pt.cells, Pt.slots] at X1n l1n y1n z1n st1n hQ1n
   subst y1n z1n
   obtain ⟨rfl, N1nq, e1n⟩ := hQ1n
   refine oG (fun _ k => st1n.trans k) ?_
   have N1n := oL l1n (Fr.app N0 N1nq)
   show oF p e below (T1n.setTop (mkF m 5 #[.val (.ref b), .val (.int cn), .val (.ref s_)] [])) _
   refine oG (fun _ k => XS.aloadN X1n.here hx rfl (B d20_5) rfl rfl (XS.aloadN X1n.here hx rfl (B d20_6) rfl rfl k)) ?_
   show oF p e below (T1n.setTop (mkF m 7 #[.val (.ref b), .val (.int cn), .val (.ref s_)] [(.ref b), (.ref s_)])) _
   obtain ⟨T1o, X1o, e1o, st1o⟩ := getF X1n hx hZ hown (host := "") (Or.inl (ow hw 61)) Via.refl e1n j2_ (g := (mkF m 7 #[.val (.ref b), .val (.int cn), .val (.ref s_)] [(.ref b), (.ref s_)])) rfl rfl (B d20_7)
   refine oG st1o ?_
   show oF p e below (T1o.setTop (mkF m 10 #[.val (.ref b), .val (.int cn), .val (.ref s_)] [(.ref t), (.ref s_)])) _
   refine oG (fun _ k => XS.iloadN X1o.here hx rfl (B d20_10) rfl (XS.aloadN X1o.here hx rfl (B d20_11) rfl rfl k)) ?_
   show oF p e below (T1o.setTop (mkF m 12 #[.val (.ref b), .val (.int cn), .val (.ref s_)] [(.ref b), (.int cn), (.ref t), (.ref s_)])) _
   obtain ⟨T1p, X1p, e1p, st1p⟩ := getF X1o hx hZ hown (host := "") (Or.inl (ow hw 63)) Via.refl e1o j1_ (g := (mkF m 12 #[.val (.ref b), .val (.int cn), .val (.ref s_)] [(.ref b), (.int cn), (.ref t), (.ref s_)])) rfl rfl (B d20_12)
   refine oG st1p ?_
   obtain ⟨cq1q, kq1q, q1qa, q1qb, q1qc⟩ := isOf hZ e1p E_s_
   obtain ⟨_, _, ⟨T1q, L1q, k1q, n1q⟩, -, X1q, ⟨Lc1q, hQ1q, l1q, y1q, z1q⟩, st1q⟩ := X1p.virtualBack hx (y := mN19) (z := mN19) hown (mo hZ hw 131) (mo hZ hw 132) (notFace_of_selects (args := #[]) (mo hZ hw 134)) (mo hZ hw 134) (mo hZ hw 133) (by decide) (backOf (W := 0) (gb0 l Z a0 hw [] s_ t cn z ts ks ds kt N (o_u8 cs) h0 n0 O j6_ hz E_s_ j3_ j5_ V_ts V_t g_t nTt nst (by rw [o_u8l]; omega) (by rw [o_u8l, o_u8l]; omega) (by omega) h4) hZ (ow hw 135) (ow hw 15) (by decide) (by decide)) q1qa q1qc (g := (mkF m 15 #[.val (.ref b), .val (.int cn), .val (.ref s_)] [(.int 0), (.int cn), (.ref t), (.ref s_)])) rfl (by rw [hml]; rfl) (Steps.refl _) (argsL := [(.ref t), (.int cn), (.int 0)]) (rest := []) (lenOf pd_14 rfl) rfl (by show 2 * 0 + _ ≤ _; exact Nat.le_of_eq rfl) (B d20_15) (fun _ _ => ⟨rfl, e1p, (by decide : 0 + 0 ≤ _), (by decide : 0 + 0 ≤ _)⟩)
   dsimp only [Pt.U, Pt.locs, Pt.cells, Pt.slots] at X1q l1q y1q z1q st1q hQ1q
   subst y1q z1q
   obtain ⟨rfl, N1qq, Kq1q, P1q_0⟩ := hQ1q
   refine oG (fun _ k => st1q.trans k) ?_
   have N1q := oL l1q (Fr.app N1n N1qq)
   have E_b := E_b.keep Kq1q
   have j0_ := j0_.keep Kq1q (ninS nbt nin0)
   have E_t := E_t.keep Kq1q
   have E_s_ := E_s_.keep Kq1q
   have j2_ := j2_.keep Kq1q (ninS nbt nin0)
   have j4_ := j4_.keep Kq1q (ninS nbt nin0)
   have j1_ := j1_.keep Kq1q (ninS nbt nin0)
   clear V_t
   have j5_ := j5_.keep Kq1q (ninS nst nin0)
   have j3_ := j3_.keep Kq1q (ninS nst nin0)
   have V_ts := V_ts.keep Kq1q (ninS nTt nin0)
   have O := O.keep Kq1q (allS g_t all0)
   have K1r := K0.trans Kq1q (allS (Or.inl (List.mem_of_getElem? (i := 1) rfl)) all0)
   have V_t := P1q_0
   show oF p e below (T1q.setTop (mkF m 18 #[.val (.ref b), .val (.int cn), .val (.ref s_)] [])) _
   obtain ⟨fs, hr, r1, r2, hW, r3⟩ := X1q.leave (v := none) (fun _ => rfl)
   refine ⟨_, _, ?_, r1, r2, _, _, rfl, ?_, ⟨_, rfl⟩, hW, r3.mono (by decide) (by decide)⟩
   ·exact X1q.returnOut hx Bd.returns (B d20_18) hr
   ·show Qpsa Z b cn t N cs ds h0 n0 _ T1q.heap _
    exact ⟨t, kt, rfl, N1q, K1r, (Or.inl rfl), g_t, nbt, E_b, j0_, E_t, ⟨j2_, j4_, (o_rng_app hrg hrd), Or.inl ⟨j1_, (by rw [o_u8_app]; exact V_t), (o_lat_app hla hlad)⟩⟩⟩
  ·show oF p e below (s₁.setTop (mkF m 0 #[.val (.ref b), .val (.int cn), .val (.ref s_)] [])) _
   refine oG (fun _ k => XS.aloadN X0.here hx rfl (B d20_0) rfl rfl (XS.aloadN X0.here hx rfl (B d20_1) rfl rfl k)) ?_
   show oF p e below (s₁.setTop (mkF m 2 #[.val (.ref b), .val (.int cn), .val (.ref s_)] [(.ref s_), (.ref b)])) _
   obtain ⟨cq1s, q1s, q1s'⟩ := E_b.cell
   obtain ⟨_, _, ⟨T1s, L1s, k1s, n1s⟩, -, X1s, ⟨Lc1s, hQ1s, l1s, y1s, z1s⟩, st1s⟩ := X0.privateBack hx (y := mN20) hown (mo hZ hw 125) (mo hZ hw 126) (o_selS (mo hZ hw 92) (by exact rfl) (Cond.privateMethod_at (mvP hZ (ow hw 127) (args := #[]))) (mo hZ hw 126) (by decide)) (Cond.privateMethod_at (mvP hZ (ow hw 127) (args := #[]))) (mo hZ hw 129) (by decide) (backOf (W := 0) (iin01 l Z a0 hw [] b s_ z t kt N cn cs fm h0 n0 O j6_ hz j8_ j9_ j10_ j13_ hfm E_b j2_ j1_ j0_ j4_ V_t E_t E_s_ j3_ nsb g_b g_t nbt (by first | assumption | rfl | decide | omega) (by first | assumption | rfl | decide | omega) hcn (by omega) hN1) hZ (ow hw 129) (ow hw 57) (by decide) (by decide)) (g := (mkF m 2 #[.val (.ref b), .val (.int cn), .val (.ref s_)] [(.ref s_), (.ref b)])) rfl (by rw [hml]; rfl) (Steps.refl _) (a := b) (o_eqE e0 q1s) q1s' (argsL := [(.ref s_)]) (rest := []) (lenOf pd_13 rfl) rfl (by show 2 * 0 + _ ≤ _; exact Nat.le_of_eq rfl) (B d20_2) (fun _ _ => ⟨rfl, e0, (by decide : 0 + 1 ≤ _), (by decide : 0 + 200 ≤ _)⟩)
   dsimp only [Pt.U, Pt.locs, Pt.cells, Pt.slots] at X1s l1s y1s z1s st1s hQ1s
   subst y1s z1s
   obtain ⟨t2_1t, k2_1u, rfl, N1sq, Kq1s, P1s_0, P1s_1, P1s_2, P1s_3, P1s_4, P1s_5, P1s_6, P1s_7⟩ := hQ1s
   refine oG (fun _ k => st1s.trans k) ?_
   have N1s := oL l1s (Fr.app N0 N1sq)
   have j85_ : b ≠ t2_1t := Nat.ne_of_lt (Nat.lt_of_lt_of_le E_b.lt P1s_0)
   have ne_t_t2_183 : t ≠ t2_1t := Nat.ne_of_lt (Nat.lt_of_lt_of_le E_t.lt P1s_0)
   have j120_ : s_ ≠ t2_1t := Nat.ne_of_lt (Nat.lt_of_lt_of_le E_s_.lt P1s_0)
   have j151_ : ts ≠ t2_1t := Nat.ne_of_lt (Nat.lt_of_lt_of_le V_ts.lt P1s_0)
   have j121_ : n0 ≤ t2_1t := Nat.le_trans (o_osz O) P1s_0
   have j152_ : h0.size ≤ t2_1t := Nat.le_trans K0.1 P1s_0
   have E_b := E_b.keep Kq1s
   clear j0_
   have E_t := E_t.keep Kq1s
   have E_s_ := E_s_.keep Kq1s
   clear j2_
   clear j4_
   clear j1_
   have V_t := V_t.keep Kq1s (ninS (Ne.symm nbt) nin0)
   have j5_ := j5_.keep Kq1s (ninS nsb nin0)
   have j3_ := j3_.keep Kq1s (ninS nsb nin0)
   have V_ts := V_ts.keep Kq1s (ninS nTb nin0)
   have O := O.keep Kq1s (allS g_b all0)
   have K1v := K0.trans Kq1s (allS (Or.inl (List.mem_of_getElem? (i := 0) rfl)) all0)
   have E_b := P1s_1
   have j2_ := P1s_2
   have j1_ := P1s_3
   have j0_ := P1s_4
   have j4_ := P1s_5
   have j96_ := P1s_6
   have j122_ := P1s_7
   show oF p e below (T1s.setTop (mkF m 5 #[.val (.ref b), .val (.int cn), .val (.ref s_)] [])) _
   refine oG (fun _ k => XS.aloadN X1s.here hx rfl (B d20_5) rfl rfl (XS.aloadN X1s.here hx rfl (B d20_6) rfl rfl k)) ?_
   show oF p e below (T1s.setTop (mkF m 7 #[.val (.ref b), .val (.int cn), .val (.ref s_)] [(.ref b), (.ref s_)])) _
   obtain ⟨T1w, X1w, e1w, st1w⟩ := getF X1s hx hZ hown (host := "") (Or.inl (ow hw 61)) Via.refl rfl j2_ (g := (mkF m 7 #[.val (.ref b), .val (.int cn), .val (.ref s_)] [(.ref b), (.ref s_)])) rfl rfl (B d20_7)
   refine oG st1w ?_
   show oF p e below (T1w.setTop (mkF m 10 #[.val (.ref b), .val (.int cn), .val (.ref s_)] [(.ref t2_1t), (.ref s_)])) _
   refine oG (fun _ k => XS.iloadN X1w.here hx rfl (B d20_10) rfl (XS.aloadN X1w.here hx rfl (B d20_11) rfl rfl k)) ?_
   show oF p e below (T1w.setTop (mkF m 12 #[.val (.ref b), .val (.int cn), .val (.ref s_)] [(.ref b), (.int cn), (.ref t2_1t), (.ref s_)])) _
   obtain ⟨T1x, X1x, e1x, st1x⟩ := getF X1w hx hZ hown (host := "") (Or.inl (ow hw 63)) Via.refl e1w j1_ (g := (mkF m 12 #[.val (.ref b), .val (.int cn), .val (.ref s_)] [(.ref b), (.int cn), (.ref t2_1t), (.ref s_)])) rfl rfl (B d20_12)
   refine oG st1x ?_
   obtain ⟨cq1y, kq1y, q1ya, q1yb, q1yc⟩ := isOf hZ e1x E_s_
   obtain ⟨_, _, ⟨T1y, L1y, k1y, n1y⟩, -, X1y, ⟨Lc1y, hQ1y, l1y, y1y, z1y⟩, st1y⟩ := X1x.virtualBack hx (y := mN19) (z := mN19) hown (mo hZ hw 131) (mo hZ hw 132) (notFace_of_selects (args := #[]) (mo hZ hw 134)) (mo hZ hw 134) (mo hZ hw 133) (by decide) (backOf (W := 0) (gb1 l Z a0 hw [] s_ t2_1t cn z ts ks ds k2_1u (N <<< ((1 : Int32) &&& 31)) (o_u16 cs) (T1s.heap) n0 O j6_ hz E_s_ j3_ j5_ V_ts j96_ j121_ j151_ j120_ (by rw [o_u16l]; omega) (by rw [o_u16l, o_u16l, o_x2i (by omega) (by omega)]; omega) (by rw [o_x2i (by omega) (by omega)]; omega) h4) hZ (ow hw 135) (ow hw 15) (by decide) (by decide)) q1ya q1yc (g := (mkF m 15 #[.val (.ref b), .val (.int cn), .val (.ref s_)] [(.int 1), (.int cn), (.ref t2_1t), (.ref s_)])) rfl (by rw [hml]; rfl) (Steps.refl _) (argsL := [(.ref t2_1t), (.int cn), (.int 1)]) (rest := []) (lenOf pd_14 rfl) rfl (by show 2 * 0 + _ ≤ _; exact Nat.le_of_eq rfl) (B d20_15) (fun _ _ => ⟨rfl, e1x, (by decide : 1 + 0 ≤ _), (by decide : 200 + 0 ≤ _)⟩)
   dsimp only [Pt.U, Pt.locs, Pt.cells, Pt.slots] at X1y l1y y1y z1y st1y hQ1y
   subst y1y z1y
   obtain ⟨rfl, N1yq, Kq1y, P1y_0⟩ := hQ1y
   refine oG (fun _ k => st1y.trans k) ?_
   have N1y := oL l1y (Fr.app N1s N1yq)
   have E_b := E_b.keep Kq1y
   have E_t := E_t.keep Kq1y
   have E_s_ := E_s_.keep Kq1y
   have V_t := V_t.keep Kq1y (ninS ne_t_t2_183 nin0)
   have j5_ := j5_.keep Kq1y (ninS j120_ nin0)
   have j3_ := j3_.keep Kq1y (ninS j120_ nin0)
   have V_ts := V_ts.keep Kq1y (ninS j151_ nin0)
   have j2_ := j2_.keep Kq1y (ninS j85_ nin0)
   have j1_ := j1_.keep Kq1y (ninS j85_ nin0)
   have j0_ := j0_.keep Kq1y (ninS j85_ nin0)
   have j4_ := j4_.keep Kq1y (ninS j85_ nin0)
   clear j96_
   have j122_ := j122_.keep Kq1y
   have O := O.keep Kq1y (allS j121_ all0)
   have K1z := K1v.trans Kq1y (allS (Or.inr j152_) all0)
   have j96_ := P1y_0
   show oF p e below (T1y.setTop (mkF m 18 #[.val (.ref b), .val (.int cn), .val (.ref s_)] [])) _
   obtain ⟨fs, hr, r1, r2, hW, r3⟩ := X1y.leave (v := none) (fun _ => rfl)
   refine ⟨_, _, ?_, r1, r2, _, _, rfl, ?_, ⟨_, rfl⟩, hW, r3.mono (by decide) (by decide)⟩
   ·exact X1y.returnOut hx Bd.returns (B d20_18) hr
   ·show Qpsa Z b cn t N cs ds h0 n0 _ T1y.heap _
    exact ⟨t2_1t, k2_1u, rfl, N1y, K1z, (Or.inr j152_), j121_, j85_, E_b, j0_, j122_, ⟨j2_, j4_, (o_rng_app hrg hrd), Or.inr ⟨j1_, (by rw [o_u16_app]; exact j96_), (o_bg_r hbgd)⟩⟩⟩
 ·obtain ⟨j5_, hrd, hdd⟩ := j7_
  rcases hdd with ⟨j3_, V_ts, hlad⟩ | ⟨j3_, V_ts, hbgd⟩
  ·show oF p e below (s₁.setTop (mkF m 0 #[.val (.ref b), .val (.int cn), .val (.ref s_)] [])) _
   refine oG (fun _ k => XS.aloadN X0.here hx rfl (B d20_0) rfl rfl (XS.aloadN X0.here hx rfl (B d20_1) rfl rfl k)) ?_
   show oF p e below (s₁.setTop (mkF m 2 #[.val (.ref b), .val (.int cn), .val (.ref s_)] [(.ref s_), (.ref b)])) _
   obtain ⟨cq1A, q1A, q1A'⟩ := E_b.cell
   obtain ⟨_, _, ⟨T1A, L1A, k1A, n1A⟩, -, X1A, ⟨Lc1A, hQ1A, l1A, y1A, z1A⟩, st1A⟩ := X0.privateBack hx (y := mN20) hown (mo hZ hw 125) (mo hZ hw 126) (o_selS (mo hZ hw 92) (by exact rfl) (Cond.privateMethod_at (mvP hZ (ow hw 127) (args := #[]))) (mo hZ hw 126) (by decide)) (Cond.privateMethod_at (mvP hZ (ow hw 127) (args := #[]))) (mo hZ hw 129) (by decide) (backOf (W := 0) (iin10 l Z a0 hw [] b s_ z h0 n0 O j6_ hz E_b E_s_ j1_ j3_) hZ (ow hw 129) (ow hw 57) (by decide) (by decide)) (g := (mkF m 2 #[.val (.ref b), .val (.int cn), .val (.ref s_)] [(.ref s_), (.ref b)])) rfl (by rw [hml]; rfl) (Steps.refl _) (a := b) (o_eqE e0 q1A) q1A' (argsL := [(.ref s_)]) (rest := []) (lenOf pd_13 rfl) rfl (by show 2 * 0 + _ ≤ _; exact Nat.le_of_eq rfl) (B d20_2) (fun _ _ => ⟨rfl, e0, (by decide : 0 + 0 ≤ _), (by decide : 0 + 0 ≤ _)⟩)
   dsimp only [Pt.U, Pt.locs, Pt.cells, Pt.slots] at X1A l1A y1A z1A st1A hQ1A
   subst y1A z1A
   obtain ⟨rfl, N1Aq, e1A⟩ := hQ1A
   refine oG (fun _ k => st1A.trans k) ?_
   have N1A := oL l1A (Fr.app N0 N1Aq)
   show oF p e below (T1A.setTop (mkF m 5 #[.val (.ref b), .val (.int cn), .val (.ref s_)] [])) _
   refine oG (fun _ k => XS.aloadN X1A.here hx rfl (B d20_5) rfl rfl (XS.aloadN X1A.here hx rfl (B d20_6) rfl rfl k)) ?_
   show oF p e below (T1A.setTop (mkF m 7 #[.val (.ref b), .val (.int cn), .val (.ref s_)] [(.ref b), (.ref s_)])) _
   obtain ⟨T1B, X1B, e1B, st1B⟩ := getF X1A hx hZ hown (host := "") (Or.inl (ow hw 61)) Via.refl e1A j2_ (g := (mkF m 7 #[.val (.ref b), .val (.int cn), .val (.ref s_)] [(.ref b), (.ref s_)])) rfl rfl (B d20_7)
   refine oG st1B ?_
   show oF p e below (T1B.setTop (mkF m 10 #[.val (.ref b), .val (.int cn), .val (.ref s_)] [(.ref t), (.ref s_)])) _
   refine oG (fun _ k => XS.iloadN X1B.here hx rfl (B d20_10) rfl (XS.aloadN X1B.here hx rfl (B d20_11) rfl rfl k)) ?_
   show oF p e below (T1B.setTop (mkF m 12 #[.val (.ref b), .val (.int cn), .val (.ref s_)] [(.ref b), (.int cn), (.ref t), (.ref s_)])) _
   obtain ⟨T1C, X1C, e1C, st1C⟩ := getF X1B hx hZ hown (host := "") (Or.inl (ow hw 63)) Via.refl e1B j1_ (g := (mkF m 12 #[.val (.ref b), .val (.int cn), .val (.ref s_)] [(.ref b), (.int cn), (.ref t), (.ref s_)])) rfl rfl (B d20_12)
   refine oG st1C ?_
   obtain ⟨cq1D, kq1D, q1Da, q1Db, q1Dc⟩ := isOf hZ e1C E_s_
   obtain ⟨_, _, ⟨T1D, L1D, k1D, n1D⟩, -, X1D, ⟨Lc1D, hQ1D, l1D, y1D, z1D⟩, st1D⟩ := X1C.virtualBack hx (y := mN19) (z := mN19) hown (mo hZ hw 131) (mo hZ hw 132) (notFace_of_selects (args := #[]) (mo hZ hw 134)) (mo hZ hw 134) (mo hZ hw 133) (by decide) (backOf (W := 0) (gbm l Z a0 hw [] s_ t cn z ts ks ds kt (N <<< ((1 : Int32) &&& 31)) (o_u16 cs) fm h0 n0 O j8_ j9_ j10_ j13_ hfm j6_ hz E_s_ j3_ j5_ V_ts V_t g_t nTt nst hrd hlad (by rw [o_u16l]; omega) (by rw [o_u16l, o_x2i (by omega) (by omega)]; omega) (by rw [o_x2i (by omega) (by omega)]; omega) h4) hZ (ow hw 135) (ow hw 15) (by decide) (by decide)) q1Da q1Dc (g := (mkF m 15 #[.val (.ref b), .val (.int cn), .val (.ref s_)] [(.int 1), (.int cn), (.ref t), (.ref s_)])) rfl (by rw [hml]; rfl) (Steps.refl _) (argsL := [(.ref t), (.int cn), (.int 1)]) (rest := []) (lenOf pd_14 rfl) rfl (by show 2 * 0 + _ ≤ _; exact Nat.le_of_eq rfl) (B d20_15) (fun _ _ => ⟨rfl, e1C, (by decide : 0 + 0 ≤ _), (by decide : 0 + 0 ≤ _)⟩)
   dsimp only [Pt.U, Pt.locs, Pt.cells, Pt.slots] at X1D l1D y1D z1D st1D hQ1D
   subst y1D z1D
   obtain ⟨rfl, N1Dq, Kq1D, P1D_0⟩ := hQ1D
   refine oG (fun _ k => st1D.trans k) ?_
   have N1D := oL l1D (Fr.app N1A N1Dq)
   have E_b := E_b.keep Kq1D
   have j0_ := j0_.keep Kq1D (ninS nbt nin0)
   have E_t := E_t.keep Kq1D
   have E_s_ := E_s_.keep Kq1D
   have j2_ := j2_.keep Kq1D (ninS nbt nin0)
   have j4_ := j4_.keep Kq1D (ninS nbt nin0)
   have j1_ := j1_.keep Kq1D (ninS nbt nin0)
   clear V_t
   have j5_ := j5_.keep Kq1D (ninS nst nin0)
   have j3_ := j3_.keep Kq1D (ninS nst nin0)
   have V_ts := V_ts.keep Kq1D (ninS nTt nin0)
   have O := O.keep Kq1D (allS g_t all0)
   have K1E := K0.trans Kq1D (allS (Or.inl (List.mem_of_getElem? (i := 1) rfl)) all0)
   have V_t := P1D_0
   show oF p e below (T1D.setTop (mkF m 18 #[.val (.ref b), .val (.int cn), .val (.ref s_)] [])) _
   obtain ⟨fs, hr, r1, r2, hW, r3⟩ := X1D.leave (v := none) (fun _ => rfl)
   refine ⟨_, _, ?_, r1, r2, _, _, rfl, ?_, ⟨_, rfl⟩, hW, r3.mono (by decide) (by decide)⟩
   ·exact X1D.returnOut hx Bd.returns (B d20_18) hr
   ·show Qpsa Z b cn t N cs ds h0 n0 _ T1D.heap _
    exact ⟨t, kt, rfl, N1D, K1E, (Or.inl rfl), g_t, nbt, E_b, j0_, E_t, ⟨j2_, j4_, (o_rng_app hrg hrd), Or.inr ⟨j1_, (by rw [o_u16_app]; exact V_t), (o_bg_l hbg)⟩⟩⟩
  ·show oF p e below (s₁.setTop (mkF m 0 #[.val (.ref b), .val (.int cn), .val (.ref s_)] [])) _
   refine oG (fun _ k => XS.aloadN X0.here hx rfl (B d20_0) rfl rfl (XS.aloadN X0.here hx rfl (B d20_1) rfl rfl k)) ?_
   show oF p e below (s₁.setTop (mkF m 2 #[.val (.ref b), .val (.int cn), .val (.ref s_)] [(.ref s_), (.ref b)])) _
   obtain ⟨cq1F, q1F, q1F'⟩ := E_b.cell
   obtain ⟨_, _, ⟨T1F, L1F, k1F, n1F⟩, -, X1F, ⟨Lc1F, hQ1F, l1F, y1F, z1F⟩, st1F⟩ := X0.privateBack hx (y := mN20) hown (mo hZ hw 125) (mo hZ hw 126) (o_selS (mo hZ hw 92) (by exact rfl) (Cond.privateMethod_at (mvP hZ (ow hw 127) (args := #[]))) (mo hZ hw 126) (by decide)) (Cond.privateMethod_at (mvP hZ (ow hw 127) (args := #[]))) (mo hZ hw 129) (by decide) (backOf (W := 0) (iin11 l Z a0 hw [] b s_ z h0 n0 O j6_ hz E_b E_s_ j1_ j3_) hZ (ow hw 129) (ow hw 57) (by decide) (by decide)) (g := (mkF m 2 #[.val (.ref b), .val (.int cn), .val (.ref s_)] [(.ref s_), (.ref b)])) rfl (by rw [hml]; rfl) (Steps.refl _) (a := b) (o_eqE e0 q1F) q1F' (argsL := [(.ref s_)]) (rest := []) (lenOf pd_13 rfl) rfl (by show 2 * 0 + _ ≤ _; exact Nat.le_of_eq rfl) (B d20_2) (fun _ _ => ⟨rfl, e0, (by decide : 0 + 0 ≤ _), (by decide : 0 + 0 ≤ _)⟩)
   dsimp only [Pt.U, Pt.locs, Pt.cells, Pt.slots] at X1F l1F y1F z1F st1F hQ1F
   subst y1F z1F
   obtain ⟨rfl, N1Fq, e1F⟩ := hQ1F
   refine oG (fun _ k => st1F.trans k) ?_
   have N1F := oL l1F (Fr.app N0 N1Fq)
   show oF p e below (T1F.setTop (mkF m 5 #[.val (.ref b), .val (.int cn), .val (.ref s_)] [])) _
   refine oG (fun _ k => XS.aloadN X1F.here hx rfl (B d20_5) rfl rfl (XS.aloadN X1F.here hx rfl (B d20_6) rfl rfl k)) ?_
   show oF p e below (T1F.setTop (mkF m 7 #[.val (.ref b), .val (.int cn), .val (.ref s_)] [(.ref b), (.ref s_)])) _
   obtain ⟨T1G, X1G, e1G, st1G⟩ := getF X1F hx hZ hown (host := "") (Or.inl (ow hw 61)) Via.refl e1F j2_ (g := (mkF m 7 #[.val (.ref b), .val (.int cn), .val (.ref s_)] [(.ref b), (.ref s_)])) rfl rfl (B d20_7)
   refine oG st1G ?_
   show oF p e below (T1G.setTop (mkF m 10 #[.val (.ref b), .val (.int cn), .val (.ref s_)] [(.ref t), (.ref s_)])) _
   refine oG (fun _ k => XS.iloadN X1G.here hx rfl (B d20_10) rfl (XS.aloadN X1G.here hx rfl (B d20_11) rfl rfl k)) ?_
   show oF p e below (T1G.setTop (mkF m 12 #[.val (.ref b), .val (.int cn), .val (.ref s_)] [(.ref b), (.int cn), (.ref t), (.ref s_)])) _
   obtain ⟨T1H, X1H, e1H, st1H⟩ := getF X1G hx hZ hown (host := "") (Or.inl (ow hw 63)) Via.refl e1G j1_ (g := (mkF m 12 #[.val (.ref b), .val (.int cn), .val (.ref s_)] [(.ref b), (.int cn), (.ref t), (.ref s_)])) rfl rfl (B d20_12)
   refine oG st1H ?_
   obtain ⟨cq1I, kq1I, q1Ia, q1Ib, q1Ic⟩ := isOf hZ e1H E_s_
   obtain ⟨_, _, ⟨T1I, L1I, k1I, n1I⟩, -, X1I, ⟨Lc1I, hQ1I, l1I, y1I, z1I⟩, st1I⟩ := X1H.virtualBack hx (y := mN19) (z := mN19) hown (mo hZ hw 131) (mo hZ hw 132) (notFace_of_selects (args := #[]) (mo hZ hw 134)) (mo hZ hw 134) (mo hZ hw 133) (by decide) (backOf (W := 0) (gb1 l Z a0 hw [] s_ t cn z ts ks ds kt (N <<< ((1 : Int32) &&& 31)) (o_u16 cs) h0 n0 O j6_ hz E_s_ j3_ j5_ V_ts V_t g_t nTt nst (by rw [o_u16l]; omega) (by rw [o_u16l, o_u16l, o_x2i (by omega) (by omega)]; omega) (by rw [o_x2i (by omega) (by omega)]; omega) h4) hZ (ow hw 135) (ow hw 15) (by decide) (by decide)) q1Ia q1Ic (g := (mkF m 15 #[.val (.ref b), .val (.int cn), .val (.ref s_)] [(.int 1), (.int cn), (.ref t), (.ref s_)])) rfl (by rw [hml]; rfl) (Steps.refl _) (argsL := [(.ref t), (.int cn), (.int 1)]) (rest := []) (lenOf pd_14 rfl) rfl (by show 2 * 0 + _ ≤ _; exact Nat.le_of_eq rfl) (B d20_15) (fun _ _ => ⟨rfl, e1H, (by decide : 0 + 0 ≤ _), (by decide : 0 + 0 ≤ _)⟩)
   dsimp only [Pt.U, Pt.locs, Pt.cells, Pt.slots] at X1I l1I y1I z1I st1I hQ1I
   subst y1I z1I
   obtain ⟨rfl, N1Iq, Kq1I, P1I_0⟩ := hQ1I
   refine oG (fun _ k => st1I.trans k) ?_
   have N1I := oL l1I (Fr.app N1F N1Iq)
   have E_b := E_b.keep Kq1I
   have j0_ := j0_.keep Kq1I (ninS nbt nin0)
   have E_t := E_t.keep Kq1I
   have E_s_ := E_s_.keep Kq1I
   have j2_ := j2_.keep Kq1I (ninS nbt nin0)
   have j4_ := j4_.keep Kq1I (ninS nbt nin0)
   have j1_ := j1_.keep Kq1I (ninS nbt nin0)
   clear V_t
   have j5_ := j5_.keep Kq1I (ninS nst nin0)
   have j3_ := j3_.keep Kq1I (ninS nst nin0)
   have V_ts := V_ts.keep Kq1I (ninS nTt nin0)
   have O := O.keep Kq1I (allS g_t all0)
   have K1J := K0.trans Kq1I (allS (Or.inl (List.mem_of_getElem? (i := 1) rfl)) all0)
   have V_t := P1I_0
   show oF p e below (T1I.setTop (mkF m 18 #[.val (.ref b), .val (.int cn), .val (.ref s_)] [])) _
   obtain ⟨fs, hr, r1, r2, hW, r3⟩ := X1I.leave (v := none) (fun _ => rfl)
   refine ⟨_, _, ?_, r1, r2, _, _, rfl, ?_, ⟨_, rfl⟩, hW, r3.mono (by decide) (by decide)⟩
   ·exact X1I.returnOut hx Bd.returns (B d20_18) hr
   ·show Qpsa Z b cn t N cs ds h0 n0 _ T1I.heap _
    exact ⟨t, kt, rfl, N1I, K1J, (Or.inl rfl), g_t, nbt, E_b, j0_, E_t, ⟨j2_, j4_, (o_rng_app hrg hrd), Or.inr ⟨j1_, (by rw [o_u16_app]; exact V_t), (o_bg_l hbg)⟩⟩⟩
theorem o_cs0 {cn : Int32} {cs ds : List Int32} (h : cn.toInt = (cs.length : Int)) (h1 : cs.length + ds.length ≤ 200) : (cn + (Int32.ofNat ds.length)).toInt = ((cs ++ ds).length : Int) := by
 have a := o_oi (n := ds.length) (by omega)
 have b := c_iadd cn (Int32.ofNat ds.length)
 have r := rng32 (cn + (Int32.ofNat ds.length))
 rw [List.length_append]; omega
theorem o_ST_lt {Z : State} {h : Heap} {b t : Addr} {kt : ClassId} {cs : List Int32} (F : o_ST Z h b t kt cs) : t < h.size := by
 obtain ⟨-, -, a | a⟩ := F
 · exact a.2.1.lt
 · exact a.2.1.lt
theorem d11_0 : decode k22_ 0 = .ok (.aload_n 1, 1) := by decide +kernel
theorem d11_1 : decode k22_ 1 = .ok (.ifnonnull 8, 3) := by decide +kernel
theorem d11_9 : decode k22_ 9 = .ok (.aload_n 1, 1) := by decide +kernel
theorem d11_10 : decode k22_ 10 = .ok (.invokevirtual 32, 3) := by decide +kernel
theorem pd_15 : parseMethodDescriptor "()I" = some ⟨[], some .int⟩ := by decide +kernel
theorem d11_13 : decode k22_ 13 = .ok (.istore_n 2, 1) := by decide +kernel
theorem d11_14 : decode k22_ 14 = .ok (.aload_n 0, 1) := by decide +kernel
theorem d11_15 : decode k22_ 15 = .ok (.aload_n 0, 1) := by decide +kernel
theorem d11_16 : decode k22_ 16 = .ok (.getfield 79, 3) := by decide +kernel
theorem d11_19 : decode k22_ 19 = .ok (.iload_n 2, 1) := by decide +kernel
theorem d11_20 : decode k22_ 20 = .ok (.iadd, 1) := by decide +kernel
theorem d11_21 : decode k22_ 21 = .ok (.invokevirtual 100, 3) := by decide +kernel
theorem pd_16 : parseMethodDescriptor "(I)V" = some ⟨[.int], none⟩ := by decide +kernel
theorem d11_24 : decode k22_ 24 = .ok (.aload_n 0, 1) := by decide +kernel
theorem d11_25 : decode k22_ 25 = .ok (.aload_n 0, 1) := by decide +kernel
theorem d11_26 : decode k22_ 26 = .ok (.getfield 79, 3) := by decide +kernel
theorem d11_29 : decode k22_ 29 = .ok (.aload_n 1, 1) := by decide +kernel
theorem d11_30 : decode k22_ 30 = .ok (.invokevirtual 208, 3) := by decide +kernel
theorem pd_17 : parseMethodDescriptor "(ILjava/lang/String;)V" = some ⟨[.int, (.object "java/lang/String")], none⟩ := by decide +kernel
theorem d11_33 : decode k22_ 33 = .ok (.aload_n 0, 1) := by decide +kernel
theorem d11_34 : decode k22_ 34 = .ok (.dup, 1) := by decide +kernel
theorem d11_35 : decode k22_ 35 = .ok (.getfield 79, 3) := by decide +kernel
theorem d11_38 : decode k22_ 38 = .ok (.iload_n 2, 1) := by decide +kernel
theorem d11_39 : decode k22_ 39 = .ok (.iadd, 1) := by decide +kernel
theorem d11_40 : decode k22_ 40 = .ok (.putfield 79, 3) := by decide +kernel
theorem d11_43 : decode k22_ 43 = .ok (.aload_n 0, 1) := by decide +kernel
theorem d11_44 : decode k22_ 44 = .ok (.areturn, 1) := by decide +kernel
theorem ef_aps (m : MethodId) (x0 : Addr) (x1 : Addr) : entryFrame m #[(.ref x0), (.ref x1)] 3 = mkF m 0 #[.val (.ref x0), .val (.ref x1), .unset] [] := by first | (simp [entryFrame, mkF, argsToLocals, Value.category]; done) | rfl
def Qaps (Z : State) (b : Addr) (t : Addr) (cn : Int32) (cs : List Int32) (N2 : Int32) (ds : List Int32) (h0 : Heap) (n0 : Nat) (v : Option Value) (h : Heap) (L : List Loc) : Prop := ∃ (t2_ : Addr) (k2_ : ClassId), v = some (.ref b) ∧ Fr n0 L ∧ Keep h0 h [b, t] ∧ (t2_ = t ∨ h0.size ≤ t2_) ∧ n0 ≤ t2_ ∧ b ≠ t2_ ∧ eX1 Z h b ∧ fL5 Z h b (.int (cn + (Int32.ofNat ds.length))) ∧ eX0 Z h t2_ ∧ o_SB Z h b t2_ k2_ N2 (cs ++ ds)
theorem aps (l : Launch) (Z : State) (a0 : Array Value) (hw : ∀ d ∈ tables_1, d.before a0 Z = true) (ws : List Jvm.Cond) (b : Addr) (s_ : Addr) (z : Int32) (t : Addr) (kt : ClassId) (N : Int32) (cn : Int32) (cs : List Int32) (N2 : Int32) (ts : Addr) (ks : ClassId) (ds : List Int32) (fm : Value) (h0 : Heap) (n0 : Nat) (O : Old Z n0 h0) (j8_ : sT0 Z (.int 1)) (j9_ : sT1 Z (.int 0)) (j10_ : sT2 Z (.int 8)) (j13_ : sT3 Z fm) (hfm : fm.isRef = true) (j6_ : sT4 Z (.int z)) (hz : ¬ (z = (0 : Int32))) (E_b : eX1 Z h0 b) (j0_ : fL5 Z h0 b (.int cn)) (j12_ : o_SB Z h0 b t kt N cs) (E_t : eX0 Z h0 t) (g_b : n0 ≤ b) (g_t : n0 ≤ t) (nbt : b ≠ t) (E_s_ : eX2 Z h0 s_) (j7_ : o_ST Z h0 s_ ts ks ds) (h4 : ds.length ≤ 100) (nst : s_ ≠ t) (nsb : s_ ≠ b) (nTt : ts ≠ t) (nTb : ts ≠ b) (hcn : cn.toInt = (cs.length : Int)) (hcp : o_cap N N2 (cn + (Int32.ofNat ds.length))) (hle : (cs.length : Int) ≤ N.toInt) (hl2 : (cs.length : Int) + (ds.length : Int) ≤ N2.toInt) (hN1 : N2.toInt ≤ 100) :
   o_MF l Z mN22 jdk_68_method_22_code 3 (some (.object "java/lang/AbstractStringBuilder")) ws rM17 #[(.ref b), (.ref s_)] h0 (Qaps Z b t cn cs N2 ds h0 n0) := by
 refine MetFree.of_bodySF (plainFor_of_name pn_4) hisR ?_
 intro p e s m args below meth c s₁ Bd hml0 hP hK
 obtain ⟨rfl, hZ, hh⟩ := hP
 have hx := Bd.exec
 have hby := Bd.bytes
 have B := @hb _ _ hby
 have hml : c.maxLocals = 3 := hml0
 have hown : s.vm.findClass "java/lang/AbstractStringBuilder" = some m.cls := findClass_of_methodNamed Bd.named
 have X0 : Stand p l e rM17 s m #[(.ref b), (.ref s_)] below meth c s₁ [] 0 0 := Stand.of_body Bd
 have e0 : s₁.heap = h0 := by rw [← hh, Bd.state]; rfl
 have N0 := Fr.nil n0
 have K0 := Keep.refl h0 [b, t]
 refine o_start (ef_aps m b s_) (Q := o_QE s rM17 (Qaps Z b t cn cs N2 ds h0 n0)) ?_
 show oF p e below (s₁.setTop (mkF m 0 #[.val (.ref b), .val (.ref s_), .unset] [])) _
 refine oG (fun _ k => XS.aloadN X0.here hx rfl (B d11_0) rfl rfl (XS.ifnonnullYes X0.here hx rfl (pc0 := 1) (pc' := 9) rfl (B d11_1) rfl (by decide) (by decide) (XS.aloadN X0.here hx rfl (B d11_9) rfl rfl k))) ?_
 show oF p e below (s₁.setTop (mkF m 10 #[.val (.ref b), .val (.ref s_), .unset] [(.ref s_)])) _
 obtain ⟨cq1K, kq1K, q1Ka, q1Kb, q1Kc⟩ := isOf hZ e0 E_s_
 obtain ⟨_, _, ⟨T1K, L1K, k1K, n1K⟩, -, X1K, ⟨Lc1K, hQ1K, l1K, y1K, z1K⟩, st1K⟩ := X0.virtualBack hx (y := mN12) (z := mN12) hown (mo hZ hw 76) (mo hZ hw 77) (notFace_of_selects (args := #[]) (mo hZ hw 79)) (mo hZ hw 79) (mo hZ hw 78) (by decide) (backOf (W := 0) (slen l Z a0 hw [] s_ z ts ks ds h0 n0 O j6_ hz E_s_ j7_ h4) hZ (ow hw 80) (ow hw 15) (by decide) (by decide)) q1Ka q1Kc (g := (mkF m 10 #[.val (.ref b), .val (.ref s_), .unset] [(.ref s_)])) rfl (by rw [hml]; rfl) (Steps.refl _) (argsL := []) (rest := []) (lenOf pd_15 rfl) rfl (by show 2 * 0 + _ ≤ _; exact Nat.le_of_eq rfl) (B d11_10) (fun _ _ => ⟨rfl, e0, (by decide : 0 + 0 ≤ _), (by decide : 0 + 0 ≤ _)⟩)
 dsimp only [Pt.U, Pt.locs, Pt.cells, Pt.slots] at X1K l1K y1K z1K st1K hQ1K
 subst y1K z1K
 obtain ⟨rfl, N1Kq, e1K⟩ := hQ1K
 refine oG (fun _ k => st1K.trans k) ?_
 have N1K := oL l1K (Fr.app N0 N1Kq)
 show oF p e below (T1K.setTop (mkF m 13 #[.val (.ref b), .val (.ref s_), .unset] [(.int (Int32.ofNat ds.length))])) _
 refine oG (fun _ k => XS.istoreN X1K.here hx rfl (B d11_13) rfl (l' := #[.val (.ref b), .val (.ref s_), .val (.int (Int32.ofNat ds.length))]) rfl (XS.aloadN X1K.here hx rfl (B d11_14) rfl rfl (XS.aloadN X1K.here hx rfl (B d11_15) rfl rfl k))) ?_
 show oF p e below (T1K.setTop (mkF m 16 #[.val (.ref b), .val (.ref s_), .val (.int (Int32.ofNat ds.length))] [(.ref b), (.ref b)])) _
 obtain ⟨T1L, X1L, e1L, st1L⟩ := getF X1K hx hZ hown (host := "") (Or.inl (ow hw 87)) Via.refl e1K j0_ (g := (mkF m 16 #[.val (.ref b), .val (.ref s_), .val (.int (Int32.ofNat ds.length))] [(.ref b), (.ref b)])) rfl rfl (B d11_16)
 refine oG st1L ?_
 show oF p e below (T1L.setTop (mkF m 19 #[.val (.ref b), .val (.ref s_), .val (.int (Int32.ofNat ds.length))] [(.int cn), (.ref b)])) _
 refine oG (fun _ k => XS.iloadN X1L.here hx rfl (B d11_19) rfl (XS.iadd X1L.here hx rfl (B d11_20) rfl k)) ?_
 show oF p e below (T1L.setTop (mkF m 21 #[.val (.ref b), .val (.ref s_), .val (.int (Int32.ofNat ds.length))] [(.int (cn + (Int32.ofNat ds.length))), (.ref b)])) _
 have lt_s205 := E_s_.lt
 have lt_t206 := o_ST_lt j7_
 obtain ⟨cq1M, q1M, q1M'⟩ := E_b.cell
 obtain ⟨_, _, ⟨T1M, L1M, k1M, n1M⟩, -, X1M, ⟨Lc1M, hQ1M, l1M, y1M, z1M⟩, st1M⟩ := X1L.privateBack hx (y := mN18) hown (mo hZ hw 89) (mo hZ hw 90) (o_selS (mo hZ hw 92) (by exact rfl) (Cond.privateMethod_at (mvP hZ (ow hw 91) (args := #[]))) (mo hZ hw 90) (by decide)) (Cond.privateMethod_at (mvP hZ (ow hw 91) (args := #[]))) (mo hZ hw 93) (by decide) (backOf (W := 0) (ec l Z a0 hw [] b (cn + (Int32.ofNat ds.length)) t kt N cn cs N2 h0 n0 O E_b j0_ j12_ E_t g_b g_t nbt hcp hle) hZ (ow hw 93) (ow hw 57) (by decide) (by decide)) (g := (mkF m 21 #[.val (.ref b), .val (.ref s_), .val (.int (Int32.ofNat ds.length))] [(.int (cn + (Int32.ofNat ds.length))), (.ref b)])) rfl (by rw [hml]; rfl) (Steps.refl _) (a := b) (o_eqE e1L q1M) q1M' (argsL := [(.int (cn + (Int32.ofNat ds.length)))]) (rest := []) (lenOf pd_16 rfl) rfl (by show 2 * 0 + _ ≤ _; exact Nat.le_of_eq rfl) (B d11_21) (fun _ _ => ⟨rfl, e1L, (by decide : 0 + 1 ≤ _), (by decide : 0 + 140 ≤ _)⟩)
 dsimp only [Pt.U, Pt.locs, Pt.cells, Pt.slots] at X1M l1M y1M z1M st1M hQ1M
 subst y1M z1M
 obtain ⟨t2_1N, k2_1O, rfl, N1Mq, Kq1M, P1M_0, P1M_1, P1M_2, P1M_3, P1M_4, P1M_5, P1M_6⟩ := hQ1M
 refine oG (fun _ k => st1M.trans k) ?_
 have N1M := oL l1M (Fr.app N1K N1Mq)
 have E_b := E_b.keep Kq1M
 clear j0_
 clear j12_
 have E_t := E_t.keep Kq1M
 have E_s_ := E_s_.keep Kq1M
 have j7_ := o_ST_keep j7_ Kq1M (ninS nsb nin0) (ninS nTb nin0)
 have O := O.keep Kq1M (allS g_b all0)
 have K1P := K0.trans Kq1M (allS (Or.inl (List.mem_of_getElem? (i := 0) rfl)) all0)
 have E_b := P1M_3
 have j0_ := P1M_4
 have j62_ := P1M_5
 have j12_ := P1M_6
 have or_t2_208 : (t2_1N = t ∨ h0.size ≤ t2_1N) := P1M_0.elim (fun q_ => by rw [q_]; exact (Or.inl rfl)) (fun q_ => Or.inr (Nat.le_trans K0.1 q_))
 have j123_ : s_ ≠ t2_1N := P1M_0.elim (fun q_ => by rw [q_]; exact nst) (fun q_ => Nat.ne_of_lt (Nat.lt_of_lt_of_le lt_s205 q_))
 have j124_ : ts ≠ t2_1N := P1M_0.elim (fun q_ => by rw [q_]; exact nTt) (fun q_ => Nat.ne_of_lt (Nat.lt_of_lt_of_le lt_t206 q_))
 show oF p e below (T1M.setTop (mkF m 24 #[.val (.ref b), .val (.ref s_), .val (.int (Int32.ofNat ds.length))] [])) _
 refine oG (fun _ k => XS.aloadN X1M.here hx rfl (B d11_24) rfl rfl (XS.aloadN X1M.here hx rfl (B d11_25) rfl rfl k)) ?_
 show oF p e below (T1M.setTop (mkF m 26 #[.val (.ref b), .val (.ref s_), .val (.int (Int32.ofNat ds.length))] [(.ref b), (.ref b)])) _
 obtain ⟨T1Q, X1Q, e1Q, st1Q⟩ := getF X1M hx hZ hown (host := "") (Or.inl (ow hw 87)) Via.refl rfl j0_ (g := (mkF m 26 #[.val (.ref b), .val (.ref s_), .val (.int (Int32.ofNat ds.length))] [(.ref b), (.ref b)])) rfl rfl (B d11_26)
 refine oG st1Q ?_
 show oF p e below (T1Q.setTop (mkF m 29 #[.val (.ref b), .val (.ref s_), .val (.int (Int32.ofNat ds.length))] [(.int cn), (.ref b)])) _
 refine oG (fun _ k => XS.aloadN X1Q.here hx rfl (B d11_29) rfl rfl k) ?_
 show oF p e below (T1Q.setTop (mkF m 30 #[.val (.ref b), .val (.ref s_), .val (.int (Int32.ofNat ds.length))] [(.ref s_), (.int cn), (.ref b)])) _
 have lt_s212 := E_s_.lt
 have lt_t213 := o_ST_lt j7_
 obtain ⟨cq1R, q1R, q1R'⟩ := E_b.cell
 obtain ⟨_, _, ⟨T1R, L1R, k1R, n1R⟩, -, X1R, ⟨Lc1R, hQ1R, l1R, y1R, z1R⟩, st1R⟩ := X1Q.privateBack hx (y := mN21) hown (mo hZ hw 120) (mo hZ hw 121) (o_selS (mo hZ hw 92) (by exact rfl) (Cond.privateMethod_at (mvP hZ (ow hw 122) (args := #[]))) (mo hZ hw 121) (by decide)) (Cond.privateMethod_at (mvP hZ (ow hw 122) (args := #[]))) (mo hZ hw 124) (by decide) (backOf (W := 0) (psa l Z a0 hw [] b cn s_ z t2_1N k2_1O N2 cs ts ks ds fm (T1M.heap) n0 O j8_ j9_ j10_ j13_ hfm j6_ hz E_b j0_ j12_ j62_ g_b P1M_1 P1M_2 E_s_ j7_ h4 j123_ nsb j124_ nTb hcn hl2 hN1) hZ (ow hw 124) (ow hw 57) (by decide) (by decide)) (g := (mkF m 30 #[.val (.ref b), .val (.ref s_), .val (.int (Int32.ofNat ds.length))] [(.ref s_), (.int cn), (.ref b)])) rfl (by rw [hml]; rfl) (Steps.refl _) (a := b) (o_eqE e1Q q1R) q1R' (argsL := [(.int cn), (.ref s_)]) (rest := []) (lenOf pd_17 rfl) rfl (by show 2 * 0 + _ ≤ _; exact Nat.le_of_eq rfl) (B d11_30) (fun _ _ => ⟨rfl, e1Q, (by decide : 1 + 1 ≤ _), (by decide : 140 + 200 ≤ _)⟩)
 dsimp only [Pt.U, Pt.locs, Pt.cells, Pt.slots] at X1R l1R y1R z1R st1R hQ1R
 subst y1R z1R
 obtain ⟨t2_1S, k2_1T, rfl, N1Rq, Kq1R, P1R_0, P1R_1, P1R_2, P1R_3, P1R_4, P1R_5, P1R_6⟩ := hQ1R
 refine oG (fun _ k => st1R.trans k) ?_
 have N1R := oL l1R (Fr.app N1M N1Rq)
 have E_b := E_b.keep Kq1R
 have E_t := E_t.keep Kq1R
 have E_s_ := E_s_.keep Kq1R
 have j7_ := o_ST_keep j7_ Kq1R (ninS nsb (ninS j123_ nin0)) (ninS nTb (ninS j124_ nin0))
 clear j0_
 have j62_ := j62_.keep Kq1R
 clear j12_
 have O := O.keep Kq1R (allS g_b (allS P1M_1 all0))
 have K1U := K1P.trans Kq1R (allS (Or.inl (List.mem_of_getElem? (i := 0) rfl)) (allS (or_t2_208.elim (fun q_ => Or.inl (by rw [q_]; exact List.mem_of_getElem? (i := 1) rfl)) Or.inr) all0))
 have E_b := P1R_3
 have j0_ := P1R_4
 have j72_ := P1R_5
 have j12_ := P1R_6
 have or_t2_215 : (t2_1S = t ∨ h0.size ≤ t2_1S) := P1R_0.elim (fun q_ => by rw [q_]; exact or_t2_208) (fun q_ => Or.inr (Nat.le_trans K1P.1 q_))
 have ne_s__t2_215 : s_ ≠ t2_1S := P1R_0.elim (fun q_ => by rw [q_]; exact j123_) (fun q_ => Nat.ne_of_lt (Nat.lt_of_lt_of_le lt_s212 q_))
 have ne_ts_t2_215 : ts ≠ t2_1S := P1R_0.elim (fun q_ => by rw [q_]; exact j124_) (fun q_ => Nat.ne_of_lt (Nat.lt_of_lt_of_le lt_t213 q_))
 show oF p e below (T1R.setTop (mkF m 33 #[.val (.ref b), .val (.ref s_), .val (.int (Int32.ofNat ds.length))] [])) _
 refine oG (fun _ k => XS.aloadN X1R.here hx rfl (B d11_33) rfl rfl (XS.dup X1R.here hx rfl (B d11_34) rfl rfl k)) ?_
 show oF p e below (T1R.setTop (mkF m 35 #[.val (.ref b), .val (.ref s_), .val (.int (Int32.ofNat ds.length))] [(.ref b), (.ref b)])) _
 obtain ⟨T1V, X1V, e1V, st1V⟩ := getF X1R hx hZ hown (host := "") (Or.inl (ow hw 87)) Via.refl rfl j0_ (g := (mkF m 35 #[.val (.ref b), .val (.ref s_), .val (.int (Int32.ofNat ds.length))] [(.ref b), (.ref b)])) rfl rfl (B d11_35)
 refine oG st1V ?_
 show oF p e below (T1V.setTop (mkF m 38 #[.val (.ref b), .val (.ref s_), .val (.int (Int32.ofNat ds.length))] [(.int cn), (.ref b)])) _
 refine oG (fun _ k => XS.iloadN X1V.here hx rfl (B d11_38) rfl (XS.iadd X1V.here hx rfl (B d11_39) rfl k)) ?_
 show oF p e below (T1V.setTop (mkF m 40 #[.val (.ref b), .val (.ref s_), .val (.int (Int32.ofNat ds.length))] [(.int (cn + (Int32.ofNat ds.length))), (.ref b)])) _
 obtain ⟨j2_, j4_, hrg, hdb⟩ := j12_
 rcases hdb with ⟨j1_, j63_, hla⟩ | ⟨j1_, j63_, hbg⟩
 ·show oF p e below (T1V.setTop (mkF m 40 #[.val (.ref b), .val (.ref s_), .val (.int (Int32.ofNat ds.length))] [(.int (cn + (Int32.ofNat ds.length))), (.ref b)])) _
  obtain ⟨T1W, h1W, X1W, e1W, W1W, st1W⟩ := putF X1V hx hZ hown (host := "") (Or.inl (ow hw 87)) Via.refl e1V j0_ E_b (Or.inl (ow hw 88)) (ow hw 48) (ty := .int) (by decide) rfl rfl (g := (mkF m 40 #[.val (.ref b), .val (.ref s_), .val (.int (Int32.ofNat ds.length))] [(.int (cn + (Int32.ofNat ds.length))), (.ref b)])) rfl rfl (B d11_40)
  refine oG st1W ?_
  have E_b := E_b.wr W1W
  have E_t := E_t.wr W1W
  have E_s_ := E_s_.wr W1W
  have j7_ := o_ST_wr j7_ W1W nsb nTb
  have j62_ := j62_.wr W1W
  have j72_ := j72_.wr W1W
  have j2_ := j2_.other W1W (Or.inr (slot_ne (Or.inl (ow hw 62)) (Or.inl (ow hw 88)) (by decide) (t := (.array .byte)) (t' := .int) (by decide) (by decide)))
  have j4_ := j4_.other W1W (Or.inr (slot_ne (Or.inl (ow hw 267)) (Or.inl (ow hw 88)) (by decide) (t := .boolean) (t' := .int) (by decide) (by decide)))
  have j1_ := j1_.other W1W (Or.inr (slot_ne (Or.inl (ow hw 64)) (Or.inl (ow hw 88)) (by decide) (t := .byte) (t' := .int) (by decide) (by decide)))
  have j63_ := j63_.other W1W (Ne.symm P1R_2)
  have O := O.wr W1W g_b
  have K1X := K1U.wr W1W (Or.inl (List.mem_of_getElem? (i := 0) rfl))
  have j0_ := j0_.same W1W
  have N1W := Fr.snoc X1W N1R g_b
  show oF p e below (T1W.setTop (mkF m 43 #[.val (.ref b), .val (.ref s_), .val (.int (Int32.ofNat ds.length))] [])) _
  refine oG (fun _ k => XS.aloadN X1W.here hx rfl (B d11_43) rfl rfl k) ?_
  show oF p e below (T1W.setTop (mkF m 44 #[.val (.ref b), .val (.ref s_), .val (.int (Int32.ofNat ds.length))] [(.ref b)])) _
  obtain ⟨fs, hr, r1, r2, hW, r3⟩ := X1W.leave (v := some (.ref b)) (fun h => by rw [Bd.returns] at h; cases h)
  refine ⟨_, _, ?_, r1, r2, _, _, rfl, ?_, ⟨_, rfl⟩, hW, r3.mono (by decide) (by decide)⟩
  ·exact X1W.areturnOut hx rfl Bd.returns rfl (B d11_44) hr
  ·show Qaps Z b t cn cs N2 ds h0 n0 _ T1W.heap _
   rw [e1W]
   exact ⟨t2_1S, k2_1T, rfl, N1W, K1X, or_t2_215, P1R_1, P1R_2, E_b, j0_, j72_, ⟨j2_, j4_, hrg, Or.inl ⟨j1_, j63_, hla⟩⟩⟩
 ·show oF p e below (T1V.setTop (mkF m 40 #[.val (.ref b), .val (.ref s_), .val (.int (Int32.ofNat ds.length))] [(.int (cn + (Int32.ofNat ds.length))), (.ref b)])) _
  obtain ⟨T1Y, h1Y, X1Y, e1Y, W1Y, st1Y⟩ := putF X1V hx hZ hown (host := "") (Or.inl (ow hw 87)) Via.refl e1V j0_ E_b (Or.inl (ow hw 88)) (ow hw 48) (ty := .int) (by decide) rfl rfl (g := (mkF m 40 #[.val (.ref b), .val (.ref s_), .val (.int (Int32.ofNat ds.length))] [(.int (cn + (Int32.ofNat ds.length))), (.ref b)])) rfl rfl (B d11_40)
  refine oG st1Y ?_
  have E_b := E_b.wr W1Y
  have E_t := E_t.wr W1Y
  have E_s_ := E_s_.wr W1Y
  have j7_ := o_ST_wr j7_ W1Y nsb nTb
  have j62_ := j62_.wr W1Y
  have j72_ := j72_.wr W1Y
  have j2_ := j2_.other W1Y (Or.inr (slot_ne (Or.inl (ow hw 62)) (Or.inl (ow hw 88)) (by decide) (t := (.array .byte)) (t' := .int) (by decide) (by decide)))
  have j4_ := j4_.other W1Y (Or.inr (slot_ne (Or.inl (ow hw 267)) (Or.inl (ow hw 88)) (by decide) (t := .boolean) (t' := .int) (by decide) (by decide)))
  have j1_ := j1_.other W1Y (Or.inr (slot_ne (Or.inl (ow hw 64)) (Or.inl (ow hw 88)) (by decide) (t := .byte) (t' := .int) (by decide) (by decide)))
  have j63_ := j63_.other W1Y (Ne.symm P1R_2)
  have O := O.wr W1Y g_b
  have K1Z := K1U.wr W1Y (Or.inl (List.mem_of_getElem? (i := 0) rfl))
  have j0_ := j0_.same W1Y
  have N1Y := Fr.snoc X1Y N1R g_b
  show oF p e below (T1Y.setTop (mkF m 43 #[.val (.ref b), .val (.ref s_), .val (.int (Int32.ofNat ds.length))] [])) _
  refine oG (fun _ k => XS.aloadN X1Y.here hx rfl (B d11_43) rfl rfl k) ?_
  show oF p e below (T1Y.setTop (mkF m 44 #[.val (.ref b), .val (.ref s_), .val (.int (Int32.ofNat ds.length))] [(.ref b)])) _
  obtain ⟨fs, hr, r1, r2, hW, r3⟩ := X1Y.leave (v := some (.ref b)) (fun h => by rw [Bd.returns] at h; cases h)
  refine ⟨_, _, ?_, r1, r2, _, _, rfl, ?_, ⟨_, rfl⟩, hW, r3.mono (by decide) (by decide)⟩
  ·exact X1Y.areturnOut hx rfl Bd.returns rfl (B d11_44) hr
  ·show Qaps Z b t cn cs N2 ds h0 n0 _ T1Y.heap _
   rw [e1Y]
   exact ⟨t2_1S, k2_1T, rfl, N1Y, K1Z, or_t2_215, P1R_1, P1R_2, E_b, j0_, j72_, ⟨j2_, j4_, hrg, Or.inr ⟨j1_, j63_, hbg⟩⟩⟩
theorem d10_0 : decode k23_ 0 = .ok (.aload_n 0, 1) := by decide +kernel
theorem d10_1 : decode k23_ 1 = .ok (.aload_n 1, 1) := by decide +kernel
theorem d10_2 : decode k23_ 2 = .ok (.invokespecial 29, 3) := by decide +kernel
theorem pd_18 : parseMethodDescriptor "(Ljava/lang/String;)Ljava/lang/AbstractStringBuilder;" = some ⟨[(.object "java/lang/String")], some (.object "java/lang/AbstractStringBuilder")⟩ := by decide +kernel
theorem d10_5 : decode k23_ 5 = .ok (.pop, 1) := by decide +kernel
theorem d10_6 : decode k23_ 6 = .ok (.aload_n 0, 1) := by decide +kernel
theorem d10_7 : decode k23_ 7 = .ok (.areturn, 1) := by decide +kernel
theorem pn_7 : plainName "java/lang/StringBuilder" = true := by first | (simp [plainName, overriddenIn]; done) | decide +kernel
def Qsap (Z : State) (b : Addr) (t : Addr) (cn : Int32) (cs : List Int32) (N2 : Int32) (ds : List Int32) (h0 : Heap) (n0 : Nat) (v : Option Value) (h : Heap) (L : List Loc) : Prop := ∃ (t2_ : Addr) (k2_ : ClassId), v = some (.ref b) ∧ Fr n0 L ∧ Keep h0 h [b, t] ∧ (t2_ = t ∨ h0.size ≤ t2_) ∧ n0 ≤ t2_ ∧ b ≠ t2_ ∧ eX1 Z h b ∧ fL5 Z h b (.int (cn + (Int32.ofNat ds.length))) ∧ eX0 Z h t2_ ∧ o_SB Z h b t2_ k2_ N2 (cs ++ ds)
theorem sap (l : Launch) (Z : State) (a0 : Array Value) (hw : ∀ d ∈ tables_1, d.before a0 Z = true) (ws : List Jvm.Cond) (b : Addr) (s_ : Addr) (z : Int32) (t : Addr) (kt : ClassId) (N : Int32) (cn : Int32) (cs : List Int32) (N2 : Int32) (ts : Addr) (ks : ClassId) (ds : List Int32) (fm : Value) (h0 : Heap) (n0 : Nat) (O : Old Z n0 h0) (j8_ : sT0 Z (.int 1)) (j9_ : sT1 Z (.int 0)) (j10_ : sT2 Z (.int 8)) (j13_ : sT3 Z fm) (hfm : fm.isRef = true) (j6_ : sT4 Z (.int z)) (hz : ¬ (z = (0 : Int32))) (E_b : eX1 Z h0 b) (j0_ : fL5 Z h0 b (.int cn)) (j12_ : o_SB Z h0 b t kt N cs) (E_t : eX0 Z h0 t) (g_b : n0 ≤ b) (g_t : n0 ≤ t) (nbt : b ≠ t) (E_s_ : eX2 Z h0 s_) (j7_ : o_ST Z h0 s_ ts ks ds) (h4 : ds.length ≤ 100) (nst : s_ ≠ t) (nsb : s_ ≠ b) (nTt : ts ≠ t) (nTb : ts ≠ b) (hcn : cn.toInt = (cs.length : Int)) (hcp : o_cap N N2 (cn + (Int32.ofNat ds.length))) (hle : (cs.length : Int) ≤ N.toInt) (hl2 : (cs.length : Int) + (ds.length : Int) ≤ N2.toInt) (hN1 : N2.toInt ≤ 100) :
   o_MF l Z mN23 jdk_67_method_7_code 2 (some (.object "java/lang/StringBuilder")) ws rM18 #[(.ref b), (.ref s_)] h0 (Qsap Z b t cn cs N2 ds h0 n0) := by
 refine MetFree.of_bodySF (plainFor_of_name pn_7) hisR ?_
 intro p e s m args below meth c s₁ Bd hml0 hP hK
 obtain ⟨rfl, hZ, hh⟩ := hP
 have hx := Bd.exec
 have hby := Bd.bytes
 have B := @hb _ _ hby
 have hml : c.maxLocals = 2 := hml0
 have hown : s.vm.findClass "java/lang/StringBuilder" = some m.cls := findClass_of_methodNamed Bd.named
 have X0 : Stand p l e rM18 s m #[(.ref b), (.ref s_)] below meth c s₁ [] 0 0 := Stand.of_body Bd
 have e0 : s₁.heap = h0 := by rw [← hh, Bd.state]; rfl
 have N0 := Fr.nil n0
 have K0 := Keep.refl h0 [b, t]
 refine o_start (ef_iin00 m b s_) (Q := o_QE s rM18 (Qsap Z b t cn cs N2 ds h0 n0)) ?_
 show oF p e below (s₁.setTop (mkF m 0 #[.val (.ref b), .val (.ref s_)] [])) _
 refine oG (fun _ k => XS.aloadN X0.here hx rfl (B d10_0) rfl rfl (XS.aloadN X0.here hx rfl (B d10_1) rfl rfl k)) ?_
 show oF p e below (s₁.setTop (mkF m 2 #[.val (.ref b), .val (.ref s_)] [(.ref s_), (.ref b)])) _
 obtain ⟨_, _, ⟨T2a, L2a, k2a, n2a⟩, -, X2a, ⟨Lc2a, hQ2a, l2a, y2a, z2a⟩, st2a⟩ := superBack X0 hx hZ (y := mN22) hown (ow hw 71) (o_same (y := mN22) (ow hw 72) (ow hw 92) (by exact rfl) (by decide)) (ow hw 72) (ow hw 73) (by decide) (backOf (W := 0) (aps l Z a0 hw [] b s_ z t kt N cn cs N2 ts ks ds fm h0 n0 O j8_ j9_ j10_ j13_ hfm j6_ hz E_b j0_ j12_ E_t g_b g_t nbt E_s_ j7_ h4 nst nsb nTt nTb hcn hcp hle hl2 hN1) hZ (ow hw 75) (ow hw 57) (by decide) (by decide)) e0 (Ins.self E_b) (g := (mkF m 2 #[.val (.ref b), .val (.ref s_)] [(.ref s_), (.ref b)])) rfl (by rw [hml]; rfl) (ow hw 75) (argsL := [(.ref s_)]) (rest := []) (lenOf pd_18 rfl) rfl (by show 2 * 0 + _ ≤ _; exact Nat.le_of_eq rfl) (B d10_2) (fun _ _ => ⟨rfl, e0, (by decide : 0 + 2 ≤ _), (by decide : 0 + 340 ≤ _)⟩)
 dsimp only [Pt.U, Pt.locs, Pt.cells, Pt.slots] at X2a l2a y2a z2a st2a hQ2a
 subst y2a z2a
 obtain ⟨t2_2b, k2_2c, rfl, N2aq, Kq2a, P2a_0, P2a_1, P2a_2, P2a_3, P2a_4, P2a_5, P2a_6⟩ := hQ2a
 refine oG (fun _ k => st2a.trans k) ?_
 have N2a := oL l2a (Fr.app N0 N2aq)
 have E_b := E_b.keep Kq2a
 clear j0_
 clear j12_
 have E_t := E_t.keep Kq2a
 have E_s_ := E_s_.keep Kq2a
 have j7_ := o_ST_keep j7_ Kq2a (ninS nsb (ninS nst nin0)) (ninS nTb (ninS nTt nin0))
 have O := O.keep Kq2a (allS g_b (allS g_t all0))
 have K2d := K0.trans Kq2a (allS (Or.inl (List.mem_of_getElem? (i := 0) rfl)) (allS (Or.inl (List.mem_of_getElem? (i := 1) rfl)) all0))
 have E_b := P2a_3
 have j0_ := P2a_4
 have E_t2_226 := P2a_5
 have j12_ := P2a_6
 show oF p e below (T2a.setTop (mkF m 5 #[.val (.ref b), .val (.ref s_)] [(.ref b)])) _
 refine oG (fun _ k => XS.pop X2a.here hx rfl (B d10_5) rfl rfl (XS.aloadN X2a.here hx rfl (B d10_6) rfl rfl k)) ?_
 show oF p e below (T2a.setTop (mkF m 7 #[.val (.ref b), .val (.ref s_)] [(.ref b)])) _
 obtain ⟨fs, hr, r1, r2, hW, r3⟩ := X2a.leave (v := some (.ref b)) (fun h => by rw [Bd.returns] at h; cases h)
 refine ⟨_, _, ?_, r1, r2, _, _, rfl, ?_, ⟨_, rfl⟩, hW, r3.mono (by decide) (by decide)⟩
 ·exact X2a.areturnOut hx rfl Bd.returns rfl (B d10_7) hr
 ·show Qsap Z b t cn cs N2 ds h0 n0 _ T2a.heap _
  exact ⟨t2_2b, k2_2c, rfl, N2a, K2d, (P2a_0.imp id (Nat.le_trans K0.1)), P2a_1, P2a_2, E_b, j0_, E_t2_226, j12_⟩
theorem d55_0 : decode k24_ 0 = .ok (.iload_n 0, 1) := by decide +kernel
theorem d55_1 : decode k24_ 1 = .ok (.ifCond .lt 13, 3) := by decide +kernel
theorem d55_4 : decode k24_ 4 = .ok (.iload_n 0, 1) := by decide +kernel
theorem d55_5 : decode k24_ 5 = .ok (.iload_n 1, 1) := by decide +kernel
theorem d55_6 : decode k24_ 6 = .ok (.if_icmp .gt 8, 3) := by decide +kernel
theorem d55_9 : decode k24_ 9 = .ok (.iload_n 1, 1) := by decide +kernel
theorem d55_10 : decode k24_ 10 = .ok (.iload_n 2, 1) := by decide +kernel
theorem d55_11 : decode k24_ 11 = .ok (.if_icmp .le 11, 3) := by decide +kernel
theorem d55_22 : decode k24_ 22 = .ok (.iload_n 0, 1) := by decide +kernel
theorem d55_23 : decode k24_ 23 = .ok (.ireturn, 1) := by decide +kernel
def Qcft (Z : State) (i : Int32) (h0 : Heap) (n0 : Nat) (v : Option Value) (h : Heap) (L : List Loc) : Prop := v = some (.int i) ∧ Fr n0 L ∧ h = h0
theorem cft (l : Launch) (Z : State) (a0 : Array Value) (hw : ∀ d ∈ tables_1, d.before a0 Z = true) (ws : List Jvm.Cond) (i : Int32) (j : Int32) (N : Int32) (fm : Value) (h0 : Heap) (n0 : Nat) (hfm : fm.isRef = true) (h1 : ¬ (i < (0 : Int32))) (h2 : ¬ (j < i)) (h3 : ¬ (N < j)) :
   o_MF l Z mN24 jdk_41_method_12_code 4 (some .int) ws rM0 #[(.int i), (.int j), (.int N), fm] h0 (Qcft Z i h0 n0) := by
 refine MetFree.of_bodySF (plainFor_of_name pn_1) hisR ?_
 intro p e s m args below meth c s₁ Bd hml0 hP hK
 obtain ⟨rfl, hZ, hh⟩ := hP
 have hx := Bd.exec
 have hby := Bd.bytes
 have B := @hb _ _ hby
 have hml : c.maxLocals = 4 := hml0
 have hown : s.vm.findClass "jdk/internal/util/Preconditions" = some m.cls := findClass_of_methodNamed Bd.named
 have X0 : Stand p l e rM0 s m #[(.int i), (.int j), (.int N), fm] below meth c s₁ [] 0 0 := Stand.of_body Bd
 have e0 : s₁.heap = h0 := by rw [← hh, Bd.state]; rfl
 have N0 := Fr.nil n0
 refine o_start (ef_cfs m i j N fm hfm) (Q := o_QE s rM0 (Qcft Z i h0 n0)) ?_
 show oF p e below (s₁.setTop (mkF m 0 #[.val (.int i), .val (.int j), .val (.int N), .val fm] [])) _
 refine oG (fun _ k => XS.iloadN X0.here hx rfl (B d55_0) rfl (XS.ifNo X0.here hx rfl (B d55_1) rfl ((if0 _ _).trans (flt h1).1) (XS.iloadN X0.here hx rfl (B d55_4) rfl (XS.iloadN X0.here hx rfl (B d55_5) rfl (XS.icmpNo X0.here hx rfl (B d55_6) rfl (flt h2).2.2.1 (XS.iloadN X0.here hx rfl (B d55_9) rfl (XS.iloadN X0.here hx rfl (B d55_10) rfl (XS.icmpYes X0.here hx rfl (pc0 := 11) (pc' := 22) rfl (B d55_11) rfl (flt h3).2.2.2 (by decide) (by decide) (XS.iloadN X0.here hx rfl (B d55_22) rfl k))))))))) ?_
 show oF p e below (s₁.setTop (mkF m 23 #[.val (.int i), .val (.int j), .val (.int N), .val fm] [(.int i)])) _
 obtain ⟨fs, hr, r1, r2, hW, r3⟩ := X0.leave (v := some (.int i)) (fun h => by rw [Bd.returns] at h; cases h)
 refine ⟨_, _, ?_, r1, r2, _, _, rfl, ?_, ⟨_, rfl⟩, hW, r3.mono (by decide) (by decide)⟩
 ·exact o_retI X0 hx Bd.returns (B d55_23) hr
 ·show Qcft Z i h0 n0 _ s₁.heap _
  rw [e0]
  exact ⟨rfl, N0, rfl⟩
theorem d54_0 : decode k25_ 0 = .ok (.iload_n 0, 1) := by decide +kernel
theorem d54_1 : decode k25_ 1 = .ok (.iload_n 1, 1) := by decide +kernel
theorem d54_2 : decode k25_ 2 = .ok (.iload_n 2, 1) := by decide +kernel
theorem d54_3 : decode k25_ 3 = .ok (.getstatic 1053, 3) := by decide +kernel
theorem d54_6 : decode k25_ 6 = .ok (.invokestatic 1062, 3) := by decide +kernel
theorem d54_9 : decode k25_ 9 = .ok (.pop, 1) := by decide +kernel
theorem d54_10 : decode k25_ 10 = .ok (.return_, 1) := by decide +kernel
def Qcbb (Z : State)  (h0 : Heap) (n0 : Nat) (v : Option Value) (h : Heap) (L : List Loc) : Prop := v = none ∧ Fr n0 L ∧ h = h0
theorem cbb (l : Launch) (Z : State) (a0 : Array Value) (hw : ∀ d ∈ tables_1, d.before a0 Z = true) (ws : List Jvm.Cond) (i : Int32) (j : Int32) (N : Int32) (fm : Value) (h0 : Heap) (n0 : Nat) (O : Old Z n0 h0) (j13_ : sT3 Z fm) (hfm : fm.isRef = true) (h1 : ¬ (i < (0 : Int32))) (h2 : ¬ (j < i)) (h3 : ¬ (N < j)) :
   o_MF l Z mN25 jdk_42_method_158_code 3 none ws rM1 #[(.int i), (.int j), (.int N)] h0 (Qcbb Z  h0 n0) := by
 refine MetFree.of_bodySF (plainFor_of_name pn_2) hisR ?_
 intro p e s m args below meth c s₁ Bd hml0 hP hK
 obtain ⟨rfl, hZ, hh⟩ := hP
 have hx := Bd.exec
 have hby := Bd.bytes
 have B := @hb _ _ hby
 have hml : c.maxLocals = 3 := hml0
 have hown : s.vm.findClass "java/lang/String" = some m.cls := findClass_of_methodNamed Bd.named
 have X0 : Stand p l e rM1 s m #[(.int i), (.int j), (.int N)] below meth c s₁ [] 0 0 := Stand.of_body Bd
 have e0 : s₁.heap = h0 := by rw [← hh, Bd.state]; rfl
 have N0 := Fr.nil n0
 refine o_start (ef_cbo m i j N) (Q := o_QE s rM1 (Qcbb Z  h0 n0)) ?_
 show oF p e below (s₁.setTop (mkF m 0 #[.val (.int i), .val (.int j), .val (.int N)] [])) _
 refine oG (fun _ k => XS.iloadN X0.here hx rfl (B d54_0) rfl (XS.iloadN X0.here hx rfl (B d54_1) rfl (XS.iloadN X0.here hx rfl (B d54_2) rfl k))) ?_
 show oF p e below (s₁.setTop (mkF m 3 #[.val (.int i), .val (.int j), .val (.int N)] [(.int N), (.int j), (.int i)])) _
 obtain ⟨T2e, X2e, e2e, st2e⟩ := getS2 X0 hx hZ hown (host := "") (Or.inl (ow hw 248)) Via.refl e0 (j13_.ext O.2) (g := (mkF m 3 #[.val (.int i), .val (.int j), .val (.int N)] [(.int N), (.int j), (.int i)])) rfl (B d54_3)
 refine oG st2e ?_
 obtain ⟨_, _, ⟨T2f, L2f, k2f, n2f⟩, -, X2f, ⟨Lc2f, hQ2f, l2f, y2f, z2f⟩, st2f⟩ := Jvm.LawKit.callS X2e hx (y := mN24) hown (mo hZ hw 263) (mo hZ hw 264) (mo hZ hw 249) (mo hZ hw 265) (by decide) (backOf (W := 0) (cft l Z a0 hw [] i j N fm h0 n0 hfm h1 h2 h3) hZ (ow hw 265) (ow hw 249) (by decide) (by decide)) (g := (mkF m 6 #[.val (.int i), .val (.int j), .val (.int N)] [fm, (.int N), (.int j), (.int i)])) rfl (by rw [hml]; rfl) (argsL := [(.int i), (.int j), (.int N), fm]) (rest := []) (lenOf pd_0 rfl) rfl (by show 2 * 0 + _ ≤ _; exact Nat.le_of_eq rfl) (B d54_6) (fun _ _ => ⟨rfl, e2e, (by decide : 0 + 0 ≤ _), (by decide : 0 + 0 ≤ _)⟩)
 dsimp only [Pt.U, Pt.locs, Pt.cells, Pt.slots] at X2f l2f y2f z2f st2f hQ2f
 subst y2f z2f
 obtain ⟨rfl, N2fq, e2f⟩ := hQ2f
 refine oG st2f ?_
 have N2f := oL l2f (Fr.app N0 N2fq)
 show oF p e below (T2f.setTop (mkF m 9 #[.val (.int i), .val (.int j), .val (.int N)] [(.int i)])) _
 refine oG (fun _ k => XS.pop X2f.here hx rfl (B d54_9) rfl rfl k) ?_
 show oF p e below (T2f.setTop (mkF m 10 #[.val (.int i), .val (.int j), .val (.int N)] [])) _
 obtain ⟨fs, hr, r1, r2, hW, r3⟩ := X2f.leave (v := none) (fun _ => rfl)
 refine ⟨_, _, ?_, r1, r2, _, _, rfl, ?_, ⟨_, rfl⟩, hW, r3.mono (by decide) (by decide)⟩
 ·exact X2f.returnOut hx Bd.returns (B d54_10) hr
 ·show Qcbb Z  h0 n0 _ T2f.heap _
  rw [e2f]
  exact ⟨rfl, N2f, rfl⟩
theorem d53_0 : decode k26_ 0 = .ok (.iload_n 0, 1) := by decide +kernel
theorem d53_1 : decode k26_ 1 = .ok (.iload_n 1, 1) := by decide +kernel
theorem d53_2 : decode k26_ 2 = .ok (.aload_n 2, 1) := by decide +kernel
theorem d53_3 : decode k26_ 3 = .ok (.invokestatic 48, 3) := by decide +kernel
theorem d53_6 : decode k26_ 6 = .ok (.invokestatic 241, 3) := by decide +kernel
theorem pd_19 : parseMethodDescriptor "(III)V" = some ⟨[.int, .int, .int], none⟩ := by decide +kernel
theorem d53_9 : decode k26_ 9 = .ok (.return_, 1) := by decide +kernel
def Qubb (Z : State)  (h0 : Heap) (n0 : Nat) (v : Option Value) (h : Heap) (L : List Loc) : Prop := v = none ∧ Fr n0 L ∧ h = h0
theorem ubb (l : Launch) (Z : State) (a0 : Array Value) (hw : ∀ d ∈ tables_1, d.before a0 Z = true) (ws : List Jvm.Cond) (i : Int32) (j : Int32) (t : Addr) (kt : ClassId) (M : Int32) (vs : List Value) (fm : Value) (h0 : Heap) (n0 : Nat) (O : Old Z n0 h0) (j13_ : sT3 Z fm) (hfm : fm.isRef = true) (V_t : Arv Z h0 t kt .byte M vs (.int 0)) (h1 : ¬ (i < (0 : Int32))) (h2 : ¬ (j < i)) (h3 : ¬ ((M >>> ((1 : Int32) &&& 31)) < j)) :
   o_MF l Z mN26 jdk_52_method_93_code 3 none ws rM2 #[(.int i), (.int j), (.ref t)] h0 (Qubb Z  h0 n0) := by
 refine MetFree.of_bodySF (plainFor_of_name pn_0) hisR ?_
 intro p e s m args below meth c s₁ Bd hml0 hP hK
 obtain ⟨rfl, hZ, hh⟩ := hP
 have hx := Bd.exec
 have hby := Bd.bytes
 have B := @hb _ _ hby
 have hml : c.maxLocals = 3 := hml0
 have hown : s.vm.findClass "java/lang/StringUTF16" = some m.cls := findClass_of_methodNamed Bd.named
 have X0 : Stand p l e rM2 s m #[(.int i), (.int j), (.ref t)] below meth c s₁ [] 0 0 := Stand.of_body Bd
 have e0 : s₁.heap = h0 := by rw [← hh, Bd.state]; rfl
 have N0 := Fr.nil n0
 refine o_start (ef_ubo m i j t) (Q := o_QE s rM2 (Qubb Z  h0 n0)) ?_
 show oF p e below (s₁.setTop (mkF m 0 #[.val (.int i), .val (.int j), .val (.ref t)] [])) _
 refine oG (fun _ k => XS.iloadN X0.here hx rfl (B d53_0) rfl (XS.iloadN X0.here hx rfl (B d53_1) rfl (XS.aloadN X0.here hx rfl (B d53_2) rfl rfl k))) ?_
 show oF p e below (s₁.setTop (mkF m 3 #[.val (.int i), .val (.int j), .val (.ref t)] [(.ref t), (.int j), (.int i)])) _
 obtain ⟨_, _, ⟨T2g, L2g, k2g, n2g⟩, -, X2g, ⟨Lc2g, hQ2g, l2g, y2g, z2g⟩, st2g⟩ := Jvm.LawKit.callS X0 hx (y := mN0) hown (mo hZ hw 242) (mo hZ hw 243) (mo hZ hw 190) (mo hZ hw 244) (by decide) (backOf (W := 2) (ul l Z a0 hw [] t kt M vs h0 n0 O V_t) hZ (ow hw 244) (ow hw 190) (by decide) (by decide)) (g := (mkF m 3 #[.val (.int i), .val (.int j), .val (.ref t)] [(.ref t), (.int j), (.int i)])) rfl (by rw [hml]; rfl) (argsL := [(.ref t)]) (rest := [(.int j), (.int i)]) (lenOf pd_1 rfl) rfl (by show 2 * 0 + _ ≤ _; exact Nat.le_of_eq rfl) (B d53_3) (fun _ _ => ⟨rfl, e0, (by decide : 0 + 0 ≤ _), (by decide : 0 + 0 ≤ _)⟩)
 dsimp only [Pt.U, Pt.locs, Pt.cells, Pt.slots] at X2g l2g y2g z2g st2g hQ2g
 subst y2g z2g
 obtain ⟨rfl, N2gq, e2g⟩ := hQ2g
 refine oG st2g ?_
 have N2g := oL l2g (Fr.app N0 N2gq)
 obtain ⟨_, _, ⟨T2h, L2h, k2h, n2h⟩, -, X2h, ⟨Lc2h, hQ2h, l2h, y2h, z2h⟩, st2h⟩ := Jvm.LawKit.callS X2g hx (y := mN25) hown (mo hZ hw 260) (mo hZ hw 261) (mo hZ hw 15) (mo hZ hw 262) (by decide) (backOf (W := 0) (cbb l Z a0 hw [] i j (M >>> ((1 : Int32) &&& 31)) fm h0 n0 O j13_ hfm h1 h2 h3) hZ (ow hw 262) (ow hw 15) (by decide) (by decide)) (g := (mkF m 6 #[.val (.int i), .val (.int j), .val (.ref t)] [(.int (M >>> ((1 : Int32) &&& 31))), (.int j), (.int i)])) rfl (by rw [hml]; rfl) (argsL := [(.int i), (.int j), (.int (M >>> ((1 : Int32) &&& 31)))]) (rest := []) (lenOf pd_19 rfl) rfl (by show 2 * 0 + _ ≤ _; exact Nat.le_of_eq rfl) (B d53_6) (fun _ _ => ⟨rfl, e2g, (by decide : 0 + 0 ≤ _), (by decide : 0 + 0 ≤ _)⟩)
 dsimp only [Pt.U, Pt.locs, Pt.cells, Pt.slots] at X2h l2h y2h z2h st2h hQ2h
 subst y2h z2h
 obtain ⟨rfl, N2hq, e2h⟩ := hQ2h
 refine oG st2h ?_
 have N2h := oL l2h (Fr.app N2g N2hq)
 show oF p e below (T2h.setTop (mkF m 9 #[.val (.int i), .val (.int j), .val (.ref t)] [])) _
 obtain ⟨fs, hr, r1, r2, hW, r3⟩ := X2h.leave (v := none) (fun _ => rfl)
 refine ⟨_, _, ?_, r1, r2, _, _, rfl, ?_, ⟨_, rfl⟩, hW, r3.mono (by decide) (by decide)⟩
 ·exact X2h.returnOut hx Bd.returns (B d53_9) hr
 ·show Qubb Z  h0 n0 _ T2h.heap _
  rw [e2h]
  exact ⟨rfl, N2h, rfl⟩
theorem o_pn {i : Int32} {vs : List Value} (x y : Value) (hn : (vs.length : Int) = 2 * i.toInt) (hl : (vs.length : Int) ≤ 900) : ((vs ++ [x, y]).length : Int) = 2 * (i + (1 : Int32)).toInt := by
 have b := o_p1 (i := i) (by omega) (by omega)
 simp only [List.length_append, List.length_cons, List.length_nil]; omega
theorem o_pk {i k : Int32} {K : Int} (hk : k.toInt = K) (hK : 0 ≤ K) (hK2 : K ≤ 100) (h0 : 0 ≤ i.toInt) (h : i.toInt ≤ 900) : (i + k).toInt = i.toInt + K := by
 have b := c_iadd i k
 have r := rng32 (i + k)
 omega
theorem o_pq {i k M : Int32} {K : Int} {vs : List Value} (hk : k.toInt = K) (hK : 0 ≤ K) (hK2 : K ≤ 100) (hn : (vs.length : Int) = 2 * i.toInt) (hM : (vs.length : Int) + 2 * K ≤ M.toInt) (h16 : M.toInt ≤ 900) : ¬ (i < (0 : Int32)) ∧ ¬ ((i + k) < i) ∧ ¬ ((M >>> ((1 : Int32) &&& 31)) < (i + k)) := by
 have a := o_pk (i := i) hk hK hK2 (by omega) (by omega)
 refine ⟨o_nn (by omega), by rw [Int32.lt_iff_toInt_lt]; omega, by rw [Int32.lt_iff_toInt_lt, o_hf]; omega⟩
theorem d56_0 : decode k27_ 0 = .ok (.iload_n 1, 1) := by decide +kernel
theorem d56_1 : decode k27_ 1 = .ok (.iconst 4, 1) := by decide +kernel
theorem d56_2 : decode k27_ 2 = .ok (.iadd, 1) := by decide +kernel
theorem d56_3 : decode k27_ 3 = .ok (.istore 6, 2) := by decide +kernel
theorem d56_5 : decode k27_ 5 = .ok (.iload_n 1, 1) := by decide +kernel
theorem d56_6 : decode k27_ 6 = .ok (.iload 6, 2) := by decide +kernel
theorem d56_8 : decode k27_ 8 = .ok (.aload_n 0, 1) := by decide +kernel
theorem d56_9 : decode k27_ 9 = .ok (.invokestatic 96, 3) := by decide +kernel
theorem d56_12 : decode k27_ 12 = .ok (.aload_n 0, 1) := by decide +kernel
theorem d56_13 : decode k27_ 13 = .ok (.iload_n 1, 1) := by decide +kernel
theorem d56_14 : decode k27_ 14 = .ok (.iinc 1 1, 3) := by decide +kernel
theorem d56_17 : decode k27_ 17 = .ok (.iload_n 2, 1) := by decide +kernel
theorem d56_18 : decode k27_ 18 = .ok (.invokestatic 111, 3) := by decide +kernel
theorem d56_21 : decode k27_ 21 = .ok (.aload_n 0, 1) := by decide +kernel
theorem d56_22 : decode k27_ 22 = .ok (.iload_n 1, 1) := by decide +kernel
theorem d56_23 : decode k27_ 23 = .ok (.iinc 1 1, 3) := by decide +kernel
theorem d56_26 : decode k27_ 26 = .ok (.iload_n 3, 1) := by decide +kernel
theorem d56_27 : decode k27_ 27 = .ok (.invokestatic 111, 3) := by decide +kernel
theorem d56_30 : decode k27_ 30 = .ok (.aload_n 0, 1) := by decide +kernel
theorem d56_31 : decode k27_ 31 = .ok (.iload_n 1, 1) := by decide +kernel
theorem d56_32 : decode k27_ 32 = .ok (.iinc 1 1, 3) := by decide +kernel
theorem d56_35 : decode k27_ 35 = .ok (.iload 4, 2) := by decide +kernel
theorem d56_37 : decode k27_ 37 = .ok (.invokestatic 111, 3) := by decide +kernel
theorem d56_40 : decode k27_ 40 = .ok (.aload_n 0, 1) := by decide +kernel
theorem d56_41 : decode k27_ 41 = .ok (.iload_n 1, 1) := by decide +kernel
theorem d56_42 : decode k27_ 42 = .ok (.iinc 1 1, 3) := by decide +kernel
theorem d56_45 : decode k27_ 45 = .ok (.iload 5, 2) := by decide +kernel
theorem d56_47 : decode k27_ 47 = .ok (.invokestatic 111, 3) := by decide +kernel
theorem d56_50 : decode k27_ 50 = .ok (.getstatic 44, 3) := by decide +kernel
theorem d56_53 : decode k27_ 53 = .ok (.ifCond .ne 17, 3) := by decide +kernel
theorem d56_70 : decode k27_ 70 = .ok (.iload 6, 2) := by decide +kernel
theorem d56_72 : decode k27_ 72 = .ok (.ireturn, 1) := by decide +kernel
theorem ef_pca4 (m : MethodId) (x0 : Addr) (x1 : Int32) (x2 : Int32) (x3 : Int32) (x4 : Int32) (x5 : Int32) : entryFrame m #[(.ref x0), (.int x1), (.int x2), (.int x3), (.int x4), (.int x5)] 7 = mkF m 0 #[.val (.ref x0), .val (.int x1), .val (.int x2), .val (.int x3), .val (.int x4), .val (.int x5), .unset] [] := by first | (simp [entryFrame, mkF, argsToLocals, Value.category]; done) | rfl
def Qpca4 (Z : State) (t : Addr) (i : Int32) (c0_ : Int32) (c1_ : Int32) (c2_ : Int32) (c3_ : Int32) (kt : ClassId) (M : Int32) (vs : List Value) (h0 : Heap) (n0 : Nat) (v : Option Value) (h : Heap) (L : List Loc) : Prop := v = some (.int (i + (4 : Int32))) ∧ Fr n0 L ∧ Keep h0 h [t] ∧ Arv Z h t kt .byte M (vs ++ o_u16 [c0_, c1_, c2_, c3_]) (.int 0)
theorem pca4 (l : Launch) (Z : State) (a0 : Array Value) (hw : ∀ d ∈ tables_1, d.before a0 Z = true) (ws : List Jvm.Cond) (t : Addr) (i : Int32) (c0_ : Int32) (c1_ : Int32) (c2_ : Int32) (c3_ : Int32) (kt : ClassId) (M : Int32) (vs : List Value) (fm : Value) (h0 : Heap) (n0 : Nat) (O : Old Z n0 h0) (j8_ : sT0 Z (.int 1)) (j9_ : sT1 Z (.int 0)) (j10_ : sT2 Z (.int 8)) (j13_ : sT3 Z fm) (hfm : fm.isRef = true) (V_t : Arv Z h0 t kt .byte M vs (.int 0)) (g_t : n0 ≤ t) (hn : (vs.length : Int) = 2 * i.toInt) (hM : (vs.length : Int) + 8 ≤ M.toInt) (h16 : M.toInt ≤ 900) :
   o_MF l Z mN27 jdk_52_method_81_code 7 (some .int) ws rM3 #[(.ref t), (.int i), (.int c0_), (.int c1_), (.int c2_), (.int c3_)] h0 (Qpca4 Z t i c0_ c1_ c2_ c3_ kt M vs h0 n0) := by
 refine MetFree.of_bodySF (plainFor_of_name pn_0) hisR ?_
 intro p e s m args below meth c s₁ Bd hml0 hP hK
 obtain ⟨rfl, hZ, hh⟩ := hP
 have hx := Bd.exec
 have hby := Bd.bytes
 have B := @hb _ _ hby
 have hml : c.maxLocals = 7 := hml0
 have hown : s.vm.findClass "java/lang/StringUTF16" = some m.cls := findClass_of_methodNamed Bd.named
 have X0 : Stand p l e rM3 s m #[(.ref t), (.int i), (.int c0_), (.int c1_), (.int c2_), (.int c3_)] below meth c s₁ [] 0 0 := Stand.of_body Bd
 have e0 : s₁.heap = h0 := by rw [← hh, Bd.state]; rfl
 have N0 := Fr.nil n0
 have K0 := Keep.refl h0 [t]
 refine o_start (ef_pca4 m t i c0_ c1_ c2_ c3_) (Q := o_QE s rM3 (Qpca4 Z t i c0_ c1_ c2_ c3_ kt M vs h0 n0)) ?_
 show oF p e below (s₁.setTop (mkF m 0 #[.val (.ref t), .val (.int i), .val (.int c0_), .val (.int c1_), .val (.int c2_), .val (.int c3_), .unset] [])) _
 refine oG (fun _ k => XS.iloadN X0.here hx rfl (B d56_0) rfl (XS.iconst X0.here hx rfl (B d56_1) (XS.iadd X0.here hx rfl (B d56_2) rfl (XS.istore X0.here hx rfl (B d56_3) rfl (l' := #[.val (.ref t), .val (.int i), .val (.int c0_), .val (.int c1_), .val (.int c2_), .val (.int c3_), .val (.int (i + (4 : Int32)))]) rfl (XS.iloadN X0.here hx rfl (B d56_5) rfl (XS.iload X0.here hx rfl (B d56_6) rfl (XS.aloadN X0.here hx rfl (B d56_8) rfl rfl k))))))) ?_
 show oF p e below (s₁.setTop (mkF m 9 #[.val (.ref t), .val (.int i), .val (.int c0_), .val (.int c1_), .val (.int c2_), .val (.int c3_), .val (.int (i + (4 : Int32)))] [(.ref t), (.int (i + (4 : Int32))), (.int i)])) _
 obtain ⟨_, _, ⟨T2i, L2i, k2i, n2i⟩, -, X2i, ⟨Lc2i, hQ2i, l2i, y2i, z2i⟩, st2i⟩ := Jvm.LawKit.callS X0 hx (y := mN26) hown (mo hZ hw 257) (mo hZ hw 258) (mo hZ hw 190) (mo hZ hw 259) (by decide) (backOf (W := 0) (ubb l Z a0 hw [] i (i + (4 : Int32)) t kt M vs fm h0 n0 O j13_ hfm V_t (o_pq (k := (4 : Int32)) (K := 4) (by decide) (by decide) (by decide) hn (by omega) h16).1 (o_pq (k := (4 : Int32)) (K := 4) (by decide) (by decide) (by decide) hn (by omega) h16).2.1 (o_pq (k := (4 : Int32)) (K := 4) (by decide) (by decide) (by decide) hn (by omega) h16).2.2) hZ (ow hw 259) (ow hw 190) (by decide) (by decide)) (g := (mkF m 9 #[.val (.ref t), .val (.int i), .val (.int c0_), .val (.int c1_), .val (.int c2_), .val (.int c3_), .val (.int (i + (4 : Int32)))] [(.ref t), (.int (i + (4 : Int32))), (.int i)])) rfl (by rw [hml]; rfl) (argsL := [(.int i), (.int (i + (4 : Int32))), (.ref t)]) (rest := []) (lenOf pd_3 rfl) rfl (by show 2 * 0 + _ ≤ _; exact Nat.le_of_eq rfl) (B d56_9) (fun _ _ => ⟨rfl, e0, (by decide : 0 + 0 ≤ _), (by decide : 0 + 0 ≤ _)⟩)
 dsimp only [Pt.U, Pt.locs, Pt.cells, Pt.slots] at X2i l2i y2i z2i st2i hQ2i
 subst y2i z2i
 obtain ⟨rfl, N2iq, e2i⟩ := hQ2i
 refine oG st2i ?_
 have N2i := oL l2i (Fr.app N0 N2iq)
 show oF p e below (T2i.setTop (mkF m 12 #[.val (.ref t), .val (.int i), .val (.int c0_), .val (.int c1_), .val (.int c2_), .val (.int c3_), .val (.int (i + (4 : Int32)))] [])) _
 refine oG (fun _ k => XS.aloadN X2i.here hx rfl (B d56_12) rfl rfl (XS.iloadN X2i.here hx rfl (B d56_13) rfl (XS.iinc X2i.here hx rfl (B d56_14) rfl (l' := #[.val (.ref t), .val (.int (i + (1 : Int32))), .val (.int c0_), .val (.int c1_), .val (.int c2_), .val (.int c3_), .val (.int (i + (4 : Int32)))]) rfl (XS.iloadN X2i.here hx rfl (B d56_17) rfl k)))) ?_
 show oF p e below (T2i.setTop (mkF m 18 #[.val (.ref t), .val (.int (i + (1 : Int32))), .val (.int c0_), .val (.int c1_), .val (.int c2_), .val (.int c3_), .val (.int (i + (4 : Int32)))] [(.int c0_), (.int i), (.ref t)])) _
 obtain ⟨_, _, ⟨T2j, L2j, k2j, n2j⟩, -, X2j, ⟨Lc2j, hQ2j, l2j, y2j, z2j⟩, st2j⟩ := Jvm.LawKit.callS X2i hx (y := mN1) hown (mo hZ hw 218) (mo hZ hw 219) (mo hZ hw 190) (mo hZ hw 220) (by decide) (backOf (W := 0) (pt l Z a0 hw [] t i c0_ kt M vs h0 n0 O j8_ j9_ j10_ V_t g_t hn (by omega) h16) hZ (ow hw 220) (ow hw 190) (by decide) (by decide)) (g := (mkF m 18 #[.val (.ref t), .val (.int (i + (1 : Int32))), .val (.int c0_), .val (.int c1_), .val (.int c2_), .val (.int c3_), .val (.int (i + (4 : Int32)))] [(.int c0_), (.int i), (.ref t)])) rfl (by rw [hml]; rfl) (argsL := [(.ref t), (.int i), (.int c0_)]) (rest := []) (lenOf pd_4 rfl) rfl (by show 2 * 0 + _ ≤ _; exact Nat.le_of_eq rfl) (B d56_18) (fun _ _ => ⟨rfl, e2i, (by decide : 0 + 0 ≤ _), (by decide : 0 + 0 ≤ _)⟩)
 dsimp only [Pt.U, Pt.locs, Pt.cells, Pt.slots] at X2j l2j y2j z2j st2j hQ2j
 subst y2j z2j
 obtain ⟨rfl, N2jq, Kq2j, P2j_0⟩ := hQ2j
 refine oG st2j ?_
 have N2j := oL l2j (Fr.app N2i N2jq)
 clear V_t
 have O := O.keep Kq2j (allS g_t all0)
 have K2k := K0.trans Kq2j (allS (Or.inl (List.mem_of_getElem? (i := 0) rfl)) all0)
 have V_t := P2j_0
 show oF p e below (T2j.setTop (mkF m 21 #[.val (.ref t), .val (.int (i + (1 : Int32))), .val (.int c0_), .val (.int c1_), .val (.int c2_), .val (.int c3_), .val (.int (i + (4 : Int32)))] [])) _
 refine oG (fun _ k => XS.aloadN X2j.here hx rfl (B d56_21) rfl rfl (XS.iloadN X2j.here hx rfl (B d56_22) rfl (XS.iinc X2j.here hx rfl (B d56_23) rfl (l' := #[.val (.ref t), .val (.int ((i + (1 : Int32)) + (1 : Int32))), .val (.int c0_), .val (.int c1_), .val (.int c2_), .val (.int c3_), .val (.int (i + (4 : Int32)))]) rfl (XS.iloadN X2j.here hx rfl (B d56_26) rfl k)))) ?_
 show oF p e below (T2j.setTop (mkF m 27 #[.val (.ref t), .val (.int ((i + (1 : Int32)) + (1 : Int32))), .val (.int c0_), .val (.int c1_), .val (.int c2_), .val (.int c3_), .val (.int (i + (4 : Int32)))] [(.int c1_), (.int (i + (1 : Int32))), (.ref t)])) _
 obtain ⟨_, _, ⟨T2l, L2l, k2l, n2l⟩, -, X2l, ⟨Lc2l, hQ2l, l2l, y2l, z2l⟩, st2l⟩ := Jvm.LawKit.callS X2j hx (y := mN1) hown (mo hZ hw 218) (mo hZ hw 219) (mo hZ hw 190) (mo hZ hw 220) (by decide) (backOf (W := 0) (pt l Z a0 hw [] t (i + (1 : Int32)) c1_ kt M (vs ++ [(.int (o_lo c0_)), (.int (o_hi c0_))]) (T2j.heap) n0 O j8_ j9_ j10_ V_t g_t (o_pn _ _ hn (by omega)) (by simp only [List.length_append, List.length_cons, List.length_nil]; omega) h16) hZ (ow hw 220) (ow hw 190) (by decide) (by decide)) (g := (mkF m 27 #[.val (.ref t), .val (.int ((i + (1 : Int32)) + (1 : Int32))), .val (.int c0_), .val (.int c1_), .val (.int c2_), .val (.int c3_), .val (.int (i + (4 : Int32)))] [(.int c1_), (.int (i + (1 : Int32))), (.ref t)])) rfl (by rw [hml]; rfl) (argsL := [(.ref t), (.int (i + (1 : Int32))), (.int c1_)]) (rest := []) (lenOf pd_4 rfl) rfl (by show 2 * 0 + _ ≤ _; exact Nat.le_of_eq rfl) (B d56_27) (fun _ _ => ⟨rfl, rfl, (by decide : 0 + 0 ≤ _), (by decide : 0 + 0 ≤ _)⟩)
 dsimp only [Pt.U, Pt.locs, Pt.cells, Pt.slots] at X2l l2l y2l z2l st2l hQ2l
 subst y2l z2l
 obtain ⟨rfl, N2lq, Kq2l, P2l_0⟩ := hQ2l
 refine oG st2l ?_
 have N2l := oL l2l (Fr.app N2j N2lq)
 clear V_t
 have O := O.keep Kq2l (allS g_t all0)
 have K2m := K2k.trans Kq2l (allS (Or.inl (List.mem_of_getElem? (i := 0) rfl)) all0)
 have V_t := P2l_0
 show oF p e below (T2l.setTop (mkF m 30 #[.val (.ref t), .val (.int ((i + (1 : Int32)) + (1 : Int32))), .val (.int c0_), .val (.int c1_), .val (.int c2_), .val (.int c3_), .val (.int (i + (4 : Int32)))] [])) _
 refine oG (fun _ k => XS.aloadN X2l.here hx rfl (B d56_30) rfl rfl (XS.iloadN X2l.here hx rfl (B d56_31) rfl (XS.iinc X2l.here hx rfl (B d56_32) rfl (l' := #[.val (.ref t), .val (.int (((i + (1 : Int32)) + (1 : Int32)) + (1 : Int32))), .val (.int c0_), .val (.int c1_), .val (.int c2_), .val (.int c3_), .val (.int (i + (4 : Int32)))]) rfl (XS.iload X2l.here hx rfl (B d56_35) rfl k)))) ?_
 show oF p e below (T2l.setTop (mkF m 37 #[.val (.ref t), .val (.int (((i + (1 : Int32)) + (1 : Int32)) + (1 : Int32))), .val (.int c0_), .val (.int c1_), .val (.int c2_), .val (.int c3_), .val (.int (i + (4 : Int32)))] [(.int c2_), (.int ((i + (1 : Int32)) + (1 : Int32))), (.ref t)])) _
 obtain ⟨_, _, ⟨T2n, L2n, k2n, n2n⟩, -, X2n, ⟨Lc2n, hQ2n, l2n, y2n, z2n⟩, st2n⟩ := Jvm.LawKit.callS X2l hx (y := mN1) hown (mo hZ hw 218) (mo hZ hw 219) (mo hZ hw 190) (mo hZ hw 220) (by decide) (backOf (W := 0) (pt l Z a0 hw [] t ((i + (1 : Int32)) + (1 : Int32)) c2_ kt M ((vs ++ [(.int (o_lo c0_)), (.int (o_hi c0_))]) ++ [(.int (o_lo c1_)), (.int (o_hi c1_))]) (T2l.heap) n0 O j8_ j9_ j10_ V_t g_t (o_pn _ _ (o_pn _ _ hn (by omega)) (by simp only [List.length_append, List.length_cons, List.length_nil]; omega)) (by simp only [List.length_append, List.length_cons, List.length_nil]; omega) h16) hZ (ow hw 220) (ow hw 190) (by decide) (by decide)) (g := (mkF m 37 #[.val (.ref t), .val (.int (((i + (1 : Int32)) + (1 : Int32)) + (1 : Int32))), .val (.int c0_), .val (.int c1_), .val (.int c2_), .val (.int c3_), .val (.int (i + (4 : Int32)))] [(.int c2_), (.int ((i + (1 : Int32)) + (1 : Int32))), (.ref t)])) rfl (by rw [hml]; rfl) (argsL := [(.ref t), (.int ((i + (1 : Int32)) + (1 : Int32))), (.int c2_)]) (rest := []) (lenOf pd_4 rfl) rfl (by show 2 * 0 + _ ≤ _; exact Nat.le_of_eq rfl) (B d56_37) (fun _ _ => ⟨rfl, rfl, (by decide : 0 + 0 ≤ _), (by decide : 0 + 0 ≤ _)⟩)
 dsimp only [Pt.U, Pt.locs, Pt.cells, Pt.slots] at X2n l2n y2n z2n st2n hQ2n
 subst y2n z2n
 obtain ⟨rfl, N2nq, Kq2n, P2n_0⟩ := hQ2n
 refine oG st2n ?_
 have N2n := oL l2n (Fr.app N2l N2nq)
 clear V_t
 have O := O.keep Kq2n (allS g_t all0)
 have K2o := K2m.trans Kq2n (allS (Or.inl (List.mem_of_getElem? (i := 0) rfl)) all0)
 have V_t := P2n_0
 show oF p e below (T2n.setTop (mkF m 40 #[.val (.ref t), .val (.int (((i + (1 : Int32)) + (1 : Int32)) + (1 : Int32))), .val (.int c0_), .val (.int c1_), .val (.int c2_), .val (.int c3_), .val (.int (i + (4 : Int32)))] [])) _
 refine oG (fun _ k => XS.aloadN X2n.here hx rfl (B d56_40) rfl rfl (XS.iloadN X2n.here hx rfl (B d56_41) rfl (XS.iinc X2n.here hx rfl (B d56_42) rfl (l' := #[.val (.ref t), .val (.int ((((i + (1 : Int32)) + (1 : Int32)) + (1 : Int32)) + (1 : Int32))), .val (.int c0_), .val (.int c1_), .val (.int c2_), .val (.int c3_), .val (.int (i + (4 : Int32)))]) rfl (XS.iload X2n.here hx rfl (B d56_45) rfl k)))) ?_
 show oF p e below (T2n.setTop (mkF m 47 #[.val (.ref t), .val (.int ((((i + (1 : Int32)) + (1 : Int32)) + (1 : Int32)) + (1 : Int32))), .val (.int c0_), .val (.int c1_), .val (.int c2_), .val (.int c3_), .val (.int (i + (4 : Int32)))] [(.int c3_), (.int (((i + (1 : Int32)) + (1 : Int32)) + (1 : Int32))), (.ref t)])) _
 obtain ⟨_, _, ⟨T2p, L2p, k2p, n2p⟩, -, X2p, ⟨Lc2p, hQ2p, l2p, y2p, z2p⟩, st2p⟩ := Jvm.LawKit.callS X2n hx (y := mN1) hown (mo hZ hw 218) (mo hZ hw 219) (mo hZ hw 190) (mo hZ hw 220) (by decide) (backOf (W := 0) (pt l Z a0 hw [] t (((i + (1 : Int32)) + (1 : Int32)) + (1 : Int32)) c3_ kt M (((vs ++ [(.int (o_lo c0_)), (.int (o_hi c0_))]) ++ [(.int (o_lo c1_)), (.int (o_hi c1_))]) ++ [(.int (o_lo c2_)), (.int (o_hi c2_))]) (T2n.heap) n0 O j8_ j9_ j10_ V_t g_t (o_pn _ _ (o_pn _ _ (o_pn _ _ hn (by omega)) (by simp only [List.length_append, List.length_cons, List.length_nil]; omega)) (by simp only [List.length_append, List.length_cons, List.length_nil]; omega)) (by simp only [List.length_append, List.length_cons, List.length_nil]; omega) h16) hZ (ow hw 220) (ow hw 190) (by decide) (by decide)) (g := (mkF m 47 #[.val (.ref t), .val (.int ((((i + (1 : Int32)) + (1 : Int32)) + (1 : Int32)) + (1 : Int32))), .val (.int c0_), .val (.int c1_), .val (.int c2_), .val (.int c3_), .val (.int (i + (4 : Int32)))] [(.int c3_), (.int (((i + (1 : Int32)) + (1 : Int32)) + (1 : Int32))), (.ref t)])) rfl (by rw [hml]; rfl) (argsL := [(.ref t), (.int (((i + (1 : Int32)) + (1 : Int32)) + (1 : Int32))), (.int c3_)]) (rest := []) (lenOf pd_4 rfl) rfl (by show 2 * 0 + _ ≤ _; exact Nat.le_of_eq rfl) (B d56_47) (fun _ _ => ⟨rfl, rfl, (by decide : 0 + 0 ≤ _), (by decide : 0 + 0 ≤ _)⟩)
 dsimp only [Pt.U, Pt.locs, Pt.cells, Pt.slots] at X2p l2p y2p z2p st2p hQ2p
 subst y2p z2p
 obtain ⟨rfl, N2pq, Kq2p, P2p_0⟩ := hQ2p
 refine oG st2p ?_
 have N2p := oL l2p (Fr.app N2n N2pq)
 clear V_t
 have O := O.keep Kq2p (allS g_t all0)
 have K2q := K2o.trans Kq2p (allS (Or.inl (List.mem_of_getElem? (i := 0) rfl)) all0)
 have V_t := P2p_0
 obtain ⟨T2r, X2r, e2r, st2r⟩ := getS2 X2p hx hZ hown (host := "") (Or.inl (ow hw 221)) Via.refl rfl (j8_.ext O.2) (g := (mkF m 50 #[.val (.ref t), .val (.int ((((i + (1 : Int32)) + (1 : Int32)) + (1 : Int32)) + (1 : Int32))), .val (.int c0_), .val (.int c1_), .val (.int c2_), .val (.int c3_), .val (.int (i + (4 : Int32)))] [])) rfl (B d56_50)
 refine oG st2r ?_
 show oF p e below (T2r.setTop (mkF m 53 #[.val (.ref t), .val (.int ((((i + (1 : Int32)) + (1 : Int32)) + (1 : Int32)) + (1 : Int32))), .val (.int c0_), .val (.int c1_), .val (.int c2_), .val (.int c3_), .val (.int (i + (4 : Int32)))] [(.int 1)])) _
 refine oG (fun _ k => XS.ifYes X2r.here hx rfl (pc0 := 53) (pc' := 70) rfl (B d56_53) rfl ((if0 _ _).trans (feq (by decide : ¬ ((1 : Int32) = (0 : Int32)))).2) (by decide) (by decide) (XS.iload X2r.here hx rfl (B d56_70) rfl k)) ?_
 show oF p e below (T2r.setTop (mkF m 72 #[.val (.ref t), .val (.int ((((i + (1 : Int32)) + (1 : Int32)) + (1 : Int32)) + (1 : Int32))), .val (.int c0_), .val (.int c1_), .val (.int c2_), .val (.int c3_), .val (.int (i + (4 : Int32)))] [(.int (i + (4 : Int32)))])) _
 obtain ⟨fs, hr, r1, r2, hW, r3⟩ := X2r.leave (v := some (.int (i + (4 : Int32)))) (fun h => by rw [Bd.returns] at h; cases h)
 refine ⟨_, _, ?_, r1, r2, _, _, rfl, ?_, ⟨_, rfl⟩, hW, r3.mono (by decide) (by decide)⟩
 ·exact o_retI X2r hx Bd.returns (B d56_72) hr
 ·show Qpca4 Z t i c0_ c1_ c2_ c3_ kt M vs h0 n0 _ T2r.heap _
  rw [e2r]
  exact ⟨rfl, N2p, K2q, (by rw [List.append_assoc, List.append_assoc, List.append_assoc] at V_t; exact V_t)⟩
theorem d52_0 : decode k28_ 0 = .ok (.iload_n 1, 1) := by decide +kernel
theorem d52_1 : decode k28_ 1 = .ok (.iconst 5, 1) := by decide +kernel
theorem d52_2 : decode k28_ 2 = .ok (.iadd, 1) := by decide +kernel
theorem d52_3 : decode k28_ 3 = .ok (.istore 7, 2) := by decide +kernel
theorem d52_5 : decode k28_ 5 = .ok (.iload_n 1, 1) := by decide +kernel
theorem d52_6 : decode k28_ 6 = .ok (.iload 7, 2) := by decide +kernel
theorem d52_8 : decode k28_ 8 = .ok (.aload_n 0, 1) := by decide +kernel
theorem d52_9 : decode k28_ 9 = .ok (.invokestatic 96, 3) := by decide +kernel
theorem d52_12 : decode k28_ 12 = .ok (.aload_n 0, 1) := by decide +kernel
theorem d52_13 : decode k28_ 13 = .ok (.iload_n 1, 1) := by decide +kernel
theorem d52_14 : decode k28_ 14 = .ok (.iinc 1 1, 3) := by decide +kernel
theorem d52_17 : decode k28_ 17 = .ok (.iload_n 2, 1) := by decide +kernel
theorem d52_18 : decode k28_ 18 = .ok (.invokestatic 111, 3) := by decide +kernel
theorem d52_21 : decode k28_ 21 = .ok (.aload_n 0, 1) := by decide +kernel
theorem d52_22 : decode k28_ 22 = .ok (.iload_n 1, 1) := by decide +kernel
theorem d52_23 : decode k28_ 23 = .ok (.iinc 1 1, 3) := by decide +kernel
theorem d52_26 : decode k28_ 26 = .ok (.iload_n 3, 1) := by decide +kernel
theorem d52_27 : decode k28_ 27 = .ok (.invokestatic 111, 3) := by decide +kernel
theorem d52_30 : decode k28_ 30 = .ok (.aload_n 0, 1) := by decide +kernel
theorem d52_31 : decode k28_ 31 = .ok (.iload_n 1, 1) := by decide +kernel
theorem d52_32 : decode k28_ 32 = .ok (.iinc 1 1, 3) := by decide +kernel
theorem d52_35 : decode k28_ 35 = .ok (.iload 4, 2) := by decide +kernel
theorem d52_37 : decode k28_ 37 = .ok (.invokestatic 111, 3) := by decide +kernel
theorem d52_40 : decode k28_ 40 = .ok (.aload_n 0, 1) := by decide +kernel
theorem d52_41 : decode k28_ 41 = .ok (.iload_n 1, 1) := by decide +kernel
theorem d52_42 : decode k28_ 42 = .ok (.iinc 1 1, 3) := by decide +kernel
theorem d52_45 : decode k28_ 45 = .ok (.iload 5, 2) := by decide +kernel
theorem d52_47 : decode k28_ 47 = .ok (.invokestatic 111, 3) := by decide +kernel
theorem d52_50 : decode k28_ 50 = .ok (.aload_n 0, 1) := by decide +kernel
theorem d52_51 : decode k28_ 51 = .ok (.iload_n 1, 1) := by decide +kernel
theorem d52_52 : decode k28_ 52 = .ok (.iinc 1 1, 3) := by decide +kernel
theorem d52_55 : decode k28_ 55 = .ok (.iload 6, 2) := by decide +kernel
theorem d52_57 : decode k28_ 57 = .ok (.invokestatic 111, 3) := by decide +kernel
theorem d52_60 : decode k28_ 60 = .ok (.getstatic 44, 3) := by decide +kernel
theorem d52_63 : decode k28_ 63 = .ok (.ifCond .ne 17, 3) := by decide +kernel
theorem d52_80 : decode k28_ 80 = .ok (.iload 7, 2) := by decide +kernel
theorem d52_82 : decode k28_ 82 = .ok (.ireturn, 1) := by decide +kernel
theorem ef_pca5 (m : MethodId) (x0 : Addr) (x1 : Int32) (x2 : Int32) (x3 : Int32) (x4 : Int32) (x5 : Int32) (x6 : Int32) : entryFrame m #[(.ref x0), (.int x1), (.int x2), (.int x3), (.int x4), (.int x5), (.int x6)] 8 = mkF m 0 #[.val (.ref x0), .val (.int x1), .val (.int x2), .val (.int x3), .val (.int x4), .val (.int x5), .val (.int x6), .unset] [] := by first | (simp [entryFrame, mkF, argsToLocals, Value.category]; done) | rfl
def Qpca5 (Z : State) (t : Addr) (i : Int32) (c0_ : Int32) (c1_ : Int32) (c2_ : Int32) (c3_ : Int32) (c4_ : Int32) (kt : ClassId) (M : Int32) (vs : List Value) (h0 : Heap) (n0 : Nat) (v : Option Value) (h : Heap) (L : List Loc) : Prop := v = some (.int (i + (5 : Int32))) ∧ Fr n0 L ∧ Keep h0 h [t] ∧ Arv Z h t kt .byte M (vs ++ o_u16 [c0_, c1_, c2_, c3_, c4_]) (.int 0)
theorem pca5 (l : Launch) (Z : State) (a0 : Array Value) (hw : ∀ d ∈ tables_1, d.before a0 Z = true) (ws : List Jvm.Cond) (t : Addr) (i : Int32) (c0_ : Int32) (c1_ : Int32) (c2_ : Int32) (c3_ : Int32) (c4_ : Int32) (kt : ClassId) (M : Int32) (vs : List Value) (fm : Value) (h0 : Heap) (n0 : Nat) (O : Old Z n0 h0) (j8_ : sT0 Z (.int 1)) (j9_ : sT1 Z (.int 0)) (j10_ : sT2 Z (.int 8)) (j13_ : sT3 Z fm) (hfm : fm.isRef = true) (V_t : Arv Z h0 t kt .byte M vs (.int 0)) (g_t : n0 ≤ t) (hn : (vs.length : Int) = 2 * i.toInt) (hM : (vs.length : Int) + 10 ≤ M.toInt) (h16 : M.toInt ≤ 900) :
   o_MF l Z mN28 jdk_52_method_82_code 8 (some .int) ws rM3 #[(.ref t), (.int i), (.int c0_), (.int c1_), (.int c2_), (.int c3_), (.int c4_)] h0 (Qpca5 Z t i c0_ c1_ c2_ c3_ c4_ kt M vs h0 n0) := by
 refine MetFree.of_bodySF (plainFor_of_name pn_0) hisR ?_
 intro p e s m args below meth c s₁ Bd hml0 hP hK
 obtain ⟨rfl, hZ, hh⟩ := hP
 have hx := Bd.exec
 have hby := Bd.bytes
 have B := @hb _ _ hby
 have hml : c.maxLocals = 8 := hml0
 have hown : s.vm.findClass "java/lang/StringUTF16" = some m.cls := findClass_of_methodNamed Bd.named
 have X0 : Stand p l e rM3 s m #[(.ref t), (.int i), (.int c0_), (.int c1_), (.int c2_), (.int c3_), (.int c4_)] below meth c s₁ [] 0 0 := Stand.of_body Bd
 have e0 : s₁.heap = h0 := by rw [← hh, Bd.state]; rfl
 have N0 := Fr.nil n0
 have K0 := Keep.refl h0 [t]
 refine o_start (ef_pca5 m t i c0_ c1_ c2_ c3_ c4_) (Q := o_QE s rM3 (Qpca5 Z t i c0_ c1_ c2_ c3_ c4_ kt M vs h0 n0)) ?_
 show oF p e below (s₁.setTop (mkF m 0 #[.val (.ref t), .val (.int i), .val (.int c0_), .val (.int c1_), .val (.int c2_), .val (.int c3_), .val (.int c4_), .unset] [])) _
 refine oG (fun _ k => XS.iloadN X0.here hx rfl (B d52_0) rfl (XS.iconst X0.here hx rfl (B d52_1) (XS.iadd X0.here hx rfl (B d52_2) rfl (XS.istore X0.here hx rfl (B d52_3) rfl (l' := #[.val (.ref t), .val (.int i), .val (.int c0_), .val (.int c1_), .val (.int c2_), .val (.int c3_), .val (.int c4_), .val (.int (i + (5 : Int32)))]) rfl (XS.iloadN X0.here hx rfl (B d52_5) rfl (XS.iload X0.here hx rfl (B d52_6) rfl (XS.aloadN X0.here hx rfl (B d52_8) rfl rfl k))))))) ?_
 show oF p e below (s₁.setTop (mkF m 9 #[.val (.ref t), .val (.int i), .val (.int c0_), .val (.int c1_), .val (.int c2_), .val (.int c3_), .val (.int c4_), .val (.int (i + (5 : Int32)))] [(.ref t), (.int (i + (5 : Int32))), (.int i)])) _
 obtain ⟨_, _, ⟨T2s, L2s, k2s, n2s⟩, -, X2s, ⟨Lc2s, hQ2s, l2s, y2s, z2s⟩, st2s⟩ := Jvm.LawKit.callS X0 hx (y := mN26) hown (mo hZ hw 257) (mo hZ hw 258) (mo hZ hw 190) (mo hZ hw 259) (by decide) (backOf (W := 0) (ubb l Z a0 hw [] i (i + (5 : Int32)) t kt M vs fm h0 n0 O j13_ hfm V_t (o_pq (k := (5 : Int32)) (K := 5) (by decide) (by decide) (by decide) hn (by omega) h16).1 (o_pq (k := (5 : Int32)) (K := 5) (by decide) (by decide) (by decide) hn (by omega) h16).2.1 (o_pq (k := (5 : Int32)) (K := 5) (by decide) (by decide) (by decide) hn (by omega) h16).2.2) hZ (ow hw 259) (ow hw 190) (by decide) (by decide)) (g := (mkF m 9 #[.val (.ref t), .val (.int i), .val (.int c0_), .val (.int c1_), .val (.int c2_), .val (.int c3_), .val (.int c4_), .val (.int (i + (5 : Int32)))] [(.ref t), (.int (i + (5 : Int32))), (.int i)])) rfl (by rw [hml]; rfl) (argsL := [(.int i), (.int (i + (5 : Int32))), (.ref t)]) (rest := []) (lenOf pd_3 rfl) rfl (by show 2 * 0 + _ ≤ _; exact Nat.le_of_eq rfl) (B d52_9) (fun _ _ => ⟨rfl, e0, (by decide : 0 + 0 ≤ _), (by decide : 0 + 0 ≤ _)⟩)
 dsimp only [Pt.U, Pt.locs, Pt.cells, Pt.slots] at X2s l2s y2s z2s st2s hQ2s
 subst y2s z2s
 obtain ⟨rfl, N2sq, e2s⟩ := hQ2s
 refine oG st2s ?_
 have N2s := oL l2s (Fr.app N0 N2sq)
 show oF p e below (T2s.setTop (mkF m 12 #[.val (.ref t), .val (.int i), .val (.int c0_), .val (.int c1_), .val (.int c2_), .val (.int c3_), .val (.int c4_), .val (.int (i + (5 : Int32)))] [])) _
 refine oG (fun _ k => XS.aloadN X2s.here hx rfl (B d52_12) rfl rfl (XS.iloadN X2s.here hx rfl (B d52_13) rfl (XS.iinc X2s.here hx rfl (B d52_14) rfl (l' := #[.val (.ref t), .val (.int (i + (1 : Int32))), .val (.int c0_), .val (.int c1_), .val (.int c2_), .val (.int c3_), .val (.int c4_), .val (.int (i + (5 : Int32)))]) rfl (XS.iloadN X2s.here hx rfl (B d52_17) rfl k)))) ?_
 show oF p e below (T2s.setTop (mkF m 18 #[.val (.ref t), .val (.int (i + (1 : Int32))), .val (.int c0_), .val (.int c1_), .val (.int c2_), .val (.int c3_), .val (.int c4_), .val (.int (i + (5 : Int32)))] [(.int c0_), (.int i), (.ref t)])) _
 obtain ⟨_, _, ⟨T2t, L2t, k2t, n2t⟩, -, X2t, ⟨Lc2t, hQ2t, l2t, y2t, z2t⟩, st2t⟩ := Jvm.LawKit.callS X2s hx (y := mN1) hown (mo hZ hw 218) (mo hZ hw 219) (mo hZ hw 190) (mo hZ hw 220) (by decide) (backOf (W := 0) (pt l Z a0 hw [] t i c0_ kt M vs h0 n0 O j8_ j9_ j10_ V_t g_t hn (by omega) h16) hZ (ow hw 220) (ow hw 190) (by decide) (by decide)) (g := (mkF m 18 #[.val (.ref t), .val (.int (i + (1 : Int32))), .val (.int c0_), .val (.int c1_), .val (.int c2_), .val (.int c3_), .val (.int c4_), .val (.int (i + (5 : Int32)))] [(.int c0_), (.int i), (.ref t)])) rfl (by rw [hml]; rfl) (argsL := [(.ref t), (.int i), (.int c0_)]) (rest := []) (lenOf pd_4 rfl) rfl (by show 2 * 0 + _ ≤ _; exact Nat.le_of_eq rfl) (B d52_18) (fun _ _ => ⟨rfl, e2s, (by decide : 0 + 0 ≤ _), (by decide : 0 + 0 ≤ _)⟩)
 dsimp only [Pt.U, Pt.locs, Pt.cells, Pt.slots] at X2t l2t y2t z2t st2t hQ2t
 subst y2t z2t
 obtain ⟨rfl, N2tq, Kq2t, P2t_0⟩ := hQ2t
 refine oG st2t ?_
 have N2t := oL l2t (Fr.app N2s N2tq)
 clear V_t
 have O := O.keep Kq2t (allS g_t all0)
 have K2u := K0.trans Kq2t (allS (Or.inl (List.mem_of_getElem? (i := 0) rfl)) all0)
 have V_t := P2t_0
 show oF p e below (T2t.setTop (mkF m 21 #[.val (.ref t), .val (.int (i + (1 : Int32))), .val (.int c0_), .val (.int c1_), .val (.int c2_), .val (.int c3_), .val (.int c4_), .val (.int (i + (5 : Int32)))] [])) _
 refine oG (fun _ k => XS.aloadN X2t.here hx rfl (B d52_21) rfl rfl (XS.iloadN X2t.here hx rfl (B d52_22) rfl (XS.iinc X2t.here hx rfl (B d52_23) rfl (l' := #[.val (.ref t), .val (.int ((i + (1 : Int32)) + (1 : Int32))), .val (.int c0_), .val (.int c1_), .val (.int c2_), .val (.int c3_), .val (.int c4_), .val (.int (i + (5 : Int32)))]) rfl (XS.iloadN X2t.here hx rfl (B d52_26) rfl k)))) ?_
 show oF p e below (T2t.setTop (mkF m 27 #[.val (.ref t), .val (.int ((i + (1 : Int32)) + (1 : Int32))), .val (.int c0_), .val (.int c1_), .val (.int c2_), .val (.int c3_), .val (.int c4_), .val (.int (i + (5 : Int32)))] [(.int c1_), (.int (i + (1 : Int32))), (.ref t)])) _
 obtain ⟨_, _, ⟨T2v, L2v, k2v, n2v⟩, -, X2v, ⟨Lc2v, hQ2v, l2v, y2v, z2v⟩, st2v⟩ := Jvm.LawKit.callS X2t hx (y := mN1) hown (mo hZ hw 218) (mo hZ hw 219) (mo hZ hw 190) (mo hZ hw 220) (by decide) (backOf (W := 0) (pt l Z a0 hw [] t (i + (1 : Int32)) c1_ kt M (vs ++ [(.int (o_lo c0_)), (.int (o_hi c0_))]) (T2t.heap) n0 O j8_ j9_ j10_ V_t g_t (o_pn _ _ hn (by omega)) (by simp only [List.length_append, List.length_cons, List.length_nil]; omega) h16) hZ (ow hw 220) (ow hw 190) (by decide) (by decide)) (g := (mkF m 27 #[.val (.ref t), .val (.int ((i + (1 : Int32)) + (1 : Int32))), .val (.int c0_), .val (.int c1_), .val (.int c2_), .val (.int c3_), .val (.int c4_), .val (.int (i + (5 : Int32)))] [(.int c1_), (.int (i + (1 : Int32))), (.ref t)])) rfl (by rw [hml]; rfl) (argsL := [(.ref t), (.int (i + (1 : Int32))), (.int c1_)]) (rest := []) (lenOf pd_4 rfl) rfl (by show 2 * 0 + _ ≤ _; exact Nat.le_of_eq rfl) (B d52_27) (fun _ _ => ⟨rfl, rfl, (by decide : 0 + 0 ≤ _), (by decide : 0 + 0 ≤ _)⟩)
 dsimp only [Pt.U, Pt.locs, Pt.cells, Pt.slots] at X2v l2v y2v z2v st2v hQ2v
 subst y2v z2v
 obtain ⟨rfl, N2vq, Kq2v, P2v_0⟩ := hQ2v
 refine oG st2v ?_
 have N2v := oL l2v (Fr.app N2t N2vq)
 clear V_t
 have O := O.keep Kq2v (allS g_t all0)
 have K2w := K2u.trans Kq2v (allS (Or.inl (List.mem_of_getElem? (i := 0) rfl)) all0)
 have V_t := P2v_0
 show oF p e below (T2v.setTop (mkF m 30 #[.val (.ref t), .val (.int ((i + (1 : Int32)) + (1 : Int32))), .val (.int c0_), .val (.int c1_), .val (.int c2_), .val (.int c3_), .val (.int c4_), .val (.int (i + (5 : Int32)))] [])) _
 refine oG (fun _ k => XS.aloadN X2v.here hx rfl (B d52_30) rfl rfl (XS.iloadN X2v.here hx rfl (B d52_31) rfl (XS.iinc X2v.here hx rfl (B d52_32) rfl (l' := #[.val (.ref t), .val (.int (((i + (1 : Int32)) + (1 : Int32)) + (1 : Int32))), .val (.int c0_), .val (.int c1_), .val (.int c2_), .val (.int c3_), .val (.int c4_), .val (.int (i + (5 : Int32)))]) rfl (XS.iload X2v.here hx rfl (B d52_35) rfl k)))) ?_
 show oF p e below (T2v.setTop (mkF m 37 #[.val (.ref t), .val (.int (((i + (1 : Int32)) + (1 : Int32)) + (1 : Int32))), .val (.int c0_), .val (.int c1_), .val (.int c2_), .val (.int c3_), .val (.int c4_), .val (.int (i + (5 : Int32)))] [(.int c2_), (.int ((i + (1 : Int32)) + (1 : Int32))), (.ref t)])) _
 obtain ⟨_, _, ⟨T2x, L2x, k2x, n2x⟩, -, X2x, ⟨Lc2x, hQ2x, l2x, y2x, z2x⟩, st2x⟩ := Jvm.LawKit.callS X2v hx (y := mN1) hown (mo hZ hw 218) (mo hZ hw 219) (mo hZ hw 190) (mo hZ hw 220) (by decide) (backOf (W := 0) (pt l Z a0 hw [] t ((i + (1 : Int32)) + (1 : Int32)) c2_ kt M ((vs ++ [(.int (o_lo c0_)), (.int (o_hi c0_))]) ++ [(.int (o_lo c1_)), (.int (o_hi c1_))]) (T2v.heap) n0 O j8_ j9_ j10_ V_t g_t (o_pn _ _ (o_pn _ _ hn (by omega)) (by simp only [List.length_append, List.length_cons, List.length_nil]; omega)) (by simp only [List.length_append, List.length_cons, List.length_nil]; omega) h16) hZ (ow hw 220) (ow hw 190) (by decide) (by decide)) (g := (mkF m 37 #[.val (.ref t), .val (.int (((i + (1 : Int32)) + (1 : Int32)) + (1 : Int32))), .val (.int c0_), .val (.int c1_), .val (.int c2_), .val (.int c3_), .val (.int c4_), .val (.int (i + (5 : Int32)))] [(.int c2_), (.int ((i + (1 : Int32)) + (1 : Int32))), (.ref t)])) rfl (by rw [hml]; rfl) (argsL := [(.ref t), (.int ((i + (1 : Int32)) + (1 : Int32))), (.int c2_)]) (rest := []) (lenOf pd_4 rfl) rfl (by show 2 * 0 + _ ≤ _; exact Nat.le_of_eq rfl) (B d52_37) (fun _ _ => ⟨rfl, rfl, (by decide : 0 + 0 ≤ _), (by decide : 0 + 0 ≤ _)⟩)
 dsimp only [Pt.U, Pt.locs, Pt.cells, Pt.slots] at X2x l2x y2x z2x st2x hQ2x
 subst y2x z2x
 obtain ⟨rfl, N2xq, Kq2x, P2x_0⟩ := hQ2x
 refine oG st2x ?_
 have N2x := oL l2x (Fr.app N2v N2xq)
 clear V_t
 have O := O.keep Kq2x (allS g_t all0)
 have K2y := K2w.trans Kq2x (allS (Or.inl (List.mem_of_getElem? (i := 0) rfl)) all0)
 have V_t := P2x_0
 show oF p e below (T2x.setTop (mkF m 40 #[.val (.ref t), .val (.int (((i + (1 : Int32)) + (1 : Int32)) + (1 : Int32))), .val (.int c0_), .val (.int c1_), .val (.int c2_), .val (.int c3_), .val (.int c4_), .val (.int (i + (5 : Int32)))] [])) _
 refine oG (fun _ k => XS.aloadN X2x.here hx rfl (B d52_40) rfl rfl (XS.iloadN X2x.here hx rfl (B d52_41) rfl (XS.iinc X2x.here hx rfl (B d52_42) rfl (l' := #[.val (.ref t), .val (.int ((((i + (1 : Int32)) + (1 : Int32)) + (1 : Int32)) + (1 : Int32))), .val (.int c0_), .val (.int c1_), .val (.int c2_), .val (.int c3_), .val (.int c4_), .val (.int (i + (5 : Int32)))]) rfl (XS.iload X2x.here hx rfl (B d52_45) rfl k)))) ?_
 show oF p e below (T2x.setTop (mkF m 47 #[.val (.ref t), .val (.int ((((i + (1 : Int32)) + (1 : Int32)) + (1 : Int32)) + (1 : Int32))), .val (.int c0_), .val (.int c1_), .val (.int c2_), .val (.int c3_), .val (.int c4_), .val (.int (i + (5 : Int32)))] [(.int c3_), (.int (((i + (1 : Int32)) + (1 : Int32)) + (1 : Int32))), (.ref t)])) _
 obtain ⟨_, _, ⟨T2z, L2z, k2z, n2z⟩, -, X2z, ⟨Lc2z, hQ2z, l2z, y2z, z2z⟩, st2z⟩ := Jvm.LawKit.callS X2x hx (y := mN1) hown (mo hZ hw 218) (mo hZ hw 219) (mo hZ hw 190) (mo hZ hw 220) (by decide) (backOf (W := 0) (pt l Z a0 hw [] t (((i + (1 : Int32)) + (1 : Int32)) + (1 : Int32)) c3_ kt M (((vs ++ [(.int (o_lo c0_)), (.int (o_hi c0_))]) ++ [(.int (o_lo c1_)), (.int (o_hi c1_))]) ++ [(.int (o_lo c2_)), (.int (o_hi c2_))]) (T2x.heap) n0 O j8_ j9_ j10_ V_t g_t (o_pn _ _ (o_pn _ _ (o_pn _ _ hn (by omega)) (by simp only [List.length_append, List.length_cons, List.length_nil]; omega)) (by simp only [List.length_append, List.length_cons, List.length_nil]; omega)) (by simp only [List.length_append, List.length_cons, List.length_nil]; omega) h16) hZ (ow hw 220) (ow hw 190) (by decide) (by decide)) (g := (mkF m 47 #[.val (.ref t), .val (.int ((((i + (1 : Int32)) + (1 : Int32)) + (1 : Int32)) + (1 : Int32))), .val (.int c0_), .val (.int c1_), .val (.int c2_), .val (.int c3_), .val (.int c4_), .val (.int (i + (5 : Int32)))] [(.int c3_), (.int (((i + (1 : Int32)) + (1 : Int32)) + (1 : Int32))), (.ref t)])) rfl (by rw [hml]; rfl) (argsL := [(.ref t), (.int (((i + (1 : Int32)) + (1 : Int32)) + (1 : Int32))), (.int c3_)]) (rest := []) (lenOf pd_4 rfl) rfl (by show 2 * 0 + _ ≤ _; exact Nat.le_of_eq rfl) (B d52_47) (fun _ _ => ⟨rfl, rfl, (by decide : 0 + 0 ≤ _), (by decide : 0 + 0 ≤ _)⟩)
 dsimp only [Pt.U, Pt.locs, Pt.cells, Pt.slots] at X2z l2z y2z z2z st2z hQ2z
 subst y2z z2z
 obtain ⟨rfl, N2zq, Kq2z, P2z_0⟩ := hQ2z
 refine oG st2z ?_
 have N2z := oL l2z (Fr.app N2x N2zq)
 clear V_t
 have O := O.keep Kq2z (allS g_t all0)
 have K2A := K2y.trans Kq2z (allS (Or.inl (List.mem_of_getElem? (i := 0) rfl)) all0)
 have V_t := P2z_0
 show oF p e below (T2z.setTop (mkF m 50 #[.val (.ref t), .val (.int ((((i + (1 : Int32)) + (1 : Int32)) + (1 : Int32)) + (1 : Int32))), .val (.int c0_), .val (.int c1_), .val (.int c2_), .val (.int c3_), .val (.int c4_), .val (.int (i + (5 : Int32)))] [])) _
 refine oG (fun _ k => XS.aloadN X2z.here hx rfl (B d52_50) rfl rfl (XS.iloadN X2z.here hx rfl (B d52_51) rfl (XS.iinc X2z.here hx rfl (B d52_52) rfl (l' := #[.val (.ref t), .val (.int (((((i + (1 : Int32)) + (1 : Int32)) + (1 : Int32)) + (1 : Int32)) + (1 : Int32))), .val (.int c0_), .val (.int c1_), .val (.int c2_), .val (.int c3_), .val (.int c4_), .val (.int (i + (5 : Int32)))]) rfl (XS.iload X2z.here hx rfl (B d52_55) rfl k)))) ?_
 show oF p e below (T2z.setTop (mkF m 57 #[.val (.ref t), .val (.int (((((i + (1 : Int32)) + (1 : Int32)) + (1 : Int32)) + (1 : Int32)) + (1 : Int32))), .val (.int c0_), .val (.int c1_), .val (.int c2_), .val (.int c3_), .val (.int c4_), .val (.int (i + (5 : Int32)))] [(.int c4_), (.int ((((i + (1 : Int32)) + (1 : Int32)) + (1 : Int32)) + (1 : Int32))), (.ref t)])) _
 obtain ⟨_, _, ⟨T2B, L2B, k2B, n2B⟩, -, X2B, ⟨Lc2B, hQ2B, l2B, y2B, z2B⟩, st2B⟩ := Jvm.LawKit.callS X2z hx (y := mN1) hown (mo hZ hw 218) (mo hZ hw 219) (mo hZ hw 190) (mo hZ hw 220) (by decide) (backOf (W := 0) (pt l Z a0 hw [] t ((((i + (1 : Int32)) + (1 : Int32)) + (1 : Int32)) + (1 : Int32)) c4_ kt M ((((vs ++ [(.int (o_lo c0_)), (.int (o_hi c0_))]) ++ [(.int (o_lo c1_)), (.int (o_hi c1_))]) ++ [(.int (o_lo c2_)), (.int (o_hi c2_))]) ++ [(.int (o_lo c3_)), (.int (o_hi c3_))]) (T2z.heap) n0 O j8_ j9_ j10_ V_t g_t (o_pn _ _ (o_pn _ _ (o_pn _ _ (o_pn _ _ hn (by omega)) (by simp only [List.length_append, List.length_cons, List.length_nil]; omega)) (by simp only [List.length_append, List.length_cons, List.length_nil]; omega)) (by simp only [List.length_append, List.length_cons, List.length_nil]; omega)) (by simp only [List.length_append, List.length_cons, List.length_nil]; omega) h16) hZ (ow hw 220) (ow hw 190) (by decide) (by decide)) (g := (mkF m 57 #[.val (.ref t), .val (.int (((((i + (1 : Int32)) + (1 : Int32)) + (1 : Int32)) + (1 : Int32)) + (1 : Int32))), .val (.int c0_), .val (.int c1_), .val (.int c2_), .val (.int c3_), .val (.int c4_), .val (.int (i + (5 : Int32)))] [(.int c4_), (.int ((((i + (1 : Int32)) + (1 : Int32)) + (1 : Int32)) + (1 : Int32))), (.ref t)])) rfl (by rw [hml]; rfl) (argsL := [(.ref t), (.int ((((i + (1 : Int32)) + (1 : Int32)) + (1 : Int32)) + (1 : Int32))), (.int c4_)]) (rest := []) (lenOf pd_4 rfl) rfl (by show 2 * 0 + _ ≤ _; exact Nat.le_of_eq rfl) (B d52_57) (fun _ _ => ⟨rfl, rfl, (by decide : 0 + 0 ≤ _), (by decide : 0 + 0 ≤ _)⟩)
 dsimp only [Pt.U, Pt.locs, Pt.cells, Pt.slots] at X2B l2B y2B z2B st2B hQ2B
 subst y2B z2B
 obtain ⟨rfl, N2Bq, Kq2B, P2B_0⟩ := hQ2B
 refine oG st2B ?_
 have N2B := oL l2B (Fr.app N2z N2Bq)
 clear V_t
 have O := O.keep Kq2B (allS g_t all0)
 have K2C := K2A.trans Kq2B (allS (Or.inl (List.mem_of_getElem? (i := 0) rfl)) all0)
 have V_t := P2B_0
 obtain ⟨T2D, X2D, e2D, st2D⟩ := getS2 X2B hx hZ hown (host := "") (Or.inl (ow hw 221)) Via.refl rfl (j8_.ext O.2) (g := (mkF m 60 #[.val (.ref t), .val (.int (((((i + (1 : Int32)) + (1 : Int32)) + (1 : Int32)) + (1 : Int32)) + (1 : Int32))), .val (.int c0_), .val (.int c1_), .val (.int c2_), .val (.int c3_), .val (.int c4_), .val (.int (i + (5 : Int32)))] [])) rfl (B d52_60)
 refine oG st2D ?_
 show oF p e below (T2D.setTop (mkF m 63 #[.val (.ref t), .val (.int (((((i + (1 : Int32)) + (1 : Int32)) + (1 : Int32)) + (1 : Int32)) + (1 : Int32))), .val (.int c0_), .val (.int c1_), .val (.int c2_), .val (.int c3_), .val (.int c4_), .val (.int (i + (5 : Int32)))] [(.int 1)])) _
 refine oG (fun _ k => XS.ifYes X2D.here hx rfl (pc0 := 63) (pc' := 80) rfl (B d52_63) rfl ((if0 _ _).trans (feq (by decide : ¬ ((1 : Int32) = (0 : Int32)))).2) (by decide) (by decide) (XS.iload X2D.here hx rfl (B d52_80) rfl k)) ?_
 show oF p e below (T2D.setTop (mkF m 82 #[.val (.ref t), .val (.int (((((i + (1 : Int32)) + (1 : Int32)) + (1 : Int32)) + (1 : Int32)) + (1 : Int32))), .val (.int c0_), .val (.int c1_), .val (.int c2_), .val (.int c3_), .val (.int c4_), .val (.int (i + (5 : Int32)))] [(.int (i + (5 : Int32)))])) _
 obtain ⟨fs, hr, r1, r2, hW, r3⟩ := X2D.leave (v := some (.int (i + (5 : Int32)))) (fun h => by rw [Bd.returns] at h; cases h)
 refine ⟨_, _, ?_, r1, r2, _, _, rfl, ?_, ⟨_, rfl⟩, hW, r3.mono (by decide) (by decide)⟩
 ·exact o_retI X2D hx Bd.returns (B d52_82) hr
 ·show Qpca5 Z t i c0_ c1_ c2_ c3_ c4_ kt M vs h0 n0 _ T2D.heap _
  rw [e2D]
  exact ⟨rfl, N2B, K2C, (by rw [List.append_assoc, List.append_assoc, List.append_assoc, List.append_assoc] at V_t; exact V_t)⟩
theorem o_b97 : o_by 97 = 97 := by decide
theorem o_b101 : o_by 101 = 101 := by decide
theorem o_b102 : o_by 102 = 102 := by decide
theorem o_b108 : o_by 108 = 108 := by decide
theorem o_b114 : o_by 114 = 114 := by decide
theorem o_b115 : o_by 115 = 115 := by decide
theorem o_b116 : o_by 116 = 116 := by decide
theorem o_b117 : o_by 117 = 117 := by decide
theorem o_z0 (cs : List Int32) : o_u8 (cs ++ [(102 : Int32), (97 : Int32), (108 : Int32), (115 : Int32), (101 : Int32)]) = (((((o_u8 cs ++ [.int 102]) ++ [.int 97]) ++ [.int 108]) ++ [.int 115]) ++ [.int 101]) := by
 rw [o_u8_app, List.append_assoc, List.append_assoc, List.append_assoc, List.append_assoc]
 show o_u8 cs ++ [.int (o_by 102), .int (o_by 97), .int (o_by 108), .int (o_by 115), .int (o_by 101)] = _
 rw [o_b102, o_b97, o_b108, o_b115, o_b101]; rfl
theorem o_zr0 : o_rng [(102 : Int32), (97 : Int32), (108 : Int32), (115 : Int32), (101 : Int32)] := by unfold o_rng; decide
theorem o_zl0 : o_lat [(102 : Int32), (97 : Int32), (108 : Int32), (115 : Int32), (101 : Int32)] := by unfold o_lat; decide
theorem o_z1 (cs : List Int32) : o_u8 (cs ++ [(116 : Int32), (114 : Int32), (117 : Int32), (101 : Int32)]) = ((((o_u8 cs ++ [.int 116]) ++ [.int 114]) ++ [.int 117]) ++ [.int 101]) := by
 rw [o_u8_app, List.append_assoc, List.append_assoc, List.append_assoc]
 show o_u8 cs ++ [.int (o_by 116), .int (o_by 114), .int (o_by 117), .int (o_by 101)] = _
 rw [o_b116, o_b114, o_b117, o_b101]; rfl
theorem o_zr1 : o_rng [(116 : Int32), (114 : Int32), (117 : Int32), (101 : Int32)] := by unfold o_rng; decide
theorem o_zl1 : o_lat [(116 : Int32), (114 : Int32), (117 : Int32), (101 : Int32)] := by unfold o_lat; decide
theorem o_capz {N cn k : Int32} {K : Int} (hk : k.toInt = K) (hK : 0 ≤ K) (hK2 : K ≤ 100) (h0 : 0 ≤ cn.toInt) (h : cn.toInt + K ≤ N.toInt) (hN : N.toInt ≤ 100) : o_cap N N (cn + k) := by
 have a := o_pk (i := cn) hk hK hK2 h0 (by omega)
 exact Or.inl ⟨rfl, by omega, by omega, hN⟩
theorem o_ny97 : nar .byte (97 : Int32) = 97 := by decide
theorem o_ny101 : nar .byte (101 : Int32) = 101 := by decide
theorem o_ny102 : nar .byte (102 : Int32) = 102 := by decide
theorem o_ny108 : nar .byte (108 : Int32) = 108 := by decide
theorem o_ny114 : nar .byte (114 : Int32) = 114 := by decide
theorem o_ny115 : nar .byte (115 : Int32) = 115 := by decide
theorem o_ny116 : nar .byte (116 : Int32) = 116 := by decide
theorem o_ny117 : nar .byte (117 : Int32) = 117 := by decide
theorem o_zk1 {cn : Int32} {n : Nat} (h : cn.toInt = (n : Int)) (h1 : n ≤ 200) : (cn + (1 : Int32)).toInt = (n : Int) + 1 := by
 have a0 := o_p1 (i := cn) (by omega) (by omega)
 omega
theorem o_zk2 {cn : Int32} {n : Nat} (h : cn.toInt = (n : Int)) (h1 : n ≤ 200) : ((cn + (1 : Int32)) + (1 : Int32)).toInt = (n : Int) + 2 := by
 have a0 := o_p1 (i := cn) (by omega) (by omega)
 have a1 := o_p1 (i := (cn + (1 : Int32))) (by omega) (by omega)
 omega
theorem o_zk3 {cn : Int32} {n : Nat} (h : cn.toInt = (n : Int)) (h1 : n ≤ 200) : (((cn + (1 : Int32)) + (1 : Int32)) + (1 : Int32)).toInt = (n : Int) + 3 := by
 have a0 := o_p1 (i := cn) (by omega) (by omega)
 have a1 := o_p1 (i := (cn + (1 : Int32))) (by omega) (by omega)
 have a2 := o_p1 (i := ((cn + (1 : Int32)) + (1 : Int32))) (by omega) (by omega)
 omega
theorem o_zk4 {cn : Int32} {n : Nat} (h : cn.toInt = (n : Int)) (h1 : n ≤ 200) : ((((cn + (1 : Int32)) + (1 : Int32)) + (1 : Int32)) + (1 : Int32)).toInt = (n : Int) + 4 := by
 have a0 := o_p1 (i := cn) (by omega) (by omega)
 have a1 := o_p1 (i := (cn + (1 : Int32))) (by omega) (by omega)
 have a2 := o_p1 (i := ((cn + (1 : Int32)) + (1 : Int32))) (by omega) (by omega)
 have a3 := o_p1 (i := (((cn + (1 : Int32)) + (1 : Int32)) + (1 : Int32))) (by omega) (by omega)
 omega
theorem o_zc0 {cn : Int32} {cs : List Int32} (h : cn.toInt = (cs.length : Int)) (h1 : cs.length ≤ 200) : (((((cn + (1 : Int32)) + (1 : Int32)) + (1 : Int32)) + (1 : Int32)) + (1 : Int32)).toInt = ((cs ++ [(102 : Int32), (97 : Int32), (108 : Int32), (115 : Int32), (101 : Int32)]).length : Int) := by
 have a0 := o_p1 (i := cn) (by omega) (by omega)
 have a1 := o_p1 (i := (cn + (1 : Int32))) (by omega) (by omega)
 have a2 := o_p1 (i := ((cn + (1 : Int32)) + (1 : Int32))) (by omega) (by omega)
 have a3 := o_p1 (i := (((cn + (1 : Int32)) + (1 : Int32)) + (1 : Int32))) (by omega) (by omega)
 have a4 := o_p1 (i := ((((cn + (1 : Int32)) + (1 : Int32)) + (1 : Int32)) + (1 : Int32))) (by omega) (by omega)
 rw [List.length_append]; simp only [List.length_cons, List.length_nil]; omega
theorem o_zd0 {cn : Int32} {cs : List Int32} (h : cn.toInt = (cs.length : Int)) (h1 : cs.length ≤ 200) : (cn + (5 : Int32)).toInt = ((cs ++ [(102 : Int32), (97 : Int32), (108 : Int32), (115 : Int32), (101 : Int32)]).length : Int) := by
 have a := o_pk (i := cn) (k := (5 : Int32)) (K := 5) (by decide) (by decide) (by decide) (by omega) (by omega)
 rw [List.length_append]; simp only [List.length_cons, List.length_nil]; omega
theorem o_zc1 {cn : Int32} {cs : List Int32} (h : cn.toInt = (cs.length : Int)) (h1 : cs.length ≤ 200) : ((((cn + (1 : Int32)) + (1 : Int32)) + (1 : Int32)) + (1 : Int32)).toInt = ((cs ++ [(116 : Int32), (114 : Int32), (117 : Int32), (101 : Int32)]).length : Int) := by
 have a0 := o_p1 (i := cn) (by omega) (by omega)
 have a1 := o_p1 (i := (cn + (1 : Int32))) (by omega) (by omega)
 have a2 := o_p1 (i := ((cn + (1 : Int32)) + (1 : Int32))) (by omega) (by omega)
 have a3 := o_p1 (i := (((cn + (1 : Int32)) + (1 : Int32)) + (1 : Int32))) (by omega) (by omega)
 rw [List.length_append]; simp only [List.length_cons, List.length_nil]; omega
theorem o_zd1 {cn : Int32} {cs : List Int32} (h : cn.toInt = (cs.length : Int)) (h1 : cs.length ≤ 200) : (cn + (4 : Int32)).toInt = ((cs ++ [(116 : Int32), (114 : Int32), (117 : Int32), (101 : Int32)]).length : Int) := by
 have a := o_pk (i := cn) (k := (4 : Int32)) (K := 4) (by decide) (by decide) (by decide) (by omega) (by omega)
 rw [List.length_append]; simp only [List.length_cons, List.length_nil]; omega
def o_tf (f : Int32) : List Int32 := if f = (0 : Int32) then [(102 : Int32), (97 : Int32), (108 : Int32), (115 : Int32), (101 : Int32)] else [(116 : Int32), (114 : Int32), (117 : Int32), (101 : Int32)]
theorem o_tf0 {f : Int32} (h : f = (0 : Int32)) : o_tf f = [(102 : Int32), (97 : Int32), (108 : Int32), (115 : Int32), (101 : Int32)] := if_pos h
theorem o_tf1 {f : Int32} (h : ¬ (f = (0 : Int32))) : o_tf f = [(116 : Int32), (114 : Int32), (117 : Int32), (101 : Int32)] := if_neg h
theorem d24_0 : decode k29_ 0 = .ok (.aload_n 0, 1) := by decide +kernel
theorem d24_1 : decode k29_ 1 = .ok (.aload_n 0, 1) := by decide +kernel
theorem d24_2 : decode k29_ 2 = .ok (.getfield 79, 3) := by decide +kernel
theorem d24_5 : decode k29_ 5 = .ok (.iload_n 1, 1) := by decide +kernel
theorem d24_6 : decode k29_ 6 = .ok (.ifCond .eq 7, 3) := by decide +kernel
theorem d24_13 : decode k29_ 13 = .ok (.iconst 5, 1) := by decide +kernel
theorem d24_14 : decode k29_ 14 = .ok (.iadd, 1) := by decide +kernel
theorem d24_15 : decode k29_ 15 = .ok (.invokevirtual 100, 3) := by decide +kernel
theorem d24_18 : decode k29_ 18 = .ok (.aload_n 0, 1) := by decide +kernel
theorem d24_19 : decode k29_ 19 = .ok (.getfield 79, 3) := by decide +kernel
theorem d24_22 : decode k29_ 22 = .ok (.istore_n 2, 1) := by decide +kernel
theorem d24_23 : decode k29_ 23 = .ok (.aload_n 0, 1) := by decide +kernel
theorem d24_24 : decode k29_ 24 = .ok (.getfield 15, 3) := by decide +kernel
theorem d24_27 : decode k29_ 27 = .ok (.astore_n 3, 1) := by decide +kernel
theorem d24_28 : decode k29_ 28 = .ok (.aload_n 0, 1) := by decide +kernel
theorem d24_29 : decode k29_ 29 = .ok (.invokevirtual 83, 3) := by decide +kernel
theorem d24_32 : decode k29_ 32 = .ok (.ifCond .eq 85, 3) := by decide +kernel
theorem d24_35 : decode k29_ 35 = .ok (.iload_n 1, 1) := by decide +kernel
theorem d24_36 : decode k29_ 36 = .ok (.ifCond .eq 38, 3) := by decide +kernel
theorem d24_74 : decode k29_ 74 = .ok (.aload_n 3, 1) := by decide +kernel
theorem d24_75 : decode k29_ 75 = .ok (.iload_n 2, 1) := by decide +kernel
theorem d24_76 : decode k29_ 76 = .ok (.iinc 2 1, 3) := by decide +kernel
theorem d24_79 : decode k29_ 79 = .ok (.bipush 102, 2) := by decide +kernel
theorem d24_81 : decode k29_ 81 = .ok (.bastore, 1) := by decide +kernel
theorem d24_82 : decode k29_ 82 = .ok (.aload_n 3, 1) := by decide +kernel
theorem d24_83 : decode k29_ 83 = .ok (.iload_n 2, 1) := by decide +kernel
theorem d24_84 : decode k29_ 84 = .ok (.iinc 2 1, 3) := by decide +kernel
theorem d24_87 : decode k29_ 87 = .ok (.bipush 97, 2) := by decide +kernel
theorem d24_89 : decode k29_ 89 = .ok (.bastore, 1) := by decide +kernel
theorem d24_90 : decode k29_ 90 = .ok (.aload_n 3, 1) := by decide +kernel
theorem d24_91 : decode k29_ 91 = .ok (.iload_n 2, 1) := by decide +kernel
theorem d24_92 : decode k29_ 92 = .ok (.iinc 2 1, 3) := by decide +kernel
theorem d24_95 : decode k29_ 95 = .ok (.bipush 108, 2) := by decide +kernel
theorem d24_97 : decode k29_ 97 = .ok (.bastore, 1) := by decide +kernel
theorem d24_98 : decode k29_ 98 = .ok (.aload_n 3, 1) := by decide +kernel
theorem d24_99 : decode k29_ 99 = .ok (.iload_n 2, 1) := by decide +kernel
theorem d24_100 : decode k29_ 100 = .ok (.iinc 2 1, 3) := by decide +kernel
theorem d24_103 : decode k29_ 103 = .ok (.bipush 115, 2) := by decide +kernel
theorem d24_105 : decode k29_ 105 = .ok (.bastore, 1) := by decide +kernel
theorem d24_106 : decode k29_ 106 = .ok (.aload_n 3, 1) := by decide +kernel
theorem d24_107 : decode k29_ 107 = .ok (.iload_n 2, 1) := by decide +kernel
theorem d24_108 : decode k29_ 108 = .ok (.iinc 2 1, 3) := by decide +kernel
theorem d24_111 : decode k29_ 111 = .ok (.bipush 101, 2) := by decide +kernel
theorem d24_113 : decode k29_ 113 = .ok (.bastore, 1) := by decide +kernel
theorem d24_114 : decode k29_ 114 = .ok (.goto 40, 3) := by decide +kernel
theorem d24_154 : decode k29_ 154 = .ok (.aload_n 0, 1) := by decide +kernel
theorem d24_155 : decode k29_ 155 = .ok (.iload_n 2, 1) := by decide +kernel
theorem d24_156 : decode k29_ 156 = .ok (.putfield 79, 3) := by decide +kernel
theorem d24_159 : decode k29_ 159 = .ok (.aload_n 0, 1) := by decide +kernel
theorem d24_160 : decode k29_ 160 = .ok (.areturn, 1) := by decide +kernel
theorem d24_117 : decode k29_ 117 = .ok (.iload_n 1, 1) := by decide +kernel
theorem d24_118 : decode k29_ 118 = .ok (.ifCond .eq 20, 3) := by decide +kernel
theorem d24_138 : decode k29_ 138 = .ok (.aload_n 3, 1) := by decide +kernel
theorem d24_139 : decode k29_ 139 = .ok (.iload_n 2, 1) := by decide +kernel
theorem d24_140 : decode k29_ 140 = .ok (.bipush 102, 2) := by decide +kernel
theorem d24_142 : decode k29_ 142 = .ok (.bipush 97, 2) := by decide +kernel
theorem d24_144 : decode k29_ 144 = .ok (.bipush 108, 2) := by decide +kernel
theorem d24_146 : decode k29_ 146 = .ok (.bipush 115, 2) := by decide +kernel
theorem d24_148 : decode k29_ 148 = .ok (.bipush 101, 2) := by decide +kernel
theorem d24_150 : decode k29_ 150 = .ok (.invokestatic 242, 3) := by decide +kernel
theorem pd_20 : parseMethodDescriptor "([BICCCCC)I" = some ⟨[(.array .byte), .int, .char, .char, .char, .char, .char], some .int⟩ := by decide +kernel
theorem d24_153 : decode k29_ 153 = .ok (.istore_n 2, 1) := by decide +kernel
theorem d24_9 : decode k29_ 9 = .ok (.iconst 4, 1) := by decide +kernel
theorem d24_10 : decode k29_ 10 = .ok (.goto 4, 3) := by decide +kernel
theorem d24_39 : decode k29_ 39 = .ok (.aload_n 3, 1) := by decide +kernel
theorem d24_40 : decode k29_ 40 = .ok (.iload_n 2, 1) := by decide +kernel
theorem d24_41 : decode k29_ 41 = .ok (.iinc 2 1, 3) := by decide +kernel
theorem d24_44 : decode k29_ 44 = .ok (.bipush 116, 2) := by decide +kernel
theorem d24_46 : decode k29_ 46 = .ok (.bastore, 1) := by decide +kernel
theorem d24_47 : decode k29_ 47 = .ok (.aload_n 3, 1) := by decide +kernel
theorem d24_48 : decode k29_ 48 = .ok (.iload_n 2, 1) := by decide +kernel
theorem d24_49 : decode k29_ 49 = .ok (.iinc 2 1, 3) := by decide +kernel
theorem d24_52 : decode k29_ 52 = .ok (.bipush 114, 2) := by decide +kernel
theorem d24_54 : decode k29_ 54 = .ok (.bastore, 1) := by decide +kernel
theorem d24_55 : decode k29_ 55 = .ok (.aload_n 3, 1) := by decide +kernel
theorem d24_56 : decode k29_ 56 = .ok (.iload_n 2, 1) := by decide +kernel
theorem d24_57 : decode k29_ 57 = .ok (.iinc 2 1, 3) := by decide +kernel
theorem d24_60 : decode k29_ 60 = .ok (.bipush 117, 2) := by decide +kernel
theorem d24_62 : decode k29_ 62 = .ok (.bastore, 1) := by decide +kernel
theorem d24_63 : decode k29_ 63 = .ok (.aload_n 3, 1) := by decide +kernel
theorem d24_64 : decode k29_ 64 = .ok (.iload_n 2, 1) := by decide +kernel
theorem d24_65 : decode k29_ 65 = .ok (.iinc 2 1, 3) := by decide +kernel
theorem d24_68 : decode k29_ 68 = .ok (.bipush 101, 2) := by decide +kernel
theorem d24_70 : decode k29_ 70 = .ok (.bastore, 1) := by decide +kernel
theorem d24_71 : decode k29_ 71 = .ok (.goto 83, 3) := by decide +kernel
theorem d24_121 : decode k29_ 121 = .ok (.aload_n 3, 1) := by decide +kernel
theorem d24_122 : decode k29_ 122 = .ok (.iload_n 2, 1) := by decide +kernel
theorem d24_123 : decode k29_ 123 = .ok (.bipush 116, 2) := by decide +kernel
theorem d24_125 : decode k29_ 125 = .ok (.bipush 114, 2) := by decide +kernel
theorem d24_127 : decode k29_ 127 = .ok (.bipush 117, 2) := by decide +kernel
theorem d24_129 : decode k29_ 129 = .ok (.bipush 101, 2) := by decide +kernel
theorem d24_131 : decode k29_ 131 = .ok (.invokestatic 226, 3) := by decide +kernel
theorem pd_21 : parseMethodDescriptor "([BICCCC)I" = some ⟨[(.array .byte), .int, .char, .char, .char, .char], some .int⟩ := by decide +kernel
theorem d24_134 : decode k29_ 134 = .ok (.istore_n 2, 1) := by decide +kernel
theorem d24_135 : decode k29_ 135 = .ok (.goto 19, 3) := by decide +kernel
theorem ef_apz (m : MethodId) (x0 : Addr) (x1 : Int32) : entryFrame m #[(.ref x0), (.int x1)] 4 = mkF m 0 #[.val (.ref x0), .val (.int x1), .unset, .unset] [] := by first | (simp [entryFrame, mkF, argsToLocals, Value.category]; done) | rfl
def Qapz (Z : State) (b : Addr) (f_ : Int32) (t : Addr) (N : Int32) (cs : List Int32) (h0 : Heap) (n0 : Nat) (v : Option Value) (h : Heap) (L : List Loc) : Prop := ∃ (t2_ : Addr) (k2_ : ClassId) (n2_ : Int32), v = some (.ref b) ∧ Fr n0 L ∧ Keep h0 h [b, t] ∧ (t2_ = t ∨ h0.size ≤ t2_) ∧ n0 ≤ t2_ ∧ b ≠ t2_ ∧ n2_.toInt = ((cs ++ o_tf f_).length : Int) ∧ eX1 Z h b ∧ fL5 Z h b (.int n2_) ∧ eX0 Z h t2_ ∧ o_SB Z h b t2_ k2_ N (cs ++ o_tf f_)
theorem apz (l : Launch) (Z : State) (a0 : Array Value) (hw : ∀ d ∈ tables_1, d.before a0 Z = true) (ws : List Jvm.Cond) (b : Addr) (f_ : Int32) (z : Int32) (t : Addr) (kt : ClassId) (N : Int32) (cn : Int32) (cs : List Int32) (fm : Value) (h0 : Heap) (n0 : Nat) (O : Old Z n0 h0) (j8_ : sT0 Z (.int 1)) (j9_ : sT1 Z (.int 0)) (j10_ : sT2 Z (.int 8)) (j13_ : sT3 Z fm) (hfm : fm.isRef = true) (j6_ : sT4 Z (.int z)) (hz : ¬ (z = (0 : Int32))) (E_b : eX1 Z h0 b) (j0_ : fL5 Z h0 b (.int cn)) (j12_ : o_SB Z h0 b t kt N cs) (E_t : eX0 Z h0 t) (g_b : n0 ≤ b) (g_t : n0 ≤ t) (nbt : b ≠ t) (hcn : cn.toInt = (cs.length : Int)) (hl2 : (cs.length : Int) + ((o_tf f_).length : Int) ≤ N.toInt) (hN1 : N.toInt ≤ 100) :
   o_MF l Z mN29 jdk_68_method_30_code 4 (some (.object "java/lang/AbstractStringBuilder")) ws rM19 #[(.ref b), (.int f_)] h0 (Qapz Z b f_ t N cs h0 n0) := by
 refine MetFree.of_bodySF (plainFor_of_name pn_4) hisR ?_
 intro p e s m args below meth c s₁ Bd hml0 hP hK
 obtain ⟨rfl, hZ, hh⟩ := hP
 have hx := Bd.exec
 have hby := Bd.bytes
 have B := @hb _ _ hby
 have hml : c.maxLocals = 4 := hml0
 have hown : s.vm.findClass "java/lang/AbstractStringBuilder" = some m.cls := findClass_of_methodNamed Bd.named
 have X0 : Stand p l e rM19 s m #[(.ref b), (.int f_)] below meth c s₁ [] 0 0 := Stand.of_body Bd
 have e0 : s₁.heap = h0 := by rw [← hh, Bd.state]; rfl
 have N0 := Fr.nil n0
 have K0 := Keep.refl h0 [b, t]
 refine o_start (ef_apz m b f_) (Q := o_QE s rM19 (Qapz Z b f_ t N cs h0 n0)) ?_
 show oF p e below (s₁.setTop (mkF m 0 #[.val (.ref b), .val (.int f_), .unset, .unset] [])) _
 refine oG (fun _ k => XS.aloadN X0.here hx rfl (B d24_0) rfl rfl (XS.aloadN X0.here hx rfl (B d24_1) rfl rfl k)) ?_
 show oF p e below (s₁.setTop (mkF m 2 #[.val (.ref b), .val (.int f_), .unset, .unset] [(.ref b), (.ref b)])) _
 obtain ⟨T2E, X2E, e2E, st2E⟩ := getF X0 hx hZ hown (host := "") (Or.inl (ow hw 87)) Via.refl e0 j0_ (g := (mkF m 2 #[.val (.ref b), .val (.int f_), .unset, .unset] [(.ref b), (.ref b)])) rfl rfl (B d24_2)
 refine oG st2E ?_
 show oF p e below (T2E.setTop (mkF m 5 #[.val (.ref b), .val (.int f_), .unset, .unset] [(.int cn), (.ref b)])) _
 refine oG (fun _ k => XS.iloadN X2E.here hx rfl (B d24_5) rfl k) ?_
 show oF p e below (T2E.setTop (mkF m 6 #[.val (.ref b), .val (.int f_), .unset, .unset] [(.int f_), (.int cn), (.ref b)])) _
 by_cases hc6_262 : f_ = (0 : Int32)
 ·refine oG (fun _ k => XS.ifYes X2E.here hx rfl (pc0 := 6) (pc' := 13) rfl (B d24_6) rfl ((if0 _ _).trans (teq hc6_262).1) (by decide) (by decide) (XS.iconst X2E.here hx rfl (B d24_13) (XS.iadd X2E.here hx rfl (B d24_14) rfl k))) ?_
  show oF p e below (T2E.setTop (mkF m 15 #[.val (.ref b), .val (.int f_), .unset, .unset] [(.int (cn + (5 : Int32))), (.ref b)])) _
  obtain ⟨cq2F, q2F, q2F'⟩ := E_b.cell
  obtain ⟨_, _, ⟨T2F, L2F, k2F, n2F⟩, -, X2F, ⟨Lc2F, hQ2F, l2F, y2F, z2F⟩, st2F⟩ := X2E.privateBack hx (y := mN18) hown (mo hZ hw 89) (mo hZ hw 90) (o_selS (mo hZ hw 92) (by exact rfl) (Cond.privateMethod_at (mvP hZ (ow hw 91) (args := #[]))) (mo hZ hw 90) (by decide)) (Cond.privateMethod_at (mvP hZ (ow hw 91) (args := #[]))) (mo hZ hw 93) (by decide) (backOf (W := 0) (ec l Z a0 hw [] b (cn + (5 : Int32)) t kt N cn cs N h0 n0 O E_b j0_ j12_ E_t g_b g_t nbt (o_capz (K := 5) (by decide) (by decide) (by decide) (by omega) (by rw [o_tf0 hc6_262] at hl2; simp only [List.length_cons, List.length_nil] at hl2; omega) hN1) (by omega)) hZ (ow hw 93) (ow hw 57) (by decide) (by decide)) (g := (mkF m 15 #[.val (.ref b), .val (.int f_), .unset, .unset] [(.int (cn + (5 : Int32))), (.ref b)])) rfl (by rw [hml]; rfl) (Steps.refl _) (a := b) (o_eqE e2E q2F) q2F' (argsL := [(.int (cn + (5 : Int32)))]) (rest := []) (lenOf pd_16 rfl) rfl (by show 2 * 0 + _ ≤ _; exact Nat.le_of_eq rfl) (B d24_15) (fun _ _ => ⟨rfl, e2E, (by decide : 0 + 1 ≤ _), (by decide : 0 + 140 ≤ _)⟩)
  dsimp only [Pt.U, Pt.locs, Pt.cells, Pt.slots] at X2F l2F y2F z2F st2F hQ2F
  subst y2F z2F
  obtain ⟨t2_2G, k2_2H, rfl, N2Fq, Kq2F, P2F_0, P2F_1, P2F_2, P2F_3, P2F_4, P2F_5, P2F_6⟩ := hQ2F
  refine oG (fun _ k => st2F.trans k) ?_
  have N2F := oL l2F (Fr.app N0 N2Fq)
  have E_b := E_b.keep Kq2F
  clear j0_
  clear j12_
  have E_t := E_t.keep Kq2F
  have O := O.keep Kq2F (allS g_b all0)
  have K2I := K0.trans Kq2F (allS (Or.inl (List.mem_of_getElem? (i := 0) rfl)) all0)
  have E_b := P2F_3
  have j0_ := P2F_4
  have j33_ := P2F_5
  have j12_ := P2F_6
  have or_t2_264 : (t2_2G = t ∨ h0.size ≤ t2_2G) := P2F_0.elim (fun q_ => by rw [q_]; exact (Or.inl rfl)) (fun q_ => Or.inr (Nat.le_trans K0.1 q_))
  show oF p e below (T2F.setTop (mkF m 18 #[.val (.ref b), .val (.int f_), .unset, .unset] [])) _
  obtain ⟨j2_, j4_, hrg, hdb⟩ := j12_
  rcases hdb with ⟨j1_, j28_, hla⟩ | ⟨j1_, j28_, hbg⟩
  ·rw [o_tf0 hc6_262] at hl2
   simp only [List.length_cons, List.length_nil] at hl2
   show oF p e below (T2F.setTop (mkF m 18 #[.val (.ref b), .val (.int f_), .unset, .unset] [])) _
   refine oG (fun _ k => XS.aloadN X2F.here hx rfl (B d24_18) rfl rfl k) ?_
   show oF p e below (T2F.setTop (mkF m 19 #[.val (.ref b), .val (.int f_), .unset, .unset] [(.ref b)])) _
   obtain ⟨T2J, X2J, e2J, st2J⟩ := getF X2F hx hZ hown (host := "") (Or.inl (ow hw 87)) Via.refl rfl j0_ (g := (mkF m 19 #[.val (.ref b), .val (.int f_), .unset, .unset] [(.ref b)])) rfl rfl (B d24_19)
   refine oG st2J ?_
   show oF p e below (T2J.setTop (mkF m 22 #[.val (.ref b), .val (.int f_), .unset, .unset] [(.int cn)])) _
   refine oG (fun _ k => XS.istoreN X2J.here hx rfl (B d24_22) rfl (l' := #[.val (.ref b), .val (.int f_), .val (.int cn), .unset]) rfl (XS.aloadN X2J.here hx rfl (B d24_23) rfl rfl k)) ?_
   show oF p e below (T2J.setTop (mkF m 24 #[.val (.ref b), .val (.int f_), .val (.int cn), .unset] [(.ref b)])) _
   obtain ⟨T2K, X2K, e2K, st2K⟩ := getF X2J hx hZ hown (host := "") (Or.inl (ow hw 61)) Via.refl e2J j2_ (g := (mkF m 24 #[.val (.ref b), .val (.int f_), .val (.int cn), .unset] [(.ref b)])) rfl rfl (B d24_24)
   refine oG st2K ?_
   show oF p e below (T2K.setTop (mkF m 27 #[.val (.ref b), .val (.int f_), .val (.int cn), .unset] [(.ref t2_2G)])) _
   refine oG (fun _ k => XS.astoreN X2K.here hx rfl (B d24_27) rfl rfl (l' := #[.val (.ref b), .val (.int f_), .val (.int cn), .val (.ref t2_2G)]) rfl (XS.aloadN X2K.here hx rfl (B d24_28) rfl rfl k)) ?_
   show oF p e below (T2K.setTop (mkF m 29 #[.val (.ref b), .val (.int f_), .val (.int cn), .val (.ref t2_2G)] [(.ref b)])) _
   obtain ⟨cq2L, kq2L, q2La, q2Lb, q2Lc⟩ := isOf hZ e2K E_b
   obtain ⟨_, _, ⟨T2L, L2L, k2L, n2L⟩, -, X2L, ⟨Lc2L, hQ2L, l2L, y2L, z2L⟩, st2L⟩ := X2K.virtualBack hx (y := mN9) (z := mN9) hown (mo hZ hw 147) (mo hZ hw 148) (notFace_of_selects (args := #[]) (mo hZ hw 150)) (mo hZ hw 150) (mo hZ hw 149) (by decide) (backOf (W := 0) (il0 l Z a0 hw [] b z (T2F.heap) n0 O j6_ hz j1_) hZ (ow hw 151) (ow hw 57) (by decide) (by decide)) q2La q2Lc (g := (mkF m 29 #[.val (.ref b), .val (.int f_), .val (.int cn), .val (.ref t2_2G)] [(.ref b)])) rfl (by rw [hml]; rfl) (Steps.refl _) (argsL := []) (rest := []) (lenOf pd_7 rfl) rfl (by show 2 * 0 + _ ≤ _; exact Nat.le_of_eq rfl) (B d24_29) (fun _ _ => ⟨rfl, e2K, (by decide : 1 + 0 ≤ _), (by decide : 140 + 0 ≤ _)⟩)
   dsimp only [Pt.U, Pt.locs, Pt.cells, Pt.slots] at X2L l2L y2L z2L st2L hQ2L
   subst y2L z2L
   obtain ⟨rfl, N2Lq, e2L⟩ := hQ2L
   refine oG (fun _ k => st2L.trans k) ?_
   have N2L := oL l2L (Fr.app N2F N2Lq)
   show oF p e below (T2L.setTop (mkF m 32 #[.val (.ref b), .val (.int f_), .val (.int cn), .val (.ref t2_2G)] [(.int 1)])) _
   refine oG (fun _ k => XS.ifNo X2L.here hx rfl (B d24_32) rfl ((if0 _ _).trans (feq (by decide : ¬ ((1 : Int32) = (0 : Int32)))).1) (XS.iloadN X2L.here hx rfl (B d24_35) rfl (XS.ifYes X2L.here hx rfl (pc0 := 36) (pc' := 74) rfl (B d24_36) rfl ((if0 _ _).trans (teq hc6_262).1) (by decide) (by decide) (XS.aloadN X2L.here hx rfl (B d24_74) rfl rfl (XS.iloadN X2L.here hx rfl (B d24_75) rfl (XS.iinc X2L.here hx rfl (B d24_76) rfl (l' := #[.val (.ref b), .val (.int f_), .val (.int (cn + (1 : Int32))), .val (.ref t2_2G)]) rfl (XS.bipush X2L.here hx rfl (B d24_79) k))))))) ?_
   show oF p e below (T2L.setTop (mkF m 81 #[.val (.ref b), .val (.int f_), .val (.int (cn + (1 : Int32))), .val (.ref t2_2G)] [(.int 102), (.int cn), (.ref t2_2G)])) _
   obtain ⟨T2M, h2M, X2M, e2M, W2M, Vq270, st2M⟩ := o_sB X2L hx hZ e2L j28_ (j := cn) (by rw [o_u8l]; exact hcn) (by rw [o_u8l]; omega) (g := (mkF m 81 #[.val (.ref b), .val (.int f_), .val (.int (cn + (1 : Int32))), .val (.ref t2_2G)] [(.int 102), (.int cn), (.ref t2_2G)])) rfl rfl (B d24_81)
   refine oG st2M ?_
   have E_b := E_b.wr W2M
   have E_t := E_t.wr W2M
   have j0_ := j0_.other W2M (Or.inl P2F_2)
   have j33_ := j33_.wr W2M
   have j2_ := j2_.other W2M (Or.inl P2F_2)
   have j4_ := j4_.other W2M (Or.inl P2F_2)
   have j1_ := j1_.other W2M (Or.inl P2F_2)
   have O := O.wr W2M P2F_1
   have K2N := K2I.wr W2M (or_t2_264.elim (fun q_ => Or.inl (by rw [q_]; exact List.mem_of_getElem? (i := 1) rfl)) Or.inr)
   have j28_ : Arv Z h2M t2_2G k2_2H .byte N ((o_u8 cs) ++ [(.int 102)]) (.int 0) := by rw [o_ny102] at Vq270; exact Vq270
   have N2M := Fr.snoc X2M N2L P2F_1
   show oF p e below (T2M.setTop (mkF m 82 #[.val (.ref b), .val (.int f_), .val (.int (cn + (1 : Int32))), .val (.ref t2_2G)] [])) _
   refine oG (fun _ k => XS.aloadN X2M.here hx rfl (B d24_82) rfl rfl (XS.iloadN X2M.here hx rfl (B d24_83) rfl (XS.iinc X2M.here hx rfl (B d24_84) rfl (l' := #[.val (.ref b), .val (.int f_), .val (.int ((cn + (1 : Int32)) + (1 : Int32))), .val (.ref t2_2G)]) rfl (XS.bipush X2M.here hx rfl (B d24_87) k)))) ?_
   show oF p e below (T2M.setTop (mkF m 89 #[.val (.ref b), .val (.int f_), .val (.int ((cn + (1 : Int32)) + (1 : Int32))), .val (.ref t2_2G)] [(.int 97), (.int (cn + (1 : Int32))), (.ref t2_2G)])) _
   obtain ⟨T2O, h2O, X2O, e2O, W2O, Vq272, st2O⟩ := o_sB X2M hx hZ e2M j28_ (j := (cn + (1 : Int32))) (by rw [o_zk1 hcn (by omega)]; simp only [List.length_append, List.length_cons, List.length_nil]; rw [o_u8l]; omega) (by simp only [List.length_append, List.length_cons, List.length_nil]; rw [o_u8l]; omega) (g := (mkF m 89 #[.val (.ref b), .val (.int f_), .val (.int ((cn + (1 : Int32)) + (1 : Int32))), .val (.ref t2_2G)] [(.int 97), (.int (cn + (1 : Int32))), (.ref t2_2G)])) rfl rfl (B d24_89)
   refine oG st2O ?_
   have E_b := E_b.wr W2O
   have E_t := E_t.wr W2O
   have j0_ := j0_.other W2O (Or.inl P2F_2)
   have j33_ := j33_.wr W2O
   have j2_ := j2_.other W2O (Or.inl P2F_2)
   have j4_ := j4_.other W2O (Or.inl P2F_2)
   have j1_ := j1_.other W2O (Or.inl P2F_2)
   have O := O.wr W2O P2F_1
   have K2P := K2N.wr W2O (or_t2_264.elim (fun q_ => Or.inl (by rw [q_]; exact List.mem_of_getElem? (i := 1) rfl)) Or.inr)
   have j28_ : Arv Z h2O t2_2G k2_2H .byte N (((o_u8 cs) ++ [(.int 102)]) ++ [(.int 97)]) (.int 0) := by rw [o_ny97] at Vq272; exact Vq272
   have N2O := Fr.snoc X2O N2M P2F_1
   show oF p e below (T2O.setTop (mkF m 90 #[.val (.ref b), .val (.int f_), .val (.int ((cn + (1 : Int32)) + (1 : Int32))), .val (.ref t2_2G)] [])) _
   refine oG (fun _ k => XS.aloadN X2O.here hx rfl (B d24_90) rfl rfl (XS.iloadN X2O.here hx rfl (B d24_91) rfl (XS.iinc X2O.here hx rfl (B d24_92) rfl (l' := #[.val (.ref b), .val (.int f_), .val (.int (((cn + (1 : Int32)) + (1 : Int32)) + (1 : Int32))), .val (.ref t2_2G)]) rfl (XS.bipush X2O.here hx rfl (B d24_95) k)))) ?_
   show oF p e below (T2O.setTop (mkF m 97 #[.val (.ref b), .val (.int f_), .val (.int (((cn + (1 : Int32)) + (1 : Int32)) + (1 : Int32))), .val (.ref t2_2G)] [(.int 108), (.int ((cn + (1 : Int32)) + (1 : Int32))), (.ref t2_2G)])) _
   obtain ⟨T2Q, h2Q, X2Q, e2Q, W2Q, Vq274, st2Q⟩ := o_sB X2O hx hZ e2O j28_ (j := ((cn + (1 : Int32)) + (1 : Int32))) (by rw [o_zk2 hcn (by omega)]; simp only [List.length_append, List.length_cons, List.length_nil]; rw [o_u8l]; omega) (by simp only [List.length_append, List.length_cons, List.length_nil]; rw [o_u8l]; omega) (g := (mkF m 97 #[.val (.ref b), .val (.int f_), .val (.int (((cn + (1 : Int32)) + (1 : Int32)) + (1 : Int32))), .val (.ref t2_2G)] [(.int 108), (.int ((cn + (1 : Int32)) + (1 : Int32))), (.ref t2_2G)])) rfl rfl (B d24_97)
   refine oG st2Q ?_
   have E_b := E_b.wr W2Q
   have E_t := E_t.wr W2Q
   have j0_ := j0_.other W2Q (Or.inl P2F_2)
   have j33_ := j33_.wr W2Q
   have j2_ := j2_.other W2Q (Or.inl P2F_2)
   have j4_ := j4_.other W2Q (Or.inl P2F_2)
   have j1_ := j1_.other W2Q (Or.inl P2F_2)
   have O := O.wr W2Q P2F_1
   have K2R := K2P.wr W2Q (or_t2_264.elim (fun q_ => Or.inl (by rw [q_]; exact List.mem_of_getElem? (i := 1) rfl)) Or.inr)
   have j28_ : Arv Z h2Q t2_2G k2_2H .byte N ((((o_u8 cs) ++ [(.int 102)]) ++ [(.int 97)]) ++ [(.int 108)]) (.int 0) := by rw [o_ny108] at Vq274; exact Vq274
   have N2Q := Fr.snoc X2Q N2O P2F_1
   show oF p e below (T2Q.setTop (mkF m 98 #[.val (.ref b), .val (.int f_), .val (.int (((cn + (1 : Int32)) + (1 : Int32)) + (1 : Int32))), .val (.ref t2_2G)] [])) _
   refine oG (fun _ k => XS.aloadN X2Q.here hx rfl (B d24_98) rfl rfl (XS.iloadN X2Q.here hx rfl (B d24_99) rfl (XS.iinc X2Q.here hx rfl (B d24_100) rfl (l' := #[.val (.ref b), .val (.int f_), .val (.int ((((cn + (1 : Int32)) + (1 : Int32)) + (1 : Int32)) + (1 : Int32))), .val (.ref t2_2G)]) rfl (XS.bipush X2Q.here hx rfl (B d24_103) k)))) ?_
   show oF p e below (T2Q.setTop (mkF m 105 #[.val (.ref b), .val (.int f_), .val (.int ((((cn + (1 : Int32)) + (1 : Int32)) + (1 : Int32)) + (1 : Int32))), .val (.ref t2_2G)] [(.int 115), (.int (((cn + (1 : Int32)) + (1 : Int32)) + (1 : Int32))), (.ref t2_2G)])) _
   obtain ⟨T2S, h2S, X2S, e2S, W2S, Vq276, st2S⟩ := o_sB X2Q hx hZ e2Q j28_ (j := (((cn + (1 : Int32)) + (1 : Int32)) + (1 : Int32))) (by rw [o_zk3 hcn (by omega)]; simp only [List.length_append, List.length_cons, List.length_nil]; rw [o_u8l]; omega) (by simp only [List.length_append, List.length_cons, List.length_nil]; rw [o_u8l]; omega) (g := (mkF m 105 #[.val (.ref b), .val (.int f_), .val (.int ((((cn + (1 : Int32)) + (1 : Int32)) + (1 : Int32)) + (1 : Int32))), .val (.ref t2_2G)] [(.int 115), (.int (((cn + (1 : Int32)) + (1 : Int32)) + (1 : Int32))), (.ref t2_2G)])) rfl rfl (B d24_105)
   refine oG st2S ?_
   have E_b := E_b.wr W2S
   have E_t := E_t.wr W2S
   have j0_ := j0_.other W2S (Or.inl P2F_2)
   have j33_ := j33_.wr W2S
   have j2_ := j2_.other W2S (Or.inl P2F_2)
   have j4_ := j4_.other W2S (Or.inl P2F_2)
   have j1_ := j1_.other W2S (Or.inl P2F_2)
   have O := O.wr W2S P2F_1
   have K2T := K2R.wr W2S (or_t2_264.elim (fun q_ => Or.inl (by rw [q_]; exact List.mem_of_getElem? (i := 1) rfl)) Or.inr)
   have j28_ : Arv Z h2S t2_2G k2_2H .byte N (((((o_u8 cs) ++ [(.int 102)]) ++ [(.int 97)]) ++ [(.int 108)]) ++ [(.int 115)]) (.int 0) := by rw [o_ny115] at Vq276; exact Vq276
   have N2S := Fr.snoc X2S N2Q P2F_1
   show oF p e below (T2S.setTop (mkF m 106 #[.val (.ref b), .val (.int f_), .val (.int ((((cn + (1 : Int32)) + (1 : Int32)) + (1 : Int32)) + (1 : Int32))), .val (.ref t2_2G)] [])) _
   refine oG (fun _ k => XS.aloadN X2S.here hx rfl (B d24_106) rfl rfl (XS.iloadN X2S.here hx rfl (B d24_107) rfl (XS.iinc X2S.here hx rfl (B d24_108) rfl (l' := #[.val (.ref b), .val (.int f_), .val (.int (((((cn + (1 : Int32)) + (1 : Int32)) + (1 : Int32)) + (1 : Int32)) + (1 : Int32))), .val (.ref t2_2G)]) rfl (XS.bipush X2S.here hx rfl (B d24_111) k)))) ?_
   show oF p e below (T2S.setTop (mkF m 113 #[.val (.ref b), .val (.int f_), .val (.int (((((cn + (1 : Int32)) + (1 : Int32)) + (1 : Int32)) + (1 : Int32)) + (1 : Int32))), .val (.ref t2_2G)] [(.int 101), (.int ((((cn + (1 : Int32)) + (1 : Int32)) + (1 : Int32)) + (1 : Int32))), (.ref t2_2G)])) _
   obtain ⟨T2U, h2U, X2U, e2U, W2U, Vq278, st2U⟩ := o_sB X2S hx hZ e2S j28_ (j := ((((cn + (1 : Int32)) + (1 : Int32)) + (1 : Int32)) + (1 : Int32))) (by rw [o_zk4 hcn (by omega)]; simp only [List.length_append, List.length_cons, List.length_nil]; rw [o_u8l]; omega) (by simp only [List.length_append, List.length_cons, List.length_nil]; rw [o_u8l]; omega) (g := (mkF m 113 #[.val (.ref b), .val (.int f_), .val (.int (((((cn + (1 : Int32)) + (1 : Int32)) + (1 : Int32)) + (1 : Int32)) + (1 : Int32))), .val (.ref t2_2G)] [(.int 101), (.int ((((cn + (1 : Int32)) + (1 : Int32)) + (1 : Int32)) + (1 : Int32))), (.ref t2_2G)])) rfl rfl (B d24_113)
   refine oG st2U ?_
   have E_b := E_b.wr W2U
   have E_t := E_t.wr W2U
   have j0_ := j0_.other W2U (Or.inl P2F_2)
   have j33_ := j33_.wr W2U
   have j2_ := j2_.other W2U (Or.inl P2F_2)
   have j4_ := j4_.other W2U (Or.inl P2F_2)
   have j1_ := j1_.other W2U (Or.inl P2F_2)
   have O := O.wr W2U P2F_1
   have K2V := K2T.wr W2U (or_t2_264.elim (fun q_ => Or.inl (by rw [q_]; exact List.mem_of_getElem? (i := 1) rfl)) Or.inr)
   have j28_ : Arv Z h2U t2_2G k2_2H .byte N ((((((o_u8 cs) ++ [(.int 102)]) ++ [(.int 97)]) ++ [(.int 108)]) ++ [(.int 115)]) ++ [(.int 101)]) (.int 0) := by rw [o_ny101] at Vq278; exact Vq278
   have N2U := Fr.snoc X2U N2S P2F_1
   show oF p e below (T2U.setTop (mkF m 114 #[.val (.ref b), .val (.int f_), .val (.int (((((cn + (1 : Int32)) + (1 : Int32)) + (1 : Int32)) + (1 : Int32)) + (1 : Int32))), .val (.ref t2_2G)] [])) _
   refine oG (fun _ k => XS.goto X2U.here hx rfl (pc0 := 114) (pc' := 154) rfl (B d24_114) (by decide) (by decide) (XS.aloadN X2U.here hx rfl (B d24_154) rfl rfl (XS.iloadN X2U.here hx rfl (B d24_155) rfl k))) ?_
   show oF p e below (T2U.setTop (mkF m 156 #[.val (.ref b), .val (.int f_), .val (.int (((((cn + (1 : Int32)) + (1 : Int32)) + (1 : Int32)) + (1 : Int32)) + (1 : Int32))), .val (.ref t2_2G)] [(.int (((((cn + (1 : Int32)) + (1 : Int32)) + (1 : Int32)) + (1 : Int32)) + (1 : Int32))), (.ref b)])) _
   obtain ⟨T2W, h2W, X2W, e2W, W2W, st2W⟩ := putF X2U hx hZ hown (host := "") (Or.inl (ow hw 87)) Via.refl e2U j0_ E_b (Or.inl (ow hw 88)) (ow hw 48) (ty := .int) (by decide) rfl rfl (g := (mkF m 156 #[.val (.ref b), .val (.int f_), .val (.int (((((cn + (1 : Int32)) + (1 : Int32)) + (1 : Int32)) + (1 : Int32)) + (1 : Int32))), .val (.ref t2_2G)] [(.int (((((cn + (1 : Int32)) + (1 : Int32)) + (1 : Int32)) + (1 : Int32)) + (1 : Int32))), (.ref b)])) rfl rfl (B d24_156)
   refine oG st2W ?_
   have E_b := E_b.wr W2W
   have E_t := E_t.wr W2W
   have j33_ := j33_.wr W2W
   have j2_ := j2_.other W2W (Or.inr (slot_ne (Or.inl (ow hw 62)) (Or.inl (ow hw 88)) (by decide) (t := (.array .byte)) (t' := .int) (by decide) (by decide)))
   have j4_ := j4_.other W2W (Or.inr (slot_ne (Or.inl (ow hw 267)) (Or.inl (ow hw 88)) (by decide) (t := .boolean) (t' := .int) (by decide) (by decide)))
   have j1_ := j1_.other W2W (Or.inr (slot_ne (Or.inl (ow hw 64)) (Or.inl (ow hw 88)) (by decide) (t := .byte) (t' := .int) (by decide) (by decide)))
   have j28_ := j28_.other W2W (Ne.symm P2F_2)
   have O := O.wr W2W g_b
   have K2X := K2V.wr W2W (Or.inl (List.mem_of_getElem? (i := 0) rfl))
   have j0_ := j0_.same W2W
   have N2W := Fr.snoc X2W N2U g_b
   show oF p e below (T2W.setTop (mkF m 159 #[.val (.ref b), .val (.int f_), .val (.int (((((cn + (1 : Int32)) + (1 : Int32)) + (1 : Int32)) + (1 : Int32)) + (1 : Int32))), .val (.ref t2_2G)] [])) _
   refine oG (fun _ k => XS.aloadN X2W.here hx rfl (B d24_159) rfl rfl k) ?_
   show oF p e below (T2W.setTop (mkF m 160 #[.val (.ref b), .val (.int f_), .val (.int (((((cn + (1 : Int32)) + (1 : Int32)) + (1 : Int32)) + (1 : Int32)) + (1 : Int32))), .val (.ref t2_2G)] [(.ref b)])) _
   obtain ⟨fs, hr, r1, r2, hW, r3⟩ := X2W.leave (v := some (.ref b)) (fun h => by rw [Bd.returns] at h; cases h)
   refine ⟨_, _, ?_, r1, r2, _, _, rfl, ?_, ⟨_, rfl⟩, hW, r3.mono (by decide) (by decide)⟩
   ·exact X2W.areturnOut hx rfl Bd.returns rfl (B d24_160) hr
   ·show Qapz Z b f_ t N cs h0 n0 _ T2W.heap _
    rw [e2W]
    exact ⟨t2_2G, k2_2H, (((((cn + (1 : Int32)) + (1 : Int32)) + (1 : Int32)) + (1 : Int32)) + (1 : Int32)), rfl, N2W, K2X, or_t2_264, P2F_1, P2F_2, (by rw [o_tf0 hc6_262]; exact o_zc0 hcn (by omega)), E_b, j0_, j33_, (by rw [o_tf0 hc6_262]; exact ⟨j2_, j4_, (o_rng_app hrg o_zr0), Or.inl ⟨j1_, (by rw [o_z0]; exact j28_), (o_lat_app hla o_zl0)⟩⟩)⟩
  ·rw [o_tf0 hc6_262] at hl2
   simp only [List.length_cons, List.length_nil] at hl2
   show oF p e below (T2F.setTop (mkF m 18 #[.val (.ref b), .val (.int f_), .unset, .unset] [])) _
   refine oG (fun _ k => XS.aloadN X2F.here hx rfl (B d24_18) rfl rfl k) ?_
   show oF p e below (T2F.setTop (mkF m 19 #[.val (.ref b), .val (.int f_), .unset, .unset] [(.ref b)])) _
   obtain ⟨T2Y, X2Y, e2Y, st2Y⟩ := getF X2F hx hZ hown (host := "") (Or.inl (ow hw 87)) Via.refl rfl j0_ (g := (mkF m 19 #[.val (.ref b), .val (.int f_), .unset, .unset] [(.ref b)])) rfl rfl (B d24_19)
   refine oG st2Y ?_
   show oF p e below (T2Y.setTop (mkF m 22 #[.val (.ref b), .val (.int f_), .unset, .unset] [(.int cn)])) _
   refine oG (fun _ k => XS.istoreN X2Y.here hx rfl (B d24_22) rfl (l' := #[.val (.ref b), .val (.int f_), .val (.int cn), .unset]) rfl (XS.aloadN X2Y.here hx rfl (B d24_23) rfl rfl k)) ?_
   show oF p e below (T2Y.setTop (mkF m 24 #[.val (.ref b), .val (.int f_), .val (.int cn), .unset] [(.ref b)])) _
   obtain ⟨T2Z, X2Z, e2Z, st2Z⟩ := getF X2Y hx hZ hown (host := "") (Or.inl (ow hw 61)) Via.refl e2Y j2_ (g := (mkF m 24 #[.val (.ref b), .val (.int f_), .val (.int cn), .unset] [(.ref b)])) rfl rfl (B d24_24)
   refine oG st2Z ?_
   show oF p e below (T2Z.setTop (mkF m 27 #[.val (.ref b), .val (.int f_), .val (.int cn), .unset] [(.ref t2_2G)])) _
   refine oG (fun _ k => XS.astoreN X2Z.here hx rfl (B d24_27) rfl rfl (l' := #[.val (.ref b), .val (.int f_), .val (.int cn), .val (.ref t2_2G)]) rfl (XS.aloadN X2Z.here hx rfl (B d24_28) rfl rfl k)) ?_
   show oF p e below (T2Z.setTop (mkF m 29 #[.val (.ref b), .val (.int f_), .val (.int cn), .val (.ref t2_2G)] [(.ref b)])) _
   obtain ⟨cq3a, kq3a, q3aa, q3ab, q3ac⟩ := isOf hZ e2Z E_b
   obtain ⟨_, _, ⟨T3a, L3a, k3a, n3a⟩, -, X3a, ⟨Lc3a, hQ3a, l3a, y3a, z3a⟩, st3a⟩ := X2Z.virtualBack hx (y := mN9) (z := mN9) hown (mo hZ hw 147) (mo hZ hw 148) (notFace_of_selects (args := #[]) (mo hZ hw 150)) (mo hZ hw 150) (mo hZ hw 149) (by decide) (backOf (W := 0) (il1 l Z a0 hw [] b z (T2F.heap) n0 O j6_ hz j1_) hZ (ow hw 151) (ow hw 57) (by decide) (by decide)) q3aa q3ac (g := (mkF m 29 #[.val (.ref b), .val (.int f_), .val (.int cn), .val (.ref t2_2G)] [(.ref b)])) rfl (by rw [hml]; rfl) (Steps.refl _) (argsL := []) (rest := []) (lenOf pd_7 rfl) rfl (by show 2 * 0 + _ ≤ _; exact Nat.le_of_eq rfl) (B d24_29) (fun _ _ => ⟨rfl, e2Z, (by decide : 1 + 0 ≤ _), (by decide : 140 + 0 ≤ _)⟩)
   dsimp only [Pt.U, Pt.locs, Pt.cells, Pt.slots] at X3a l3a y3a z3a st3a hQ3a
   subst y3a z3a
   obtain ⟨rfl, N3aq, e3a⟩ := hQ3a
   refine oG (fun _ k => st3a.trans k) ?_
   have N3a := oL l3a (Fr.app N2F N3aq)
   show oF p e below (T3a.setTop (mkF m 32 #[.val (.ref b), .val (.int f_), .val (.int cn), .val (.ref t2_2G)] [(.int 0)])) _
   refine oG (fun _ k => XS.ifYes X3a.here hx rfl (pc0 := 32) (pc' := 117) rfl (B d24_32) rfl ((if0 _ _).trans (teq (by decide : (0 : Int32) = (0 : Int32))).1) (by decide) (by decide) (XS.iloadN X3a.here hx rfl (B d24_117) rfl (XS.ifYes X3a.here hx rfl (pc0 := 118) (pc' := 138) rfl (B d24_118) rfl ((if0 _ _).trans (teq hc6_262).1) (by decide) (by decide) (XS.aloadN X3a.here hx rfl (B d24_138) rfl rfl (XS.iloadN X3a.here hx rfl (B d24_139) rfl (XS.bipush X3a.here hx rfl (B d24_140) (XS.bipush X3a.here hx rfl (B d24_142) (XS.bipush X3a.here hx rfl (B d24_144) (XS.bipush X3a.here hx rfl (B d24_146) (XS.bipush X3a.here hx rfl (B d24_148) k)))))))))) ?_
   show oF p e below (T3a.setTop (mkF m 150 #[.val (.ref b), .val (.int f_), .val (.int cn), .val (.ref t2_2G)] [(.int 101), (.int 115), (.int 108), (.int 97), (.int 102), (.int cn), (.ref t2_2G)])) _
   obtain ⟨_, _, ⟨T3b, L3b, k3b, n3b⟩, -, X3b, ⟨Lc3b, hQ3b, l3b, y3b, z3b⟩, st3b⟩ := Jvm.LawKit.callS X3a hx (y := mN28) hown (mo hZ hw 254) (mo hZ hw 255) (mo hZ hw 190) (mo hZ hw 256) (by decide) (backOf (W := 0) (pca5 l Z a0 hw [] t2_2G cn (102 : Int32) (97 : Int32) (108 : Int32) (115 : Int32) (101 : Int32) k2_2H (N <<< ((1 : Int32) &&& 31)) (o_u16 cs) fm (T2F.heap) n0 O j8_ j9_ j10_ j13_ hfm j28_ P2F_1 (by rw [o_u16l]; omega) (by rw [o_u16l, o_x2i (by omega) (by omega)]; omega) (by rw [o_x2i (by omega) (by omega)]; omega)) hZ (ow hw 256) (ow hw 190) (by decide) (by decide)) (g := (mkF m 150 #[.val (.ref b), .val (.int f_), .val (.int cn), .val (.ref t2_2G)] [(.int 101), (.int 115), (.int 108), (.int 97), (.int 102), (.int cn), (.ref t2_2G)])) rfl (by rw [hml]; rfl) (argsL := [(.ref t2_2G), (.int cn), (.int 102), (.int 97), (.int 108), (.int 115), (.int 101)]) (rest := []) (lenOf pd_20 rfl) rfl (by show 2 * 0 + _ ≤ _; exact Nat.le_of_eq rfl) (B d24_150) (fun _ _ => ⟨rfl, e3a, (by decide : 1 + 0 ≤ _), (by decide : 140 + 0 ≤ _)⟩)
   dsimp only [Pt.U, Pt.locs, Pt.cells, Pt.slots] at X3b l3b y3b z3b st3b hQ3b
   subst y3b z3b
   obtain ⟨rfl, N3bq, Kq3b, P3b_0⟩ := hQ3b
   refine oG st3b ?_
   have N3b := oL l3b (Fr.app N3a N3bq)
   have E_b := E_b.keep Kq3b
   have E_t := E_t.keep Kq3b
   have j0_ := j0_.keep Kq3b (ninS P2F_2 nin0)
   have j33_ := j33_.keep Kq3b
   have j2_ := j2_.keep Kq3b (ninS P2F_2 nin0)
   have j4_ := j4_.keep Kq3b (ninS P2F_2 nin0)
   have j1_ := j1_.keep Kq3b (ninS P2F_2 nin0)
   clear j28_
   have O := O.keep Kq3b (allS P2F_1 all0)
   have K3c := K2I.trans Kq3b (allS (or_t2_264.elim (fun q_ => Or.inl (by rw [q_]; exact List.mem_of_getElem? (i := 1) rfl)) Or.inr) all0)
   have j28_ := P3b_0
   show oF p e below (T3b.setTop (mkF m 153 #[.val (.ref b), .val (.int f_), .val (.int cn), .val (.ref t2_2G)] [(.int (cn + (5 : Int32)))])) _
   refine oG (fun _ k => XS.istoreN X3b.here hx rfl (B d24_153) rfl (l' := #[.val (.ref b), .val (.int f_), .val (.int (cn + (5 : Int32))), .val (.ref t2_2G)]) rfl (XS.aloadN X3b.here hx rfl (B d24_154) rfl rfl (XS.iloadN X3b.here hx rfl (B d24_155) rfl k))) ?_
   show oF p e below (T3b.setTop (mkF m 156 #[.val (.ref b), .val (.int f_), .val (.int (cn + (5 : Int32))), .val (.ref t2_2G)] [(.int (cn + (5 : Int32))), (.ref b)])) _
   obtain ⟨T3d, h3d, X3d, e3d, W3d, st3d⟩ := putF X3b hx hZ hown (host := "") (Or.inl (ow hw 87)) Via.refl rfl j0_ E_b (Or.inl (ow hw 88)) (ow hw 48) (ty := .int) (by decide) rfl rfl (g := (mkF m 156 #[.val (.ref b), .val (.int f_), .val (.int (cn + (5 : Int32))), .val (.ref t2_2G)] [(.int (cn + (5 : Int32))), (.ref b)])) rfl rfl (B d24_156)
   refine oG st3d ?_
   have E_b := E_b.wr W3d
   have E_t := E_t.wr W3d
   have j33_ := j33_.wr W3d
   have j2_ := j2_.other W3d (Or.inr (slot_ne (Or.inl (ow hw 62)) (Or.inl (ow hw 88)) (by decide) (t := (.array .byte)) (t' := .int) (by decide) (by decide)))
   have j4_ := j4_.other W3d (Or.inr (slot_ne (Or.inl (ow hw 267)) (Or.inl (ow hw 88)) (by decide) (t := .boolean) (t' := .int) (by decide) (by decide)))
   have j1_ := j1_.other W3d (Or.inr (slot_ne (Or.inl (ow hw 64)) (Or.inl (ow hw 88)) (by decide) (t := .byte) (t' := .int) (by decide) (by decide)))
   have j28_ := j28_.other W3d (Ne.symm P2F_2)
   have O := O.wr W3d g_b
   have K3e := K3c.wr W3d (Or.inl (List.mem_of_getElem? (i := 0) rfl))
   have j0_ := j0_.same W3d
   have N3d := Fr.snoc X3d N3b g_b
   show oF p e below (T3d.setTop (mkF m 159 #[.val (.ref b), .val (.int f_), .val (.int (cn + (5 : Int32))), .val (.ref t2_2G)] [])) _
   refine oG (fun _ k => XS.aloadN X3d.here hx rfl (B d24_159) rfl rfl k) ?_
   show oF p e below (T3d.setTop (mkF m 160 #[.val (.ref b), .val (.int f_), .val (.int (cn + (5 : Int32))), .val (.ref t2_2G)] [(.ref b)])) _
   obtain ⟨fs, hr, r1, r2, hW, r3⟩ := X3d.leave (v := some (.ref b)) (fun h => by rw [Bd.returns] at h; cases h)
   refine ⟨_, _, ?_, r1, r2, _, _, rfl, ?_, ⟨_, rfl⟩, hW, r3.mono (by decide) (by decide)⟩
   ·exact X3d.areturnOut hx rfl Bd.returns rfl (B d24_160) hr
   ·show Qapz Z b f_ t N cs h0 n0 _ T3d.heap _
    rw [e3d]
    exact ⟨t2_2G, k2_2H, (cn + (5 : Int32)), rfl, N3d, K3e, or_t2_264, P2F_1, P2F_2, (by rw [o_tf0 hc6_262]; exact o_zd0 hcn (by omega)), E_b, j0_, j33_, (by rw [o_tf0 hc6_262]; exact ⟨j2_, j4_, (o_rng_app hrg o_zr0), Or.inr ⟨j1_, (by rw [o_u16_app]; exact j28_), (o_bg_l hbg)⟩⟩)⟩
 ·refine oG (fun _ k => XS.ifNo X2E.here hx rfl (B d24_6) rfl ((if0 _ _).trans (feq hc6_262).1) (XS.iconst X2E.here hx rfl (B d24_9) (XS.goto X2E.here hx rfl (pc0 := 10) (pc' := 14) rfl (B d24_10) (by decide) (by decide) (XS.iadd X2E.here hx rfl (B d24_14) rfl k)))) ?_
  show oF p e below (T2E.setTop (mkF m 15 #[.val (.ref b), .val (.int f_), .unset, .unset] [(.int (cn + (4 : Int32))), (.ref b)])) _
  obtain ⟨cq3f, q3f, q3f'⟩ := E_b.cell
  obtain ⟨_, _, ⟨T3f, L3f, k3f, n3f⟩, -, X3f, ⟨Lc3f, hQ3f, l3f, y3f, z3f⟩, st3f⟩ := X2E.privateBack hx (y := mN18) hown (mo hZ hw 89) (mo hZ hw 90) (o_selS (mo hZ hw 92) (by exact rfl) (Cond.privateMethod_at (mvP hZ (ow hw 91) (args := #[]))) (mo hZ hw 90) (by decide)) (Cond.privateMethod_at (mvP hZ (ow hw 91) (args := #[]))) (mo hZ hw 93) (by decide) (backOf (W := 0) (ec l Z a0 hw [] b (cn + (4 : Int32)) t kt N cn cs N h0 n0 O E_b j0_ j12_ E_t g_b g_t nbt (o_capz (K := 4) (by decide) (by decide) (by decide) (by omega) (by rw [o_tf1 hc6_262] at hl2; simp only [List.length_cons, List.length_nil] at hl2; omega) hN1) (by omega)) hZ (ow hw 93) (ow hw 57) (by decide) (by decide)) (g := (mkF m 15 #[.val (.ref b), .val (.int f_), .unset, .unset] [(.int (cn + (4 : Int32))), (.ref b)])) rfl (by rw [hml]; rfl) (Steps.refl _) (a := b) (o_eqE e2E q3f) q3f' (argsL := [(.int (cn + (4 : Int32)))]) (rest := []) (lenOf pd_16 rfl) rfl (by show 2 * 0 + _ ≤ _; exact Nat.le_of_eq rfl) (B d24_15) (fun _ _ => ⟨rfl, e2E, (by decide : 0 + 1 ≤ _), (by decide : 0 + 140 ≤ _)⟩)
  dsimp only [Pt.U, Pt.locs, Pt.cells, Pt.slots] at X3f l3f y3f z3f st3f hQ3f
  subst y3f z3f
  obtain ⟨t2_3g, k2_3h, rfl, N3fq, Kq3f, P3f_0, P3f_1, P3f_2, P3f_3, P3f_4, P3f_5, P3f_6⟩ := hQ3f
  refine oG (fun _ k => st3f.trans k) ?_
  have N3f := oL l3f (Fr.app N0 N3fq)
  have E_b := E_b.keep Kq3f
  clear j0_
  clear j12_
  have E_t := E_t.keep Kq3f
  have O := O.keep Kq3f (allS g_b all0)
  have K3i := K0.trans Kq3f (allS (Or.inl (List.mem_of_getElem? (i := 0) rfl)) all0)
  have E_b := P3f_3
  have j0_ := P3f_4
  have j37_ := P3f_5
  have j12_ := P3f_6
  have or_t2_292 : (t2_3g = t ∨ h0.size ≤ t2_3g) := P3f_0.elim (fun q_ => by rw [q_]; exact (Or.inl rfl)) (fun q_ => Or.inr (Nat.le_trans K0.1 q_))
  show oF p e below (T3f.setTop (mkF m 18 #[.val (.ref b), .val (.int f_), .unset, .unset] [])) _
  obtain ⟨j2_, j4_, hrg, hdb⟩ := j12_
  rcases hdb with ⟨j1_, j34_, hla⟩ | ⟨j1_, j34_, hbg⟩
  ·rw [o_tf1 hc6_262] at hl2
   simp only [List.length_cons, List.length_nil] at hl2
   show oF p e below (T3f.setTop (mkF m 18 #[.val (.ref b), .val (.int f_), .unset, .unset] [])) _
   refine oG (fun _ k => XS.aloadN X3f.here hx rfl (B d24_18) rfl rfl k) ?_
   show oF p e below (T3f.setTop (mkF m 19 #[.val (.ref b), .val (.int f_), .unset, .unset] [(.ref b)])) _
   obtain ⟨T3j, X3j, e3j, st3j⟩ := getF X3f hx hZ hown (host := "") (Or.inl (ow hw 87)) Via.refl rfl j0_ (g := (mkF m 19 #[.val (.ref b), .val (.int f_), .unset, .unset] [(.ref b)])) rfl rfl (B d24_19)
   refine oG st3j ?_
   show oF p e below (T3j.setTop (mkF m 22 #[.val (.ref b), .val (.int f_), .unset, .unset] [(.int cn)])) _
   refine oG (fun _ k => XS.istoreN X3j.here hx rfl (B d24_22) rfl (l' := #[.val (.ref b), .val (.int f_), .val (.int cn), .unset]) rfl (XS.aloadN X3j.here hx rfl (B d24_23) rfl rfl k)) ?_
   show oF p e below (T3j.setTop (mkF m 24 #[.val (.ref b), .val (.int f_), .val (.int cn), .unset] [(.ref b)])) _
   obtain ⟨T3k, X3k, e3k, st3k⟩ := getF X3j hx hZ hown (host := "") (Or.inl (ow hw 61)) Via.refl e3j j2_ (g := (mkF m 24 #[.val (.ref b), .val (.int f_), .val (.int cn), .unset] [(.ref b)])) rfl rfl (B d24_24)
   refine oG st3k ?_
   show oF p e below (T3k.setTop (mkF m 27 #[.val (.ref b), .val (.int f_), .val (.int cn), .unset] [(.ref t2_3g)])) _
   refine oG (fun _ k => XS.astoreN X3k.here hx rfl (B d24_27) rfl rfl (l' := #[.val (.ref b), .val (.int f_), .val (.int cn), .val (.ref t2_3g)]) rfl (XS.aloadN X3k.here hx rfl (B d24_28) rfl rfl k)) ?_
   show oF p e below (T3k.setTop (mkF m 29 #[.val (.ref b), .val (.int f_), .val (.int cn), .val (.ref t2_3g)] [(.ref b)])) _
   obtain ⟨cq3l, kq3l, q3la, q3lb, q3lc⟩ := isOf hZ e3k E_b
   obtain ⟨_, _, ⟨T3l, L3l, k3l, n3l⟩, -, X3l, ⟨Lc3l, hQ3l, l3l, y3l, z3l⟩, st3l⟩ := X3k.virtualBack hx (y := mN9) (z := mN9) hown (mo hZ hw 147) (mo hZ hw 148) (notFace_of_selects (args := #[]) (mo hZ hw 150)) (mo hZ hw 150) (mo hZ hw 149) (by decide) (backOf (W := 0) (il0 l Z a0 hw [] b z (T3f.heap) n0 O j6_ hz j1_) hZ (ow hw 151) (ow hw 57) (by decide) (by decide)) q3la q3lc (g := (mkF m 29 #[.val (.ref b), .val (.int f_), .val (.int cn), .val (.ref t2_3g)] [(.ref b)])) rfl (by rw [hml]; rfl) (Steps.refl _) (argsL := []) (rest := []) (lenOf pd_7 rfl) rfl (by show 2 * 0 + _ ≤ _; exact Nat.le_of_eq rfl) (B d24_29) (fun _ _ => ⟨rfl, e3k, (by decide : 1 + 0 ≤ _), (by decide : 140 + 0 ≤ _)⟩)
   dsimp only [Pt.U, Pt.locs, Pt.cells, Pt.slots] at X3l l3l y3l z3l st3l hQ3l
   subst y3l z3l
   obtain ⟨rfl, N3lq, e3l⟩ := hQ3l
   refine oG (fun _ k => st3l.trans k) ?_
   have N3l := oL l3l (Fr.app N3f N3lq)
   show oF p e below (T3l.setTop (mkF m 32 #[.val (.ref b), .val (.int f_), .val (.int cn), .val (.ref t2_3g)] [(.int 1)])) _
   refine oG (fun _ k => XS.ifNo X3l.here hx rfl (B d24_32) rfl ((if0 _ _).trans (feq (by decide : ¬ ((1 : Int32) = (0 : Int32)))).1) (XS.iloadN X3l.here hx rfl (B d24_35) rfl (XS.ifNo X3l.here hx rfl (B d24_36) rfl ((if0 _ _).trans (feq hc6_262).1) (XS.aloadN X3l.here hx rfl (B d24_39) rfl rfl (XS.iloadN X3l.here hx rfl (B d24_40) rfl (XS.iinc X3l.here hx rfl (B d24_41) rfl (l' := #[.val (.ref b), .val (.int f_), .val (.int (cn + (1 : Int32))), .val (.ref t2_3g)]) rfl (XS.bipush X3l.here hx rfl (B d24_44) k))))))) ?_
   show oF p e below (T3l.setTop (mkF m 46 #[.val (.ref b), .val (.int f_), .val (.int (cn + (1 : Int32))), .val (.ref t2_3g)] [(.int 116), (.int cn), (.ref t2_3g)])) _
   obtain ⟨T3m, h3m, X3m, e3m, W3m, Vq298, st3m⟩ := o_sB X3l hx hZ e3l j34_ (j := cn) (by rw [o_u8l]; exact hcn) (by rw [o_u8l]; omega) (g := (mkF m 46 #[.val (.ref b), .val (.int f_), .val (.int (cn + (1 : Int32))), .val (.ref t2_3g)] [(.int 116), (.int cn), (.ref t2_3g)])) rfl rfl (B d24_46)
   refine oG st3m ?_
   have E_b := E_b.wr W3m
   have E_t := E_t.wr W3m
   have j0_ := j0_.other W3m (Or.inl P3f_2)
   have j37_ := j37_.wr W3m
   have j2_ := j2_.other W3m (Or.inl P3f_2)
   have j4_ := j4_.other W3m (Or.inl P3f_2)
   have j1_ := j1_.other W3m (Or.inl P3f_2)
   have O := O.wr W3m P3f_1
   have K3n := K3i.wr W3m (or_t2_292.elim (fun q_ => Or.inl (by rw [q_]; exact List.mem_of_getElem? (i := 1) rfl)) Or.inr)
   have j34_ : Arv Z h3m t2_3g k2_3h .byte N ((o_u8 cs) ++ [(.int 116)]) (.int 0) := by rw [o_ny116] at Vq298; exact Vq298
   have N3m := Fr.snoc X3m N3l P3f_1
   show oF p e below (T3m.setTop (mkF m 47 #[.val (.ref b), .val (.int f_), .val (.int (cn + (1 : Int32))), .val (.ref t2_3g)] [])) _
   refine oG (fun _ k => XS.aloadN X3m.here hx rfl (B d24_47) rfl rfl (XS.iloadN X3m.here hx rfl (B d24_48) rfl (XS.iinc X3m.here hx rfl (B d24_49) rfl (l' := #[.val (.ref b), .val (.int f_), .val (.int ((cn + (1 : Int32)) + (1 : Int32))), .val (.ref t2_3g)]) rfl (XS.bipush X3m.here hx rfl (B d24_52) k)))) ?_
   show oF p e below (T3m.setTop (mkF m 54 #[.val (.ref b), .val (.int f_), .val (.int ((cn + (1 : Int32)) + (1 : Int32))), .val (.ref t2_3g)] [(.int 114), (.int (cn + (1 : Int32))), (.ref t2_3g)])) _
   obtain ⟨T3o, h3o, X3o, e3o, W3o, Vq300, st3o⟩ := o_sB X3m hx hZ e3m j34_ (j := (cn + (1 : Int32))) (by rw [o_zk1 hcn (by omega)]; simp only [List.length_append, List.length_cons, List.length_nil]; rw [o_u8l]; omega) (by simp only [List.length_append, List.length_cons, List.length_nil]; rw [o_u8l]; omega) (g := (mkF m 54 #[.val (.ref b), .val (.int f_), .val (.int ((cn + (1 : Int32)) + (1 : Int32))), .val (.ref t2_3g)] [(.int 114), (.int (cn + (1 : Int32))), (.ref t2_3g)])) rfl rfl (B d24_54)
   refine oG st3o ?_
   have E_b := E_b.wr W3o
   have E_t := E_t.wr W3o
   have j0_ := j0_.other W3o (Or.inl P3f_2)
   have j37_ := j37_.wr W3o
   have j2_ := j2_.other W3o (Or.inl P3f_2)
   have j4_ := j4_.other W3o (Or.inl P3f_2)
   have j1_ := j1_.other W3o (Or.inl P3f_2)
   have O := O.wr W3o P3f_1
   have K3p := K3n.wr W3o (or_t2_292.elim (fun q_ => Or.inl (by rw [q_]; exact List.mem_of_getElem? (i := 1) rfl)) Or.inr)
   have j34_ : Arv Z h3o t2_3g k2_3h .byte N (((o_u8 cs) ++ [(.int 116)]) ++ [(.int 114)]) (.int 0) := by rw [o_ny114] at Vq300; exact Vq300
   have N3o := Fr.snoc X3o N3m P3f_1
   show oF p e below (T3o.setTop (mkF m 55 #[.val (.ref b), .val (.int f_), .val (.int ((cn + (1 : Int32)) + (1 : Int32))), .val (.ref t2_3g)] [])) _
   refine oG (fun _ k => XS.aloadN X3o.here hx rfl (B d24_55) rfl rfl (XS.iloadN X3o.here hx rfl (B d24_56) rfl (XS.iinc X3o.here hx rfl (B d24_57) rfl (l' := #[.val (.ref b), .val (.int f_), .val (.int (((cn + (1 : Int32)) + (1 : Int32)) + (1 : Int32))), .val (.ref t2_3g)]) rfl (XS.bipush X3o.here hx rfl (B d24_60) k)))) ?_
   show oF p e below (T3o.setTop (mkF m 62 #[.val (.ref b), .val (.int f_), .val (.int (((cn + (1 : Int32)) + (1 : Int32)) + (1 : Int32))), .val (.ref t2_3g)] [(.int 117), (.int ((cn + (1 : Int32)) + (1 : Int32))), (.ref t2_3g)])) _
   obtain ⟨T3q, h3q, X3q, e3q, W3q, Vq302, st3q⟩ := o_sB X3o hx hZ e3o j34_ (j := ((cn + (1 : Int32)) + (1 : Int32))) (by rw [o_zk2 hcn (by omega)]; simp only [List.length_append, List.length_cons, List.length_nil]; rw [o_u8l]; omega) (by simp only [List.length_append, List.length_cons, List.length_nil]; rw [o_u8l]; omega) (g := (mkF m 62 #[.val (.ref b), .val (.int f_), .val (.int (((cn + (1 : Int32)) + (1 : Int32)) + (1 : Int32))), .val (.ref t2_3g)] [(.int 117), (.int ((cn + (1 : Int32)) + (1 : Int32))), (.ref t2_3g)])) rfl rfl (B d24_62)
   refine oG st3q ?_
   have E_b := E_b.wr W3q
   have E_t := E_t.wr W3q
   have j0_ := j0_.other W3q (Or.inl P3f_2)
   have j37_ := j37_.wr W3q
   have j2_ := j2_.other W3q (Or.inl P3f_2)
   have j4_ := j4_.other W3q (Or.inl P3f_2)
   have j1_ := j1_.other W3q (Or.inl P3f_2)
   have O := O.wr W3q P3f_1
   have K3r := K3p.wr W3q (or_t2_292.elim (fun q_ => Or.inl (by rw [q_]; exact List.mem_of_getElem? (i := 1) rfl)) Or.inr)
   have j34_ : Arv Z h3q t2_3g k2_3h .byte N ((((o_u8 cs) ++ [(.int 116)]) ++ [(.int 114)]) ++ [(.int 117)]) (.int 0) := by rw [o_ny117] at Vq302; exact Vq302
   have N3q := Fr.snoc X3q N3o P3f_1
   show oF p e below (T3q.setTop (mkF m 63 #[.val (.ref b), .val (.int f_), .val (.int (((cn + (1 : Int32)) + (1 : Int32)) + (1 : Int32))), .val (.ref t2_3g)] [])) _
   refine oG (fun _ k => XS.aloadN X3q.here hx rfl (B d24_63) rfl rfl (XS.iloadN X3q.here hx rfl (B d24_64) rfl (XS.iinc X3q.here hx rfl (B d24_65) rfl (l' := #[.val (.ref b), .val (.int f_), .val (.int ((((cn + (1 : Int32)) + (1 : Int32)) + (1 : Int32)) + (1 : Int32))), .val (.ref t2_3g)]) rfl (XS.bipush X3q.here hx rfl (B d24_68) k)))) ?_
   show oF p e below (T3q.setTop (mkF m 70 #[.val (.ref b), .val (.int f_), .val (.int ((((cn + (1 : Int32)) + (1 : Int32)) + (1 : Int32)) + (1 : Int32))), .val (.ref t2_3g)] [(.int 101), (.int (((cn + (1 : Int32)) + (1 : Int32)) + (1 : Int32))), (.ref t2_3g)])) _
   obtain ⟨T3s, h3s, X3s, e3s, W3s, Vq304, st3s⟩ := o_sB X3q hx hZ e3q j34_ (j := (((cn + (1 : Int32)) + (1 : Int32)) + (1 : Int32))) (by rw [o_zk3 hcn (by omega)]; simp only [List.length_append, List.length_cons, List.length_nil]; rw [o_u8l]; omega) (by simp only [List.length_append, List.length_cons, List.length_nil]; rw [o_u8l]; omega) (g := (mkF m 70 #[.val (.ref b), .val (.int f_), .val (.int ((((cn + (1 : Int32)) + (1 : Int32)) + (1 : Int32)) + (1 : Int32))), .val (.ref t2_3g)] [(.int 101), (.int (((cn + (1 : Int32)) + (1 : Int32)) + (1 : Int32))), (.ref t2_3g)])) rfl rfl (B d24_70)
   refine oG st3s ?_
   have E_b := E_b.wr W3s
   have E_t := E_t.wr W3s
   have j0_ := j0_.other W3s (Or.inl P3f_2)
   have j37_ := j37_.wr W3s
   have j2_ := j2_.other W3s (Or.inl P3f_2)
   have j4_ := j4_.other W3s (Or.inl P3f_2)
   have j1_ := j1_.other W3s (Or.inl P3f_2)
   have O := O.wr W3s P3f_1
   have K3t := K3r.wr W3s (or_t2_292.elim (fun q_ => Or.inl (by rw [q_]; exact List.mem_of_getElem? (i := 1) rfl)) Or.inr)
   have j34_ : Arv Z h3s t2_3g k2_3h .byte N (((((o_u8 cs) ++ [(.int 116)]) ++ [(.int 114)]) ++ [(.int 117)]) ++ [(.int 101)]) (.int 0) := by rw [o_ny101] at Vq304; exact Vq304
   have N3s := Fr.snoc X3s N3q P3f_1
   show oF p e below (T3s.setTop (mkF m 71 #[.val (.ref b), .val (.int f_), .val (.int ((((cn + (1 : Int32)) + (1 : Int32)) + (1 : Int32)) + (1 : Int32))), .val (.ref t2_3g)] [])) _
   refine oG (fun _ k => XS.goto X3s.here hx rfl (pc0 := 71) (pc' := 154) rfl (B d24_71) (by decide) (by decide) (XS.aloadN X3s.here hx rfl (B d24_154) rfl rfl (XS.iloadN X3s.here hx rfl (B d24_155) rfl k))) ?_
   show oF p e below (T3s.setTop (mkF m 156 #[.val (.ref b), .val (.int f_), .val (.int ((((cn + (1 : Int32)) + (1 : Int32)) + (1 : Int32)) + (1 : Int32))), .val (.ref t2_3g)] [(.int ((((cn + (1 : Int32)) + (1 : Int32)) + (1 : Int32)) + (1 : Int32))), (.ref b)])) _
   obtain ⟨T3u, h3u, X3u, e3u, W3u, st3u⟩ := putF X3s hx hZ hown (host := "") (Or.inl (ow hw 87)) Via.refl e3s j0_ E_b (Or.inl (ow hw 88)) (ow hw 48) (ty := .int) (by decide) rfl rfl (g := (mkF m 156 #[.val (.ref b), .val (.int f_), .val (.int ((((cn + (1 : Int32)) + (1 : Int32)) + (1 : Int32)) + (1 : Int32))), .val (.ref t2_3g)] [(.int ((((cn + (1 : Int32)) + (1 : Int32)) + (1 : Int32)) + (1 : Int32))), (.ref b)])) rfl rfl (B d24_156)
   refine oG st3u ?_
   have E_b := E_b.wr W3u
   have E_t := E_t.wr W3u
   have j37_ := j37_.wr W3u
   have j2_ := j2_.other W3u (Or.inr (slot_ne (Or.inl (ow hw 62)) (Or.inl (ow hw 88)) (by decide) (t := (.array .byte)) (t' := .int) (by decide) (by decide)))
   have j4_ := j4_.other W3u (Or.inr (slot_ne (Or.inl (ow hw 267)) (Or.inl (ow hw 88)) (by decide) (t := .boolean) (t' := .int) (by decide) (by decide)))
   have j1_ := j1_.other W3u (Or.inr (slot_ne (Or.inl (ow hw 64)) (Or.inl (ow hw 88)) (by decide) (t := .byte) (t' := .int) (by decide) (by decide)))
   have j34_ := j34_.other W3u (Ne.symm P3f_2)
   have O := O.wr W3u g_b
   have K3v := K3t.wr W3u (Or.inl (List.mem_of_getElem? (i := 0) rfl))
   have j0_ := j0_.same W3u
   have N3u := Fr.snoc X3u N3s g_b
   show oF p e below (T3u.setTop (mkF m 159 #[.val (.ref b), .val (.int f_), .val (.int ((((cn + (1 : Int32)) + (1 : Int32)) + (1 : Int32)) + (1 : Int32))), .val (.ref t2_3g)] [])) _
   refine oG (fun _ k => XS.aloadN X3u.here hx rfl (B d24_159) rfl rfl k) ?_
   show oF p e below (T3u.setTop (mkF m 160 #[.val (.ref b), .val (.int f_), .val (.int ((((cn + (1 : Int32)) + (1 : Int32)) + (1 : Int32)) + (1 : Int32))), .val (.ref t2_3g)] [(.ref b)])) _
   obtain ⟨fs, hr, r1, r2, hW, r3⟩ := X3u.leave (v := some (.ref b)) (fun h => by rw [Bd.returns] at h; cases h)
   refine ⟨_, _, ?_, r1, r2, _, _, rfl, ?_, ⟨_, rfl⟩, hW, r3.mono (by decide) (by decide)⟩
   ·exact X3u.areturnOut hx rfl Bd.returns rfl (B d24_160) hr
   ·show Qapz Z b f_ t N cs h0 n0 _ T3u.heap _
    rw [e3u]
    exact ⟨t2_3g, k2_3h, ((((cn + (1 : Int32)) + (1 : Int32)) + (1 : Int32)) + (1 : Int32)), rfl, N3u, K3v, or_t2_292, P3f_1, P3f_2, (by rw [o_tf1 hc6_262]; exact o_zc1 hcn (by omega)), E_b, j0_, j37_, (by rw [o_tf1 hc6_262]; exact ⟨j2_, j4_, (o_rng_app hrg o_zr1), Or.inl ⟨j1_, (by rw [o_z1]; exact j34_), (o_lat_app hla o_zl1)⟩⟩)⟩
  ·rw [o_tf1 hc6_262] at hl2
   simp only [List.length_cons, List.length_nil] at hl2
   show oF p e below (T3f.setTop (mkF m 18 #[.val (.ref b), .val (.int f_), .unset, .unset] [])) _
   refine oG (fun _ k => XS.aloadN X3f.here hx rfl (B d24_18) rfl rfl k) ?_
   show oF p e below (T3f.setTop (mkF m 19 #[.val (.ref b), .val (.int f_), .unset, .unset] [(.ref b)])) _
   obtain ⟨T3w, X3w, e3w, st3w⟩ := getF X3f hx hZ hown (host := "") (Or.inl (ow hw 87)) Via.refl rfl j0_ (g := (mkF m 19 #[.val (.ref b), .val (.int f_), .unset, .unset] [(.ref b)])) rfl rfl (B d24_19)
   refine oG st3w ?_
   show oF p e below (T3w.setTop (mkF m 22 #[.val (.ref b), .val (.int f_), .unset, .unset] [(.int cn)])) _
   refine oG (fun _ k => XS.istoreN X3w.here hx rfl (B d24_22) rfl (l' := #[.val (.ref b), .val (.int f_), .val (.int cn), .unset]) rfl (XS.aloadN X3w.here hx rfl (B d24_23) rfl rfl k)) ?_
   show oF p e below (T3w.setTop (mkF m 24 #[.val (.ref b), .val (.int f_), .val (.int cn), .unset] [(.ref b)])) _
   obtain ⟨T3x, X3x, e3x, st3x⟩ := getF X3w hx hZ hown (host := "") (Or.inl (ow hw 61)) Via.refl e3w j2_ (g := (mkF m 24 #[.val (.ref b), .val (.int f_), .val (.int cn), .unset] [(.ref b)])) rfl rfl (B d24_24)
   refine oG st3x ?_
   show oF p e below (T3x.setTop (mkF m 27 #[.val (.ref b), .val (.int f_), .val (.int cn), .unset] [(.ref t2_3g)])) _
   refine oG (fun _ k => XS.astoreN X3x.here hx rfl (B d24_27) rfl rfl (l' := #[.val (.ref b), .val (.int f_), .val (.int cn), .val (.ref t2_3g)]) rfl (XS.aloadN X3x.here hx rfl (B d24_28) rfl rfl k)) ?_
   show oF p e below (T3x.setTop (mkF m 29 #[.val (.ref b), .val (.int f_), .val (.int cn), .val (.ref t2_3g)] [(.ref b)])) _
   obtain ⟨cq3y, kq3y, q3ya, q3yb, q3yc⟩ := isOf hZ e3x E_b
   obtain ⟨_, _, ⟨T3y, L3y, k3y, n3y⟩, -, X3y, ⟨Lc3y, hQ3y, l3y, y3y, z3y⟩, st3y⟩ := X3x.virtualBack hx (y := mN9) (z := mN9) hown (mo hZ hw 147) (mo hZ hw 148) (notFace_of_selects (args := #[]) (mo hZ hw 150)) (mo hZ hw 150) (mo hZ hw 149) (by decide) (backOf (W := 0) (il1 l Z a0 hw [] b z (T3f.heap) n0 O j6_ hz j1_) hZ (ow hw 151) (ow hw 57) (by decide) (by decide)) q3ya q3yc (g := (mkF m 29 #[.val (.ref b), .val (.int f_), .val (.int cn), .val (.ref t2_3g)] [(.ref b)])) rfl (by rw [hml]; rfl) (Steps.refl _) (argsL := []) (rest := []) (lenOf pd_7 rfl) rfl (by show 2 * 0 + _ ≤ _; exact Nat.le_of_eq rfl) (B d24_29) (fun _ _ => ⟨rfl, e3x, (by decide : 1 + 0 ≤ _), (by decide : 140 + 0 ≤ _)⟩)
   dsimp only [Pt.U, Pt.locs, Pt.cells, Pt.slots] at X3y l3y y3y z3y st3y hQ3y
   subst y3y z3y
   obtain ⟨rfl, N3yq, e3y⟩ := hQ3y
   refine oG (fun _ k => st3y.trans k) ?_
   have N3y := oL l3y (Fr.app N3f N3yq)
   show oF p e below (T3y.setTop (mkF m 32 #[.val (.ref b), .val (.int f_), .val (.int cn), .val (.ref t2_3g)] [(.int 0)])) _
   refine oG (fun _ k => XS.ifYes X3y.here hx rfl (pc0 := 32) (pc' := 117) rfl (B d24_32) rfl ((if0 _ _).trans (teq (by decide : (0 : Int32) = (0 : Int32))).1) (by decide) (by decide) (XS.iloadN X3y.here hx rfl (B d24_117) rfl (XS.ifNo X3y.here hx rfl (B d24_118) rfl ((if0 _ _).trans (feq hc6_262).1) (XS.aloadN X3y.here hx rfl (B d24_121) rfl rfl (XS.iloadN X3y.here hx rfl (B d24_122) rfl (XS.bipush X3y.here hx rfl (B d24_123) (XS.bipush X3y.here hx rfl (B d24_125) (XS.bipush X3y.here hx rfl (B d24_127) (XS.bipush X3y.here hx rfl (B d24_129) k))))))))) ?_
   show oF p e below (T3y.setTop (mkF m 131 #[.val (.ref b), .val (.int f_), .val (.int cn), .val (.ref t2_3g)] [(.int 101), (.int 117), (.int 114), (.int 116), (.int cn), (.ref t2_3g)])) _
   obtain ⟨_, _, ⟨T3z, L3z, k3z, n3z⟩, -, X3z, ⟨Lc3z, hQ3z, l3z, y3z, z3z⟩, st3z⟩ := Jvm.LawKit.callS X3y hx (y := mN27) hown (mo hZ hw 277) (mo hZ hw 278) (mo hZ hw 190) (mo hZ hw 279) (by decide) (backOf (W := 0) (pca4 l Z a0 hw [] t2_3g cn (116 : Int32) (114 : Int32) (117 : Int32) (101 : Int32) k2_3h (N <<< ((1 : Int32) &&& 31)) (o_u16 cs) fm (T3f.heap) n0 O j8_ j9_ j10_ j13_ hfm j34_ P3f_1 (by rw [o_u16l]; omega) (by rw [o_u16l, o_x2i (by omega) (by omega)]; omega) (by rw [o_x2i (by omega) (by omega)]; omega)) hZ (ow hw 279) (ow hw 190) (by decide) (by decide)) (g := (mkF m 131 #[.val (.ref b), .val (.int f_), .val (.int cn), .val (.ref t2_3g)] [(.int 101), (.int 117), (.int 114), (.int 116), (.int cn), (.ref t2_3g)])) rfl (by rw [hml]; rfl) (argsL := [(.ref t2_3g), (.int cn), (.int 116), (.int 114), (.int 117), (.int 101)]) (rest := []) (lenOf pd_21 rfl) rfl (by show 2 * 0 + _ ≤ _; exact Nat.le_of_eq rfl) (B d24_131) (fun _ _ => ⟨rfl, e3y, (by decide : 1 + 0 ≤ _), (by decide : 140 + 0 ≤ _)⟩)
   dsimp only [Pt.U, Pt.locs, Pt.cells, Pt.slots] at X3z l3z y3z z3z st3z hQ3z
   subst y3z z3z
   obtain ⟨rfl, N3zq, Kq3z, P3z_0⟩ := hQ3z
   refine oG st3z ?_
   have N3z := oL l3z (Fr.app N3y N3zq)
   have E_b := E_b.keep Kq3z
   have E_t := E_t.keep Kq3z
   have j0_ := j0_.keep Kq3z (ninS P3f_2 nin0)
   have j37_ := j37_.keep Kq3z
   have j2_ := j2_.keep Kq3z (ninS P3f_2 nin0)
   have j4_ := j4_.keep Kq3z (ninS P3f_2 nin0)
   have j1_ := j1_.keep Kq3z (ninS P3f_2 nin0)
   clear j34_
   have O := O.keep Kq3z (allS P3f_1 all0)
   have K3A := K3i.trans Kq3z (allS (or_t2_292.elim (fun q_ => Or.inl (by rw [q_]; exact List.mem_of_getElem? (i := 1) rfl)) Or.inr) all0)
   have j34_ := P3z_0
   show oF p e below (T3z.setTop (mkF m 134 #[.val (.ref b), .val (.int f_), .val (.int cn), .val (.ref t2_3g)] [(.int (cn + (4 : Int32)))])) _
   refine oG (fun _ k => XS.istoreN X3z.here hx rfl (B d24_134) rfl (l' := #[.val (.ref b), .val (.int f_), .val (.int (cn + (4 : Int32))), .val (.ref t2_3g)]) rfl (XS.goto X3z.here hx rfl (pc0 := 135) (pc' := 154) rfl (B d24_135) (by decide) (by decide) (XS.aloadN X3z.here hx rfl (B d24_154) rfl rfl (XS.iloadN X3z.here hx rfl (B d24_155) rfl k)))) ?_
   show oF p e below (T3z.setTop (mkF m 156 #[.val (.ref b), .val (.int f_), .val (.int (cn + (4 : Int32))), .val (.ref t2_3g)] [(.int (cn + (4 : Int32))), (.ref b)])) _
   obtain ⟨T3B, h3B, X3B, e3B, W3B, st3B⟩ := putF X3z hx hZ hown (host := "") (Or.inl (ow hw 87)) Via.refl rfl j0_ E_b (Or.inl (ow hw 88)) (ow hw 48) (ty := .int) (by decide) rfl rfl (g := (mkF m 156 #[.val (.ref b), .val (.int f_), .val (.int (cn + (4 : Int32))), .val (.ref t2_3g)] [(.int (cn + (4 : Int32))), (.ref b)])) rfl rfl (B d24_156)
   refine oG st3B ?_
   have E_b := E_b.wr W3B
   have E_t := E_t.wr W3B
   have j37_ := j37_.wr W3B
   have j2_ := j2_.other W3B (Or.inr (slot_ne (Or.inl (ow hw 62)) (Or.inl (ow hw 88)) (by decide) (t := (.array .byte)) (t' := .int) (by decide) (by decide)))
   have j4_ := j4_.other W3B (Or.inr (slot_ne (Or.inl (ow hw 267)) (Or.inl (ow hw 88)) (by decide) (t := .boolean) (t' := .int) (by decide) (by decide)))
   have j1_ := j1_.other W3B (Or.inr (slot_ne (Or.inl (ow hw 64)) (Or.inl (ow hw 88)) (by decide) (t := .byte) (t' := .int) (by decide) (by decide)))
   have j34_ := j34_.other W3B (Ne.symm P3f_2)
   have O := O.wr W3B g_b
   have K3C := K3A.wr W3B (Or.inl (List.mem_of_getElem? (i := 0) rfl))
   have j0_ := j0_.same W3B
   have N3B := Fr.snoc X3B N3z g_b
   show oF p e below (T3B.setTop (mkF m 159 #[.val (.ref b), .val (.int f_), .val (.int (cn + (4 : Int32))), .val (.ref t2_3g)] [])) _
   refine oG (fun _ k => XS.aloadN X3B.here hx rfl (B d24_159) rfl rfl k) ?_
   show oF p e below (T3B.setTop (mkF m 160 #[.val (.ref b), .val (.int f_), .val (.int (cn + (4 : Int32))), .val (.ref t2_3g)] [(.ref b)])) _
   obtain ⟨fs, hr, r1, r2, hW, r3⟩ := X3B.leave (v := some (.ref b)) (fun h => by rw [Bd.returns] at h; cases h)
   refine ⟨_, _, ?_, r1, r2, _, _, rfl, ?_, ⟨_, rfl⟩, hW, r3.mono (by decide) (by decide)⟩
   ·exact X3B.areturnOut hx rfl Bd.returns rfl (B d24_160) hr
   ·show Qapz Z b f_ t N cs h0 n0 _ T3B.heap _
    rw [e3B]
    exact ⟨t2_3g, k2_3h, (cn + (4 : Int32)), rfl, N3B, K3C, or_t2_292, P3f_1, P3f_2, (by rw [o_tf1 hc6_262]; exact o_zd1 hcn (by omega)), E_b, j0_, j37_, (by rw [o_tf1 hc6_262]; exact ⟨j2_, j4_, (o_rng_app hrg o_zr1), Or.inr ⟨j1_, (by rw [o_u16_app]; exact j34_), (o_bg_l hbg)⟩⟩)⟩
theorem d23_0 : decode k30_ 0 = .ok (.aload_n 0, 1) := by decide +kernel
theorem d23_1 : decode k30_ 1 = .ok (.iload_n 1, 1) := by decide +kernel
theorem d23_2 : decode k30_ 2 = .ok (.invokespecial 47, 3) := by decide +kernel
theorem pd_22 : parseMethodDescriptor "(Z)Ljava/lang/AbstractStringBuilder;" = some ⟨[.boolean], some (.object "java/lang/AbstractStringBuilder")⟩ := by decide +kernel
theorem d23_5 : decode k30_ 5 = .ok (.pop, 1) := by decide +kernel
theorem d23_6 : decode k30_ 6 = .ok (.aload_n 0, 1) := by decide +kernel
theorem d23_7 : decode k30_ 7 = .ok (.areturn, 1) := by decide +kernel
theorem ef_saz (m : MethodId) (x0 : Addr) (x1 : Int32) : entryFrame m #[(.ref x0), (.int x1)] 2 = mkF m 0 #[.val (.ref x0), .val (.int x1)] [] := by first | (simp [entryFrame, mkF, argsToLocals, Value.category]; done) | rfl
def Qsaz (Z : State) (b : Addr) (f_ : Int32) (t : Addr) (N : Int32) (cs : List Int32) (h0 : Heap) (n0 : Nat) (v : Option Value) (h : Heap) (L : List Loc) : Prop := ∃ (t2_ : Addr) (k2_ : ClassId) (n2_ : Int32), v = some (.ref b) ∧ Fr n0 L ∧ Keep h0 h [b, t] ∧ (t2_ = t ∨ h0.size ≤ t2_) ∧ n0 ≤ t2_ ∧ b ≠ t2_ ∧ n2_.toInt = ((cs ++ o_tf f_).length : Int) ∧ eX1 Z h b ∧ fL5 Z h b (.int n2_) ∧ eX0 Z h t2_ ∧ o_SB Z h b t2_ k2_ N (cs ++ o_tf f_)
theorem saz (l : Launch) (Z : State) (a0 : Array Value) (hw : ∀ d ∈ tables_1, d.before a0 Z = true) (ws : List Jvm.Cond) (b : Addr) (f_ : Int32) (z : Int32) (t : Addr) (kt : ClassId) (N : Int32) (cn : Int32) (cs : List Int32) (fm : Value) (h0 : Heap) (n0 : Nat) (O : Old Z n0 h0) (j8_ : sT0 Z (.int 1)) (j9_ : sT1 Z (.int 0)) (j10_ : sT2 Z (.int 8)) (j13_ : sT3 Z fm) (hfm : fm.isRef = true) (j6_ : sT4 Z (.int z)) (hz : ¬ (z = (0 : Int32))) (E_b : eX1 Z h0 b) (j0_ : fL5 Z h0 b (.int cn)) (j12_ : o_SB Z h0 b t kt N cs) (E_t : eX0 Z h0 t) (g_b : n0 ≤ b) (g_t : n0 ≤ t) (nbt : b ≠ t) (hcn : cn.toInt = (cs.length : Int)) (hl2 : (cs.length : Int) + ((o_tf f_).length : Int) ≤ N.toInt) (hN1 : N.toInt ≤ 100) :
   o_MF l Z mN30 jdk_67_method_13_code 2 (some (.object "java/lang/StringBuilder")) ws rM20 #[(.ref b), (.int f_)] h0 (Qsaz Z b f_ t N cs h0 n0) := by
 refine MetFree.of_bodySF (plainFor_of_name pn_7) hisR ?_
 intro p e s m args below meth c s₁ Bd hml0 hP hK
 obtain ⟨rfl, hZ, hh⟩ := hP
 have hx := Bd.exec
 have hby := Bd.bytes
 have B := @hb _ _ hby
 have hml : c.maxLocals = 2 := hml0
 have hown : s.vm.findClass "java/lang/StringBuilder" = some m.cls := findClass_of_methodNamed Bd.named
 have X0 : Stand p l e rM20 s m #[(.ref b), (.int f_)] below meth c s₁ [] 0 0 := Stand.of_body Bd
 have e0 : s₁.heap = h0 := by rw [← hh, Bd.state]; rfl
 have N0 := Fr.nil n0
 have K0 := Keep.refl h0 [b, t]
 refine o_start (ef_saz m b f_) (Q := o_QE s rM20 (Qsaz Z b f_ t N cs h0 n0)) ?_
 show oF p e below (s₁.setTop (mkF m 0 #[.val (.ref b), .val (.int f_)] [])) _
 refine oG (fun _ k => XS.aloadN X0.here hx rfl (B d23_0) rfl rfl (XS.iloadN X0.here hx rfl (B d23_1) rfl k)) ?_
 show oF p e below (s₁.setTop (mkF m 2 #[.val (.ref b), .val (.int f_)] [(.int f_), (.ref b)])) _
 obtain ⟨_, _, ⟨T3D, L3D, k3D, n3D⟩, -, X3D, ⟨Lc3D, hQ3D, l3D, y3D, z3D⟩, st3D⟩ := superBack X0 hx hZ (y := mN29) hown (ow hw 143) (o_same (y := mN29) (ow hw 144) (ow hw 92) (by exact rfl) (by decide)) (ow hw 144) (ow hw 73) (by decide) (backOf (W := 0) (apz l Z a0 hw [] b f_ z t kt N cn cs fm h0 n0 O j8_ j9_ j10_ j13_ hfm j6_ hz E_b j0_ j12_ E_t g_b g_t nbt hcn hl2 hN1) hZ (ow hw 146) (ow hw 57) (by decide) (by decide)) e0 (Ins.self E_b) (g := (mkF m 2 #[.val (.ref b), .val (.int f_)] [(.int f_), (.ref b)])) rfl (by rw [hml]; rfl) (ow hw 146) (argsL := [(.int f_)]) (rest := []) (lenOf pd_22 rfl) rfl (by show 2 * 0 + _ ≤ _; exact Nat.le_of_eq rfl) (B d23_2) (fun _ _ => ⟨rfl, e0, (by decide : 0 + 1 ≤ _), (by decide : 0 + 140 ≤ _)⟩)
 dsimp only [Pt.U, Pt.locs, Pt.cells, Pt.slots] at X3D l3D y3D z3D st3D hQ3D
 subst y3D z3D
 obtain ⟨t2_3E, k2_3F, n2_320, rfl, N3Dq, Kq3D, P3D_0, P3D_1, P3D_2, P3D_3, P3D_4, P3D_5, P3D_6, P3D_7⟩ := hQ3D
 refine oG (fun _ k => st3D.trans k) ?_
 have N3D := oL l3D (Fr.app N0 N3Dq)
 have E_b := E_b.keep Kq3D
 clear j0_
 clear j12_
 have E_t := E_t.keep Kq3D
 have O := O.keep Kq3D (allS g_b (allS g_t all0))
 have K3G := K0.trans Kq3D (allS (Or.inl (List.mem_of_getElem? (i := 0) rfl)) (allS (Or.inl (List.mem_of_getElem? (i := 1) rfl)) all0))
 have E_b := P3D_4
 have j0_ := P3D_5
 have E_t2_318 := P3D_6
 have j12_ := P3D_7
 show oF p e below (T3D.setTop (mkF m 5 #[.val (.ref b), .val (.int f_)] [(.ref b)])) _
 refine oG (fun _ k => XS.pop X3D.here hx rfl (B d23_5) rfl rfl (XS.aloadN X3D.here hx rfl (B d23_6) rfl rfl k)) ?_
 show oF p e below (T3D.setTop (mkF m 7 #[.val (.ref b), .val (.int f_)] [(.ref b)])) _
 obtain ⟨fs, hr, r1, r2, hW, r3⟩ := X3D.leave (v := some (.ref b)) (fun h => by rw [Bd.returns] at h; cases h)
 refine ⟨_, _, ?_, r1, r2, _, _, rfl, ?_, ⟨_, rfl⟩, hW, r3.mono (by decide) (by decide)⟩
 ·exact X3D.areturnOut hx rfl Bd.returns rfl (B d23_7) hr
 ·show Qsaz Z b f_ t N cs h0 n0 _ T3D.heap _
  exact ⟨t2_3E, k2_3F, n2_320, rfl, N3D, K3G, (P3D_0.imp id (Nat.le_trans K0.1)), P3D_1, P3D_2, P3D_3, E_b, j0_, E_t2_318, j12_⟩
theorem o_us (vs : List Value) (dv : Value) : ∀ (k : Nat), k ≤ vs.length → vs.take k = (List.range k).map fun i => vs.getD (0 + i) dv := by
 intro k hk
 apply List.ext_getElem
 · simp; omega
 · intro i h1 h2
   simp at h1 h2 ⊢
   have : i < vs.length := by omega
   simp [List.getD_eq_getElem?_getD, this]
theorem o_cut (dv : Value) (us : List Value) (k j : Nat) : (([] ++ List.replicate k dv).take ((0 : Int32).toNatClampNeg) ++ us ++ ([] ++ List.replicate k dv).drop ((0 : Int32).toNatClampNeg + j)) = us ++ List.replicate (k - j) dv := by
 have e : (0 : Int32).toNatClampNeg = 0 := by decide
 rw [e]; simp
theorem o_min {a b : Int32} (h : a < b) : o_mn b a = a := by
 unfold o_mn; exact if_pos h
theorem o_cne {cn : Int32} {n : Nat} (h : cn.toInt = (n : Int)) (h4 : n ≤ 100) : cn = Int32.ofNat n := by
 rw [← Int32.toInt_inj, o_oi (by omega)]; exact h
theorem o_on0 {cs : List Int32} (h4 : cs.length ≤ 40) : ¬ (Int32.ofNat cs.length) < 0 := o_nn (by rw [o_oi (by omega)]; omega)
theorem o_on1 {cs : List Int32} (h4 : cs.length ≤ 40) : (Int32.ofNat cs.length).toNatClampNeg ≤ (o_u8 cs).length := by rw [o_oc (by omega), o_u8l]; exact Nat.le_refl _
theorem o_on2 {cs : List Int32} {N : Int32} (h4 : cs.length ≤ 40) (hle : (cs.length : Int) ≤ N.toInt) : (Int32.ofNat cs.length).toNatClampNeg ≤ N.toNatClampNeg := by
 rw [o_oc (by omega)]; have := o_cn (N := N) (by omega); omega
theorem o_on3 {cs : List Int32} (h4 : cs.length ≤ 40) : (Int32.ofNat cs.length).toNatClampNeg ≤ 80 := by rw [o_oc (by omega)]; omega
theorem o_on4 {cs : List Int32} {N : Int32} (h4 : cs.length ≤ 40) (hle : (cs.length : Int) ≤ N.toInt) (hne : ¬ ((Int32.ofNat cs.length) = N)) : (Int32.ofNat cs.length) < N := by
 rw [← Int32.toInt_inj, o_oi (by omega)] at hne
 rw [Int32.lt_iff_toInt_lt, o_oi (by omega)]; omega
theorem o_tk8 {cs : List Int32} (h4 : cs.length ≤ 40) : (o_u8 cs).take (Int32.ofNat cs.length).toNatClampNeg = o_u8 cs := by
 rw [o_oc (by omega)]; exact List.take_of_length_le (by rw [o_u8l]; exact Nat.le_refl _)
theorem o_oz0 {cs : List Int32} (h4 : cs.length ≤ 40) : ¬ ((Int32.ofNat cs.length) <<< ((1 : Int32) &&& 31)) < 0 := o_nn (by rw [o_zi (by omega)]; omega)
theorem o_oz1 {cs : List Int32} (h4 : cs.length ≤ 40) : ((Int32.ofNat cs.length) <<< ((1 : Int32) &&& 31)).toNatClampNeg ≤ (o_u16 cs).length := by rw [o_zc (by omega), o_u16l]; exact Nat.le_refl _
theorem o_oz2 {cs : List Int32} {N : Int32} (h4 : cs.length ≤ 40) (hle : (cs.length : Int) ≤ N.toInt) (h8 : N.toInt ≤ 100) : ((Int32.ofNat cs.length) <<< ((1 : Int32) &&& 31)).toNatClampNeg ≤ (N <<< ((1 : Int32) &&& 31)).toNatClampNeg := by
 have b := o_x2i (N := N) (by omega) (by omega)
 have c := o_cn (N := N <<< ((1 : Int32) &&& 31)) (by omega)
 rw [o_zc (by omega)]
 omega
theorem o_oz3 {cs : List Int32} (h4 : cs.length ≤ 40) : ((Int32.ofNat cs.length) <<< ((1 : Int32) &&& 31)).toNatClampNeg ≤ 80 := by rw [o_zc (by omega)]; omega
theorem o_oz4 {cs : List Int32} {N : Int32} (h4 : cs.length ≤ 40) (hle : (cs.length : Int) ≤ N.toInt) (h8 : N.toInt ≤ 100) (hne : ¬ (((Int32.ofNat cs.length) <<< ((1 : Int32) &&& 31)) = (N <<< ((1 : Int32) &&& 31)))) : ((Int32.ofNat cs.length) <<< ((1 : Int32) &&& 31)) < (N <<< ((1 : Int32) &&& 31)) := by
 have b := o_x2i (N := N) (by omega) (by omega)
 rw [← Int32.toInt_inj, o_zi (by omega)] at hne
 rw [Int32.lt_iff_toInt_lt, o_zi (by omega)]
 omega
theorem o_tk16 {cs : List Int32} (h4 : cs.length ≤ 40) : (o_u16 cs).take ((Int32.ofNat cs.length) <<< ((1 : Int32) &&& 31)).toNatClampNeg = o_u16 cs := by
 rw [o_zc (by omega)]; exact List.take_of_length_le (by rw [o_u16l]; exact Nat.le_refl _)
theorem d29_0 : decode k31_ 0 = .ok (.aload_n 0, 1) := by decide +kernel
theorem d29_1 : decode k31_ 1 = .ok (.getfield 15, 3) := by decide +kernel
theorem d29_4 : decode k31_ 4 = .ok (.areturn, 1) := by decide +kernel
def Qgv (Z : State) (t : Addr) (h0 : Heap) (n0 : Nat) (v : Option Value) (h : Heap) (L : List Loc) : Prop := v = some (.ref t) ∧ Fr n0 L ∧ h = h0
theorem gv (l : Launch) (Z : State) (a0 : Array Value) (hw : ∀ d ∈ tables_1, d.before a0 Z = true) (ws : List Jvm.Cond) (b : Addr) (t : Addr) (h0 : Heap) (n0 : Nat) (O : Old Z n0 h0) (j2_ : fL0 Z h0 b (.ref t)) :
   o_MF l Z mN31 jdk_68_method_64_code 1 (some (.array .byte)) ws rM0 #[(.ref b)] h0 (Qgv Z t h0 n0) := by
 refine MetFree.of_bodySF (plainFor_of_name pn_4) hisR ?_
 intro p e s m args below meth c s₁ Bd hml0 hP hK
 obtain ⟨rfl, hZ, hh⟩ := hP
 have hx := Bd.exec
 have hby := Bd.bytes
 have B := @hb _ _ hby
 have hml : c.maxLocals = 1 := hml0
 have hown : s.vm.findClass "java/lang/AbstractStringBuilder" = some m.cls := findClass_of_methodNamed Bd.named
 have X0 : Stand p l e rM0 s m #[(.ref b)] below meth c s₁ [] 0 0 := Stand.of_body Bd
 have e0 : s₁.heap = h0 := by rw [← hh, Bd.state]; rfl
 have N0 := Fr.nil n0
 refine o_start (ef_ul m b) (Q := o_QE s rM0 (Qgv Z t h0 n0)) ?_
 show oF p e below (s₁.setTop (mkF m 0 #[.val (.ref b)] [])) _
 refine oG (fun _ k => XS.aloadN X0.here hx rfl (B d29_0) rfl rfl k) ?_
 show oF p e below (s₁.setTop (mkF m 1 #[.val (.ref b)] [(.ref b)])) _
 obtain ⟨T3H, X3H, e3H, st3H⟩ := getF X0 hx hZ hown (host := "") (Or.inl (ow hw 61)) Via.refl e0 j2_ (g := (mkF m 1 #[.val (.ref b)] [(.ref b)])) rfl rfl (B d29_1)
 refine oG st3H ?_
 show oF p e below (T3H.setTop (mkF m 4 #[.val (.ref b)] [(.ref t)])) _
 obtain ⟨fs, hr, r1, r2, hW, r3⟩ := X3H.leave (v := some (.ref t)) (fun h => by rw [Bd.returns] at h; cases h)
 refine ⟨_, _, ?_, r1, r2, _, _, rfl, ?_, ⟨_, rfl⟩, hW, r3.mono (by decide) (by decide)⟩
 ·exact X3H.areturnOut hx rfl Bd.returns rfl (B d29_4) hr
 ·show Qgv Z t h0 n0 _ T3H.heap _
  rw [e3H]
  exact ⟨rfl, N0, rfl⟩
theorem d31_0 : decode k32_ 0 = .ok (.aload_n 0, 1) := by decide +kernel
theorem d31_1 : decode k32_ 1 = .ok (.getfield 79, 3) := by decide +kernel
theorem d31_4 : decode k32_ 4 = .ok (.ireturn, 1) := by decide +kernel
def Qal (Z : State) (cn : Int32) (h0 : Heap) (n0 : Nat) (v : Option Value) (h : Heap) (L : List Loc) : Prop := v = some (.int cn) ∧ Fr n0 L ∧ h = h0
theorem al (l : Launch) (Z : State) (a0 : Array Value) (hw : ∀ d ∈ tables_1, d.before a0 Z = true) (ws : List Jvm.Cond) (b : Addr) (cn : Int32) (h0 : Heap) (n0 : Nat) (O : Old Z n0 h0) (j0_ : fL5 Z h0 b (.int cn)) :
   o_MF l Z mN32 jdk_68_method_6_code 1 (some .int) ws rM0 #[(.ref b)] h0 (Qal Z cn h0 n0) := by
 refine MetFree.of_bodySF (plainFor_of_name pn_4) hisR ?_
 intro p e s m args below meth c s₁ Bd hml0 hP hK
 obtain ⟨rfl, hZ, hh⟩ := hP
 have hx := Bd.exec
 have hby := Bd.bytes
 have B := @hb _ _ hby
 have hml : c.maxLocals = 1 := hml0
 have hown : s.vm.findClass "java/lang/AbstractStringBuilder" = some m.cls := findClass_of_methodNamed Bd.named
 have X0 : Stand p l e rM0 s m #[(.ref b)] below meth c s₁ [] 0 0 := Stand.of_body Bd
 have e0 : s₁.heap = h0 := by rw [← hh, Bd.state]; rfl
 have N0 := Fr.nil n0
 refine o_start (ef_ul m b) (Q := o_QE s rM0 (Qal Z cn h0 n0)) ?_
 show oF p e below (s₁.setTop (mkF m 0 #[.val (.ref b)] [])) _
 refine oG (fun _ k => XS.aloadN X0.here hx rfl (B d31_0) rfl rfl k) ?_
 show oF p e below (s₁.setTop (mkF m 1 #[.val (.ref b)] [(.ref b)])) _
 obtain ⟨T3I, X3I, e3I, st3I⟩ := getF X0 hx hZ hown (host := "") (Or.inl (ow hw 87)) Via.refl e0 j0_ (g := (mkF m 1 #[.val (.ref b)] [(.ref b)])) rfl rfl (B d31_1)
 refine oG st3I ?_
 show oF p e below (T3I.setTop (mkF m 4 #[.val (.ref b)] [(.int cn)])) _
 obtain ⟨fs, hr, r1, r2, hW, r3⟩ := X3I.leave (v := some (.int cn)) (fun h => by rw [Bd.returns] at h; cases h)
 refine ⟨_, _, ?_, r1, r2, _, _, rfl, ?_, ⟨_, rfl⟩, hW, r3.mono (by decide) (by decide)⟩
 ·exact o_retI X3I hx Bd.returns (B d31_4) hr
 ·show Qal Z cn h0 n0 _ T3I.heap _
  rw [e3I]
  exact ⟨rfl, N0, rfl⟩
theorem d30_0 : decode k33_ 0 = .ok (.aload_n 0, 1) := by decide +kernel
theorem d30_1 : decode k33_ 1 = .ok (.invokespecial 343, 3) := by decide +kernel
theorem d30_4 : decode k33_ 4 = .ok (.ireturn, 1) := by decide +kernel
def Qsl (Z : State) (cn : Int32) (h0 : Heap) (n0 : Nat) (v : Option Value) (h : Heap) (L : List Loc) : Prop := v = some (.int cn) ∧ Fr n0 L ∧ h = h0
theorem sl (l : Launch) (Z : State) (a0 : Array Value) (hw : ∀ d ∈ tables_1, d.before a0 Z = true) (ws : List Jvm.Cond) (b : Addr) (cn : Int32) (h0 : Heap) (n0 : Nat) (O : Old Z n0 h0) (E_b : eX1 Z h0 b) (j0_ : fL5 Z h0 b (.int cn)) :
   o_MF l Z mN33 jdk_67_method_93_code 1 (some .int) ws rM7 #[(.ref b)] h0 (Qsl Z cn h0 n0) := by
 refine MetFree.of_bodySF (plainFor_of_name pn_7) hisR ?_
 intro p e s m args below meth c s₁ Bd hml0 hP hK
 obtain ⟨rfl, hZ, hh⟩ := hP
 have hx := Bd.exec
 have hby := Bd.bytes
 have B := @hb _ _ hby
 have hml : c.maxLocals = 1 := hml0
 have hown : s.vm.findClass "java/lang/StringBuilder" = some m.cls := findClass_of_methodNamed Bd.named
 have X0 : Stand p l e rM7 s m #[(.ref b)] below meth c s₁ [] 0 0 := Stand.of_body Bd
 have e0 : s₁.heap = h0 := by rw [← hh, Bd.state]; rfl
 have N0 := Fr.nil n0
 refine o_start (ef_ul m b) (Q := o_QE s rM7 (Qsl Z cn h0 n0)) ?_
 show oF p e below (s₁.setTop (mkF m 0 #[.val (.ref b)] [])) _
 refine oG (fun _ k => XS.aloadN X0.here hx rfl (B d30_0) rfl rfl k) ?_
 show oF p e below (s₁.setTop (mkF m 1 #[.val (.ref b)] [(.ref b)])) _
 obtain ⟨_, _, ⟨T3J, L3J, k3J, n3J⟩, -, X3J, ⟨Lc3J, hQ3J, l3J, y3J, z3J⟩, st3J⟩ := superBack X0 hx hZ (y := mN32) hown (ow hw 176) (o_same (y := mN32) (ow hw 172) (ow hw 92) (by exact rfl) (by decide)) (ow hw 172) (ow hw 73) (by decide) (backOf (W := 0) (al l Z a0 hw [] b cn h0 n0 O j0_) hZ (ow hw 177) (ow hw 57) (by decide) (by decide)) e0 (Ins.self E_b) (g := (mkF m 1 #[.val (.ref b)] [(.ref b)])) rfl (by rw [hml]; rfl) (ow hw 177) (argsL := []) (rest := []) (lenOf pd_15 rfl) rfl (by show 2 * 0 + _ ≤ _; exact Nat.le_of_eq rfl) (B d30_1) (fun _ _ => ⟨rfl, e0, (by decide : 0 + 0 ≤ _), (by decide : 0 + 0 ≤ _)⟩)
 dsimp only [Pt.U, Pt.locs, Pt.cells, Pt.slots] at X3J l3J y3J z3J st3J hQ3J
 subst y3J z3J
 obtain ⟨rfl, N3Jq, e3J⟩ := hQ3J
 refine oG (fun _ k => st3J.trans k) ?_
 have N3J := oL l3J (Fr.app N0 N3Jq)
 show oF p e below (T3J.setTop (mkF m 4 #[.val (.ref b)] [(.int cn)])) _
 obtain ⟨fs, hr, r1, r2, hW, r3⟩ := X3J.leave (v := some (.int cn)) (fun h => by rw [Bd.returns] at h; cases h)
 refine ⟨_, _, ?_, r1, r2, _, _, rfl, ?_, ⟨_, rfl⟩, hW, r3.mono (by decide) (by decide)⟩
 ·exact o_retI X3J hx Bd.returns (B d30_4) hr
 ·show Qsl Z cn h0 n0 _ T3J.heap _
  rw [e3J]
  exact ⟨rfl, N3J, rfl⟩
theorem d34_0 : decode k34_ 0 = .ok (.iload_n 1, 1) := by decide +kernel
theorem d34_1 : decode k34_ 1 = .ok (.iload_n 0, 1) := by decide +kernel
theorem d34_2 : decode k34_ 2 = .ok (.if_icmp .ge 35, 3) := by decide +kernel
theorem d34_37 : decode k34_ 37 = .ok (.return_, 1) := by decide +kernel
def Qckl (Z : State)  (h0 : Heap) (n0 : Nat) (v : Option Value) (h : Heap) (L : List Loc) : Prop := v = none ∧ Fr n0 L ∧ h = h0
theorem ckl (l : Launch) (Z : State) (a0 : Array Value) (hw : ∀ d ∈ tables_1, d.before a0 Z = true) (ws : List Jvm.Cond) (pa : Int32) (h0 : Heap) (n0 : Nat) (hp : ¬ (pa < (0 : Int32))) :
   o_MF l Z mN34 jdk_65_method_131_code 2 none ws rM0 #[(.int 0), (.int pa)] h0 (Qckl Z  h0 n0) := by
 refine MetFree.of_bodySF (plainFor_of_name pn_6) hisR ?_
 intro p e s m args below meth c s₁ Bd hml0 hP hK
 obtain ⟨rfl, hZ, hh⟩ := hP
 have hx := Bd.exec
 have hby := Bd.bytes
 have B := @hb _ _ hby
 have hml : c.maxLocals = 2 := hml0
 have hown : s.vm.findClass "java/util/Arrays" = some m.cls := findClass_of_methodNamed Bd.named
 have X0 : Stand p l e rM0 s m #[(.int 0), (.int pa)] below meth c s₁ [] 0 0 := Stand.of_body Bd
 have e0 : s₁.heap = h0 := by rw [← hh, Bd.state]; rfl
 have N0 := Fr.nil n0
 refine o_start (ef_mxx m (0 : Int32) pa) (Q := o_QE s rM0 (Qckl Z  h0 n0)) ?_
 show oF p e below (s₁.setTop (mkF m 0 #[.val (.int 0), .val (.int pa)] [])) _
 refine oG (fun _ k => XS.iloadN X0.here hx rfl (B d34_0) rfl (XS.iloadN X0.here hx rfl (B d34_1) rfl (XS.icmpYes X0.here hx rfl (pc0 := 2) (pc' := 37) rfl (B d34_2) rfl (flt hp).2.1 (by decide) (by decide) k))) ?_
 show oF p e below (s₁.setTop (mkF m 37 #[.val (.int 0), .val (.int pa)] [])) _
 obtain ⟨fs, hr, r1, r2, hW, r3⟩ := X0.leave (v := none) (fun _ => rfl)
 refine ⟨_, _, ?_, r1, r2, _, _, rfl, ?_, ⟨_, rfl⟩, hW, r3.mono (by decide) (by decide)⟩
 ·exact X0.returnOut hx Bd.returns (B d34_37) hr
 ·show Qckl Z  h0 n0 _ s₁.heap _
  rw [e0]
  exact ⟨rfl, N0, rfl⟩
theorem d33_0 : decode k35_ 0 = .ok (.iload_n 1, 1) := by decide +kernel
theorem d33_1 : decode k35_ 1 = .ok (.iload_n 2, 1) := by decide +kernel
theorem d33_2 : decode k35_ 2 = .ok (.invokestatic 343, 3) := by decide +kernel
theorem pd_23 : parseMethodDescriptor "(II)V" = some ⟨[.int, .int], none⟩ := by decide +kernel
theorem d33_5 : decode k35_ 5 = .ok (.iload_n 2, 1) := by decide +kernel
theorem d33_6 : decode k35_ 6 = .ok (.iload_n 1, 1) := by decide +kernel
theorem d33_7 : decode k35_ 7 = .ok (.isub, 1) := by decide +kernel
theorem d33_8 : decode k35_ 8 = .ok (.istore_n 3, 1) := by decide +kernel
theorem d33_9 : decode k35_ 9 = .ok (.iload_n 3, 1) := by decide +kernel
theorem d33_10 : decode k35_ 10 = .ok (.newarray .byte, 2) := by decide +kernel
theorem d33_12 : decode k35_ 12 = .ok (.astore 4, 2) := by decide +kernel
theorem d33_14 : decode k35_ 14 = .ok (.aload_n 0, 1) := by decide +kernel
theorem d33_15 : decode k35_ 15 = .ok (.iload_n 1, 1) := by decide +kernel
theorem d33_16 : decode k35_ 16 = .ok (.aload 4, 2) := by decide +kernel
theorem d33_18 : decode k35_ 18 = .ok (.iconst 0, 1) := by decide +kernel
theorem d33_19 : decode k35_ 19 = .ok (.aload_n 0, 1) := by decide +kernel
theorem d33_20 : decode k35_ 20 = .ok (.arraylength, 1) := by decide +kernel
theorem d33_21 : decode k35_ 21 = .ok (.iload_n 1, 1) := by decide +kernel
theorem d33_22 : decode k35_ 22 = .ok (.isub, 1) := by decide +kernel
theorem d33_23 : decode k35_ 23 = .ok (.iload_n 3, 1) := by decide +kernel
theorem d33_24 : decode k35_ 24 = .ok (.invokestatic 304, 3) := by decide +kernel
theorem d33_27 : decode k35_ 27 = .ok (.invokestatic 150, 3) := by decide +kernel
theorem d33_30 : decode k35_ 30 = .ok (.aload 4, 2) := by decide +kernel
theorem d33_32 : decode k35_ 32 = .ok (.areturn, 1) := by decide +kernel
theorem ef_crb (m : MethodId) (x0 : Addr) (x1 : Int32) (x2 : Int32) : entryFrame m #[(.ref x0), (.int x1), (.int x2)] 5 = mkF m 0 #[.val (.ref x0), .val (.int x1), .val (.int x2), .unset, .unset] [] := by first | (simp [entryFrame, mkF, argsToLocals, Value.category]; done) | rfl
def Qcrb (Z : State) (cn : Int32) (vs : List Value) (h0 : Heap) (n0 : Nat) (v : Option Value) (h : Heap) (L : List Loc) : Prop := ∃ (b_ : Addr) (k_ : ClassId), v = some (.ref b_) ∧ Fr n0 L ∧ Keep h0 h [] ∧ h0.size ≤ b_ ∧ Arv Z h b_ k_ .byte (cn - (0 : Int32)) (vs.take cn.toNatClampNeg) (.int 0) ∧ eX0 Z h b_
theorem crb (l : Launch) (Z : State) (a0 : Array Value) (hw : ∀ d ∈ tables_1, d.before a0 Z = true) (ws : List Jvm.Cond) (a : Addr) (cn : Int32) (ka : ClassId) (N : Int32) (vs : List Value) (h0 : Heap) (n0 : Nat) (O : Old Z n0 h0) (V_a : Arv Z h0 a ka .byte N vs (.int 0)) (hn0 : ¬ cn < 0) (hvl : cn.toNatClampNeg ≤ vs.length) (hnN : cn.toNatClampNeg ≤ N.toNatClampNeg) (hcap : cn.toNatClampNeg ≤ 80) (hlt : cn < N) :
   o_MF l Z mN35 jdk_65_method_133_code 5 (some (.array .byte)) ws rM21 #[(.ref a), (.int 0), (.int cn)] h0 (Qcrb Z cn vs h0 n0) := by
 refine MetFree.of_bodySF (plainFor_of_name pn_6) hisR ?_
 intro p e s m args below meth c s₁ Bd hml0 hP hK
 obtain ⟨rfl, hZ, hh⟩ := hP
 have hx := Bd.exec
 have hby := Bd.bytes
 have B := @hb _ _ hby
 have hml : c.maxLocals = 5 := hml0
 have hown : s.vm.findClass "java/util/Arrays" = some m.cls := findClass_of_methodNamed Bd.named
 have X0 : Stand p l e rM21 s m #[(.ref a), (.int 0), (.int cn)] below meth c s₁ [] 0 0 := Stand.of_body Bd
 have e0 : s₁.heap = h0 := by rw [← hh, Bd.state]; rfl
 have N0 := Fr.nil n0
 have K0 := Keep.refl h0 []
 refine o_start (ef_crb m a (0 : Int32) cn) (Q := o_QE s rM21 (Qcrb Z cn vs h0 n0)) ?_
 show oF p e below (s₁.setTop (mkF m 0 #[.val (.ref a), .val (.int 0), .val (.int cn), .unset, .unset] [])) _
 refine oG (fun _ k => XS.iloadN X0.here hx rfl (B d33_0) rfl (XS.iloadN X0.here hx rfl (B d33_1) rfl k)) ?_
 show oF p e below (s₁.setTop (mkF m 2 #[.val (.ref a), .val (.int 0), .val (.int cn), .unset, .unset] [(.int cn), (.int 0)])) _
 obtain ⟨_, _, ⟨T3K, L3K, k3K, n3K⟩, -, X3K, ⟨Lc3K, hQ3K, l3K, y3K, z3K⟩, st3K⟩ := Jvm.LawKit.callS X0 hx (y := mN34) hown (mo hZ hw 185) (mo hZ hw 186) (mo hZ hw 111) (mo hZ hw 187) (by decide) (backOf (W := 0) (ckl l Z a0 hw [] cn h0 n0 hn0) hZ (ow hw 187) (ow hw 111) (by decide) (by decide)) (g := (mkF m 2 #[.val (.ref a), .val (.int 0), .val (.int cn), .unset, .unset] [(.int cn), (.int 0)])) rfl (by rw [hml]; rfl) (argsL := [(.int 0), (.int cn)]) (rest := []) (lenOf pd_23 rfl) rfl (by show 2 * 0 + _ ≤ _; exact Nat.le_of_eq rfl) (B d33_2) (fun _ _ => ⟨rfl, e0, (by decide : 0 + 0 ≤ _), (by decide : 0 + 0 ≤ _)⟩)
 dsimp only [Pt.U, Pt.locs, Pt.cells, Pt.slots] at X3K l3K y3K z3K st3K hQ3K
 subst y3K z3K
 obtain ⟨rfl, N3Kq, e3K⟩ := hQ3K
 refine oG st3K ?_
 have N3K := oL l3K (Fr.app N0 N3Kq)
 show oF p e below (T3K.setTop (mkF m 5 #[.val (.ref a), .val (.int 0), .val (.int cn), .unset, .unset] [])) _
 refine oG (fun _ k => XS.iloadN X3K.here hx rfl (B d33_5) rfl (XS.iloadN X3K.here hx rfl (B d33_6) rfl (XS.isub X3K.here hx rfl (B d33_7) rfl (XS.istoreN X3K.here hx rfl (B d33_8) rfl (l' := #[.val (.ref a), .val (.int 0), .val (.int cn), .val (.int (cn - (0 : Int32))), .unset]) rfl (XS.iloadN X3K.here hx rfl (B d33_9) rfl k))))) ?_
 show oF p e below (T3K.setTop (mkF m 10 #[.val (.ref a), .val (.int 0), .val (.int cn), .val (.int (cn - (0 : Int32))), .unset] [(.int (cn - (0 : Int32)))])) _
 obtain ⟨T3L, h3L, k3L, X3L, e3L, E3L, A3L, B3L, st3L⟩ := newPE X3K hx hZ (ow hw 27) e3K (g := (mkF m 10 #[.val (.ref a), .val (.int 0), .val (.int cn), .val (.int (cn - (0 : Int32))), .unset] [(.int (cn - (0 : Int32)))])) rfl (B d33_10) rfl (by rw [Int32.sub_zero]; exact hn0) (cap := 80) (by rw [Int32.sub_zero]; exact hcap) (by decide) (by decide) (by decide) (ad := "[B") (by decide)
 obtain ⟨b3L, g3L⟩ : ∃ z, z = h0.size := ⟨_, rfl⟩
 rw [← g3L] at A3L st3L B3L
 refine oG st3L ?_
 have ne_a_b331 : a ≠ b3L := Nat.ne_of_lt (Nat.lt_of_lt_of_le V_a.lt (Nat.le_of_eq g3L.symm))
 have j153_ : n0 ≤ b3L := Nat.le_trans (o_osz O) (Nat.le_of_eq g3L.symm)
 have j154_ : h0.size ≤ b3L := Nat.le_trans K0.1 (Nat.le_of_eq g3L.symm)
 have V_a := V_a.ext E3L
 have O := O.ext E3L
 have K3M := K0.ext E3L
 have j125_ := B3L
 have j86_ : Arv Z h3L b3L k3L .byte (cn - (0 : Int32)) [] (.int 0) := Arv.new A3L (by rw [Int32.sub_zero]; exact hn0)
 show oF p e below (T3L.setTop (mkF m 12 #[.val (.ref a), .val (.int 0), .val (.int cn), .val (.int (cn - (0 : Int32))), .unset] [(.ref b3L)])) _
 refine oG (fun _ k => XS.astore X3L.here hx rfl (B d33_12) rfl rfl (l' := #[.val (.ref a), .val (.int 0), .val (.int cn), .val (.int (cn - (0 : Int32))), .val (.ref b3L)]) rfl (XS.aloadN X3L.here hx rfl (B d33_14) rfl rfl (XS.iloadN X3L.here hx rfl (B d33_15) rfl (XS.aload X3L.here hx rfl (B d33_16) rfl rfl (XS.iconst X3L.here hx rfl (B d33_18) (XS.aloadN X3L.here hx rfl (B d33_19) rfl rfl k)))))) ?_
 show oF p e below (T3L.setTop (mkF m 20 #[.val (.ref a), .val (.int 0), .val (.int cn), .val (.int (cn - (0 : Int32))), .val (.ref b3L)] [(.ref a), (.int 0), (.ref b3L), (.int 0), (.ref a)])) _
 obtain ⟨cl3N, A3N, -, S3N, M3N, -, -⟩ := id V_a
 refine oG (fun _ k => X3L.arraylength hx (o_eqE e3L A3N.1) (State.isArrayOf_alike hZ.alike A3N.2.1) (g := (mkF m 20 #[.val (.ref a), .val (.int 0), .val (.int cn), .val (.int (cn - (0 : Int32))), .val (.ref b3L)] [(.ref a), (.int 0), (.ref b3L), (.int 0), (.ref a)])) rfl rfl (B d33_20) _ (by rw [len_of S3N M3N]; exact k)) ?_
 show oF p e below (T3L.setTop (mkF m 21 #[.val (.ref a), .val (.int 0), .val (.int cn), .val (.int (cn - (0 : Int32))), .val (.ref b3L)] [(.int N), (.int 0), (.ref b3L), (.int 0), (.ref a)])) _
 refine oG (fun _ k => XS.iloadN X3L.here hx rfl (B d33_21) rfl (XS.isub X3L.here hx rfl (B d33_22) rfl (XS.iloadN X3L.here hx rfl (B d33_23) rfl k))) ?_
 show oF p e below (T3L.setTop (mkF m 24 #[.val (.ref a), .val (.int 0), .val (.int cn), .val (.int (cn - (0 : Int32))), .val (.ref b3L)] [(.int (cn - (0 : Int32))), (.int (N - (0 : Int32))), (.int 0), (.ref b3L), (.int 0), (.ref a)])) _
 obtain ⟨_, _, ⟨T3O, L3O, k3O, n3O⟩, -, X3O, ⟨Lc3O, hQ3O, l3O, y3O, z3O⟩, st3O⟩ := Jvm.LawKit.callS X3L hx (y := mN14) hown (mo hZ hw 113) (mo hZ hw 114) (mo hZ hw 105) (mo hZ hw 115) (by decide) (backOf (W := 4) (mnn l Z a0 hw [] (N - (0 : Int32)) (cn - (0 : Int32)) h3L n0 ) hZ (ow hw 115) (ow hw 105) (by decide) (by decide)) (g := (mkF m 24 #[.val (.ref a), .val (.int 0), .val (.int cn), .val (.int (cn - (0 : Int32))), .val (.ref b3L)] [(.int (cn - (0 : Int32))), (.int (N - (0 : Int32))), (.int 0), (.ref b3L), (.int 0), (.ref a)])) rfl (by rw [hml]; rfl) (argsL := [(.int (N - (0 : Int32))), (.int (cn - (0 : Int32)))]) (rest := [(.int 0), (.ref b3L), (.int 0), (.ref a)]) (lenOf pd_10 rfl) rfl (by show 2 * 0 + _ ≤ _; exact Nat.le_of_eq rfl) (B d33_24) (fun _ _ => ⟨rfl, e3L, (by decide : 1 + 0 ≤ _), (by decide : 80 + 0 ≤ _)⟩)
 dsimp only [Pt.U, Pt.locs, Pt.cells, Pt.slots] at X3O l3O y3O z3O st3O hQ3O
 subst y3O z3O
 obtain ⟨rfl, N3Oq, e3O⟩ := hQ3O
 refine oG st3O ?_
 have N3O := oL l3O (Fr.app N3K N3Oq)
 show oF p e below (T3O.setTop (mkF m 27 #[.val (.ref a), .val (.int 0), .val (.int cn), .val (.int (cn - (0 : Int32))), .val (.ref b3L)] [(.int (o_mn (N - (0 : Int32)) (cn - (0 : Int32)))), (.int 0), (.ref b3L), (.int 0), (.ref a)])) _
 rw [show o_mn (N - (0 : Int32)) (cn - (0 : Int32)) = cn from by rw [Int32.sub_zero, Int32.sub_zero]; exact o_min hlt]
 have j86_ := j86_.pad (pad_rep [] (.int 0) cn.toNatClampNeg)
 show oF p e below (T3O.setTop (mkF m 27 #[.val (.ref a), .val (.int 0), .val (.int cn), .val (.int (cn - (0 : Int32))), .val (.ref b3L)] [(.int cn), (.int 0), (.ref b3L), (.int 0), (.ref a)])) _
 obtain ⟨T3P, h3P, L3P, X3P, e3P, Nq3P, Kq3P, V3P, st3P⟩ := cpA X3O hx hZ hown (ow hw 116) (ow hw 119) (ow hw 117) (ow hw 118) e3O V_a j86_ (Or.inl ⟨rfl, rfl⟩) (by decide) (by decide) hn0 (by rw [show (0 : Int32).toNatClampNeg = 0 from by decide]; omega) (by rw [show (0 : Int32).toNatClampNeg = 0 from by decide, Int32.sub_zero]; omega) (sp := (0 : Int32)) (dp := (0 : Int32)) (us := vs.take cn.toNatClampNeg) (o_us vs _ _ hvl) (by rw [show (0 : Int32).toNatClampNeg = 0 from by decide]; simp <;> omega) N3O j153_ (g := (mkF m 27 #[.val (.ref a), .val (.int 0), .val (.int cn), .val (.int (cn - (0 : Int32))), .val (.ref b3L)] [(.int cn), (.int 0), (.ref b3L), (.int 0), (.ref a)])) rfl (by rw [hml]; rfl) rfl (B d33_27) (by decide) (W := 0) (by show 2 * 0 + _ ≤ _; exact Nat.le_of_eq rfl) (by decide)
 rw [o_cut, Nat.sub_self, List.replicate_zero, List.append_nil] at V3P
 refine oG st3P ?_
 have V_a := V_a.keep Kq3P (ninS ne_a_b331 nin0)
 have j125_ := j125_.keep Kq3P
 have O := O.keep Kq3P (allS j153_ all0)
 have K3Q := K3M.trans Kq3P (allS (Or.inr j154_) all0)
 have j86_ := V3P
 show oF p e below (T3P.setTop (mkF m 30 #[.val (.ref a), .val (.int 0), .val (.int cn), .val (.int (cn - (0 : Int32))), .val (.ref b3L)] [])) _
 refine oG (fun _ k => XS.aload X3P.here hx rfl (B d33_30) rfl rfl k) ?_
 show oF p e below (T3P.setTop (mkF m 32 #[.val (.ref a), .val (.int 0), .val (.int cn), .val (.int (cn - (0 : Int32))), .val (.ref b3L)] [(.ref b3L)])) _
 obtain ⟨fs, hr, r1, r2, hW, r3⟩ := X3P.leave (v := some (.ref b3L)) (fun h => by rw [Bd.returns] at h; cases h)
 refine ⟨_, _, ?_, r1, r2, _, _, rfl, ?_, ⟨_, rfl⟩, hW, r3.mono (by decide) (by decide)⟩
 ·exact X3P.areturnOut hx rfl Bd.returns rfl (B d33_32) hr
 ·show Qcrb Z cn vs h0 n0 _ T3P.heap _
  rw [e3P]
  exact ⟨b3L, k3L, rfl, Nq3P, K3Q, j154_, j86_, j125_⟩
theorem d32_0 : decode k36_ 0 = .ok (.iload_n 1, 1) := by decide +kernel
theorem d32_1 : decode k36_ 1 = .ok (.ifCond .ne 9, 3) := by decide +kernel
theorem d32_4 : decode k36_ 4 = .ok (.iload_n 2, 1) := by decide +kernel
theorem d32_5 : decode k36_ 5 = .ok (.aload_n 0, 1) := by decide +kernel
theorem d32_6 : decode k36_ 6 = .ok (.arraylength, 1) := by decide +kernel
theorem d32_7 : decode k36_ 7 = .ok (.if_icmp .eq 10, 3) := by decide +kernel
theorem d32_10 : decode k36_ 10 = .ok (.aload_n 0, 1) := by decide +kernel
theorem d32_11 : decode k36_ 11 = .ok (.iload_n 1, 1) := by decide +kernel
theorem d32_12 : decode k36_ 12 = .ok (.iload_n 2, 1) := by decide +kernel
theorem d32_13 : decode k36_ 13 = .ok (.invokestatic 339, 3) := by decide +kernel
theorem pd_24 : parseMethodDescriptor "([BII)[B" = some ⟨[(.array .byte), .int, .int], some (.array .byte)⟩ := by decide +kernel
theorem d32_16 : decode k36_ 16 = .ok (.areturn, 1) := by decide +kernel
def QcrL (Z : State) (cn : Int32) (vs : List Value) (h0 : Heap) (n0 : Nat) (v : Option Value) (h : Heap) (L : List Loc) : Prop := ∃ (b_ : Addr) (k_ : ClassId), v = some (.ref b_) ∧ Fr n0 L ∧ Keep h0 h [] ∧ h0.size ≤ b_ ∧ Arv Z h b_ k_ .byte cn (vs.take cn.toNatClampNeg) (.int 0) ∧ eX0 Z h b_
theorem crL (l : Launch) (Z : State) (a0 : Array Value) (hw : ∀ d ∈ tables_1, d.before a0 Z = true) (ws : List Jvm.Cond) (a : Addr) (cn : Int32) (ka : ClassId) (N : Int32) (vs : List Value) (h0 : Heap) (n0 : Nat) (O : Old Z n0 h0) (V_a : Arv Z h0 a ka .byte N vs (.int 0)) (E_a : eX0 Z h0 a) (hn0 : ¬ cn < 0) (hvl : cn.toNatClampNeg ≤ vs.length) (hnN : cn.toNatClampNeg ≤ N.toNatClampNeg) (hcap : cn.toNatClampNeg ≤ 80) (hlt : cn < N) (hne : ¬ (cn = N)) :
   o_MF l Z mN36 jdk_65_method_132_code 3 (some (.array .byte)) ws rM22 #[(.ref a), (.int 0), (.int cn)] h0 (QcrL Z cn vs h0 n0) := by
 refine MetFree.of_bodySF (plainFor_of_name pn_6) hisR ?_
 intro p e s m args below meth c s₁ Bd hml0 hP hK
 obtain ⟨rfl, hZ, hh⟩ := hP
 have hx := Bd.exec
 have hby := Bd.bytes
 have B := @hb _ _ hby
 have hml : c.maxLocals = 3 := hml0
 have hown : s.vm.findClass "java/util/Arrays" = some m.cls := findClass_of_methodNamed Bd.named
 have X0 : Stand p l e rM22 s m #[(.ref a), (.int 0), (.int cn)] below meth c s₁ [] 0 0 := Stand.of_body Bd
 have e0 : s₁.heap = h0 := by rw [← hh, Bd.state]; rfl
 have N0 := Fr.nil n0
 have K0 := Keep.refl h0 []
 refine o_start (ef_pt m a (0 : Int32) cn) (Q := o_QE s rM22 (QcrL Z cn vs h0 n0)) ?_
 show oF p e below (s₁.setTop (mkF m 0 #[.val (.ref a), .val (.int 0), .val (.int cn)] [])) _
 refine oG (fun _ k => XS.iloadN X0.here hx rfl (B d32_0) rfl (XS.ifNo X0.here hx rfl (B d32_1) rfl ((if0 _ _).trans (teq (by decide : (0 : Int32) = (0 : Int32))).2) (XS.iloadN X0.here hx rfl (B d32_4) rfl (XS.aloadN X0.here hx rfl (B d32_5) rfl rfl k)))) ?_
 show oF p e below (s₁.setTop (mkF m 6 #[.val (.ref a), .val (.int 0), .val (.int cn)] [(.ref a), (.int cn)])) _
 obtain ⟨cl3R, A3R, -, S3R, M3R, -, -⟩ := id V_a
 refine oG (fun _ k => X0.arraylength hx (o_eqE e0 A3R.1) (State.isArrayOf_alike hZ.alike A3R.2.1) (g := (mkF m 6 #[.val (.ref a), .val (.int 0), .val (.int cn)] [(.ref a), (.int cn)])) rfl rfl (B d32_6) _ (by rw [len_of S3R M3R]; exact k)) ?_
 show oF p e below (s₁.setTop (mkF m 7 #[.val (.ref a), .val (.int 0), .val (.int cn)] [(.int N), (.int cn)])) _
 refine oG (fun _ k => XS.icmpNo X0.here hx rfl (B d32_7) rfl (feq hne).1 (XS.aloadN X0.here hx rfl (B d32_10) rfl rfl (XS.iloadN X0.here hx rfl (B d32_11) rfl (XS.iloadN X0.here hx rfl (B d32_12) rfl k)))) ?_
 show oF p e below (s₁.setTop (mkF m 13 #[.val (.ref a), .val (.int 0), .val (.int cn)] [(.int cn), (.int 0), (.ref a)])) _
 obtain ⟨_, _, ⟨T3S, L3S, k3S, n3S⟩, -, X3S, ⟨Lc3S, hQ3S, l3S, y3S, z3S⟩, st3S⟩ := Jvm.LawKit.callS X0 hx (y := mN35) hown (mo hZ hw 182) (mo hZ hw 183) (mo hZ hw 111) (mo hZ hw 184) (by decide) (backOf (W := 0) (crb l Z a0 hw [] a cn ka N vs h0 n0 O V_a hn0 hvl hnN hcap hlt) hZ (ow hw 184) (ow hw 111) (by decide) (by decide)) (g := (mkF m 13 #[.val (.ref a), .val (.int 0), .val (.int cn)] [(.int cn), (.int 0), (.ref a)])) rfl (by rw [hml]; rfl) (argsL := [(.ref a), (.int 0), (.int cn)]) (rest := []) (lenOf pd_24 rfl) rfl (by show 2 * 0 + _ ≤ _; exact Nat.le_of_eq rfl) (B d32_13) (fun _ _ => ⟨rfl, e0, (by decide : 0 + 1 ≤ _), (by decide : 0 + 80 ≤ _)⟩)
 dsimp only [Pt.U, Pt.locs, Pt.cells, Pt.slots] at X3S l3S y3S z3S st3S hQ3S
 subst y3S z3S
 obtain ⟨b_3T, k_3U, rfl, N3Sq, Kq3S, P3S_0, P3S_1, P3S_2⟩ := hQ3S
 refine oG st3S ?_
 have N3S := oL l3S (Fr.app N0 N3Sq)
 have ne_a_b_340 : a ≠ b_3T := Nat.ne_of_lt (Nat.lt_of_lt_of_le V_a.lt P3S_0)
 have g_b_340 : n0 ≤ b_3T := Nat.le_trans (o_osz O) P3S_0
 have sz_b_340 : h0.size ≤ b_3T := Nat.le_trans K0.1 P3S_0
 have V_a := V_a.keep Kq3S nin0
 have E_a := E_a.keep Kq3S
 have O := O.keep Kq3S all0
 have K3V := K0.trans Kq3S all0
 have j155_ := P3S_1
 have E_b_340 := P3S_2
 show oF p e below (T3S.setTop (mkF m 16 #[.val (.ref a), .val (.int 0), .val (.int cn)] [(.ref b_3T)])) _
 obtain ⟨fs, hr, r1, r2, hW, r3⟩ := X3S.leave (v := some (.ref b_3T)) (fun h => by rw [Bd.returns] at h; cases h)
 refine ⟨_, _, ?_, r1, r2, _, _, rfl, ?_, ⟨_, rfl⟩, hW, r3.mono (by decide) (by decide)⟩
 ·exact X3S.areturnOut hx rfl Bd.returns rfl (B d32_16) hr
 ·show QcrL Z cn vs h0 n0 _ T3S.heap _
  exact ⟨b_3T, k_3U, rfl, N3S, K3V, sz_b_340, (by rw [Int32.sub_zero] at j155_; exact j155_), E_b_340⟩
theorem d32_17 : decode k36_ 17 = .ok (.aload_n 0, 1) := by decide +kernel
theorem d32_18 : decode k36_ 18 = .ok (.invokevirtual 310, 3) := by decide +kernel
theorem d32_21 : decode k36_ 21 = .ok (.checkcast 311, 3) := by decide +kernel
theorem d32_24 : decode k36_ 24 = .ok (.areturn, 1) := by decide +kernel
def QcrE (Z : State) (cn : Int32) (vs : List Value) (h0 : Heap) (n0 : Nat) (v : Option Value) (h : Heap) (L : List Loc) : Prop := ∃ (b_ : Addr) (k_ : ClassId), v = some (.ref b_) ∧ Fr n0 L ∧ Keep h0 h [] ∧ h0.size ≤ b_ ∧ Arv Z h b_ k_ .byte cn (vs.take cn.toNatClampNeg) (.int 0) ∧ eX0 Z h b_
theorem crE (l : Launch) (Z : State) (a0 : Array Value) (hw : ∀ d ∈ tables_1, d.before a0 Z = true) (ws : List Jvm.Cond) (a : Addr) (cn : Int32) (ka : ClassId) (N : Int32) (vs : List Value) (h0 : Heap) (n0 : Nat) (O : Old Z n0 h0) (V_a : Arv Z h0 a ka .byte N vs (.int 0)) (E_a : eX0 Z h0 a) (hn0 : ¬ cn < 0) (hvl : cn.toNatClampNeg ≤ vs.length) (hnN : cn.toNatClampNeg ≤ N.toNatClampNeg) (hcap : cn.toNatClampNeg ≤ 80) (heq : cn = N) (htk : vs.take cn.toNatClampNeg = vs) :
   o_MF l Z mN36 jdk_65_method_132_code 3 (some (.array .byte)) ws rM23 #[(.ref a), (.int 0), (.int cn)] h0 (QcrE Z cn vs h0 n0) := by
 refine MetFree.of_bodySF (plainFor_of_name pn_6) hisR ?_
 intro p e s m args below meth c s₁ Bd hml0 hP hK
 obtain ⟨rfl, hZ, hh⟩ := hP
 have hx := Bd.exec
 have hby := Bd.bytes
 have B := @hb _ _ hby
 have hml : c.maxLocals = 3 := hml0
 have hown : s.vm.findClass "java/util/Arrays" = some m.cls := findClass_of_methodNamed Bd.named
 have X0 : Stand p l e rM23 s m #[(.ref a), (.int 0), (.int cn)] below meth c s₁ [] 0 0 := Stand.of_body Bd
 have e0 : s₁.heap = h0 := by rw [← hh, Bd.state]; rfl
 have N0 := Fr.nil n0
 have K0 := Keep.refl h0 []
 refine o_start (ef_pt m a (0 : Int32) cn) (Q := o_QE s rM23 (QcrE Z cn vs h0 n0)) ?_
 show oF p e below (s₁.setTop (mkF m 0 #[.val (.ref a), .val (.int 0), .val (.int cn)] [])) _
 refine oG (fun _ k => XS.iloadN X0.here hx rfl (B d32_0) rfl (XS.ifNo X0.here hx rfl (B d32_1) rfl ((if0 _ _).trans (teq (by decide : (0 : Int32) = (0 : Int32))).2) (XS.iloadN X0.here hx rfl (B d32_4) rfl (XS.aloadN X0.here hx rfl (B d32_5) rfl rfl k)))) ?_
 show oF p e below (s₁.setTop (mkF m 6 #[.val (.ref a), .val (.int 0), .val (.int cn)] [(.ref a), (.int cn)])) _
 obtain ⟨cl3W, A3W, -, S3W, M3W, -, -⟩ := id V_a
 refine oG (fun _ k => X0.arraylength hx (o_eqE e0 A3W.1) (State.isArrayOf_alike hZ.alike A3W.2.1) (g := (mkF m 6 #[.val (.ref a), .val (.int 0), .val (.int cn)] [(.ref a), (.int cn)])) rfl rfl (B d32_6) _ (by rw [len_of S3W M3W]; exact k)) ?_
 show oF p e below (s₁.setTop (mkF m 7 #[.val (.ref a), .val (.int 0), .val (.int cn)] [(.int N), (.int cn)])) _
 refine oG (fun _ k => XS.icmpYes X0.here hx rfl (pc0 := 7) (pc' := 17) rfl (B d32_7) rfl (teq heq).1 (by decide) (by decide) (XS.aloadN X0.here hx rfl (B d32_17) rfl rfl k)) ?_
 show oF p e below (s₁.setTop (mkF m 18 #[.val (.ref a), .val (.int 0), .val (.int cn)] [(.ref a)])) _
 obtain ⟨T3X, h3X, X3X, e3X, E3X, A3X, B3X, st3X⟩ := cloneH X0 hx hZ hown (ow hw 268) (ow hw 269) (ow hw 273) (ow hw 271) (ow hw 272) (ow hw 274) e0 (Arv.arh V_a) E_a (g := (mkF m 18 #[.val (.ref a), .val (.int 0), .val (.int cn)] [(.ref a)])) rfl (by rw [hml]; rfl) rfl (B d32_18) (by decide) (W := 0) (cap := 80) (by show 2 * 0 + _ ≤ _; exact Nat.le_of_eq rfl) (by decide) (by rw [← heq]; exact hcap) (by decide) (by decide)
 obtain ⟨b3X, g3X⟩ : ∃ z, z = h0.size := ⟨_, rfl⟩
 rw [← g3X] at A3X B3X st3X
 refine oG st3X ?_
 have ne_a_b345 : a ≠ b3X := Nat.ne_of_lt (Nat.lt_of_lt_of_le V_a.lt (Nat.le_of_eq g3X.symm))
 have g_b345 : n0 ≤ b3X := Nat.le_trans (o_osz O) (Nat.le_of_eq g3X.symm)
 have sz_b345 : h0.size ≤ b3X := Nat.le_trans K0.1 (Nat.le_of_eq g3X.symm)
 have V_a := V_a.ext E3X
 have E_a := E_a.ext E3X
 have O := O.ext E3X
 have K3Y := K0.ext E3X
 have V_b345 : Arv Z h3X b3X ka .byte N vs (.int 0) := A3X
 have j156_ := B3X
 obtain ⟨T3Z, X3Z, e3Z, st3Z⟩ := castY X3X hx hZ hown (ow hw 275) e3X (Ins.self j156_) (g := (mkF m 21 #[.val (.ref a), .val (.int 0), .val (.int cn)] [(.ref b3X)])) rfl rfl (B d32_21)
 refine oG st3Z ?_
 show oF p e below (T3Z.setTop (mkF m 24 #[.val (.ref a), .val (.int 0), .val (.int cn)] [(.ref b3X)])) _
 obtain ⟨fs, hr, r1, r2, hW, r3⟩ := X3Z.leave (v := some (.ref b3X)) (fun h => by rw [Bd.returns] at h; cases h)
 refine ⟨_, _, ?_, r1, r2, _, _, rfl, ?_, ⟨_, rfl⟩, hW, r3.mono (by decide) (by decide)⟩
 ·exact X3Z.areturnOut hx rfl Bd.returns rfl (B d32_24) hr
 ·show QcrE Z cn vs h0 n0 _ T3Z.heap _
  rw [e3Z]
  exact ⟨b3X, ka, rfl, N0, K3Y, sz_b345, (by rw [htk, heq]; exact V_b345), j156_⟩
theorem d28_0 : decode k37_ 0 = .ok (.aload_n 0, 1) := by decide +kernel
theorem d28_1 : decode k37_ 1 = .ok (.invokespecial 1, 3) := by decide +kernel
theorem d28_4 : decode k37_ 4 = .ok (.aload_n 1, 1) := by decide +kernel
theorem d28_5 : decode k37_ 5 = .ok (.invokevirtual 552, 3) := by decide +kernel
theorem pd_25 : parseMethodDescriptor "()[B" = some ⟨[], some (.array .byte)⟩ := by decide +kernel
theorem d28_8 : decode k37_ 8 = .ok (.astore_n 3, 1) := by decide +kernel
theorem d28_9 : decode k37_ 9 = .ok (.aload_n 1, 1) := by decide +kernel
theorem d28_10 : decode k37_ 10 = .ok (.invokevirtual 549, 3) := by decide +kernel
theorem d28_13 : decode k37_ 13 = .ok (.istore 4, 2) := by decide +kernel
theorem d28_15 : decode k37_ 15 = .ok (.aload_n 1, 1) := by decide +kernel
theorem d28_16 : decode k37_ 16 = .ok (.invokevirtual 1047, 3) := by decide +kernel
theorem d28_19 : decode k37_ 19 = .ok (.ifCond .eq 22, 3) := by decide +kernel
theorem d28_22 : decode k37_ 22 = .ok (.aload_n 0, 1) := by decide +kernel
theorem d28_23 : decode k37_ 23 = .ok (.iconst 0, 1) := by decide +kernel
theorem d28_24 : decode k37_ 24 = .ok (.putfield 15, 3) := by decide +kernel
theorem d28_27 : decode k37_ 27 = .ok (.aload_n 0, 1) := by decide +kernel
theorem d28_28 : decode k37_ 28 = .ok (.aload_n 3, 1) := by decide +kernel
theorem d28_29 : decode k37_ 29 = .ok (.iconst 0, 1) := by decide +kernel
theorem d28_30 : decode k37_ 30 = .ok (.iload 4, 2) := by decide +kernel
theorem d28_32 : decode k37_ 32 = .ok (.invokestatic 54, 3) := by decide +kernel
theorem d28_35 : decode k37_ 35 = .ok (.putfield 9, 3) := by decide +kernel
theorem d28_38 : decode k37_ 38 = .ok (.goto 59, 3) := by decide +kernel
theorem d28_97 : decode k37_ 97 = .ok (.return_, 1) := by decide +kernel
theorem d28_41 : decode k37_ 41 = .ok (.getstatic 38, 3) := by decide +kernel
theorem d28_44 : decode k37_ 44 = .ok (.ifCond .eq 35, 3) := by decide +kernel
theorem d28_47 : decode k37_ 47 = .ok (.aload_n 1, 1) := by decide +kernel
theorem d28_48 : decode k37_ 48 = .ok (.getfield 1048, 3) := by decide +kernel
theorem d28_51 : decode k37_ 51 = .ok (.ifCond .eq 28, 3) := by decide +kernel
theorem d28_79 : decode k37_ 79 = .ok (.aload_n 0, 1) := by decide +kernel
theorem d28_80 : decode k37_ 80 = .ok (.iconst 1, 1) := by decide +kernel
theorem d28_81 : decode k37_ 81 = .ok (.putfield 15, 3) := by decide +kernel
theorem d28_84 : decode k37_ 84 = .ok (.aload_n 0, 1) := by decide +kernel
theorem d28_85 : decode k37_ 85 = .ok (.aload_n 3, 1) := by decide +kernel
theorem d28_86 : decode k37_ 86 = .ok (.iconst 0, 1) := by decide +kernel
theorem d28_87 : decode k37_ 87 = .ok (.iload 4, 2) := by decide +kernel
theorem d28_89 : decode k37_ 89 = .ok (.iconst 1, 1) := by decide +kernel
theorem d28_90 : decode k37_ 90 = .ok (.ishl, 1) := by decide +kernel
theorem d28_91 : decode k37_ 91 = .ok (.invokestatic 54, 3) := by decide +kernel
theorem d28_94 : decode k37_ 94 = .ok (.putfield 9, 3) := by decide +kernel
theorem ef_sv (m : MethodId) (x0 : Addr) (x1 : Addr) : entryFrame m #[(.ref x0), (.ref x1), .null] 5 = mkF m 0 #[.val (.ref x0), .val (.ref x1), .val .null, .unset, .unset] [] := by first | (simp [entryFrame, mkF, argsToLocals, Value.category]; done) | rfl
def Qsv (Z : State) (s_ : Addr) (cs : List Int32) (h0 : Heap) (n0 : Nat) (v : Option Value) (h : Heap) (L : List Loc) : Prop := ∃ (t2_ : Addr) (k2_ : ClassId), v = none ∧ Fr n0 L ∧ Keep h0 h [s_] ∧ h0.size ≤ t2_ ∧ eX2 Z h s_ ∧ o_ST Z h s_ t2_ k2_ cs
theorem sv (l : Launch) (Z : State) (a0 : Array Value) (hw : ∀ d ∈ tables_1, d.before a0 Z = true) (ws : List Jvm.Cond) (s_ : Addr) (b : Addr) (z : Int32) (t : Addr) (kt : ClassId) (N : Int32) (cn : Int32) (cs : List Int32) (h0 : Heap) (n0 : Nat) (O : Old Z n0 h0) (j6_ : sT4 Z (.int z)) (hz : ¬ (z = (0 : Int32))) (E_b : eX1 Z h0 b) (j0_ : fL5 Z h0 b (.int cn)) (j12_ : o_SB Z h0 b t kt N cs) (E_t : eX0 Z h0 t) (hcn : cn.toInt = (cs.length : Int)) (hN1 : N.toInt ≤ 100) (h4 : cs.length ≤ 40) (hle_ : (cs.length : Int) ≤ N.toInt) (E_s_ : eX2 Z h0 s_) (j5_ : fL3 Z h0 s_ .null) (j3_ : fL4 Z h0 s_ (.int 0)) (g_s : n0 ≤ s_) (nsb : s_ ≠ b) (nst : s_ ≠ t) :
   o_MF l Z mN37 jdk_42_method_150_code 5 none ws rM24 #[(.ref s_), (.ref b), .null] h0 (Qsv Z s_ cs h0 n0) := by
 refine MetFree.of_bodySF (plainFor_of_name pn_2) hisR ?_
 intro p e s m args below meth c s₁ Bd hml0 hP hK
 obtain ⟨rfl, hZ, hh⟩ := hP
 have hx := Bd.exec
 have hby := Bd.bytes
 have B := @hb _ _ hby
 have hml : c.maxLocals = 5 := hml0
 have hown : s.vm.findClass "java/lang/String" = some m.cls := findClass_of_methodNamed Bd.named
 have hnm := (name_of_methodNamed Bd.named Bd.method).1
 have X0 : Stand p l e rM24 s m #[(.ref s_), (.ref b), .null] below meth c s₁ [] 0 0 := Stand.of_body Bd
 have e0 : s₁.heap = h0 := by rw [← hh, Bd.state]; rfl
 have N0 := Fr.nil n0
 have K0 := Keep.refl h0 [s_]
 refine o_start (ef_sv m s_ b) (Q := o_QE s rM24 (Qsv Z s_ cs h0 n0)) ?_
 show oF p e below (s₁.setTop (mkF m 0 #[.val (.ref s_), .val (.ref b), .val .null, .unset, .unset] [])) _
 have ecn := o_cne hcn (by omega)
 rw [ecn] at j0_
 obtain ⟨j2_, j4_, hrg, hdb⟩ := j12_
 rcases hdb with ⟨j1_, V_t, hla⟩ | ⟨j1_, V_t, hbg⟩
 ·show oF p e below (s₁.setTop (mkF m 0 #[.val (.ref s_), .val (.ref b), .val .null, .unset, .unset] [])) _
  refine oG (fun _ k => XS.aloadN X0.here hx rfl (B d28_0) rfl rfl k) ?_
  show oF p e below (s₁.setTop (mkF m 1 #[.val (.ref s_), .val (.ref b), .val .null, .unset, .unset] [(.ref s_)])) _
  obtain ⟨T4a, X4a, e4a, st4a⟩ := initO X0 hx hZ hown (ow hw 23) (ow hw 24) (ow hw 25) e0 (g := (mkF m 1 #[.val (.ref s_), .val (.ref b), .val .null, .unset, .unset] [(.ref s_)])) rfl (by rw [hml]; rfl) rfl (B d28_1) (by decide) (W := 0) (by show 2 * 0 + _ ≤ _; exact Nat.le_of_eq rfl) (by decide)
  refine oG st4a ?_
  show oF p e below (T4a.setTop (mkF m 4 #[.val (.ref s_), .val (.ref b), .val .null, .unset, .unset] [])) _
  refine oG (fun _ k => XS.aloadN X4a.here hx rfl (B d28_4) rfl rfl k) ?_
  show oF p e below (T4a.setTop (mkF m 5 #[.val (.ref s_), .val (.ref b), .val .null, .unset, .unset] [(.ref b)])) _
  obtain ⟨cq4b, kq4b, q4ba, q4bb, q4bc⟩ := isOf hZ e4a E_b
  obtain ⟨_, _, ⟨T4b, L4b, k4b, n4b⟩, -, X4b, ⟨Lc4b, hQ4b, l4b, y4b, z4b⟩, st4b⟩ := X4a.virtualBack hx (y := mN31) (z := mN31) hown (mo hZ hw 165) (mo hZ hw 166) (notFace_of_selects (args := #[]) (mo hZ hw 168)) (mo hZ hw 168) (mo hZ hw 167) (by decide) (backOf (W := 0) (gv l Z a0 hw [] b t h0 n0 O j2_) hZ (ow hw 169) (ow hw 57) (by decide) (by decide)) q4ba q4bc (g := (mkF m 5 #[.val (.ref s_), .val (.ref b), .val .null, .unset, .unset] [(.ref b)])) rfl (by rw [hml]; rfl) (Steps.refl _) (argsL := []) (rest := []) (lenOf pd_25 rfl) rfl (by show 2 * 0 + _ ≤ _; exact Nat.le_of_eq rfl) (B d28_5) (fun _ _ => ⟨rfl, e4a, (by decide : 0 + 0 ≤ _), (by decide : 0 + 0 ≤ _)⟩)
  dsimp only [Pt.U, Pt.locs, Pt.cells, Pt.slots] at X4b l4b y4b z4b st4b hQ4b
  subst y4b z4b
  obtain ⟨rfl, N4bq, e4b⟩ := hQ4b
  refine oG (fun _ k => st4b.trans k) ?_
  have N4b := oL l4b (Fr.app N0 N4bq)
  show oF p e below (T4b.setTop (mkF m 8 #[.val (.ref s_), .val (.ref b), .val .null, .unset, .unset] [(.ref t)])) _
  refine oG (fun _ k => XS.astoreN X4b.here hx rfl (B d28_8) rfl rfl (l' := #[.val (.ref s_), .val (.ref b), .val .null, .val (.ref t), .unset]) rfl (XS.aloadN X4b.here hx rfl (B d28_9) rfl rfl k)) ?_
  show oF p e below (T4b.setTop (mkF m 10 #[.val (.ref s_), .val (.ref b), .val .null, .val (.ref t), .unset] [(.ref b)])) _
  obtain ⟨cq4c, kq4c, q4ca, q4cb, q4cc⟩ := isOf hZ e4b E_b
  obtain ⟨_, _, ⟨T4c, L4c, k4c, n4c⟩, -, X4c, ⟨Lc4c, hQ4c, l4c, y4c, z4c⟩, st4c⟩ := X4b.virtualBack hx (y := mN32) (z := mN33) hown (mo hZ hw 170) (mo hZ hw 171) (o_nf (args := #[]) (mo hZ hw 92) (by exact rfl)) (mo hZ hw 173) (mo hZ hw 174) (by decide) (backOf (W := 0) (sl l Z a0 hw [] b (Int32.ofNat cs.length) h0 n0 O E_b j0_) hZ (ow hw 175) (ow hw 49) (by decide) (by decide)) q4ca q4cc (g := (mkF m 10 #[.val (.ref s_), .val (.ref b), .val .null, .val (.ref t), .unset] [(.ref b)])) rfl (by rw [hml]; rfl) (Steps.refl _) (argsL := []) (rest := []) (lenOf pd_15 rfl) rfl (by show 2 * 0 + _ ≤ _; exact Nat.le_of_eq rfl) (B d28_10) (fun _ _ => ⟨rfl, e4b, (by decide : 0 + 0 ≤ _), (by decide : 0 + 0 ≤ _)⟩)
  dsimp only [Pt.U, Pt.locs, Pt.cells, Pt.slots] at X4c l4c y4c z4c st4c hQ4c
  subst y4c z4c
  obtain ⟨rfl, N4cq, e4c⟩ := hQ4c
  refine oG (fun _ k => st4c.trans k) ?_
  have N4c := oL l4c (Fr.app N4b N4cq)
  show oF p e below (T4c.setTop (mkF m 13 #[.val (.ref s_), .val (.ref b), .val .null, .val (.ref t), .unset] [(.int (Int32.ofNat cs.length))])) _
  refine oG (fun _ k => XS.istore X4c.here hx rfl (B d28_13) rfl (l' := #[.val (.ref s_), .val (.ref b), .val .null, .val (.ref t), .val (.int (Int32.ofNat cs.length))]) rfl (XS.aloadN X4c.here hx rfl (B d28_15) rfl rfl k)) ?_
  show oF p e below (T4c.setTop (mkF m 16 #[.val (.ref s_), .val (.ref b), .val .null, .val (.ref t), .val (.int (Int32.ofNat cs.length))] [(.ref b)])) _
  obtain ⟨cq4d, kq4d, q4da, q4db, q4dc⟩ := isOf hZ e4c E_b
  obtain ⟨_, _, ⟨T4d, L4d, k4d, n4d⟩, -, X4d, ⟨Lc4d, hQ4d, l4d, y4d, z4d⟩, st4d⟩ := X4c.virtualBack hx (y := mN9) (z := mN9) hown (mo hZ hw 178) (mo hZ hw 148) (notFace_of_selects (args := #[]) (mo hZ hw 150)) (mo hZ hw 150) (mo hZ hw 149) (by decide) (backOf (W := 0) (il0 l Z a0 hw [] b z h0 n0 O j6_ hz j1_) hZ (ow hw 151) (ow hw 57) (by decide) (by decide)) q4da q4dc (g := (mkF m 16 #[.val (.ref s_), .val (.ref b), .val .null, .val (.ref t), .val (.int (Int32.ofNat cs.length))] [(.ref b)])) rfl (by rw [hml]; rfl) (Steps.refl _) (argsL := []) (rest := []) (lenOf pd_7 rfl) rfl (by show 2 * 0 + _ ≤ _; exact Nat.le_of_eq rfl) (B d28_16) (fun _ _ => ⟨rfl, e4c, (by decide : 0 + 0 ≤ _), (by decide : 0 + 0 ≤ _)⟩)
  dsimp only [Pt.U, Pt.locs, Pt.cells, Pt.slots] at X4d l4d y4d z4d st4d hQ4d
  subst y4d z4d
  obtain ⟨rfl, N4dq, e4d⟩ := hQ4d
  refine oG (fun _ k => st4d.trans k) ?_
  have N4d := oL l4d (Fr.app N4c N4dq)
  show oF p e below (T4d.setTop (mkF m 19 #[.val (.ref s_), .val (.ref b), .val .null, .val (.ref t), .val (.int (Int32.ofNat cs.length))] [(.int 1)])) _
  refine oG (fun _ k => XS.ifNo X4d.here hx rfl (B d28_19) rfl ((if0 _ _).trans (feq (by decide : ¬ ((1 : Int32) = (0 : Int32)))).1) (XS.aloadN X4d.here hx rfl (B d28_22) rfl rfl (XS.iconst X4d.here hx rfl (B d28_23) k))) ?_
  show oF p e below (T4d.setTop (mkF m 24 #[.val (.ref s_), .val (.ref b), .val .null, .val (.ref t), .val (.int (Int32.ofNat cs.length))] [(.int 0), (.ref s_)])) _
  obtain ⟨T4e, h4e, X4e, e4e, W4e, st4e⟩ := putF X4d hx hZ hown (host := "") (Or.inl (ow hw 33)) Via.refl e4d j3_ E_s_ (Or.inr ⟨(ow hw 29), rfl, hnm⟩) (ow hw 14) (ty := .byte) (by decide) rfl rfl (g := (mkF m 24 #[.val (.ref s_), .val (.ref b), .val .null, .val (.ref t), .val (.int (Int32.ofNat cs.length))] [(.int 0), (.ref s_)])) rfl rfl (B d28_24)
  refine oG st4e ?_
  have E_b := E_b.wr W4e
  have j0_ := j0_.other W4e (Or.inl (Ne.symm nsb))
  have E_t := E_t.wr W4e
  have E_s_ := E_s_.wr W4e
  have j5_ := j5_.other W4e (Or.inr (slot_ne (Or.inr (ow hw 28)) (Or.inr (ow hw 29)) (by decide) (t := (.array .byte)) (t' := .byte) (by decide) (by decide)))
  have j2_ := j2_.other W4e (Or.inl (Ne.symm nsb))
  have j4_ := j4_.other W4e (Or.inl (Ne.symm nsb))
  have j1_ := j1_.other W4e (Or.inl (Ne.symm nsb))
  have V_t := V_t.other W4e (Ne.symm nst)
  have O := O.wr W4e g_s
  have K4f := K0.wr W4e (Or.inl (List.mem_of_getElem? (i := 0) rfl))
  have j3_ := j3_.same W4e
  have N4e := Fr.snoc X4e N4d g_s
  show oF p e below (T4e.setTop (mkF m 27 #[.val (.ref s_), .val (.ref b), .val .null, .val (.ref t), .val (.int (Int32.ofNat cs.length))] [])) _
  refine oG (fun _ k => XS.aloadN X4e.here hx rfl (B d28_27) rfl rfl (XS.aloadN X4e.here hx rfl (B d28_28) rfl rfl (XS.iconst X4e.here hx rfl (B d28_29) (XS.iload X4e.here hx rfl (B d28_30) rfl k)))) ?_
  show oF p e below (T4e.setTop (mkF m 32 #[.val (.ref s_), .val (.ref b), .val .null, .val (.ref t), .val (.int (Int32.ofNat cs.length))] [(.int (Int32.ofNat cs.length)), (.int 0), (.ref t), (.ref s_)])) _
  by_cases hse : (Int32.ofNat cs.length) = N
  ·show oF p e below (T4e.setTop (mkF m 32 #[.val (.ref s_), .val (.ref b), .val .null, .val (.ref t), .val (.int (Int32.ofNat cs.length))] [(.int (Int32.ofNat cs.length)), (.int 0), (.ref t), (.ref s_)])) _
   obtain ⟨_, _, ⟨T4g, L4g, k4g, n4g⟩, -, X4g, ⟨Lc4g, hQ4g, l4g, y4g, z4g⟩, st4g⟩ := Jvm.LawKit.callS X4e hx (y := mN36) hown (mo hZ hw 179) (mo hZ hw 180) (mo hZ hw 111) (mo hZ hw 181) (by decide) (backOf (W := 1) (crE l Z a0 hw [] t (Int32.ofNat cs.length) kt N (o_u8 cs) h4e n0 O V_t E_t (o_on0 h4) (o_on1 h4) (o_on2 h4 hle_) (o_on3 h4) hse (o_tk8 h4)) hZ (ow hw 181) (ow hw 111) (by decide) (by decide)) (g := (mkF m 32 #[.val (.ref s_), .val (.ref b), .val .null, .val (.ref t), .val (.int (Int32.ofNat cs.length))] [(.int (Int32.ofNat cs.length)), (.int 0), (.ref t), (.ref s_)])) rfl (by rw [hml]; rfl) (argsL := [(.ref t), (.int 0), (.int (Int32.ofNat cs.length))]) (rest := [(.ref s_)]) (lenOf pd_24 rfl) rfl (by show 2 * 0 + _ ≤ _; exact Nat.le_of_eq rfl) (B d28_32) (fun _ _ => ⟨rfl, e4e, (by decide : 0 + 1 ≤ _), (by decide : 0 + 80 ≤ _)⟩)
   dsimp only [Pt.U, Pt.locs, Pt.cells, Pt.slots] at X4g l4g y4g z4g st4g hQ4g
   subst y4g z4g
   obtain ⟨b_4h, k_4i, rfl, N4gq, Kq4g, P4g_0, P4g_1, P4g_2⟩ := hQ4g
   refine oG st4g ?_
   have N4g := oL l4g (Fr.app N4e N4gq)
   have ne_b_b_356 : b ≠ b_4h := Nat.ne_of_lt (Nat.lt_of_lt_of_le E_b.lt P4g_0)
   have ne_t_b_356 : t ≠ b_4h := Nat.ne_of_lt (Nat.lt_of_lt_of_le E_t.lt P4g_0)
   have ne_s__b_356 : s_ ≠ b_4h := Nat.ne_of_lt (Nat.lt_of_lt_of_le E_s_.lt P4g_0)
   have g_b_356 : n0 ≤ b_4h := Nat.le_trans (o_osz O) P4g_0
   have sz_b_356 : h0.size ≤ b_4h := Nat.le_trans K4f.1 P4g_0
   have E_b := E_b.keep Kq4g
   have j0_ := j0_.keep Kq4g nin0
   have E_t := E_t.keep Kq4g
   have E_s_ := E_s_.keep Kq4g
   have j5_ := j5_.keep Kq4g nin0
   have j3_ := j3_.keep Kq4g nin0
   have j2_ := j2_.keep Kq4g nin0
   have j4_ := j4_.keep Kq4g nin0
   have j1_ := j1_.keep Kq4g nin0
   have V_t := V_t.keep Kq4g nin0
   have O := O.keep Kq4g all0
   have K4j := K4f.trans Kq4g all0
   have j97_ := P4g_1
   have j157_ := P4g_2
   obtain ⟨T4k, h4k, X4k, e4k, W4k, st4k⟩ := putF X4g hx hZ hown (host := "") (Or.inl (ow hw 32)) Via.refl rfl j5_ E_s_ (Or.inr ⟨(ow hw 28), rfl, hnm⟩) (ow hw 14) (ty := (.array .byte)) (by decide) rfl rfl (g := (mkF m 35 #[.val (.ref s_), .val (.ref b), .val .null, .val (.ref t), .val (.int (Int32.ofNat cs.length))] [(.ref b_4h), (.ref s_)])) rfl rfl (B d28_35)
   refine oG st4k ?_
   have E_b := E_b.wr W4k
   have j0_ := j0_.other W4k (Or.inl (Ne.symm nsb))
   have E_t := E_t.wr W4k
   have E_s_ := E_s_.wr W4k
   have j3_ := j3_.other W4k (Or.inr (slot_ne (Or.inr (ow hw 29)) (Or.inr (ow hw 28)) (by decide) (t := .byte) (t' := (.array .byte)) (by decide) (by decide)))
   have j2_ := j2_.other W4k (Or.inl (Ne.symm nsb))
   have j4_ := j4_.other W4k (Or.inl (Ne.symm nsb))
   have j1_ := j1_.other W4k (Or.inl (Ne.symm nsb))
   have V_t := V_t.other W4k (Ne.symm nst)
   have j97_ := j97_.other W4k (Ne.symm ne_s__b_356)
   have j157_ := j157_.wr W4k
   have O := O.wr W4k g_s
   have K4l := K4j.wr W4k (Or.inl (List.mem_of_getElem? (i := 0) rfl))
   have j5_ := j5_.same W4k
   have N4k := Fr.snoc X4k N4g g_s
   show oF p e below (T4k.setTop (mkF m 38 #[.val (.ref s_), .val (.ref b), .val .null, .val (.ref t), .val (.int (Int32.ofNat cs.length))] [])) _
   refine oG (fun _ k => XS.goto X4k.here hx rfl (pc0 := 38) (pc' := 97) rfl (B d28_38) (by decide) (by decide) k) ?_
   show oF p e below (T4k.setTop (mkF m 97 #[.val (.ref s_), .val (.ref b), .val .null, .val (.ref t), .val (.int (Int32.ofNat cs.length))] [])) _
   obtain ⟨fs, hr, r1, r2, hW, r3⟩ := X4k.leave (v := none) (fun _ => rfl)
   refine ⟨_, _, ?_, r1, r2, _, _, rfl, ?_, ⟨_, rfl⟩, hW, r3.mono (by decide) (by decide)⟩
   ·exact X4k.returnOut hx Bd.returns (B d28_97) hr
   ·show Qsv Z s_ cs h0 n0 _ T4k.heap _
    rw [e4k]
    exact ⟨b_4h, k_4i, rfl, N4k, K4l, sz_b_356, E_s_, ⟨j5_, hrg, Or.inl ⟨j3_, (by rw [o_tk8 h4] at j97_; exact j97_), hla⟩⟩⟩
  ·show oF p e below (T4e.setTop (mkF m 32 #[.val (.ref s_), .val (.ref b), .val .null, .val (.ref t), .val (.int (Int32.ofNat cs.length))] [(.int (Int32.ofNat cs.length)), (.int 0), (.ref t), (.ref s_)])) _
   obtain ⟨_, _, ⟨T4m, L4m, k4m, n4m⟩, -, X4m, ⟨Lc4m, hQ4m, l4m, y4m, z4m⟩, st4m⟩ := Jvm.LawKit.callS X4e hx (y := mN36) hown (mo hZ hw 179) (mo hZ hw 180) (mo hZ hw 111) (mo hZ hw 181) (by decide) (backOf (W := 1) (crL l Z a0 hw [] t (Int32.ofNat cs.length) kt N (o_u8 cs) h4e n0 O V_t E_t (o_on0 h4) (o_on1 h4) (o_on2 h4 hle_) (o_on3 h4) (o_on4 h4 hle_ hse) hse) hZ (ow hw 181) (ow hw 111) (by decide) (by decide)) (g := (mkF m 32 #[.val (.ref s_), .val (.ref b), .val .null, .val (.ref t), .val (.int (Int32.ofNat cs.length))] [(.int (Int32.ofNat cs.length)), (.int 0), (.ref t), (.ref s_)])) rfl (by rw [hml]; rfl) (argsL := [(.ref t), (.int 0), (.int (Int32.ofNat cs.length))]) (rest := [(.ref s_)]) (lenOf pd_24 rfl) rfl (by show 2 * 0 + _ ≤ _; exact Nat.le_of_eq rfl) (B d28_32) (fun _ _ => ⟨rfl, e4e, (by decide : 0 + 1 ≤ _), (by decide : 0 + 80 ≤ _)⟩)
   dsimp only [Pt.U, Pt.locs, Pt.cells, Pt.slots] at X4m l4m y4m z4m st4m hQ4m
   subst y4m z4m
   obtain ⟨b_4n, k_4o, rfl, N4mq, Kq4m, P4m_0, P4m_1, P4m_2⟩ := hQ4m
   refine oG st4m ?_
   have N4m := oL l4m (Fr.app N4e N4mq)
   have ne_b_b_363 : b ≠ b_4n := Nat.ne_of_lt (Nat.lt_of_lt_of_le E_b.lt P4m_0)
   have ne_t_b_363 : t ≠ b_4n := Nat.ne_of_lt (Nat.lt_of_lt_of_le E_t.lt P4m_0)
   have ne_s__b_363 : s_ ≠ b_4n := Nat.ne_of_lt (Nat.lt_of_lt_of_le E_s_.lt P4m_0)
   have g_b_363 : n0 ≤ b_4n := Nat.le_trans (o_osz O) P4m_0
   have sz_b_363 : h0.size ≤ b_4n := Nat.le_trans K4f.1 P4m_0
   have E_b := E_b.keep Kq4m
   have j0_ := j0_.keep Kq4m nin0
   have E_t := E_t.keep Kq4m
   have E_s_ := E_s_.keep Kq4m
   have j5_ := j5_.keep Kq4m nin0
   have j3_ := j3_.keep Kq4m nin0
   have j2_ := j2_.keep Kq4m nin0
   have j4_ := j4_.keep Kq4m nin0
   have j1_ := j1_.keep Kq4m nin0
   have V_t := V_t.keep Kq4m nin0
   have O := O.keep Kq4m all0
   have K4p := K4f.trans Kq4m all0
   have j98_ := P4m_1
   have j158_ := P4m_2
   obtain ⟨T4q, h4q, X4q, e4q, W4q, st4q⟩ := putF X4m hx hZ hown (host := "") (Or.inl (ow hw 32)) Via.refl rfl j5_ E_s_ (Or.inr ⟨(ow hw 28), rfl, hnm⟩) (ow hw 14) (ty := (.array .byte)) (by decide) rfl rfl (g := (mkF m 35 #[.val (.ref s_), .val (.ref b), .val .null, .val (.ref t), .val (.int (Int32.ofNat cs.length))] [(.ref b_4n), (.ref s_)])) rfl rfl (B d28_35)
   refine oG st4q ?_
   have E_b := E_b.wr W4q
   have j0_ := j0_.other W4q (Or.inl (Ne.symm nsb))
   have E_t := E_t.wr W4q
   have E_s_ := E_s_.wr W4q
   have j3_ := j3_.other W4q (Or.inr (slot_ne (Or.inr (ow hw 29)) (Or.inr (ow hw 28)) (by decide) (t := .byte) (t' := (.array .byte)) (by decide) (by decide)))
   have j2_ := j2_.other W4q (Or.inl (Ne.symm nsb))
   have j4_ := j4_.other W4q (Or.inl (Ne.symm nsb))
   have j1_ := j1_.other W4q (Or.inl (Ne.symm nsb))
   have V_t := V_t.other W4q (Ne.symm nst)
   have j98_ := j98_.other W4q (Ne.symm ne_s__b_363)
   have j158_ := j158_.wr W4q
   have O := O.wr W4q g_s
   have K4r := K4p.wr W4q (Or.inl (List.mem_of_getElem? (i := 0) rfl))
   have j5_ := j5_.same W4q
   have N4q := Fr.snoc X4q N4m g_s
   show oF p e below (T4q.setTop (mkF m 38 #[.val (.ref s_), .val (.ref b), .val .null, .val (.ref t), .val (.int (Int32.ofNat cs.length))] [])) _
   refine oG (fun _ k => XS.goto X4q.here hx rfl (pc0 := 38) (pc' := 97) rfl (B d28_38) (by decide) (by decide) k) ?_
   show oF p e below (T4q.setTop (mkF m 97 #[.val (.ref s_), .val (.ref b), .val .null, .val (.ref t), .val (.int (Int32.ofNat cs.length))] [])) _
   obtain ⟨fs, hr, r1, r2, hW, r3⟩ := X4q.leave (v := none) (fun _ => rfl)
   refine ⟨_, _, ?_, r1, r2, _, _, rfl, ?_, ⟨_, rfl⟩, hW, r3.mono (by decide) (by decide)⟩
   ·exact X4q.returnOut hx Bd.returns (B d28_97) hr
   ·show Qsv Z s_ cs h0 n0 _ T4q.heap _
    rw [e4q]
    exact ⟨b_4n, k_4o, rfl, N4q, K4r, sz_b_363, E_s_, ⟨j5_, hrg, Or.inl ⟨j3_, (by rw [o_tk8 h4] at j98_; exact j98_), hla⟩⟩⟩
 ·show oF p e below (s₁.setTop (mkF m 0 #[.val (.ref s_), .val (.ref b), .val .null, .unset, .unset] [])) _
  refine oG (fun _ k => XS.aloadN X0.here hx rfl (B d28_0) rfl rfl k) ?_
  show oF p e below (s₁.setTop (mkF m 1 #[.val (.ref s_), .val (.ref b), .val .null, .unset, .unset] [(.ref s_)])) _
  obtain ⟨T4s, X4s, e4s, st4s⟩ := initO X0 hx hZ hown (ow hw 23) (ow hw 24) (ow hw 25) e0 (g := (mkF m 1 #[.val (.ref s_), .val (.ref b), .val .null, .unset, .unset] [(.ref s_)])) rfl (by rw [hml]; rfl) rfl (B d28_1) (by decide) (W := 0) (by show 2 * 0 + _ ≤ _; exact Nat.le_of_eq rfl) (by decide)
  refine oG st4s ?_
  show oF p e below (T4s.setTop (mkF m 4 #[.val (.ref s_), .val (.ref b), .val .null, .unset, .unset] [])) _
  refine oG (fun _ k => XS.aloadN X4s.here hx rfl (B d28_4) rfl rfl k) ?_
  show oF p e below (T4s.setTop (mkF m 5 #[.val (.ref s_), .val (.ref b), .val .null, .unset, .unset] [(.ref b)])) _
  obtain ⟨cq4t, kq4t, q4ta, q4tb, q4tc⟩ := isOf hZ e4s E_b
  obtain ⟨_, _, ⟨T4t, L4t, k4t, n4t⟩, -, X4t, ⟨Lc4t, hQ4t, l4t, y4t, z4t⟩, st4t⟩ := X4s.virtualBack hx (y := mN31) (z := mN31) hown (mo hZ hw 165) (mo hZ hw 166) (notFace_of_selects (args := #[]) (mo hZ hw 168)) (mo hZ hw 168) (mo hZ hw 167) (by decide) (backOf (W := 0) (gv l Z a0 hw [] b t h0 n0 O j2_) hZ (ow hw 169) (ow hw 57) (by decide) (by decide)) q4ta q4tc (g := (mkF m 5 #[.val (.ref s_), .val (.ref b), .val .null, .unset, .unset] [(.ref b)])) rfl (by rw [hml]; rfl) (Steps.refl _) (argsL := []) (rest := []) (lenOf pd_25 rfl) rfl (by show 2 * 0 + _ ≤ _; exact Nat.le_of_eq rfl) (B d28_5) (fun _ _ => ⟨rfl, e4s, (by decide : 0 + 0 ≤ _), (by decide : 0 + 0 ≤ _)⟩)
  dsimp only [Pt.U, Pt.locs, Pt.cells, Pt.slots] at X4t l4t y4t z4t st4t hQ4t
  subst y4t z4t
  obtain ⟨rfl, N4tq, e4t⟩ := hQ4t
  refine oG (fun _ k => st4t.trans k) ?_
  have N4t := oL l4t (Fr.app N0 N4tq)
  show oF p e below (T4t.setTop (mkF m 8 #[.val (.ref s_), .val (.ref b), .val .null, .unset, .unset] [(.ref t)])) _
  refine oG (fun _ k => XS.astoreN X4t.here hx rfl (B d28_8) rfl rfl (l' := #[.val (.ref s_), .val (.ref b), .val .null, .val (.ref t), .unset]) rfl (XS.aloadN X4t.here hx rfl (B d28_9) rfl rfl k)) ?_
  show oF p e below (T4t.setTop (mkF m 10 #[.val (.ref s_), .val (.ref b), .val .null, .val (.ref t), .unset] [(.ref b)])) _
  obtain ⟨cq4u, kq4u, q4ua, q4ub, q4uc⟩ := isOf hZ e4t E_b
  obtain ⟨_, _, ⟨T4u, L4u, k4u, n4u⟩, -, X4u, ⟨Lc4u, hQ4u, l4u, y4u, z4u⟩, st4u⟩ := X4t.virtualBack hx (y := mN32) (z := mN33) hown (mo hZ hw 170) (mo hZ hw 171) (o_nf (args := #[]) (mo hZ hw 92) (by exact rfl)) (mo hZ hw 173) (mo hZ hw 174) (by decide) (backOf (W := 0) (sl l Z a0 hw [] b (Int32.ofNat cs.length) h0 n0 O E_b j0_) hZ (ow hw 175) (ow hw 49) (by decide) (by decide)) q4ua q4uc (g := (mkF m 10 #[.val (.ref s_), .val (.ref b), .val .null, .val (.ref t), .unset] [(.ref b)])) rfl (by rw [hml]; rfl) (Steps.refl _) (argsL := []) (rest := []) (lenOf pd_15 rfl) rfl (by show 2 * 0 + _ ≤ _; exact Nat.le_of_eq rfl) (B d28_10) (fun _ _ => ⟨rfl, e4t, (by decide : 0 + 0 ≤ _), (by decide : 0 + 0 ≤ _)⟩)
  dsimp only [Pt.U, Pt.locs, Pt.cells, Pt.slots] at X4u l4u y4u z4u st4u hQ4u
  subst y4u z4u
  obtain ⟨rfl, N4uq, e4u⟩ := hQ4u
  refine oG (fun _ k => st4u.trans k) ?_
  have N4u := oL l4u (Fr.app N4t N4uq)
  show oF p e below (T4u.setTop (mkF m 13 #[.val (.ref s_), .val (.ref b), .val .null, .val (.ref t), .unset] [(.int (Int32.ofNat cs.length))])) _
  refine oG (fun _ k => XS.istore X4u.here hx rfl (B d28_13) rfl (l' := #[.val (.ref s_), .val (.ref b), .val .null, .val (.ref t), .val (.int (Int32.ofNat cs.length))]) rfl (XS.aloadN X4u.here hx rfl (B d28_15) rfl rfl k)) ?_
  show oF p e below (T4u.setTop (mkF m 16 #[.val (.ref s_), .val (.ref b), .val .null, .val (.ref t), .val (.int (Int32.ofNat cs.length))] [(.ref b)])) _
  obtain ⟨cq4v, kq4v, q4va, q4vb, q4vc⟩ := isOf hZ e4u E_b
  obtain ⟨_, _, ⟨T4v, L4v, k4v, n4v⟩, -, X4v, ⟨Lc4v, hQ4v, l4v, y4v, z4v⟩, st4v⟩ := X4u.virtualBack hx (y := mN9) (z := mN9) hown (mo hZ hw 178) (mo hZ hw 148) (notFace_of_selects (args := #[]) (mo hZ hw 150)) (mo hZ hw 150) (mo hZ hw 149) (by decide) (backOf (W := 0) (il1 l Z a0 hw [] b z h0 n0 O j6_ hz j1_) hZ (ow hw 151) (ow hw 57) (by decide) (by decide)) q4va q4vc (g := (mkF m 16 #[.val (.ref s_), .val (.ref b), .val .null, .val (.ref t), .val (.int (Int32.ofNat cs.length))] [(.ref b)])) rfl (by rw [hml]; rfl) (Steps.refl _) (argsL := []) (rest := []) (lenOf pd_7 rfl) rfl (by show 2 * 0 + _ ≤ _; exact Nat.le_of_eq rfl) (B d28_16) (fun _ _ => ⟨rfl, e4u, (by decide : 0 + 0 ≤ _), (by decide : 0 + 0 ≤ _)⟩)
  dsimp only [Pt.U, Pt.locs, Pt.cells, Pt.slots] at X4v l4v y4v z4v st4v hQ4v
  subst y4v z4v
  obtain ⟨rfl, N4vq, e4v⟩ := hQ4v
  refine oG (fun _ k => st4v.trans k) ?_
  have N4v := oL l4v (Fr.app N4u N4vq)
  show oF p e below (T4v.setTop (mkF m 19 #[.val (.ref s_), .val (.ref b), .val .null, .val (.ref t), .val (.int (Int32.ofNat cs.length))] [(.int 0)])) _
  refine oG (fun _ k => XS.ifYes X4v.here hx rfl (pc0 := 19) (pc' := 41) rfl (B d28_19) rfl ((if0 _ _).trans (teq (by decide : (0 : Int32) = (0 : Int32))).1) (by decide) (by decide) k) ?_
  show oF p e below (T4v.setTop (mkF m 41 #[.val (.ref s_), .val (.ref b), .val .null, .val (.ref t), .val (.int (Int32.ofNat cs.length))] [])) _
  obtain ⟨T4w, X4w, e4w, st4w⟩ := getS2 X4v hx hZ hown (host := "") (Or.inl (ow hw 86)) Via.refl e4v (j6_.ext O.2) (g := (mkF m 41 #[.val (.ref s_), .val (.ref b), .val .null, .val (.ref t), .val (.int (Int32.ofNat cs.length))] [])) rfl (B d28_41)
  refine oG st4w ?_
  show oF p e below (T4w.setTop (mkF m 44 #[.val (.ref s_), .val (.ref b), .val .null, .val (.ref t), .val (.int (Int32.ofNat cs.length))] [(.int z)])) _
  refine oG (fun _ k => XS.ifNo X4w.here hx rfl (B d28_44) rfl ((if0 _ _).trans (feq hz).1) (XS.aloadN X4w.here hx rfl (B d28_47) rfl rfl k)) ?_
  show oF p e below (T4w.setTop (mkF m 48 #[.val (.ref s_), .val (.ref b), .val .null, .val (.ref t), .val (.int (Int32.ofNat cs.length))] [(.ref b)])) _
  obtain ⟨T4x, X4x, e4x, st4x⟩ := getF X4w hx hZ hown (host := "") (Or.inl (ow hw 266)) Via.refl e4w j4_ (g := (mkF m 48 #[.val (.ref s_), .val (.ref b), .val .null, .val (.ref t), .val (.int (Int32.ofNat cs.length))] [(.ref b)])) rfl rfl (B d28_48)
  refine oG st4x ?_
  show oF p e below (T4x.setTop (mkF m 51 #[.val (.ref s_), .val (.ref b), .val .null, .val (.ref t), .val (.int (Int32.ofNat cs.length))] [(.int 0)])) _
  refine oG (fun _ k => XS.ifYes X4x.here hx rfl (pc0 := 51) (pc' := 79) rfl (B d28_51) rfl ((if0 _ _).trans (teq (by decide : (0 : Int32) = (0 : Int32))).1) (by decide) (by decide) (XS.aloadN X4x.here hx rfl (B d28_79) rfl rfl (XS.iconst X4x.here hx rfl (B d28_80) k))) ?_
  show oF p e below (T4x.setTop (mkF m 81 #[.val (.ref s_), .val (.ref b), .val .null, .val (.ref t), .val (.int (Int32.ofNat cs.length))] [(.int 1), (.ref s_)])) _
  obtain ⟨T4y, h4y, X4y, e4y, W4y, st4y⟩ := putF X4x hx hZ hown (host := "") (Or.inl (ow hw 33)) Via.refl e4x j3_ E_s_ (Or.inr ⟨(ow hw 29), rfl, hnm⟩) (ow hw 14) (ty := .byte) (by decide) rfl rfl (g := (mkF m 81 #[.val (.ref s_), .val (.ref b), .val .null, .val (.ref t), .val (.int (Int32.ofNat cs.length))] [(.int 1), (.ref s_)])) rfl rfl (B d28_81)
  refine oG st4y ?_
  have E_b := E_b.wr W4y
  have j0_ := j0_.other W4y (Or.inl (Ne.symm nsb))
  have E_t := E_t.wr W4y
  have E_s_ := E_s_.wr W4y
  have j5_ := j5_.other W4y (Or.inr (slot_ne (Or.inr (ow hw 28)) (Or.inr (ow hw 29)) (by decide) (t := (.array .byte)) (t' := .byte) (by decide) (by decide)))
  have j2_ := j2_.other W4y (Or.inl (Ne.symm nsb))
  have j4_ := j4_.other W4y (Or.inl (Ne.symm nsb))
  have j1_ := j1_.other W4y (Or.inl (Ne.symm nsb))
  have V_t := V_t.other W4y (Ne.symm nst)
  have O := O.wr W4y g_s
  have K4z := K0.wr W4y (Or.inl (List.mem_of_getElem? (i := 0) rfl))
  have j3_ := j3_.same W4y
  have N4y := Fr.snoc X4y N4v g_s
  show oF p e below (T4y.setTop (mkF m 84 #[.val (.ref s_), .val (.ref b), .val .null, .val (.ref t), .val (.int (Int32.ofNat cs.length))] [])) _
  refine oG (fun _ k => XS.aloadN X4y.here hx rfl (B d28_84) rfl rfl (XS.aloadN X4y.here hx rfl (B d28_85) rfl rfl (XS.iconst X4y.here hx rfl (B d28_86) (XS.iload X4y.here hx rfl (B d28_87) rfl (XS.iconst X4y.here hx rfl (B d28_89) (XS.ishl X4y.here hx rfl (B d28_90) rfl k)))))) ?_
  show oF p e below (T4y.setTop (mkF m 91 #[.val (.ref s_), .val (.ref b), .val .null, .val (.ref t), .val (.int (Int32.ofNat cs.length))] [(.int ((Int32.ofNat cs.length) <<< ((1 : Int32) &&& 31))), (.int 0), (.ref t), (.ref s_)])) _
  by_cases hse : ((Int32.ofNat cs.length) <<< ((1 : Int32) &&& 31)) = (N <<< ((1 : Int32) &&& 31))
  ·show oF p e below (T4y.setTop (mkF m 91 #[.val (.ref s_), .val (.ref b), .val .null, .val (.ref t), .val (.int (Int32.ofNat cs.length))] [(.int ((Int32.ofNat cs.length) <<< ((1 : Int32) &&& 31))), (.int 0), (.ref t), (.ref s_)])) _
   obtain ⟨_, _, ⟨T4A, L4A, k4A, n4A⟩, -, X4A, ⟨Lc4A, hQ4A, l4A, y4A, z4A⟩, st4A⟩ := Jvm.LawKit.callS X4y hx (y := mN36) hown (mo hZ hw 179) (mo hZ hw 180) (mo hZ hw 111) (mo hZ hw 181) (by decide) (backOf (W := 1) (crE l Z a0 hw [] t ((Int32.ofNat cs.length) <<< ((1 : Int32) &&& 31)) kt (N <<< ((1 : Int32) &&& 31)) (o_u16 cs) h4y n0 O V_t E_t (o_oz0 h4) (o_oz1 h4) (o_oz2 h4 hle_ hN1) (o_oz3 h4) hse (o_tk16 h4)) hZ (ow hw 181) (ow hw 111) (by decide) (by decide)) (g := (mkF m 91 #[.val (.ref s_), .val (.ref b), .val .null, .val (.ref t), .val (.int (Int32.ofNat cs.length))] [(.int ((Int32.ofNat cs.length) <<< ((1 : Int32) &&& 31))), (.int 0), (.ref t), (.ref s_)])) rfl (by rw [hml]; rfl) (argsL := [(.ref t), (.int 0), (.int ((Int32.ofNat cs.length) <<< ((1 : Int32) &&& 31)))]) (rest := [(.ref s_)]) (lenOf pd_24 rfl) rfl (by show 2 * 0 + _ ≤ _; exact Nat.le_of_eq rfl) (B d28_91) (fun _ _ => ⟨rfl, e4y, (by decide : 0 + 1 ≤ _), (by decide : 0 + 80 ≤ _)⟩)
   dsimp only [Pt.U, Pt.locs, Pt.cells, Pt.slots] at X4A l4A y4A z4A st4A hQ4A
   subst y4A z4A
   obtain ⟨b_4B, k_4C, rfl, N4Aq, Kq4A, P4A_0, P4A_1, P4A_2⟩ := hQ4A
   refine oG st4A ?_
   have N4A := oL l4A (Fr.app N4y N4Aq)
   have ne_b_b_378 : b ≠ b_4B := Nat.ne_of_lt (Nat.lt_of_lt_of_le E_b.lt P4A_0)
   have ne_t_b_378 : t ≠ b_4B := Nat.ne_of_lt (Nat.lt_of_lt_of_le E_t.lt P4A_0)
   have ne_s__b_378 : s_ ≠ b_4B := Nat.ne_of_lt (Nat.lt_of_lt_of_le E_s_.lt P4A_0)
   have g_b_378 : n0 ≤ b_4B := Nat.le_trans (o_osz O) P4A_0
   have sz_b_378 : h0.size ≤ b_4B := Nat.le_trans K4z.1 P4A_0
   have E_b := E_b.keep Kq4A
   have j0_ := j0_.keep Kq4A nin0
   have E_t := E_t.keep Kq4A
   have E_s_ := E_s_.keep Kq4A
   have j5_ := j5_.keep Kq4A nin0
   have j3_ := j3_.keep Kq4A nin0
   have j2_ := j2_.keep Kq4A nin0
   have j4_ := j4_.keep Kq4A nin0
   have j1_ := j1_.keep Kq4A nin0
   have V_t := V_t.keep Kq4A nin0
   have O := O.keep Kq4A all0
   have K4D := K4z.trans Kq4A all0
   have j99_ := P4A_1
   have j159_ := P4A_2
   obtain ⟨T4E, h4E, X4E, e4E, W4E, st4E⟩ := putF X4A hx hZ hown (host := "") (Or.inl (ow hw 32)) Via.refl rfl j5_ E_s_ (Or.inr ⟨(ow hw 28), rfl, hnm⟩) (ow hw 14) (ty := (.array .byte)) (by decide) rfl rfl (g := (mkF m 94 #[.val (.ref s_), .val (.ref b), .val .null, .val (.ref t), .val (.int (Int32.ofNat cs.length))] [(.ref b_4B), (.ref s_)])) rfl rfl (B d28_94)
   refine oG st4E ?_
   have E_b := E_b.wr W4E
   have j0_ := j0_.other W4E (Or.inl (Ne.symm nsb))
   have E_t := E_t.wr W4E
   have E_s_ := E_s_.wr W4E
   have j3_ := j3_.other W4E (Or.inr (slot_ne (Or.inr (ow hw 29)) (Or.inr (ow hw 28)) (by decide) (t := .byte) (t' := (.array .byte)) (by decide) (by decide)))
   have j2_ := j2_.other W4E (Or.inl (Ne.symm nsb))
   have j4_ := j4_.other W4E (Or.inl (Ne.symm nsb))
   have j1_ := j1_.other W4E (Or.inl (Ne.symm nsb))
   have V_t := V_t.other W4E (Ne.symm nst)
   have j99_ := j99_.other W4E (Ne.symm ne_s__b_378)
   have j159_ := j159_.wr W4E
   have O := O.wr W4E g_s
   have K4F := K4D.wr W4E (Or.inl (List.mem_of_getElem? (i := 0) rfl))
   have j5_ := j5_.same W4E
   have N4E := Fr.snoc X4E N4A g_s
   show oF p e below (T4E.setTop (mkF m 97 #[.val (.ref s_), .val (.ref b), .val .null, .val (.ref t), .val (.int (Int32.ofNat cs.length))] [])) _
   obtain ⟨fs, hr, r1, r2, hW, r3⟩ := X4E.leave (v := none) (fun _ => rfl)
   refine ⟨_, _, ?_, r1, r2, _, _, rfl, ?_, ⟨_, rfl⟩, hW, r3.mono (by decide) (by decide)⟩
   ·exact X4E.returnOut hx Bd.returns (B d28_97) hr
   ·show Qsv Z s_ cs h0 n0 _ T4E.heap _
    rw [e4E]
    exact ⟨b_4B, k_4C, rfl, N4E, K4F, sz_b_378, E_s_, ⟨j5_, hrg, Or.inr ⟨j3_, (by rw [o_tk16 h4] at j99_; exact j99_), hbg⟩⟩⟩
  ·show oF p e below (T4y.setTop (mkF m 91 #[.val (.ref s_), .val (.ref b), .val .null, .val (.ref t), .val (.int (Int32.ofNat cs.length))] [(.int ((Int32.ofNat cs.length) <<< ((1 : Int32) &&& 31))), (.int 0), (.ref t), (.ref s_)])) _
   obtain ⟨_, _, ⟨T4G, L4G, k4G, n4G⟩, -, X4G, ⟨Lc4G, hQ4G, l4G, y4G, z4G⟩, st4G⟩ := Jvm.LawKit.callS X4y hx (y := mN36) hown (mo hZ hw 179) (mo hZ hw 180) (mo hZ hw 111) (mo hZ hw 181) (by decide) (backOf (W := 1) (crL l Z a0 hw [] t ((Int32.ofNat cs.length) <<< ((1 : Int32) &&& 31)) kt (N <<< ((1 : Int32) &&& 31)) (o_u16 cs) h4y n0 O V_t E_t (o_oz0 h4) (o_oz1 h4) (o_oz2 h4 hle_ hN1) (o_oz3 h4) (o_oz4 h4 hle_ hN1 hse) hse) hZ (ow hw 181) (ow hw 111) (by decide) (by decide)) (g := (mkF m 91 #[.val (.ref s_), .val (.ref b), .val .null, .val (.ref t), .val (.int (Int32.ofNat cs.length))] [(.int ((Int32.ofNat cs.length) <<< ((1 : Int32) &&& 31))), (.int 0), (.ref t), (.ref s_)])) rfl (by rw [hml]; rfl) (argsL := [(.ref t), (.int 0), (.int ((Int32.ofNat cs.length) <<< ((1 : Int32) &&& 31)))]) (rest := [(.ref s_)]) (lenOf pd_24 rfl) rfl (by show 2 * 0 + _ ≤ _; exact Nat.le_of_eq rfl) (B d28_91) (fun _ _ => ⟨rfl, e4y, (by decide : 0 + 1 ≤ _), (by decide : 0 + 80 ≤ _)⟩)
   dsimp only [Pt.U, Pt.locs, Pt.cells, Pt.slots] at X4G l4G y4G z4G st4G hQ4G
   subst y4G z4G
   obtain ⟨b_4H, k_4I, rfl, N4Gq, Kq4G, P4G_0, P4G_1, P4G_2⟩ := hQ4G
   refine oG st4G ?_
   have N4G := oL l4G (Fr.app N4y N4Gq)
   have ne_b_b_385 : b ≠ b_4H := Nat.ne_of_lt (Nat.lt_of_lt_of_le E_b.lt P4G_0)
   have ne_t_b_385 : t ≠ b_4H := Nat.ne_of_lt (Nat.lt_of_lt_of_le E_t.lt P4G_0)
   have ne_s__b_385 : s_ ≠ b_4H := Nat.ne_of_lt (Nat.lt_of_lt_of_le E_s_.lt P4G_0)
   have g_b_385 : n0 ≤ b_4H := Nat.le_trans (o_osz O) P4G_0
   have sz_b_385 : h0.size ≤ b_4H := Nat.le_trans K4z.1 P4G_0
   have E_b := E_b.keep Kq4G
   have j0_ := j0_.keep Kq4G nin0
   have E_t := E_t.keep Kq4G
   have E_s_ := E_s_.keep Kq4G
   have j5_ := j5_.keep Kq4G nin0
   have j3_ := j3_.keep Kq4G nin0
   have j2_ := j2_.keep Kq4G nin0
   have j4_ := j4_.keep Kq4G nin0
   have j1_ := j1_.keep Kq4G nin0
   have V_t := V_t.keep Kq4G nin0
   have O := O.keep Kq4G all0
   have K4J := K4z.trans Kq4G all0
   have j100_ := P4G_1
   have j160_ := P4G_2
   obtain ⟨T4K, h4K, X4K, e4K, W4K, st4K⟩ := putF X4G hx hZ hown (host := "") (Or.inl (ow hw 32)) Via.refl rfl j5_ E_s_ (Or.inr ⟨(ow hw 28), rfl, hnm⟩) (ow hw 14) (ty := (.array .byte)) (by decide) rfl rfl (g := (mkF m 94 #[.val (.ref s_), .val (.ref b), .val .null, .val (.ref t), .val (.int (Int32.ofNat cs.length))] [(.ref b_4H), (.ref s_)])) rfl rfl (B d28_94)
   refine oG st4K ?_
   have E_b := E_b.wr W4K
   have j0_ := j0_.other W4K (Or.inl (Ne.symm nsb))
   have E_t := E_t.wr W4K
   have E_s_ := E_s_.wr W4K
   have j3_ := j3_.other W4K (Or.inr (slot_ne (Or.inr (ow hw 29)) (Or.inr (ow hw 28)) (by decide) (t := .byte) (t' := (.array .byte)) (by decide) (by decide)))
   have j2_ := j2_.other W4K (Or.inl (Ne.symm nsb))
   have j4_ := j4_.other W4K (Or.inl (Ne.symm nsb))
   have j1_ := j1_.other W4K (Or.inl (Ne.symm nsb))
   have V_t := V_t.other W4K (Ne.symm nst)
   have j100_ := j100_.other W4K (Ne.symm ne_s__b_385)
   have j160_ := j160_.wr W4K
   have O := O.wr W4K g_s
   have K4L := K4J.wr W4K (Or.inl (List.mem_of_getElem? (i := 0) rfl))
   have j5_ := j5_.same W4K
   have N4K := Fr.snoc X4K N4G g_s
   show oF p e below (T4K.setTop (mkF m 97 #[.val (.ref s_), .val (.ref b), .val .null, .val (.ref t), .val (.int (Int32.ofNat cs.length))] [])) _
   obtain ⟨fs, hr, r1, r2, hW, r3⟩ := X4K.leave (v := none) (fun _ => rfl)
   refine ⟨_, _, ?_, r1, r2, _, _, rfl, ?_, ⟨_, rfl⟩, hW, r3.mono (by decide) (by decide)⟩
   ·exact X4K.returnOut hx Bd.returns (B d28_97) hr
   ·show Qsv Z s_ cs h0 n0 _ T4K.heap _
    rw [e4K]
    exact ⟨b_4H, k_4I, rfl, N4K, K4L, sz_b_385, E_s_, ⟨j5_, hrg, Or.inr ⟨j3_, (by rw [o_tk16 h4] at j100_; exact j100_), hbg⟩⟩⟩
theorem d27_0 : decode k38_ 0 = .ok (.aload_n 0, 1) := by decide +kernel
theorem d27_1 : decode k38_ 1 = .ok (.aload_n 1, 1) := by decide +kernel
theorem d27_2 : decode k38_ 2 = .ok (.aconst_null, 1) := by decide +kernel
theorem d27_3 : decode k38_ 3 = .ok (.invokespecial 489, 3) := by decide +kernel
theorem pd_26 : parseMethodDescriptor "(Ljava/lang/AbstractStringBuilder;Ljava/lang/Void;)V" = some ⟨[(.object "java/lang/AbstractStringBuilder"), (.object "java/lang/Void")], none⟩ := by decide +kernel
theorem d27_6 : decode k38_ 6 = .ok (.return_, 1) := by decide +kernel
def Qsw (Z : State) (s_ : Addr) (cs : List Int32) (h0 : Heap) (n0 : Nat) (v : Option Value) (h : Heap) (L : List Loc) : Prop := ∃ (t2_ : Addr) (k2_ : ClassId), v = none ∧ Fr n0 L ∧ Keep h0 h [s_] ∧ h0.size ≤ t2_ ∧ eX2 Z h s_ ∧ o_ST Z h s_ t2_ k2_ cs
theorem sw (l : Launch) (Z : State) (a0 : Array Value) (hw : ∀ d ∈ tables_1, d.before a0 Z = true) (ws : List Jvm.Cond) (s_ : Addr) (b : Addr) (z : Int32) (t : Addr) (kt : ClassId) (N : Int32) (cn : Int32) (cs : List Int32) (h0 : Heap) (n0 : Nat) (O : Old Z n0 h0) (j6_ : sT4 Z (.int z)) (hz : ¬ (z = (0 : Int32))) (E_b : eX1 Z h0 b) (j0_ : fL5 Z h0 b (.int cn)) (j12_ : o_SB Z h0 b t kt N cs) (E_t : eX0 Z h0 t) (hcn : cn.toInt = (cs.length : Int)) (hN1 : N.toInt ≤ 100) (h4 : cs.length ≤ 40) (hle_ : (cs.length : Int) ≤ N.toInt) (E_s_ : eX2 Z h0 s_) (j5_ : fL3 Z h0 s_ .null) (j3_ : fL4 Z h0 s_ (.int 0)) (g_s : n0 ≤ s_) (nsb : s_ ≠ b) (nst : s_ ≠ t) :
   o_MF l Z mN38 jdk_42_method_53_code 2 none ws rM25 #[(.ref s_), (.ref b)] h0 (Qsw Z s_ cs h0 n0) := by
 refine MetFree.of_bodySF (plainFor_of_name pn_2) hisR ?_
 intro p e s m args below meth c s₁ Bd hml0 hP hK
 obtain ⟨rfl, hZ, hh⟩ := hP
 have hx := Bd.exec
 have hby := Bd.bytes
 have B := @hb _ _ hby
 have hml : c.maxLocals = 2 := hml0
 have hown : s.vm.findClass "java/lang/String" = some m.cls := findClass_of_methodNamed Bd.named
 have X0 : Stand p l e rM25 s m #[(.ref s_), (.ref b)] below meth c s₁ [] 0 0 := Stand.of_body Bd
 have e0 : s₁.heap = h0 := by rw [← hh, Bd.state]; rfl
 have N0 := Fr.nil n0
 have K0 := Keep.refl h0 [s_]
 refine o_start (ef_iin00 m s_ b) (Q := o_QE s rM25 (Qsw Z s_ cs h0 n0)) ?_
 show oF p e below (s₁.setTop (mkF m 0 #[.val (.ref s_), .val (.ref b)] [])) _
 refine oG (fun _ k => XS.aloadN X0.here hx rfl (B d27_0) rfl rfl (XS.aloadN X0.here hx rfl (B d27_1) rfl rfl (XS.aconstNull X0.here hx rfl (B d27_2) k))) ?_
 show oF p e below (s₁.setTop (mkF m 3 #[.val (.ref s_), .val (.ref b)] [.null, (.ref b), (.ref s_)])) _
 obtain ⟨_, _, ⟨T4M, L4M, k4M, n4M⟩, -, X4M, ⟨Lc4M, hQ4M, l4M, y4M, z4M⟩, st4M⟩ := X0.specialBack hx (y := mN37) rfl hown (mo hZ hw 162) (mo hZ hw 163) (mo hZ hw 164) (by decide) (backOf (W := 0) (sv l Z a0 hw [] s_ b z t kt N cn cs h0 n0 O j6_ hz E_b j0_ j12_ E_t hcn hN1 h4 hle_ E_s_ j5_ j3_ g_s nsb nst) hZ (ow hw 164) (ow hw 15) (by decide) (by decide)) (g := (mkF m 3 #[.val (.ref s_), .val (.ref b)] [.null, (.ref b), (.ref s_)])) rfl (by rw [hml]; rfl) (Steps.refl _) (a := s_) (argsL := [(.ref b), .null]) (rest := []) (lenOf pd_26 rfl) rfl (by show 2 * 0 + _ ≤ _; exact Nat.le_of_eq rfl) (B d27_3) (fun _ _ => ⟨rfl, e0, (by decide : 0 + 1 ≤ _), (by decide : 0 + 80 ≤ _)⟩)
 dsimp only [Pt.U, Pt.locs, Pt.cells, Pt.slots] at X4M l4M y4M z4M st4M hQ4M
 subst y4M z4M
 obtain ⟨t2_4N, k2_4O, rfl, N4Mq, Kq4M, P4M_0, P4M_1, P4M_2⟩ := hQ4M
 refine oG (fun _ k => st4M.trans k) ?_
 have N4M := oL l4M (Fr.app N0 N4Mq)
 have ne_b_t2_392 : b ≠ t2_4N := Nat.ne_of_lt (Nat.lt_of_lt_of_le E_b.lt P4M_0)
 have ne_t_t2_392 : t ≠ t2_4N := Nat.ne_of_lt (Nat.lt_of_lt_of_le E_t.lt P4M_0)
 have ne_s__t2_392 : s_ ≠ t2_4N := Nat.ne_of_lt (Nat.lt_of_lt_of_le E_s_.lt P4M_0)
 have g_t2_392 : n0 ≤ t2_4N := Nat.le_trans (o_osz O) P4M_0
 have sz_t2_392 : h0.size ≤ t2_4N := Nat.le_trans K0.1 P4M_0
 have E_b := E_b.keep Kq4M
 have j0_ := j0_.keep Kq4M (ninS (Ne.symm nsb) nin0)
 have j12_ := o_SB_keep j12_ Kq4M (ninS (Ne.symm nsb) nin0) (ninS (Ne.symm nst) nin0)
 have E_t := E_t.keep Kq4M
 have E_s_ := E_s_.keep Kq4M
 clear j5_
 clear j3_
 have O := O.keep Kq4M (allS g_s all0)
 have K4P := K0.trans Kq4M (allS (Or.inl (List.mem_of_getElem? (i := 0) rfl)) all0)
 have E_s_ := P4M_1
 have j7_ := P4M_2
 show oF p e below (T4M.setTop (mkF m 6 #[.val (.ref s_), .val (.ref b)] [])) _
 obtain ⟨fs, hr, r1, r2, hW, r3⟩ := X4M.leave (v := none) (fun _ => rfl)
 refine ⟨_, _, ?_, r1, r2, _, _, rfl, ?_, ⟨_, rfl⟩, hW, r3.mono (by decide) (by decide)⟩
 ·exact X4M.returnOut hx Bd.returns (B d27_6) hr
 ·show Qsw Z s_ cs h0 n0 _ T4M.heap _
  exact ⟨t2_4N, k2_4O, rfl, N4M, K4P, sz_t2_392, E_s_, j7_⟩
theorem d26_0 : decode k39_ 0 = .ok (.new 18, 3) := by decide +kernel
theorem d26_3 : decode k39_ 3 = .ok (.dup, 1) := by decide +kernel
theorem d26_4 : decode k39_ 4 = .ok (.aload_n 0, 1) := by decide +kernel
theorem d26_5 : decode k39_ 5 = .ok (.invokespecial 137, 3) := by decide +kernel
theorem pd_27 : parseMethodDescriptor "(Ljava/lang/StringBuilder;)V" = some ⟨[(.object "java/lang/StringBuilder")], none⟩ := by decide +kernel
theorem d26_8 : decode k39_ 8 = .ok (.areturn, 1) := by decide +kernel
def Qtos (Z : State) (cs : List Int32) (h0 : Heap) (n0 : Nat) (v : Option Value) (h : Heap) (L : List Loc) : Prop := ∃ (s_ : Addr) (t2_ : Addr) (k2_ : ClassId), v = some (.ref s_) ∧ Fr n0 L ∧ Keep h0 h [] ∧ h0.size ≤ s_ ∧ h0.size ≤ t2_ ∧ eX2 Z h s_ ∧ o_ST Z h s_ t2_ k2_ cs
theorem tos (l : Launch) (Z : State) (a0 : Array Value) (hw : ∀ d ∈ tables_1, d.before a0 Z = true) (ws : List Jvm.Cond) (b : Addr) (z : Int32) (t : Addr) (kt : ClassId) (N : Int32) (cn : Int32) (cs : List Int32) (h0 : Heap) (n0 : Nat) (O : Old Z n0 h0) (j6_ : sT4 Z (.int z)) (hz : ¬ (z = (0 : Int32))) (E_b : eX1 Z h0 b) (j0_ : fL5 Z h0 b (.int cn)) (j12_ : o_SB Z h0 b t kt N cs) (E_t : eX0 Z h0 t) (hcn : cn.toInt = (cs.length : Int)) (hN1 : N.toInt ≤ 100) (h4 : cs.length ≤ 40) (hle_ : (cs.length : Int) ≤ N.toInt) :
   o_MF l Z mN39 jdk_67_method_42_code 1 (some (.object "java/lang/String")) ws rM26 #[(.ref b)] h0 (Qtos Z cs h0 n0) := by
 refine MetFree.of_bodySF (plainFor_of_name pn_7) hisR ?_
 intro p e s m args below meth c s₁ Bd hml0 hP hK
 obtain ⟨rfl, hZ, hh⟩ := hP
 have hx := Bd.exec
 have hby := Bd.bytes
 have B := @hb _ _ hby
 have hml : c.maxLocals = 1 := hml0
 have hown : s.vm.findClass "java/lang/StringBuilder" = some m.cls := findClass_of_methodNamed Bd.named
 have X0 : Stand p l e rM26 s m #[(.ref b)] below meth c s₁ [] 0 0 := Stand.of_body Bd
 have e0 : s₁.heap = h0 := by rw [← hh, Bd.state]; rfl
 have N0 := Fr.nil n0
 have K0 := Keep.refl h0 []
 refine o_start (ef_ul m b) (Q := o_QE s rM26 (Qtos Z cs h0 n0)) ?_
 show oF p e below (s₁.setTop (mkF m 0 #[.val (.ref b)] [])) _
 obtain ⟨T4Q, h4Q, X4Q, e4Q, E4Q, A4Q, D4Q, -, st4Q⟩ := newO X0 hx hZ hown (ow hw 158) (ow hw 14) (ow hw 15) e0 (g := (mkF m 0 #[.val (.ref b)] [])) rfl (B d26_0) (by decide) (by decide)
 obtain ⟨b4Q, g4Q⟩ : ∃ z, z = h0.size := ⟨_, rfl⟩
 rw [← g4Q] at A4Q D4Q st4Q
 refine oG st4Q ?_
 have j126_ : b ≠ b4Q := Nat.ne_of_lt (Nat.lt_of_lt_of_le E_b.lt (Nat.le_of_eq g4Q.symm))
 have j161_ : t ≠ b4Q := Nat.ne_of_lt (Nat.lt_of_lt_of_le E_t.lt (Nat.le_of_eq g4Q.symm))
 have j162_ : n0 ≤ b4Q := Nat.le_trans (o_osz O) (Nat.le_of_eq g4Q.symm)
 have j163_ : h0.size ≤ b4Q := Nat.le_trans K0.1 (Nat.le_of_eq g4Q.symm)
 have E_b := E_b.ext E4Q
 have j0_ := j0_.ext E4Q
 have j12_ := o_SB_ext j12_ E4Q
 have E_t := E_t.ext E4Q
 have O := O.ext E4Q
 have K4R := K0.ext E4Q
 have j73_ := A4Q
 have j164_ : fL3 Z h4Q b4Q .null := D4Q (Or.inr (ow hw 28)) (ty := (.array .byte)) (by decide)
 have j165_ : fL4 Z h4Q b4Q (.int 0) := D4Q (Or.inr (ow hw 29)) (ty := .byte) (by decide)
 show oF p e below (T4Q.setTop (mkF m 3 #[.val (.ref b)] [(.ref b4Q)])) _
 refine oG (fun _ k => XS.dup X4Q.here hx rfl (B d26_3) rfl rfl (XS.aloadN X4Q.here hx rfl (B d26_4) rfl rfl k)) ?_
 show oF p e below (T4Q.setTop (mkF m 5 #[.val (.ref b)] [(.ref b), (.ref b4Q), (.ref b4Q)])) _
 obtain ⟨_, _, ⟨T4S, L4S, k4S, n4S⟩, -, X4S, ⟨Lc4S, hQ4S, l4S, y4S, z4S⟩, st4S⟩ := X4Q.specialBack hx (y := mN38) rfl hown (mo hZ hw 159) (mo hZ hw 160) (mo hZ hw 161) (by decide) (backOf (W := 1) (sw l Z a0 hw [] b4Q b z t kt N cn cs h4Q n0 O j6_ hz E_b j0_ j12_ E_t hcn hN1 h4 hle_ j73_ j164_ j165_ j162_ (Ne.symm j126_) (Ne.symm j161_)) hZ (ow hw 161) (ow hw 15) (by decide) (by decide)) (g := (mkF m 5 #[.val (.ref b)] [(.ref b), (.ref b4Q), (.ref b4Q)])) rfl (by rw [hml]; rfl) (Steps.refl _) (a := b4Q) (argsL := [(.ref b)]) (rest := [(.ref b4Q)]) (lenOf pd_27 rfl) rfl (by show 2 * 0 + _ ≤ _; exact Nat.le_of_eq rfl) (B d26_5) (fun _ _ => ⟨rfl, e4Q, (by decide : 1 + 1 ≤ _), (by decide : 4 + 80 ≤ _)⟩)
 dsimp only [Pt.U, Pt.locs, Pt.cells, Pt.slots] at X4S l4S y4S z4S st4S hQ4S
 subst y4S z4S
 obtain ⟨t2_4T, k2_4U, rfl, N4Sq, Kq4S, P4S_0, P4S_1, P4S_2⟩ := hQ4S
 refine oG (fun _ k => st4S.trans k) ?_
 have N4S := oL l4S (Fr.app N0 N4Sq)
 have ne_b_t2_399 : b ≠ t2_4T := Nat.ne_of_lt (Nat.lt_of_lt_of_le E_b.lt P4S_0)
 have ne_t_t2_399 : t ≠ t2_4T := Nat.ne_of_lt (Nat.lt_of_lt_of_le E_t.lt P4S_0)
 have ne_b396_t2_399 : b4Q ≠ t2_4T := Nat.ne_of_lt (Nat.lt_of_lt_of_le j73_.lt P4S_0)
 have g_t2_399 : n0 ≤ t2_4T := Nat.le_trans (o_osz O) P4S_0
 have sz_t2_399 : h0.size ≤ t2_4T := Nat.le_trans K4R.1 P4S_0
 have E_b := E_b.keep Kq4S
 have j0_ := j0_.keep Kq4S (ninS j126_ nin0)
 have j12_ := o_SB_keep j12_ Kq4S (ninS j126_ nin0) (ninS j161_ nin0)
 have E_t := E_t.keep Kq4S
 have j73_ := j73_.keep Kq4S
 clear j164_
 clear j165_
 have O := O.keep Kq4S (allS j162_ all0)
 have K4V := K4R.trans Kq4S (allS (Or.inr j163_) all0)
 have j73_ := P4S_1
 have O_own_ST_b396 := P4S_2
 show oF p e below (T4S.setTop (mkF m 8 #[.val (.ref b)] [(.ref b4Q)])) _
 obtain ⟨fs, hr, r1, r2, hW, r3⟩ := X4S.leave (v := some (.ref b4Q)) (fun h => by rw [Bd.returns] at h; cases h)
 refine ⟨_, _, ?_, r1, r2, _, _, rfl, ?_, ⟨_, rfl⟩, hW, r3.mono (by decide) (by decide)⟩
 ·exact X4S.areturnOut hx rfl Bd.returns rfl (B d26_8) hr
 ·show Qtos Z cs h0 n0 _ T4S.heap _
  exact ⟨b4Q, t2_4T, k2_4U, rfl, N4S, K4V, j163_, sz_t2_399, j73_, O_own_ST_b396⟩
def o_ch (l : List Int32) : List Value := l.map Value.int
theorem o_chl (l : List Int32) : (o_ch l).length = l.length := by unfold o_ch; rw [List.length_map]
theorem o_chg {cs dn rem : List Int32} {q so : Int32} {d : Value} (h : cs = dn ++ q :: rem) (hs : so.toInt = (dn.length : Int)) : (o_ch cs).getD so.toNatClampNeg d = .int q := by
 have e : so.toNatClampNeg = dn.length := by have := o_cn (N := so) (by omega); omega
 subst h
 rw [e]
 show (List.map Value.int (dn ++ q :: rem)).getD dn.length d = _
 rw [List.map_append, List.getD_eq_getElem?_getD, List.getElem?_append_right (by rw [List.length_map]; exact Nat.le_refl _), List.length_map, Nat.sub_self]; rfl
theorem o_u8s (dn : List Int32) (q : Int32) : o_u8 (dn ++ [q]) = o_u8 dn ++ [.int (o_by q)] := o_u8_app dn [q]
theorem o_lats {dn : List Int32} {q : Int32} (h : o_lat dn) (k : ¬ ((255 : Int32) < q)) : o_lat (dn ++ [q]) := o_lat_app h (o_lat1 k)
theorem o_bgt {cs dn rem : List Int32} {q : Int32} (h : cs = dn ++ q :: rem) (k : (255 : Int32) < q) : ∃ j_ : Nat, j_ = dn.length ∧ j_ < cs.length ∧ 255 < (cs.getD j_ 0).toInt := by
 have c := o_ctt h
 rw [Int32.lt_iff_toInt_lt, o_255] at k
 exact ⟨_, rfl, c.1, by rw [c.2]; exact k⟩
theorem o_nlt {cs dn rem : List Int32} {q : Int32} (h : cs = dn ++ q :: rem) (k : (255 : Int32) < q) : ¬ o_lat cs := fun l => by
 have a := l q (o_cmem h)
 rw [Int32.lt_iff_toInt_lt, o_255] at k; omega
theorem o_jbg {cs : List Int32} {j_ : Nat} (h : j_ < cs.length) (k : 255 < (cs.getD j_ 0).toInt) : o_bg cs := ⟨_, o_gmem h, k⟩
def o_BA (Z : State) (h : Heap) (b : Addr) (kb : ClassId) (n : Int32) (cs : List Int32) : Prop := (o_lat cs ∧ Arv Z h b kb .byte n (o_u8 cs) (.int 0)) ∨ (o_bg cs ∧ Arv Z h b kb .byte (n <<< ((1 : Int32) &&& 31)) (o_u16 cs) (.int 0))
theorem o_BA_ext {Z : State} {h h' : Heap} {b : Addr} {kb : ClassId} {n : Int32} {cs : List Int32} (F : o_BA Z h b kb n cs) (E : Ext h h') : o_BA Z h' b kb n cs := F.imp (fun a => ⟨a.1, a.2.ext E⟩) (fun a => ⟨a.1, a.2.ext E⟩)
theorem o_BA_wr {Z : State} {h h' : Heap} {b a : Addr} {kb : ClassId} {n : Int32} {cs : List Int32} {sl : Nat} {v : Value} (F : o_BA Z h b kb n cs) (W : Wr h h' a sl v) (n1 : b ≠ a) : o_BA Z h' b kb n cs := F.imp (fun a => ⟨a.1, a.2.other W n1⟩) (fun a => ⟨a.1, a.2.other W n1⟩)
theorem o_BA_keep {Z : State} {h h' : Heap} {b : Addr} {kb : ClassId} {n : Int32} {cs : List Int32} {ws : List Addr} (F : o_BA Z h b kb n cs) (K : Keep h h' ws) (n1 : b ∉ ws) : o_BA Z h' b kb n cs := F.imp (fun a => ⟨a.1, a.2.keep K n1⟩) (fun a => ⟨a.1, a.2.keep K n1⟩)
theorem d36_0 : decode k40_ 0 = .ok (.iconst 0, 1) := by decide +kernel
theorem d36_1 : decode k40_ 1 = .ok (.istore 5, 2) := by decide +kernel
theorem d36_3 : decode k40_ 3 = .ok (.iload 5, 2) := by decide +kernel
theorem d36_5 : decode k40_ 5 = .ok (.iload 4, 2) := by decide +kernel
theorem d36_7 : decode k40_ 7 = .ok (.if_icmp .ge 37, 3) := by decide +kernel
theorem d36_44 : decode k40_ 44 = .ok (.iload 4, 2) := by decide +kernel
theorem d36_46 : decode k40_ 46 = .ok (.ireturn, 1) := by decide +kernel
theorem d36_10 : decode k40_ 10 = .ok (.aload_n 0, 1) := by decide +kernel
theorem d36_11 : decode k40_ 11 = .ok (.iload_n 1, 1) := by decide +kernel
theorem d36_12 : decode k40_ 12 = .ok (.caload, 1) := by decide +kernel
theorem d36_13 : decode k40_ 13 = .ok (.istore 6, 2) := by decide +kernel
theorem d36_15 : decode k40_ 15 = .ok (.iload 6, 2) := by decide +kernel
theorem d36_17 : decode k40_ 17 = .ok (.sipush 255, 3) := by decide +kernel
theorem d36_20 : decode k40_ 20 = .ok (.if_icmp .le 6, 3) := by decide +kernel
theorem d36_23 : decode k40_ 23 = .ok (.iload 5, 2) := by decide +kernel
theorem d36_25 : decode k40_ 25 = .ok (.ireturn, 1) := by decide +kernel
theorem d36_26 : decode k40_ 26 = .ok (.aload_n 2, 1) := by decide +kernel
theorem d36_27 : decode k40_ 27 = .ok (.iload_n 3, 1) := by decide +kernel
theorem d36_28 : decode k40_ 28 = .ok (.iload 6, 2) := by decide +kernel
theorem d36_30 : decode k40_ 30 = .ok (.i2b, 1) := by decide +kernel
theorem d36_31 : decode k40_ 31 = .ok (.bastore, 1) := by decide +kernel
theorem d36_32 : decode k40_ 32 = .ok (.iinc 1 1, 3) := by decide +kernel
theorem d36_35 : decode k40_ 35 = .ok (.iinc 3 1, 3) := by decide +kernel
theorem d36_38 : decode k40_ 38 = .ok (.iinc 5 1, 3) := by decide +kernel
theorem d36_41 : decode k40_ 41 = .ok (.goto (-38), 3) := by decide +kernel
theorem ef_cmp (m : MethodId) (x0 : Addr) (x1 : Int32) (x2 : Addr) (x3 : Int32) (x4 : Int32) : entryFrame m #[(.ref x0), (.int x1), (.ref x2), (.int x3), (.int x4)] 7 = mkF m 0 #[.val (.ref x0), .val (.int x1), .val (.ref x2), .val (.int x3), .val (.int x4), .unset, .unset] [] := by first | (simp [entryFrame, mkF, argsToLocals, Value.category]; done) | rfl
def Qcmp (Z : State) (t : Addr) (n_ : Int32) (cs : List Int32) (kt : ClassId) (h0 : Heap) (n0 : Nat) (v : Option Value) (h : Heap) (L : List Loc) : Prop := ∃ (k_ : Int32) (vs_ : List Value), v = some (.int k_) ∧ Fr n0 L ∧ Keep h0 h [t] ∧ ((o_lat cs ∧ k_ = n_) ∨ (∃ j_ : Nat, k_.toInt = (j_ : Int) ∧ j_ < cs.length ∧ 255 < (cs.getD j_ 0).toInt)) ∧ Arv Z h t kt .byte n_ vs_ (.int 0) ∧ (o_lat cs → vs_ = o_u8 cs)
theorem cmp (l : Launch) (Z : State) (a0 : Array Value) (hw : ∀ d ∈ tables_1, d.before a0 Z = true) (ws : List Jvm.Cond) (a : Addr) (t : Addr) (n_ : Int32) (ka : ClassId) (cs : List Int32) (kt : ClassId) (h0 : Heap) (n0 : Nat) (O : Old Z n0 h0) (V_a : Arv Z h0 a ka .char n_ (o_ch cs) (.int 0)) (hrg : o_rng cs) (hn_ : n_.toInt = (cs.length : Int)) (h4 : cs.length ≤ 40) (V_t : Arv Z h0 t kt .byte n_ [] (.int 0)) (g_t : n0 ≤ t) (nat : a ≠ t) :
   o_MF l Z mN40 jdk_52_method_21_code 7 (some .int) ws rM0 #[(.ref a), (.int 0), (.ref t), (.int 0), (.int n_)] h0 (Qcmp Z t n_ cs kt h0 n0) := by
 refine MetFree.of_bodySF (plainFor_of_name pn_0) hisR ?_
 intro p e s m args below meth c s₁ Bd hml0 hP hK
 obtain ⟨rfl, hZ, hh⟩ := hP
 have hx := Bd.exec
 have hby := Bd.bytes
 have B := @hb _ _ hby
 have hml : c.maxLocals = 7 := hml0
 have hown : s.vm.findClass "java/lang/StringUTF16" = some m.cls := findClass_of_methodNamed Bd.named
 have X0 : Stand p l e rM0 s m #[(.ref a), (.int 0), (.ref t), (.int 0), (.int n_)] below meth c s₁ [] 0 0 := Stand.of_body Bd
 have e0 : s₁.heap = h0 := by rw [← hh, Bd.state]; rfl
 have N0 := Fr.nil n0
 have K0 := Keep.refl h0 [t]
 refine o_start (ef_cmp m a (0 : Int32) t (0 : Int32) n_) (Q := o_QE s rM0 (Qcmp Z t n_ cs kt h0 n0)) ?_
 show oF p e below (s₁.setTop (mkF m 0 #[.val (.ref a), .val (.int 0), .val (.ref t), .val (.int 0), .val (.int n_), .unset, .unset] [])) _
 refine oG (fun _ k => XS.iconst X0.here hx rfl (B d36_0) (XS.istore X0.here hx rfl (B d36_1) rfl (l' := #[.val (.ref a), .val (.int 0), .val (.ref t), .val (.int 0), .val (.int n_), .val (.int 0), .unset]) rfl k)) ?_
 show oF p e below (s₁.setTop (mkF m 3 #[.val (.ref a), .val (.int 0), .val (.ref t), .val (.int 0), .val (.int n_), .val (.int 0), .unset] [])) _
 have lp : ∀ (rem : List Int32) (T4W : State) (L4W : List Loc) (h4W : Heap) (dn : List Int32) (ii : Int32) (so : Int32) (do_ : Int32) (s6l : Slot), Stand p l e rM0 s m #[(.ref a), (.int 0), (.ref t), (.int 0), (.int n_)] below meth c T4W L4W 0 0 → T4W.heap = h4W → Fr n0 L4W → Old Z n0 h4W → Keep h0 h4W [t] → Arv Z h4W a ka .char n_ (o_ch cs) (.int 0) → Arv Z h4W t kt .byte n_ (o_u8 dn) (.int 0) → One s6l → cs = dn ++ rem → ii.toInt = (dn.length : Int) → so.toInt = (dn.length : Int) → do_.toInt = (dn.length : Int) → o_lat dn → oF p e below (T4W.setTop (mkF m 3 #[.val (.ref a), .val (.int so), .val (.ref t), .val (.int do_), .val (.int n_), .val (.int ii), s6l] [])) (fun o' t' => ∃ v' L', o' = .returned v' ∧ Qcmp Z t n_ cs kt h0 n0 v' t'.heap L' ∧ FrameEnd s o' t' L' rM0.cells rM0.slots) := by
  intro rem
  induction rem with
  | nil =>
   intro T4W L4W h4W dn ii so do_ s6l X4W e4W N4W O K4W V_a V_t o6l hdn hii hso hdo hld
   show oF p e below (T4W.setTop (mkF m 3 #[.val (.ref a), .val (.int so), .val (.ref t), .val (.int do_), .val (.int n_), .val (.int ii), s6l] [])) _
   refine oG (fun _ k => XS.iload X4W.here hx rfl (B d36_3) rfl (XS.iload X4W.here hx rfl (B d36_5) rfl (XS.icmpYes X4W.here hx rfl (pc0 := 7) (pc' := 44) rfl (B d36_7) rfl (flt ((o_nlti hii hn_ (by rw [hdn, List.append_nil]; omega)) : ¬ (ii < n_))).2.1 (by decide) (by decide) (XS.iload X4W.here hx rfl (B d36_44) rfl k)))) ?_
   show oF p e below (T4W.setTop (mkF m 46 #[.val (.ref a), .val (.int so), .val (.ref t), .val (.int do_), .val (.int n_), .val (.int ii), s6l] [(.int n_)])) _
   obtain ⟨fs, hr, r1, r2, hW, r3⟩ := X4W.leave (v := some (.int n_)) (fun h => by rw [Bd.returns] at h; cases h)
   refine ⟨_, _, ?_, r1, r2, _, _, rfl, ?_, ⟨_, rfl⟩, hW, r3.mono (by decide) (by decide)⟩
   ·exact o_retI X4W hx Bd.returns (B d36_46) hr
   ·show Qcmp Z t n_ cs kt h0 n0 _ T4W.heap _
    rw [e4W]
    exact ⟨n_, _, rfl, N4W, K4W, (Or.inl ⟨by rw [hdn, List.append_nil]; exact hld, rfl⟩), V_t, (fun _ => by rw [hdn, List.append_nil])⟩
  | cons q rem ih =>
   intro T4W L4W h4W dn ii so do_ s6l X4W e4W N4W O K4W V_a V_t o6l hdn hii hso hdo hld
   show oF p e below (T4W.setTop (mkF m 3 #[.val (.ref a), .val (.int so), .val (.ref t), .val (.int do_), .val (.int n_), .val (.int ii), s6l] [])) _
   have hcat := o_ctt hdn
   show oF p e below (T4W.setTop (mkF m 3 #[.val (.ref a), .val (.int so), .val (.ref t), .val (.int do_), .val (.int n_), .val (.int ii), s6l] [])) _
   refine oG (fun _ k => XS.iload X4W.here hx rfl (B d36_3) rfl (XS.iload X4W.here hx rfl (B d36_5) rfl (XS.icmpNo X4W.here hx rfl (B d36_7) rfl (tlt ((o_lti hii hn_ (by omega)) : ii < n_)).2.1 (XS.aloadN X4W.here hx rfl (B d36_10) rfl rfl (XS.iloadN X4W.here hx rfl (B d36_11) rfl k))))) ?_
   show oF p e below (T4W.setTop (mkF m 12 #[.val (.ref a), .val (.int so), .val (.ref t), .val (.int do_), .val (.int n_), .val (.int ii), s6l] [(.int so), (.ref a)])) _
   obtain ⟨cl4X, A4X, q4X, S4X, M4X, H4X, G4X⟩ := id V_a
   have hin4X : ¬ (so < 0 ∨ cl4X.slots.size ≤ (so).toNatClampNeg) := inb_of S4X (o_inj hso (by omega))
   have hat4X : cl4X.slots[(so).toNatClampNeg]? = some (.int q) := Has.at H4X hin4X (o_chg hdn hso)
   refine oG (fun _ k => X4W.caload hx (j := so) (v := (.int q)) (o_eqE e4W A4X.1) (State.isArrayOf_alike hZ.alike A4X.2.1) A4X.2.2 hin4X hat4X (g := (mkF m 12 #[.val (.ref a), .val (.int so), .val (.ref t), .val (.int do_), .val (.int n_), .val (.int ii), s6l] [(.int so), (.ref a)])) rfl rfl (B d36_12) _ k) ?_
   show oF p e below (T4W.setTop (mkF m 13 #[.val (.ref a), .val (.int so), .val (.ref t), .val (.int do_), .val (.int n_), .val (.int ii), s6l] [(.int q)])) _
   refine oG (fun _ k => XS.istore X4W.here hx rfl (B d36_13) rfl (l' := #[.val (.ref a), .val (.int so), .val (.ref t), .val (.int do_), .val (.int n_), .val (.int ii), .val (.int q)]) (o_st2 rfl o6l rfl rfl) (XS.iload X4W.here hx rfl (B d36_15) rfl (XS.sipush X4W.here hx rfl (B d36_17) k))) ?_
   show oF p e below (T4W.setTop (mkF m 20 #[.val (.ref a), .val (.int so), .val (.ref t), .val (.int do_), .val (.int n_), .val (.int ii), .val (.int q)] [(.int 255), (.int q)])) _
   by_cases hc20_406 : (255 : Int32) < q
   ·refine oG (fun _ k => XS.icmpNo X4W.here hx rfl (B d36_20) rfl (tlt hc20_406).2.2.2 (XS.iload X4W.here hx rfl (B d36_23) rfl k)) ?_
    show oF p e below (T4W.setTop (mkF m 25 #[.val (.ref a), .val (.int so), .val (.ref t), .val (.int do_), .val (.int n_), .val (.int ii), .val (.int q)] [(.int ii)])) _
    obtain ⟨fs, hr, r1, r2, hW, r3⟩ := X4W.leave (v := some (.int ii)) (fun h => by rw [Bd.returns] at h; cases h)
    refine ⟨_, _, ?_, r1, r2, _, _, rfl, ?_, ⟨_, rfl⟩, hW, r3.mono (by decide) (by decide)⟩
    ·exact o_retI X4W hx Bd.returns (B d36_25) hr
    ·show Qcmp Z t n_ cs kt h0 n0 _ T4W.heap _
     rw [e4W]
     exact ⟨ii, _, rfl, N4W, K4W, (Or.inr (by obtain ⟨j_, e1, e2, e3⟩ := o_bgt hdn hc20_406; exact ⟨j_, by rw [e1]; exact hii, e2, e3⟩)), V_t, (fun l_ => absurd l_ (o_nlt hdn hc20_406))⟩
   ·refine oG (fun _ k => XS.icmpYes X4W.here hx rfl (pc0 := 20) (pc' := 26) rfl (B d36_20) rfl (flt hc20_406).2.2.2 (by decide) (by decide) (XS.aloadN X4W.here hx rfl (B d36_26) rfl rfl (XS.iloadN X4W.here hx rfl (B d36_27) rfl (XS.iload X4W.here hx rfl (B d36_28) rfl (XS.i2b X4W.here hx rfl (B d36_30) rfl k))))) ?_
    show oF p e below (T4W.setTop (mkF m 31 #[.val (.ref a), .val (.int so), .val (.ref t), .val (.int do_), .val (.int n_), .val (.int ii), .val (.int q)] [(.int (q.toInt8.toInt32)), (.int do_), (.ref t)])) _
    have hj0 : do_.toInt = ((o_u8 dn).length : Int) := by rw [o_u8l]; exact hdo
    have V_t : Arv Z h4W t kt .byte n_ (o_u8 dn ++ [(.int 0)]) (.int 0) := V_t.pad (pad_rep _ (.int 0) 1)
    show oF p e below (T4W.setTop (mkF m 31 #[.val (.ref a), .val (.int so), .val (.ref t), .val (.int do_), .val (.int n_), .val (.int ii), .val (.int q)] [(.int (q.toInt8.toInt32)), (.int do_), (.ref t)])) _
    obtain ⟨cl4Y, A4Y, q4Y, S4Y, M4Y, H4Y, G4Y⟩ := id V_t
    have hin4Y : ¬ (do_ < 0 ∨ cl4Y.slots.size ≤ (do_).toNatClampNeg) := inb_of S4Y (o_inj hj0 (by rw [o_u8l]; omega))
    obtain ⟨T4Y, h4Y, X4Y, e4Y, W4Y, st4Y⟩ := stB X4W hx hZ e4W A4Y (j := do_) hin4Y (g := (mkF m 31 #[.val (.ref a), .val (.int so), .val (.ref t), .val (.int do_), .val (.int n_), .val (.int ii), .val (.int q)] [(.int (q.toInt8.toInt32)), (.int do_), (.ref t)])) rfl rfl (B d36_31)
    refine oG st4Y ?_
    have V_a := V_a.other W4Y nat
    have O := O.wr W4Y g_t
    have K4Z := K4W.wr W4Y (Or.inl (List.mem_of_getElem? (i := 0) rfl))
    have V_t : Arv Z h4Y t kt .byte n_ (o_u8 dn ++ [(.int (o_by q))]) (.int 0) := by have q_ := Arv.set A4Y q4Y S4Y M4Y H4Y G4Y (fits_nar_byte _) W4Y _ rfl (o_snl _ (.int 0) do_ hj0); rw [o_set1 hj0] at q_; exact q_
    have N4Y := Fr.snoc X4Y N4W g_t
    show oF p e below (T4Y.setTop (mkF m 32 #[.val (.ref a), .val (.int so), .val (.ref t), .val (.int do_), .val (.int n_), .val (.int ii), .val (.int q)] [])) _
    refine oG (fun _ k => XS.iinc X4Y.here hx rfl (B d36_32) rfl (l' := #[.val (.ref a), .val (.int (so + (1 : Int32))), .val (.ref t), .val (.int do_), .val (.int n_), .val (.int ii), .val (.int q)]) rfl (XS.iinc X4Y.here hx rfl (B d36_35) rfl (l' := #[.val (.ref a), .val (.int (so + (1 : Int32))), .val (.ref t), .val (.int (do_ + (1 : Int32))), .val (.int n_), .val (.int ii), .val (.int q)]) rfl (XS.iinc X4Y.here hx rfl (B d36_38) rfl (l' := #[.val (.ref a), .val (.int (so + (1 : Int32))), .val (.ref t), .val (.int (do_ + (1 : Int32))), .val (.int n_), .val (.int (ii + (1 : Int32))), .val (.int q)]) rfl (XS.goto X4Y.here hx rfl (pc0 := 41) (pc' := 3) rfl (B d36_41) (by decide) (by decide) k)))) ?_
    show oF p e below (T4Y.setTop (mkF m 3 #[.val (.ref a), .val (.int (so + (1 : Int32))), .val (.ref t), .val (.int (do_ + (1 : Int32))), .val (.int n_), .val (.int (ii + (1 : Int32))), .val (.int q)] [])) _
    exact ih _ _ _ (dn ++ [q]) _ _ _ _ X4Y e4Y N4Y O K4Z V_a (by rw [o_u8s]; exact V_t) (One.val rfl) (by rw [hdn, List.append_assoc] <;> rfl) (by rw [o_p1 (by omega) (by omega), hii, List.length_append] <;> rfl) (by rw [o_p1 (by omega) (by omega), hso, List.length_append] <;> rfl) (by rw [o_p1 (by omega) (by omega), hdo, List.length_append] <;> rfl) (o_lats hld hc20_406)
 exact lp cs _ _ _ ([] : List Int32) _ _ _ _ X0 e0 N0 O K0 V_a V_t One.u rfl rfl rfl rfl (fun _ hz => by cases hz)
theorem d40_0 : decode k41_ 0 = .ok (.iload_n 2, 1) := by decide +kernel
theorem d40_1 : decode k41_ 1 = .ok (.invokestatic 107, 3) := by decide +kernel
theorem d40_4 : decode k41_ 4 = .ok (.astore_n 3, 1) := by decide +kernel
theorem d40_5 : decode k41_ 5 = .ok (.iconst 0, 1) := by decide +kernel
theorem d40_6 : decode k41_ 6 = .ok (.istore 4, 2) := by decide +kernel
theorem d40_8 : decode k41_ 8 = .ok (.iload 4, 2) := by decide +kernel
theorem d40_10 : decode k41_ 10 = .ok (.iload_n 2, 1) := by decide +kernel
theorem d40_11 : decode k41_ 11 = .ok (.if_icmp .ge 21, 3) := by decide +kernel
theorem d40_32 : decode k41_ 32 = .ok (.aload_n 3, 1) := by decide +kernel
theorem d40_33 : decode k41_ 33 = .ok (.areturn, 1) := by decide +kernel
theorem d40_14 : decode k41_ 14 = .ok (.aload_n 3, 1) := by decide +kernel
theorem d40_15 : decode k41_ 15 = .ok (.iload 4, 2) := by decide +kernel
theorem d40_17 : decode k41_ 17 = .ok (.aload_n 0, 1) := by decide +kernel
theorem d40_18 : decode k41_ 18 = .ok (.iload_n 1, 1) := by decide +kernel
theorem d40_19 : decode k41_ 19 = .ok (.caload, 1) := by decide +kernel
theorem d40_20 : decode k41_ 20 = .ok (.invokestatic 111, 3) := by decide +kernel
theorem d40_23 : decode k41_ 23 = .ok (.iinc 1 1, 3) := by decide +kernel
theorem d40_26 : decode k41_ 26 = .ok (.iinc 4 1, 3) := by decide +kernel
theorem d40_29 : decode k41_ 29 = .ok (.goto (-21), 3) := by decide +kernel
def Qtby (Z : State) (n_ : Int32) (cs : List Int32) (h0 : Heap) (n0 : Nat) (v : Option Value) (h : Heap) (L : List Loc) : Prop := ∃ (b_ : Addr) (k_ : ClassId), v = some (.ref b_) ∧ Fr n0 L ∧ Keep h0 h [] ∧ h0.size ≤ b_ ∧ Arv Z h b_ k_ .byte (n_ <<< ((1 : Int32) &&& 31)) (o_u16 cs) (.int 0) ∧ eX0 Z h b_
theorem tby (l : Launch) (Z : State) (a0 : Array Value) (hw : ∀ d ∈ tables_1, d.before a0 Z = true) (ws : List Jvm.Cond) (a : Addr) (n_ : Int32) (ka : ClassId) (cs : List Int32) (h0 : Heap) (n0 : Nat) (O : Old Z n0 h0) (j8_ : sT0 Z (.int 1)) (j9_ : sT1 Z (.int 0)) (j10_ : sT2 Z (.int 8)) (V_a : Arv Z h0 a ka .char n_ (o_ch cs) (.int 0)) (hrg : o_rng cs) (hn_ : n_.toInt = (cs.length : Int)) (h4 : cs.length ≤ 40) :
   o_MF l Z mN41 jdk_52_method_14_code 5 (some (.array .byte)) ws rM27 #[(.ref a), (.int 0), (.int n_)] h0 (Qtby Z n_ cs h0 n0) := by
 refine MetFree.of_bodySF (plainFor_of_name pn_0) hisR ?_
 intro p e s m args below meth c s₁ Bd hml0 hP hK
 obtain ⟨rfl, hZ, hh⟩ := hP
 have hx := Bd.exec
 have hby := Bd.bytes
 have B := @hb _ _ hby
 have hml : c.maxLocals = 5 := hml0
 have hown : s.vm.findClass "java/lang/StringUTF16" = some m.cls := findClass_of_methodNamed Bd.named
 have X0 : Stand p l e rM27 s m #[(.ref a), (.int 0), (.int n_)] below meth c s₁ [] 0 0 := Stand.of_body Bd
 have e0 : s₁.heap = h0 := by rw [← hh, Bd.state]; rfl
 have N0 := Fr.nil n0
 have K0 := Keep.refl h0 []
 refine o_start (ef_crb m a (0 : Int32) n_) (Q := o_QE s rM27 (Qtby Z n_ cs h0 n0)) ?_
 show oF p e below (s₁.setTop (mkF m 0 #[.val (.ref a), .val (.int 0), .val (.int n_), .unset, .unset] [])) _
 refine oG (fun _ k => XS.iloadN X0.here hx rfl (B d40_0) rfl k) ?_
 show oF p e below (s₁.setTop (mkF m 1 #[.val (.ref a), .val (.int 0), .val (.int n_), .unset, .unset] [(.int n_)])) _
 obtain ⟨_, _, ⟨T5a, L5a, k5a, n5a⟩, -, X5a, ⟨Lc5a, hQ5a, l5a, y5a, z5a⟩, st5a⟩ := Jvm.LawKit.callS X0 hx (y := mN8) hown (mo hZ hw 211) (mo hZ hw 212) (mo hZ hw 190) (mo hZ hw 213) (by decide) (backOf (W := 0) (nbf l Z a0 hw [] n_ h0 n0 O (by omega) (by omega)) hZ (ow hw 213) (ow hw 190) (by decide) (by decide)) (g := (mkF m 1 #[.val (.ref a), .val (.int 0), .val (.int n_), .unset, .unset] [(.int n_)])) rfl (by rw [hml]; rfl) (argsL := [(.int n_)]) (rest := []) (lenOf pd_8 rfl) rfl (by show 2 * 0 + _ ≤ _; exact Nat.le_of_eq rfl) (B d40_1) (fun _ _ => ⟨rfl, e0, (by decide : 0 + 1 ≤ _), (by decide : 0 + 200 ≤ _)⟩)
 dsimp only [Pt.U, Pt.locs, Pt.cells, Pt.slots] at X5a l5a y5a z5a st5a hQ5a
 subst y5a z5a
 obtain ⟨b_5b, k_5c, rfl, N5aq, Kq5a, P5a_0, P5a_1, P5a_2⟩ := hQ5a
 refine oG st5a ?_
 have N5a := oL l5a (Fr.app N0 N5aq)
 have ne_a_b_411 : a ≠ b_5b := Nat.ne_of_lt (Nat.lt_of_lt_of_le V_a.lt P5a_0)
 have j166_ : n0 ≤ b_5b := Nat.le_trans (o_osz O) P5a_0
 have j167_ : h0.size ≤ b_5b := Nat.le_trans K0.1 P5a_0
 have V_a := V_a.keep Kq5a nin0
 have O := O.keep Kq5a all0
 have K5d := K0.trans Kq5a all0
 have j55_ := P5a_1
 have j64_ := P5a_2
 show oF p e below (T5a.setTop (mkF m 4 #[.val (.ref a), .val (.int 0), .val (.int n_), .unset, .unset] [(.ref b_5b)])) _
 refine oG (fun _ k => XS.astoreN X5a.here hx rfl (B d40_4) rfl rfl (l' := #[.val (.ref a), .val (.int 0), .val (.int n_), .val (.ref b_5b), .unset]) rfl (XS.iconst X5a.here hx rfl (B d40_5) (XS.istore X5a.here hx rfl (B d40_6) rfl (l' := #[.val (.ref a), .val (.int 0), .val (.int n_), .val (.ref b_5b), .val (.int 0)]) rfl k))) ?_
 show oF p e below (T5a.setTop (mkF m 8 #[.val (.ref a), .val (.int 0), .val (.int n_), .val (.ref b_5b), .val (.int 0)] [])) _
 have lp : ∀ (rem : List Int32) (T5e : State) (L5e : List Loc) (h5e : Heap) (dn : List Int32) (ii : Int32) (so : Int32), Stand p l e rM27 s m #[(.ref a), (.int 0), (.int n_)] below meth c T5e L5e 1 200 → T5e.heap = h5e → Fr n0 L5e → Old Z n0 h5e → Keep h0 h5e [] → Arv Z h5e a ka .char n_ (o_ch cs) (.int 0) → eX0 Z h5e b_5b → Arv Z h5e b_5b k_5c .byte (n_ <<< ((1 : Int32) &&& 31)) (o_u16 dn) (.int 0) → cs = dn ++ rem → ii.toInt = (dn.length : Int) → so.toInt = (dn.length : Int) → oF p e below (T5e.setTop (mkF m 8 #[.val (.ref a), .val (.int so), .val (.int n_), .val (.ref b_5b), .val (.int ii)] [])) (fun o' t' => ∃ v' L', o' = .returned v' ∧ Qtby Z n_ cs h0 n0 v' t'.heap L' ∧ FrameEnd s o' t' L' rM27.cells rM27.slots) := by
  intro rem
  induction rem with
  | nil =>
   intro T5e L5e h5e dn ii so X5e e5e N5e O K5e V_a j64_ j55_ hdn hii hso
   show oF p e below (T5e.setTop (mkF m 8 #[.val (.ref a), .val (.int so), .val (.int n_), .val (.ref b_5b), .val (.int ii)] [])) _
   refine oG (fun _ k => XS.iload X5e.here hx rfl (B d40_8) rfl (XS.iloadN X5e.here hx rfl (B d40_10) rfl (XS.icmpYes X5e.here hx rfl (pc0 := 11) (pc' := 32) rfl (B d40_11) rfl (flt ((o_nlti hii hn_ (by rw [hdn, List.append_nil]; omega)) : ¬ (ii < n_))).2.1 (by decide) (by decide) (XS.aloadN X5e.here hx rfl (B d40_32) rfl rfl k)))) ?_
   show oF p e below (T5e.setTop (mkF m 33 #[.val (.ref a), .val (.int so), .val (.int n_), .val (.ref b_5b), .val (.int ii)] [(.ref b_5b)])) _
   obtain ⟨fs, hr, r1, r2, hW, r3⟩ := X5e.leave (v := some (.ref b_5b)) (fun h => by rw [Bd.returns] at h; cases h)
   refine ⟨_, _, ?_, r1, r2, _, _, rfl, ?_, ⟨_, rfl⟩, hW, r3.mono (by decide) (by decide)⟩
   ·exact X5e.areturnOut hx rfl Bd.returns rfl (B d40_33) hr
   ·show Qtby Z n_ cs h0 n0 _ T5e.heap _
    rw [e5e]
    exact ⟨b_5b, k_5c, rfl, N5e, K5e, j167_, (by rw [hdn, List.append_nil]; exact j55_), j64_⟩
  | cons q rem ih =>
   intro T5e L5e h5e dn ii so X5e e5e N5e O K5e V_a j64_ j55_ hdn hii hso
   show oF p e below (T5e.setTop (mkF m 8 #[.val (.ref a), .val (.int so), .val (.int n_), .val (.ref b_5b), .val (.int ii)] [])) _
   have hcat := o_ctt hdn
   show oF p e below (T5e.setTop (mkF m 8 #[.val (.ref a), .val (.int so), .val (.int n_), .val (.ref b_5b), .val (.int ii)] [])) _
   refine oG (fun _ k => XS.iload X5e.here hx rfl (B d40_8) rfl (XS.iloadN X5e.here hx rfl (B d40_10) rfl (XS.icmpNo X5e.here hx rfl (B d40_11) rfl (tlt ((o_lti hii hn_ (by omega)) : ii < n_)).2.1 (XS.aloadN X5e.here hx rfl (B d40_14) rfl rfl (XS.iload X5e.here hx rfl (B d40_15) rfl (XS.aloadN X5e.here hx rfl (B d40_17) rfl rfl (XS.iloadN X5e.here hx rfl (B d40_18) rfl k))))))) ?_
   show oF p e below (T5e.setTop (mkF m 19 #[.val (.ref a), .val (.int so), .val (.int n_), .val (.ref b_5b), .val (.int ii)] [(.int so), (.ref a), (.int ii), (.ref b_5b)])) _
   obtain ⟨cl5f, A5f, q5f, S5f, M5f, H5f, G5f⟩ := id V_a
   have hin5f : ¬ (so < 0 ∨ cl5f.slots.size ≤ (so).toNatClampNeg) := inb_of S5f (o_inj hso (by omega))
   have hat5f : cl5f.slots[(so).toNatClampNeg]? = some (.int q) := Has.at H5f hin5f (o_chg hdn hso)
   refine oG (fun _ k => X5e.caload hx (j := so) (v := (.int q)) (o_eqE e5e A5f.1) (State.isArrayOf_alike hZ.alike A5f.2.1) A5f.2.2 hin5f hat5f (g := (mkF m 19 #[.val (.ref a), .val (.int so), .val (.int n_), .val (.ref b_5b), .val (.int ii)] [(.int so), (.ref a), (.int ii), (.ref b_5b)])) rfl rfl (B d40_19) _ k) ?_
   show oF p e below (T5e.setTop (mkF m 20 #[.val (.ref a), .val (.int so), .val (.int n_), .val (.ref b_5b), .val (.int ii)] [(.int q), (.int ii), (.ref b_5b)])) _
   obtain ⟨_, _, ⟨T5g, L5g, k5g, n5g⟩, -, X5g, ⟨Lc5g, hQ5g, l5g, y5g, z5g⟩, st5g⟩ := Jvm.LawKit.callS X5e hx (y := mN1) hown (mo hZ hw 218) (mo hZ hw 219) (mo hZ hw 190) (mo hZ hw 220) (by decide) (backOf (W := 0) (pt l Z a0 hw [] b_5b ii q k_5c (n_ <<< ((1 : Int32) &&& 31)) (o_u16 dn) h5e n0 O j8_ j9_ j10_ j55_ j166_ (by rw [o_u16l]; omega) (by rw [o_u16l, o_x2i (by omega) (by omega)]; omega) (by rw [o_x2i (by omega) (by omega)]; omega)) hZ (ow hw 220) (ow hw 190) (by decide) (by decide)) (g := (mkF m 20 #[.val (.ref a), .val (.int so), .val (.int n_), .val (.ref b_5b), .val (.int ii)] [(.int q), (.int ii), (.ref b_5b)])) rfl (by rw [hml]; rfl) (argsL := [(.ref b_5b), (.int ii), (.int q)]) (rest := []) (lenOf pd_4 rfl) rfl (by show 2 * 0 + _ ≤ _; exact Nat.le_of_eq rfl) (B d40_20) (fun _ _ => ⟨rfl, e5e, (by decide : 1 + 0 ≤ _), (by decide : 200 + 0 ≤ _)⟩)
   dsimp only [Pt.U, Pt.locs, Pt.cells, Pt.slots] at X5g l5g y5g z5g st5g hQ5g
   subst y5g z5g
   obtain ⟨rfl, N5gq, Kq5g, P5g_0⟩ := hQ5g
   refine oG st5g ?_
   have N5g := oL l5g (Fr.app N5e N5gq)
   have V_a := V_a.keep Kq5g (ninS ne_a_b_411 nin0)
   have j64_ := j64_.keep Kq5g
   clear j55_
   have O := O.keep Kq5g (allS j166_ all0)
   have K5h := K5e.trans Kq5g (allS (Or.inr j167_) all0)
   have j55_ := P5g_0
   show oF p e below (T5g.setTop (mkF m 23 #[.val (.ref a), .val (.int so), .val (.int n_), .val (.ref b_5b), .val (.int ii)] [])) _
   refine oG (fun _ k => XS.iinc X5g.here hx rfl (B d40_23) rfl (l' := #[.val (.ref a), .val (.int (so + (1 : Int32))), .val (.int n_), .val (.ref b_5b), .val (.int ii)]) rfl (XS.iinc X5g.here hx rfl (B d40_26) rfl (l' := #[.val (.ref a), .val (.int (so + (1 : Int32))), .val (.int n_), .val (.ref b_5b), .val (.int (ii + (1 : Int32)))]) rfl (XS.goto X5g.here hx rfl (pc0 := 29) (pc' := 8) rfl (B d40_29) (by decide) (by decide) k))) ?_
   show oF p e below (T5g.setTop (mkF m 8 #[.val (.ref a), .val (.int (so + (1 : Int32))), .val (.int n_), .val (.ref b_5b), .val (.int (ii + (1 : Int32)))] [])) _
   exact ih _ _ _ (dn ++ [q]) _ _ X5g rfl N5g O K5h V_a j64_ (by rw [o_u16_app]; exact j55_) (by rw [hdn, List.append_assoc] <;> rfl) (by rw [o_p1 (by omega) (by omega), hii, List.length_append] <;> rfl) (by rw [o_p1 (by omega) (by omega), hso, List.length_append] <;> rfl)
 exact lp cs _ _ _ ([] : List Int32) _ _ X5a rfl N5a O K5d V_a j64_ j55_ rfl rfl rfl
theorem d44_0 : decode k42_ 0 = .ok (.getstatic 44, 3) := by decide +kernel
theorem d44_3 : decode k42_ 3 = .ok (.ifCond .ne 25, 3) := by decide +kernel
theorem d44_28 : decode k42_ 28 = .ok (.iload_n 1, 1) := by decide +kernel
theorem d44_29 : decode k42_ 29 = .ok (.iconst 1, 1) := by decide +kernel
theorem d44_30 : decode k42_ 30 = .ok (.ishl, 1) := by decide +kernel
theorem d44_31 : decode k42_ 31 = .ok (.istore_n 1, 1) := by decide +kernel
theorem d44_32 : decode k42_ 32 = .ok (.aload_n 0, 1) := by decide +kernel
theorem d44_33 : decode k42_ 33 = .ok (.iload_n 1, 1) := by decide +kernel
theorem d44_34 : decode k42_ 34 = .ok (.iinc 1 1, 3) := by decide +kernel
theorem d44_37 : decode k42_ 37 = .ok (.baload, 1) := by decide +kernel
theorem d44_38 : decode k42_ 38 = .ok (.sipush 255, 3) := by decide +kernel
theorem d44_41 : decode k42_ 41 = .ok (.iand, 1) := by decide +kernel
theorem d44_42 : decode k42_ 42 = .ok (.getstatic 59, 3) := by decide +kernel
theorem d44_45 : decode k42_ 45 = .ok (.ishl, 1) := by decide +kernel
theorem d44_46 : decode k42_ 46 = .ok (.aload_n 0, 1) := by decide +kernel
theorem d44_47 : decode k42_ 47 = .ok (.iload_n 1, 1) := by decide +kernel
theorem d44_48 : decode k42_ 48 = .ok (.baload, 1) := by decide +kernel
theorem d44_49 : decode k42_ 49 = .ok (.sipush 255, 3) := by decide +kernel
theorem d44_52 : decode k42_ 52 = .ok (.iand, 1) := by decide +kernel
theorem d44_53 : decode k42_ 53 = .ok (.getstatic 63, 3) := by decide +kernel
theorem d44_56 : decode k42_ 56 = .ok (.ishl, 1) := by decide +kernel
theorem d44_57 : decode k42_ 57 = .ok (.ior, 1) := by decide +kernel
theorem d44_58 : decode k42_ 58 = .ok (.i2c, 1) := by decide +kernel
theorem d44_59 : decode k42_ 59 = .ok (.ireturn, 1) := by decide +kernel
def Qgch (Z : State) (x_ : Int32) (y_ : Int32) (h0 : Heap) (n0 : Nat) (v : Option Value) (h : Heap) (L : List Loc) : Prop := v = some (.int (nar .char (((((x_ &&& (255 : Int32)) <<< ((0 : Int32) &&& 31)) ||| ((y_ &&& (255 : Int32)) <<< ((8 : Int32) &&& 31))).toUInt32.toUInt16.toUInt32.toInt32)))) ∧ Fr n0 L ∧ h = h0
theorem gch (l : Launch) (Z : State) (a0 : Array Value) (hw : ∀ d ∈ tables_1, d.before a0 Z = true) (ws : List Jvm.Cond) (t : Addr) (i : Int32) (kt : ClassId) (M : Int32) (vs : List Value) (x_ : Int32) (y_ : Int32) (h0 : Heap) (n0 : Nat) (O : Old Z n0 h0) (j8_ : sT0 Z (.int 1)) (j9_ : sT1 Z (.int 0)) (j10_ : sT2 Z (.int 8)) (V_t : Arv Z h0 t kt .byte M vs (.int 0)) (ha_ : ¬ ((i <<< ((1 : Int32) &&& 31)) < 0) ∧ (i <<< ((1 : Int32) &&& 31)) < M) (hb_ : ¬ (((i <<< ((1 : Int32) &&& 31)) + (1 : Int32)) < 0) ∧ ((i <<< ((1 : Int32) &&& 31)) + (1 : Int32)) < M) (hat : vs.getD (i <<< ((1 : Int32) &&& 31)).toNatClampNeg (.int 0) = (.int x_)) (hau : vs.getD ((i <<< ((1 : Int32) &&& 31)) + (1 : Int32)).toNatClampNeg (.int 0) = (.int y_)) :
   o_MF l Z mN42 jdk_52_method_5_code 2 (some .char) ws rM0 #[(.ref t), (.int i)] h0 (Qgch Z x_ y_ h0 n0) := by
 refine MetFree.of_bodySF (plainFor_of_name pn_0) hisR ?_
 intro p e s m args below meth c s₁ Bd hml0 hP hK
 obtain ⟨rfl, hZ, hh⟩ := hP
 have hx := Bd.exec
 have hby := Bd.bytes
 have B := @hb _ _ hby
 have hml : c.maxLocals = 2 := hml0
 have hown : s.vm.findClass "java/lang/StringUTF16" = some m.cls := findClass_of_methodNamed Bd.named
 have X0 : Stand p l e rM0 s m #[(.ref t), (.int i)] below meth c s₁ [] 0 0 := Stand.of_body Bd
 have e0 : s₁.heap = h0 := by rw [← hh, Bd.state]; rfl
 have N0 := Fr.nil n0
 refine o_start (ef_saz m t i) (Q := o_QE s rM0 (Qgch Z x_ y_ h0 n0)) ?_
 show oF p e below (s₁.setTop (mkF m 0 #[.val (.ref t), .val (.int i)] [])) _
 obtain ⟨T5i, X5i, e5i, st5i⟩ := getS2 X0 hx hZ hown (host := "") (Or.inl (ow hw 221)) Via.refl e0 (j8_.ext O.2) (g := (mkF m 0 #[.val (.ref t), .val (.int i)] [])) rfl (B d44_0)
 refine oG st5i ?_
 show oF p e below (T5i.setTop (mkF m 3 #[.val (.ref t), .val (.int i)] [(.int 1)])) _
 refine oG (fun _ k => XS.ifYes X5i.here hx rfl (pc0 := 3) (pc' := 28) rfl (B d44_3) rfl ((if0 _ _).trans (feq (by decide : ¬ ((1 : Int32) = (0 : Int32)))).2) (by decide) (by decide) (XS.iloadN X5i.here hx rfl (B d44_28) rfl (XS.iconst X5i.here hx rfl (B d44_29) (XS.ishl X5i.here hx rfl (B d44_30) rfl (XS.istoreN X5i.here hx rfl (B d44_31) rfl (l' := #[.val (.ref t), .val (.int (i <<< ((1 : Int32) &&& 31)))]) rfl (XS.aloadN X5i.here hx rfl (B d44_32) rfl rfl (XS.iloadN X5i.here hx rfl (B d44_33) rfl (XS.iinc X5i.here hx rfl (B d44_34) rfl (l' := #[.val (.ref t), .val (.int ((i <<< ((1 : Int32) &&& 31)) + (1 : Int32)))]) rfl k)))))))) ?_
 show oF p e below (T5i.setTop (mkF m 37 #[.val (.ref t), .val (.int ((i <<< ((1 : Int32) &&& 31)) + (1 : Int32)))] [(.int (i <<< ((1 : Int32) &&& 31))), (.ref t)])) _
 obtain ⟨cl5j, A5j, q5j, S5j, M5j, H5j, G5j⟩ := id V_t
 have hin5j : ¬ ((i <<< ((1 : Int32) &&& 31)) < 0 ∨ cl5j.slots.size ≤ ((i <<< ((1 : Int32) &&& 31))).toNatClampNeg) := inb_of S5j ha_
 have hat5j : cl5j.slots[((i <<< ((1 : Int32) &&& 31))).toNatClampNeg]? = some (.int x_) := Has.at H5j hin5j hat
 refine oG (fun _ k => X5i.baloadBytes hx (j := (i <<< ((1 : Int32) &&& 31))) (v := (.int x_)) (o_eqE e5i A5j.1) (State.isArrayOf_alike hZ.alike A5j.2.1) A5j.2.2 hin5j hat5j (g := (mkF m 37 #[.val (.ref t), .val (.int ((i <<< ((1 : Int32) &&& 31)) + (1 : Int32)))] [(.int (i <<< ((1 : Int32) &&& 31))), (.ref t)])) rfl rfl (B d44_37) _ k) ?_
 show oF p e below (T5i.setTop (mkF m 38 #[.val (.ref t), .val (.int ((i <<< ((1 : Int32) &&& 31)) + (1 : Int32)))] [(.int x_)])) _
 refine oG (fun _ k => XS.sipush X5i.here hx rfl (B d44_38) (XS.iand X5i.here hx rfl (B d44_41) rfl k)) ?_
 show oF p e below (T5i.setTop (mkF m 42 #[.val (.ref t), .val (.int ((i <<< ((1 : Int32) &&& 31)) + (1 : Int32)))] [(.int (x_ &&& (255 : Int32)))])) _
 obtain ⟨T5k, X5k, e5k, st5k⟩ := getS2 X5i hx hZ hown (host := "") (Or.inl (ow hw 222)) Via.refl e5i (j9_.ext O.2) (g := (mkF m 42 #[.val (.ref t), .val (.int ((i <<< ((1 : Int32) &&& 31)) + (1 : Int32)))] [(.int (x_ &&& (255 : Int32)))])) rfl (B d44_42)
 refine oG st5k ?_
 show oF p e below (T5k.setTop (mkF m 45 #[.val (.ref t), .val (.int ((i <<< ((1 : Int32) &&& 31)) + (1 : Int32)))] [(.int 0), (.int (x_ &&& (255 : Int32)))])) _
 refine oG (fun _ k => XS.ishl X5k.here hx rfl (B d44_45) rfl (XS.aloadN X5k.here hx rfl (B d44_46) rfl rfl (XS.iloadN X5k.here hx rfl (B d44_47) rfl k))) ?_
 show oF p e below (T5k.setTop (mkF m 48 #[.val (.ref t), .val (.int ((i <<< ((1 : Int32) &&& 31)) + (1 : Int32)))] [(.int ((i <<< ((1 : Int32) &&& 31)) + (1 : Int32))), (.ref t), (.int ((x_ &&& (255 : Int32)) <<< ((0 : Int32) &&& 31)))])) _
 obtain ⟨cl5l, A5l, q5l, S5l, M5l, H5l, G5l⟩ := id V_t
 have hin5l : ¬ (((i <<< ((1 : Int32) &&& 31)) + (1 : Int32)) < 0 ∨ cl5l.slots.size ≤ (((i <<< ((1 : Int32) &&& 31)) + (1 : Int32))).toNatClampNeg) := inb_of S5l hb_
 have hat5l : cl5l.slots[(((i <<< ((1 : Int32) &&& 31)) + (1 : Int32))).toNatClampNeg]? = some (.int y_) := Has.at H5l hin5l hau
 refine oG (fun _ k => X5k.baloadBytes hx (j := ((i <<< ((1 : Int32) &&& 31)) + (1 : Int32))) (v := (.int y_)) (o_eqE e5k A5l.1) (State.isArrayOf_alike hZ.alike A5l.2.1) A5l.2.2 hin5l hat5l (g := (mkF m 48 #[.val (.ref t), .val (.int ((i <<< ((1 : Int32) &&& 31)) + (1 : Int32)))] [(.int ((i <<< ((1 : Int32) &&& 31)) + (1 : Int32))), (.ref t), (.int ((x_ &&& (255 : Int32)) <<< ((0 : Int32) &&& 31)))])) rfl rfl (B d44_48) _ k) ?_
 show oF p e below (T5k.setTop (mkF m 49 #[.val (.ref t), .val (.int ((i <<< ((1 : Int32) &&& 31)) + (1 : Int32)))] [(.int y_), (.int ((x_ &&& (255 : Int32)) <<< ((0 : Int32) &&& 31)))])) _
 refine oG (fun _ k => XS.sipush X5k.here hx rfl (B d44_49) (XS.iand X5k.here hx rfl (B d44_52) rfl k)) ?_
 show oF p e below (T5k.setTop (mkF m 53 #[.val (.ref t), .val (.int ((i <<< ((1 : Int32) &&& 31)) + (1 : Int32)))] [(.int (y_ &&& (255 : Int32))), (.int ((x_ &&& (255 : Int32)) <<< ((0 : Int32) &&& 31)))])) _
 obtain ⟨T5m, X5m, e5m, st5m⟩ := getS2 X5k hx hZ hown (host := "") (Or.inl (ow hw 223)) Via.refl e5k (j10_.ext O.2) (g := (mkF m 53 #[.val (.ref t), .val (.int ((i <<< ((1 : Int32) &&& 31)) + (1 : Int32)))] [(.int (y_ &&& (255 : Int32))), (.int ((x_ &&& (255 : Int32)) <<< ((0 : Int32) &&& 31)))])) rfl (B d44_53)
 refine oG st5m ?_
 show oF p e below (T5m.setTop (mkF m 56 #[.val (.ref t), .val (.int ((i <<< ((1 : Int32) &&& 31)) + (1 : Int32)))] [(.int 8), (.int (y_ &&& (255 : Int32))), (.int ((x_ &&& (255 : Int32)) <<< ((0 : Int32) &&& 31)))])) _
 refine oG (fun _ k => XS.ishl X5m.here hx rfl (B d44_56) rfl (XS.ior X5m.here hx rfl (B d44_57) rfl (XS.i2c X5m.here hx rfl (B d44_58) rfl k))) ?_
 show oF p e below (T5m.setTop (mkF m 59 #[.val (.ref t), .val (.int ((i <<< ((1 : Int32) &&& 31)) + (1 : Int32)))] [(.int ((((x_ &&& (255 : Int32)) <<< ((0 : Int32) &&& 31)) ||| ((y_ &&& (255 : Int32)) <<< ((8 : Int32) &&& 31))).toUInt32.toUInt16.toUInt32.toInt32))])) _
 obtain ⟨fs, hr, r1, r2, hW, r3⟩ := X5m.leave (v := some (.int (nar .char ((((x_ &&& (255 : Int32)) <<< ((0 : Int32) &&& 31)) ||| ((y_ &&& (255 : Int32)) <<< ((8 : Int32) &&& 31))).toUInt32.toUInt16.toUInt32.toInt32)))) (fun h => by rw [Bd.returns] at h; cases h)
 refine ⟨_, _, ?_, r1, r2, _, _, rfl, ?_, ⟨_, rfl⟩, hW, r3.mono (by decide) (by decide)⟩
 ·exact retN X5m hx (t := .char) Bd.returns (by simp) (B d44_59) hr
 ·show Qgch Z x_ y_ h0 n0 _ T5m.heap _
  rw [e5m]
  exact ⟨(by first | rfl | (congr 1)), N0, rfl⟩
theorem o_j0 {i : Int32} {k_ : Nat} (hik : i.toInt = (k_ : Int)) (h4 : k_ ≤ 100) : (i <<< ((1 : Int32) &&& 31)).toInt = 2 * (k_ : Int) := by
 have b := o_x2i (N := i) (by omega) (by omega)
 omega
theorem o_j1 {i : Int32} {k_ : Nat} (hik : i.toInt = (k_ : Int)) (h4 : k_ ≤ 100) : ((i <<< ((1 : Int32) &&& 31)) + (1 : Int32)).toInt = 2 * (k_ : Int) + 1 := by
 have a := o_j0 hik h4
 have b := o_p1 (i := i <<< ((1 : Int32) &&& 31)) (by omega) (by omega)
 omega
theorem o_ja {i n_ : Int32} {k_ : Nat} {cs : List Int32} (hik : i.toInt = (k_ : Int)) (hkl : k_ < cs.length) (h4 : cs.length ≤ 40) (hn : n_.toInt = (cs.length : Int)) : ¬ ((i <<< ((1 : Int32) &&& 31)) < 0) ∧ (i <<< ((1 : Int32) &&& 31)) < (n_ <<< ((1 : Int32) &&& 31)) := by
 have a := o_j0 hik (by omega)
 have b := o_x2i (N := n_) (by omega) (by omega)
 exact ⟨o_nn (by omega), by rw [Int32.lt_iff_toInt_lt]; omega⟩
theorem o_jb {i n_ : Int32} {k_ : Nat} {cs : List Int32} (hik : i.toInt = (k_ : Int)) (hkl : k_ < cs.length) (h4 : cs.length ≤ 40) (hn : n_.toInt = (cs.length : Int)) : ¬ (((i <<< ((1 : Int32) &&& 31)) + (1 : Int32)) < 0) ∧ ((i <<< ((1 : Int32) &&& 31)) + (1 : Int32)) < (n_ <<< ((1 : Int32) &&& 31)) := by
 have a := o_j1 hik (by omega)
 have b := o_x2i (N := n_) (by omega) (by omega)
 exact ⟨o_nn (by omega), by rw [Int32.lt_iff_toInt_lt]; omega⟩
theorem o_jc {i : Int32} {k_ : Nat} {cs : List Int32} (hik : i.toInt = (k_ : Int)) (hkl : k_ < cs.length) (h4 : cs.length ≤ 40) : (o_u16 cs).getD (i <<< ((1 : Int32) &&& 31)).toNatClampNeg (.int 0) = .int (o_lo (cs.getD k_ 0)) := by
 have a := o_j0 hik (by omega)
 have b := o_cn (N := i <<< ((1 : Int32) &&& 31)) (by omega)
 have e : (i <<< ((1 : Int32) &&& 31)).toNatClampNeg = 2 * k_ := by omega
 rw [e]; exact (o_u16g cs k_ hkl _).1
theorem o_jd {i : Int32} {k_ : Nat} {cs : List Int32} (hik : i.toInt = (k_ : Int)) (hkl : k_ < cs.length) (h4 : cs.length ≤ 40) : (o_u16 cs).getD ((i <<< ((1 : Int32) &&& 31)) + (1 : Int32)).toNatClampNeg (.int 0) = .int (o_hi (cs.getD k_ 0)) := by
 have a := o_j1 hik (by omega)
 have b := o_cn (N := (i <<< ((1 : Int32) &&& 31)) + (1 : Int32)) (by omega)
 have e : ((i <<< ((1 : Int32) &&& 31)) + (1 : Int32)).toNatClampNeg = 2 * k_ + 1 := by omega
 rw [e]; exact (o_u16g cs k_ hkl _).2
theorem o_gcc {cs : List Int32} {k_ : Nat} (hr : o_rng cs) (hk : k_ < cs.length) (hb : 255 < (cs.getD k_ 0).toInt) : (255 : Int32) < (nar .char (((((o_lo (cs.getD k_ 0)) &&& (255 : Int32)) <<< ((0 : Int32) &&& 31)) ||| (((o_hi (cs.getD k_ 0)) &&& (255 : Int32)) <<< ((8 : Int32) &&& 31))).toUInt32.toUInt16.toUInt32.toInt32)) := by
 have a := hr _ (o_gmem hk)
 rw [o_gc a.1 a.2, o_i2c a.1 a.2, o_narc a.1 a.2, Int32.lt_iff_toInt_lt, o_255]; exact hb
theorem o_kne {k n : Int32} {j_ : Nat} {cs : List Int32} (h : k.toInt = (j_ : Int)) (hj : j_ < cs.length) (hn : n.toInt = (cs.length : Int)) : ¬ (k = n) := by
 rw [← Int32.toInt_inj]; omega
theorem o_cfa0 (n : Int32) : ((n - n).toUInt32 >>> ((31 : Int32) &&& 31).toUInt32).toInt32.toInt8.toInt32 = 0 := by
 rw [Int32.sub_self]; decide
theorem o_cfa1 {n : Int32} (h0 : 0 < n.toInt) (h1 : n.toInt ≤ 100) : ((n - (n <<< ((1 : Int32) &&& 31))).toUInt32 >>> ((31 : Int32) &&& 31).toUInt32).toInt32.toInt8.toInt32 = 1 := by
 have a := o_x2i (N := n) (by omega) (by omega)
 have b := c_isub n (n <<< ((1 : Int32) &&& 31))
 have r := rng32 (n - (n <<< ((1 : Int32) &&& 31)))
 have s := c_iushr (n - (n <<< ((1 : Int32) &&& 31))) 31 31 (by decide) (by decide)
 have e : (((n - (n <<< ((1 : Int32) &&& 31))).toUInt32 >>> ((31 : Int32) &&& 31).toUInt32).toInt32) = 1 := by
   have d : (1 : Int32).toInt = 1 := by decide
   rw [← Int32.toInt_inj, s, d]; omega
 rw [e]; decide
theorem d35_0 : decode k43_ 0 = .ok (.iload_n 2, 1) := by decide +kernel
theorem d35_1 : decode k43_ 1 = .ok (.newarray .byte, 2) := by decide +kernel
theorem d35_3 : decode k43_ 3 = .ok (.astore_n 3, 1) := by decide +kernel
theorem d35_4 : decode k43_ 4 = .ok (.aload_n 0, 1) := by decide +kernel
theorem d35_5 : decode k43_ 5 = .ok (.iload_n 1, 1) := by decide +kernel
theorem d35_6 : decode k43_ 6 = .ok (.aload_n 3, 1) := by decide +kernel
theorem d35_7 : decode k43_ 7 = .ok (.iconst 0, 1) := by decide +kernel
theorem d35_8 : decode k43_ 8 = .ok (.iload_n 2, 1) := by decide +kernel
theorem d35_9 : decode k43_ 9 = .ok (.invokestatic 115, 3) := by decide +kernel
theorem pd_28 : parseMethodDescriptor "([CI[BII)I" = some ⟨[(.array .char), .int, (.array .byte), .int, .int], some .int⟩ := by decide +kernel
theorem d35_12 : decode k43_ 12 = .ok (.istore 4, 2) := by decide +kernel
theorem d35_14 : decode k43_ 14 = .ok (.iload 4, 2) := by decide +kernel
theorem d35_16 : decode k43_ 16 = .ok (.iload_n 2, 1) := by decide +kernel
theorem d35_17 : decode k43_ 17 = .ok (.if_icmp .eq 40, 3) := by decide +kernel
theorem d35_57 : decode k43_ 57 = .ok (.aload_n 3, 1) := by decide +kernel
theorem d35_58 : decode k43_ 58 = .ok (.areturn, 1) := by decide +kernel
theorem d35_20 : decode k43_ 20 = .ok (.aload_n 0, 1) := by decide +kernel
theorem d35_21 : decode k43_ 21 = .ok (.iload_n 1, 1) := by decide +kernel
theorem d35_22 : decode k43_ 22 = .ok (.iload_n 2, 1) := by decide +kernel
theorem d35_23 : decode k43_ 23 = .ok (.invokestatic 119, 3) := by decide +kernel
theorem pd_29 : parseMethodDescriptor "([CII)[B" = some ⟨[(.array .char), .int, .int], some (.array .byte)⟩ := by decide +kernel
theorem d35_26 : decode k43_ 26 = .ok (.astore 5, 2) := by decide +kernel
theorem d35_28 : decode k43_ 28 = .ok (.aload 5, 2) := by decide +kernel
theorem d35_30 : decode k43_ 30 = .ok (.iload 4, 2) := by decide +kernel
theorem d35_32 : decode k43_ 32 = .ok (.invokestatic 71, 3) := by decide +kernel
theorem pd_30 : parseMethodDescriptor "([BI)C" = some ⟨[(.array .byte), .int], some .char⟩ := by decide +kernel
theorem d35_35 : decode k43_ 35 = .ok (.sipush 255, 3) := by decide +kernel
theorem d35_38 : decode k43_ 38 = .ok (.if_icmp .gt 16, 3) := by decide +kernel
theorem d35_54 : decode k43_ 54 = .ok (.aload 5, 2) := by decide +kernel
theorem d35_56 : decode k43_ 56 = .ok (.areturn, 1) := by decide +kernel
theorem ef_cpr (m : MethodId) (x0 : Addr) (x1 : Int32) (x2 : Int32) : entryFrame m #[(.ref x0), (.int x1), (.int x2)] 6 = mkF m 0 #[.val (.ref x0), .val (.int x1), .val (.int x2), .unset, .unset, .unset] [] := by first | (simp [entryFrame, mkF, argsToLocals, Value.category]; done) | rfl
def Qcpr (Z : State) (n_ : Int32) (cs : List Int32) (h0 : Heap) (n0 : Nat) (v : Option Value) (h : Heap) (L : List Loc) : Prop := ∃ (b_ : Addr) (kb_ : ClassId), v = some (.ref b_) ∧ Fr n0 L ∧ Keep h0 h [] ∧ h0.size ≤ b_ ∧ o_BA Z h b_ kb_ n_ cs
theorem cpr (l : Launch) (Z : State) (a0 : Array Value) (hw : ∀ d ∈ tables_1, d.before a0 Z = true) (ws : List Jvm.Cond) (a : Addr) (n_ : Int32) (ka : ClassId) (cs : List Int32) (h0 : Heap) (n0 : Nat) (O : Old Z n0 h0) (j8_ : sT0 Z (.int 1)) (j9_ : sT1 Z (.int 0)) (j10_ : sT2 Z (.int 8)) (V_a : Arv Z h0 a ka .char n_ (o_ch cs) (.int 0)) (hrg : o_rng cs) (hn_ : n_.toInt = (cs.length : Int)) (h4 : cs.length ≤ 40) :
   o_MF l Z mN43 jdk_52_method_16_code 6 (some (.array .byte)) ws rM28 #[(.ref a), (.int 0), (.int n_)] h0 (Qcpr Z n_ cs h0 n0) := by
 refine MetFree.of_bodySF (plainFor_of_name pn_0) hisR ?_
 intro p e s m args below meth c s₁ Bd hml0 hP hK
 obtain ⟨rfl, hZ, hh⟩ := hP
 have hx := Bd.exec
 have hby := Bd.bytes
 have B := @hb _ _ hby
 have hml : c.maxLocals = 6 := hml0
 have hown : s.vm.findClass "java/lang/StringUTF16" = some m.cls := findClass_of_methodNamed Bd.named
 have X0 : Stand p l e rM28 s m #[(.ref a), (.int 0), (.int n_)] below meth c s₁ [] 0 0 := Stand.of_body Bd
 have e0 : s₁.heap = h0 := by rw [← hh, Bd.state]; rfl
 have N0 := Fr.nil n0
 have K0 := Keep.refl h0 []
 refine o_start (ef_cpr m a (0 : Int32) n_) (Q := o_QE s rM28 (Qcpr Z n_ cs h0 n0)) ?_
 show oF p e below (s₁.setTop (mkF m 0 #[.val (.ref a), .val (.int 0), .val (.int n_), .unset, .unset, .unset] [])) _
 refine oG (fun _ k => XS.iloadN X0.here hx rfl (B d35_0) rfl k) ?_
 show oF p e below (s₁.setTop (mkF m 1 #[.val (.ref a), .val (.int 0), .val (.int n_), .unset, .unset, .unset] [(.int n_)])) _
 obtain ⟨T5n, h5n, k5n, X5n, e5n, E5n, A5n, B5n, st5n⟩ := newPE X0 hx hZ (ow hw 27) e0 (g := (mkF m 1 #[.val (.ref a), .val (.int 0), .val (.int n_), .unset, .unset, .unset] [(.int n_)])) rfl (B d35_1) rfl (o_nn (by omega)) (cap := 40) (by have := o_cn (N := n_) (by omega); omega) (by decide) (by decide) (by decide) (ad := "[B") (by decide)
 obtain ⟨b5n, g5n⟩ : ∃ z, z = h0.size := ⟨_, rfl⟩
 rw [← g5n] at A5n st5n B5n
 refine oG st5n ?_
 have j168_ : a ≠ b5n := Nat.ne_of_lt (Nat.lt_of_lt_of_le V_a.lt (Nat.le_of_eq g5n.symm))
 have j169_ : n0 ≤ b5n := Nat.le_trans (o_osz O) (Nat.le_of_eq g5n.symm)
 have j170_ : h0.size ≤ b5n := Nat.le_trans K0.1 (Nat.le_of_eq g5n.symm)
 have V_a := V_a.ext E5n
 have O := O.ext E5n
 have K5o := K0.ext E5n
 have j87_ := B5n
 have j74_ : Arv Z h5n b5n k5n .byte n_ [] (.int 0) := Arv.new A5n (o_nn (by omega))
 show oF p e below (T5n.setTop (mkF m 3 #[.val (.ref a), .val (.int 0), .val (.int n_), .unset, .unset, .unset] [(.ref b5n)])) _
 refine oG (fun _ k => XS.astoreN X5n.here hx rfl (B d35_3) rfl rfl (l' := #[.val (.ref a), .val (.int 0), .val (.int n_), .val (.ref b5n), .unset, .unset]) rfl (XS.aloadN X5n.here hx rfl (B d35_4) rfl rfl (XS.iloadN X5n.here hx rfl (B d35_5) rfl (XS.aloadN X5n.here hx rfl (B d35_6) rfl rfl (XS.iconst X5n.here hx rfl (B d35_7) (XS.iloadN X5n.here hx rfl (B d35_8) rfl k)))))) ?_
 show oF p e below (T5n.setTop (mkF m 9 #[.val (.ref a), .val (.int 0), .val (.int n_), .val (.ref b5n), .unset, .unset] [(.int n_), (.int 0), (.ref b5n), (.int 0), (.ref a)])) _
 obtain ⟨_, _, ⟨T5p, L5p, k5p, n5p⟩, -, X5p, ⟨Lc5p, hQ5p, l5p, y5p, z5p⟩, st5p⟩ := Jvm.LawKit.callS X5n hx (y := mN40) hown (mo hZ hw 192) (mo hZ hw 193) (mo hZ hw 190) (mo hZ hw 194) (by decide) (backOf (W := 0) (cmp l Z a0 hw [] a b5n n_ ka cs k5n h5n n0 O V_a hrg hn_ h4 j74_ j169_ j168_) hZ (ow hw 194) (ow hw 190) (by decide) (by decide)) (g := (mkF m 9 #[.val (.ref a), .val (.int 0), .val (.int n_), .val (.ref b5n), .unset, .unset] [(.int n_), (.int 0), (.ref b5n), (.int 0), (.ref a)])) rfl (by rw [hml]; rfl) (argsL := [(.ref a), (.int 0), (.ref b5n), (.int 0), (.int n_)]) (rest := []) (lenOf pd_28 rfl) rfl (by show 2 * 0 + _ ≤ _; exact Nat.le_of_eq rfl) (B d35_9) (fun _ _ => ⟨rfl, e5n, (by decide : 1 + 0 ≤ _), (by decide : 40 + 0 ≤ _)⟩)
 dsimp only [Pt.U, Pt.locs, Pt.cells, Pt.slots] at X5p l5p y5p z5p st5p hQ5p
 subst y5p z5p
 obtain ⟨k_5q, vs_429, rfl, N5pq, Kq5p, P5p_0, P5p_1, P5p_2⟩ := hQ5p
 refine oG st5p ?_
 have N5p := oL l5p (Fr.app N0 N5pq)
 have V_a := V_a.keep Kq5p (ninS j168_ nin0)
 have j87_ := j87_.keep Kq5p
 clear j74_
 have O := O.keep Kq5p (allS j169_ all0)
 have K5r := K5o.trans Kq5p (allS (Or.inr j170_) all0)
 have j74_ := P5p_1
 show oF p e below (T5p.setTop (mkF m 12 #[.val (.ref a), .val (.int 0), .val (.int n_), .val (.ref b5n), .unset, .unset] [(.int k_5q)])) _
 rcases P5p_0 with hke | ⟨j_, hk1, hk2, hk3⟩
 ·show oF p e below (T5p.setTop (mkF m 12 #[.val (.ref a), .val (.int 0), .val (.int n_), .val (.ref b5n), .unset, .unset] [(.int k_5q)])) _
  refine oG (fun _ k => XS.istore X5p.here hx rfl (B d35_12) rfl (l' := #[.val (.ref a), .val (.int 0), .val (.int n_), .val (.ref b5n), .val (.int k_5q), .unset]) rfl (XS.iload X5p.here hx rfl (B d35_14) rfl (XS.iloadN X5p.here hx rfl (B d35_16) rfl (XS.icmpYes X5p.here hx rfl (pc0 := 17) (pc' := 57) rfl (B d35_17) rfl (teq hke.2).1 (by decide) (by decide) (XS.aloadN X5p.here hx rfl (B d35_57) rfl rfl k))))) ?_
  show oF p e below (T5p.setTop (mkF m 58 #[.val (.ref a), .val (.int 0), .val (.int n_), .val (.ref b5n), .val (.int k_5q), .unset] [(.ref b5n)])) _
  obtain ⟨fs, hr, r1, r2, hW, r3⟩ := X5p.leave (v := some (.ref b5n)) (fun h => by rw [Bd.returns] at h; cases h)
  refine ⟨_, _, ?_, r1, r2, _, _, rfl, ?_, ⟨_, rfl⟩, hW, r3.mono (by decide) (by decide)⟩
  ·exact X5p.areturnOut hx rfl Bd.returns rfl (B d35_58) hr
  ·show Qcpr Z n_ cs h0 n0 _ T5p.heap _
   exact ⟨b5n, k5n, rfl, N5p, K5r, j170_, (Or.inl ⟨hke.1, by rw [← P5p_2 hke.1]; exact j74_⟩)⟩
 ·show oF p e below (T5p.setTop (mkF m 12 #[.val (.ref a), .val (.int 0), .val (.int n_), .val (.ref b5n), .unset, .unset] [(.int k_5q)])) _
  refine oG (fun _ k => XS.istore X5p.here hx rfl (B d35_12) rfl (l' := #[.val (.ref a), .val (.int 0), .val (.int n_), .val (.ref b5n), .val (.int k_5q), .unset]) rfl (XS.iload X5p.here hx rfl (B d35_14) rfl (XS.iloadN X5p.here hx rfl (B d35_16) rfl (XS.icmpNo X5p.here hx rfl (B d35_17) rfl (feq ((o_kne hk1 hk2 hn_) : ¬ (k_5q = n_))).1 (XS.aloadN X5p.here hx rfl (B d35_20) rfl rfl (XS.iloadN X5p.here hx rfl (B d35_21) rfl (XS.iloadN X5p.here hx rfl (B d35_22) rfl k))))))) ?_
  show oF p e below (T5p.setTop (mkF m 23 #[.val (.ref a), .val (.int 0), .val (.int n_), .val (.ref b5n), .val (.int k_5q), .unset] [(.int n_), (.int 0), (.ref a)])) _
  obtain ⟨_, _, ⟨T5s, L5s, k5s, n5s⟩, -, X5s, ⟨Lc5s, hQ5s, l5s, y5s, z5s⟩, st5s⟩ := Jvm.LawKit.callS X5p hx (y := mN41) hown (mo hZ hw 208) (mo hZ hw 209) (mo hZ hw 190) (mo hZ hw 210) (by decide) (backOf (W := 0) (tby l Z a0 hw [] a n_ ka cs (T5p.heap) n0 O j8_ j9_ j10_ V_a hrg hn_ h4) hZ (ow hw 210) (ow hw 190) (by decide) (by decide)) (g := (mkF m 23 #[.val (.ref a), .val (.int 0), .val (.int n_), .val (.ref b5n), .val (.int k_5q), .unset] [(.int n_), (.int 0), (.ref a)])) rfl (by rw [hml]; rfl) (argsL := [(.ref a), (.int 0), (.int n_)]) (rest := []) (lenOf pd_29 rfl) rfl (by show 2 * 0 + _ ≤ _; exact Nat.le_of_eq rfl) (B d35_23) (fun _ _ => ⟨rfl, rfl, (by decide : 1 + 1 ≤ _), (by decide : 40 + 200 ≤ _)⟩)
  dsimp only [Pt.U, Pt.locs, Pt.cells, Pt.slots] at X5s l5s y5s z5s st5s hQ5s
  subst y5s z5s
  obtain ⟨b_5t, k_5u, rfl, N5sq, Kq5s, P5s_0, P5s_1, P5s_2⟩ := hQ5s
  refine oG st5s ?_
  have N5s := oL l5s (Fr.app N5p N5sq)
  have ne_a_b_433 : a ≠ b_5t := Nat.ne_of_lt (Nat.lt_of_lt_of_le V_a.lt P5s_0)
  have ne_b425_b_433 : b5n ≠ b_5t := Nat.ne_of_lt (Nat.lt_of_lt_of_le j87_.lt P5s_0)
  have g_b_433 : n0 ≤ b_5t := Nat.le_trans (o_osz O) P5s_0
  have sz_b_433 : h0.size ≤ b_5t := Nat.le_trans K5r.1 P5s_0
  have V_a := V_a.keep Kq5s nin0
  have j87_ := j87_.keep Kq5s
  have j74_ := j74_.keep Kq5s nin0
  have O := O.keep Kq5s all0
  have K5v := K5r.trans Kq5s all0
  have j171_ := P5s_1
  have E_b_433 := P5s_2
  show oF p e below (T5s.setTop (mkF m 26 #[.val (.ref a), .val (.int 0), .val (.int n_), .val (.ref b5n), .val (.int k_5q), .unset] [(.ref b_5t)])) _
  refine oG (fun _ k => XS.astore X5s.here hx rfl (B d35_26) rfl rfl (l' := #[.val (.ref a), .val (.int 0), .val (.int n_), .val (.ref b5n), .val (.int k_5q), .val (.ref b_5t)]) rfl (XS.aload X5s.here hx rfl (B d35_28) rfl rfl (XS.iload X5s.here hx rfl (B d35_30) rfl k))) ?_
  show oF p e below (T5s.setTop (mkF m 32 #[.val (.ref a), .val (.int 0), .val (.int n_), .val (.ref b5n), .val (.int k_5q), .val (.ref b_5t)] [(.int k_5q), (.ref b_5t)])) _
  obtain ⟨_, _, ⟨T5w, L5w, k5w, n5w⟩, -, X5w, ⟨Lc5w, hQ5w, l5w, y5w, z5w⟩, st5w⟩ := Jvm.LawKit.callS X5s hx (y := mN42) hown (mo hZ hw 224) (mo hZ hw 225) (mo hZ hw 190) (mo hZ hw 226) (by decide) (backOf (W := 0) (gch l Z a0 hw [] b_5t k_5q k_5u (n_ <<< ((1 : Int32) &&& 31)) (o_u16 cs) (o_lo (cs.getD j_ 0)) (o_hi (cs.getD j_ 0)) (T5s.heap) n0 O j8_ j9_ j10_ j171_ (o_ja hk1 hk2 h4 hn_) (o_jb hk1 hk2 h4 hn_) (o_jc hk1 hk2 h4) (o_jd hk1 hk2 h4)) hZ (ow hw 226) (ow hw 190) (by decide) (by decide)) (g := (mkF m 32 #[.val (.ref a), .val (.int 0), .val (.int n_), .val (.ref b5n), .val (.int k_5q), .val (.ref b_5t)] [(.int k_5q), (.ref b_5t)])) rfl (by rw [hml]; rfl) (argsL := [(.ref b_5t), (.int k_5q)]) (rest := []) (lenOf pd_30 rfl) rfl (by show 2 * 0 + _ ≤ _; exact Nat.le_of_eq rfl) (B d35_32) (fun _ _ => ⟨rfl, rfl, (by decide : 2 + 0 ≤ _), (by decide : 240 + 0 ≤ _)⟩)
  dsimp only [Pt.U, Pt.locs, Pt.cells, Pt.slots] at X5w l5w y5w z5w st5w hQ5w
  subst y5w z5w
  obtain ⟨rfl, N5wq, e5w⟩ := hQ5w
  refine oG st5w ?_
  have N5w := oL l5w (Fr.app N5s N5wq)
  show oF p e below (T5w.setTop (mkF m 35 #[.val (.ref a), .val (.int 0), .val (.int n_), .val (.ref b5n), .val (.int k_5q), .val (.ref b_5t)] [(.int (nar .char ((((((o_lo (cs.getD j_ 0)) &&& (255 : Int32)) <<< ((0 : Int32) &&& 31)) ||| (((o_hi (cs.getD j_ 0)) &&& (255 : Int32)) <<< ((8 : Int32) &&& 31))).toUInt32.toUInt16.toUInt32.toInt32))))])) _
  refine oG (fun _ k => XS.sipush X5w.here hx rfl (B d35_35) (XS.icmpYes X5w.here hx rfl (pc0 := 38) (pc' := 54) rfl (B d35_38) rfl (tlt ((o_gcc hrg hk2 hk3) : (255 : Int32) < (nar .char ((((((o_lo (cs.getD j_ 0)) &&& (255 : Int32)) <<< ((0 : Int32) &&& 31)) ||| (((o_hi (cs.getD j_ 0)) &&& (255 : Int32)) <<< ((8 : Int32) &&& 31))).toUInt32.toUInt16.toUInt32.toInt32))))).2.2.1 (by decide) (by decide) (XS.aload X5w.here hx rfl (B d35_54) rfl rfl k))) ?_
  show oF p e below (T5w.setTop (mkF m 56 #[.val (.ref a), .val (.int 0), .val (.int n_), .val (.ref b5n), .val (.int k_5q), .val (.ref b_5t)] [(.ref b_5t)])) _
  obtain ⟨fs, hr, r1, r2, hW, r3⟩ := X5w.leave (v := some (.ref b_5t)) (fun h => by rw [Bd.returns] at h; cases h)
  refine ⟨_, _, ?_, r1, r2, _, _, rfl, ?_, ⟨_, rfl⟩, hW, r3.mono (by decide) (by decide)⟩
  ·exact X5w.areturnOut hx rfl Bd.returns rfl (B d35_56) hr
  ·show Qcpr Z n_ cs h0 n0 _ T5w.heap _
   rw [e5w]
   exact ⟨b_5t, k_5u, rfl, N5w, K5v, sz_b_433, (Or.inr ⟨o_jbg hk2 hk3, j171_⟩)⟩
theorem d37_0 : decode k44_ 0 = .ok (.iload_n 1, 1) := by decide +kernel
theorem d37_1 : decode k44_ 1 = .ok (.aload_n 0, 1) := by decide +kernel
theorem d37_2 : decode k44_ 2 = .ok (.arraylength, 1) := by decide +kernel
theorem d37_3 : decode k44_ 3 = .ok (.isub, 1) := by decide +kernel
theorem d37_4 : decode k44_ 4 = .ok (.bipush 31, 2) := by decide +kernel
theorem d37_6 : decode k44_ 6 = .ok (.iushr, 1) := by decide +kernel
theorem d37_7 : decode k44_ 7 = .ok (.i2b, 1) := by decide +kernel
theorem d37_8 : decode k44_ 8 = .ok (.ireturn, 1) := by decide +kernel
def Qcfa0 (Z : State)  (h0 : Heap) (n0 : Nat) (v : Option Value) (h : Heap) (L : List Loc) : Prop := v = some (.int 0) ∧ Fr n0 L ∧ h = h0
theorem cfa0 (l : Launch) (Z : State) (a0 : Array Value) (hw : ∀ d ∈ tables_1, d.before a0 Z = true) (ws : List Jvm.Cond) (t : Addr) (n_ : Int32) (kt : ClassId) (vs : List Value) (h0 : Heap) (n0 : Nat) (O : Old Z n0 h0) (V_t : Arv Z h0 t kt .byte n_ vs (.int 0)) :
   o_MF l Z mN44 jdk_52_method_15_code 2 (some .byte) ws rM0 #[(.ref t), (.int n_)] h0 (Qcfa0 Z  h0 n0) := by
 refine MetFree.of_bodySF (plainFor_of_name pn_0) hisR ?_
 intro p e s m args below meth c s₁ Bd hml0 hP hK
 obtain ⟨rfl, hZ, hh⟩ := hP
 have hx := Bd.exec
 have hby := Bd.bytes
 have B := @hb _ _ hby
 have hml : c.maxLocals = 2 := hml0
 have hown : s.vm.findClass "java/lang/StringUTF16" = some m.cls := findClass_of_methodNamed Bd.named
 have X0 : Stand p l e rM0 s m #[(.ref t), (.int n_)] below meth c s₁ [] 0 0 := Stand.of_body Bd
 have e0 : s₁.heap = h0 := by rw [← hh, Bd.state]; rfl
 have N0 := Fr.nil n0
 refine o_start (ef_saz m t n_) (Q := o_QE s rM0 (Qcfa0 Z  h0 n0)) ?_
 show oF p e below (s₁.setTop (mkF m 0 #[.val (.ref t), .val (.int n_)] [])) _
 refine oG (fun _ k => XS.iloadN X0.here hx rfl (B d37_0) rfl (XS.aloadN X0.here hx rfl (B d37_1) rfl rfl k)) ?_
 show oF p e below (s₁.setTop (mkF m 2 #[.val (.ref t), .val (.int n_)] [(.ref t), (.int n_)])) _
 obtain ⟨cl5x, A5x, -, S5x, M5x, -, -⟩ := id V_t
 refine oG (fun _ k => X0.arraylength hx (o_eqE e0 A5x.1) (State.isArrayOf_alike hZ.alike A5x.2.1) (g := (mkF m 2 #[.val (.ref t), .val (.int n_)] [(.ref t), (.int n_)])) rfl rfl (B d37_2) _ (by rw [len_of S5x M5x]; exact k)) ?_
 show oF p e below (s₁.setTop (mkF m 3 #[.val (.ref t), .val (.int n_)] [(.int n_), (.int n_)])) _
 refine oG (fun _ k => XS.isub X0.here hx rfl (B d37_3) rfl (XS.bipush X0.here hx rfl (B d37_4) (XS.iushr X0.here hx rfl (B d37_6) rfl (XS.i2b X0.here hx rfl (B d37_7) rfl k)))) ?_
 show oF p e below (s₁.setTop (mkF m 8 #[.val (.ref t), .val (.int n_)] [(.int ((((n_ - n_).toUInt32 >>> ((31 : Int32) &&& 31).toUInt32).toInt32).toInt8.toInt32))])) _
 obtain ⟨fs, hr, r1, r2, hW, r3⟩ := X0.leave (v := some (.int (nar .byte ((((n_ - n_).toUInt32 >>> ((31 : Int32) &&& 31).toUInt32).toInt32).toInt8.toInt32)))) (fun h => by rw [Bd.returns] at h; cases h)
 refine ⟨_, _, ?_, r1, r2, _, _, rfl, ?_, ⟨_, rfl⟩, hW, r3.mono (by decide) (by decide)⟩
 ·exact retN X0 hx (t := .byte) Bd.returns (by simp) (B d37_8) hr
 ·show Qcfa0 Z  h0 n0 _ s₁.heap _
  rw [e0]
  exact ⟨(by rw [o_cfa0] <;> rfl), N0, rfl⟩
def Qcfa1 (Z : State)  (h0 : Heap) (n0 : Nat) (v : Option Value) (h : Heap) (L : List Loc) : Prop := v = some (.int 1) ∧ Fr n0 L ∧ h = h0
theorem cfa1 (l : Launch) (Z : State) (a0 : Array Value) (hw : ∀ d ∈ tables_1, d.before a0 Z = true) (ws : List Jvm.Cond) (t : Addr) (n_ : Int32) (kt : ClassId) (vs : List Value) (h0 : Heap) (n0 : Nat) (O : Old Z n0 h0) (V_t : Arv Z h0 t kt .byte (n_ <<< ((1 : Int32) &&& 31)) vs (.int 0)) (hn0 : 0 < n_.toInt) (hn1 : n_.toInt ≤ 100) :
   o_MF l Z mN44 jdk_52_method_15_code 2 (some .byte) ws rM0 #[(.ref t), (.int n_)] h0 (Qcfa1 Z  h0 n0) := by
 refine MetFree.of_bodySF (plainFor_of_name pn_0) hisR ?_
 intro p e s m args below meth c s₁ Bd hml0 hP hK
 obtain ⟨rfl, hZ, hh⟩ := hP
 have hx := Bd.exec
 have hby := Bd.bytes
 have B := @hb _ _ hby
 have hml : c.maxLocals = 2 := hml0
 have hown : s.vm.findClass "java/lang/StringUTF16" = some m.cls := findClass_of_methodNamed Bd.named
 have X0 : Stand p l e rM0 s m #[(.ref t), (.int n_)] below meth c s₁ [] 0 0 := Stand.of_body Bd
 have e0 : s₁.heap = h0 := by rw [← hh, Bd.state]; rfl
 have N0 := Fr.nil n0
 refine o_start (ef_saz m t n_) (Q := o_QE s rM0 (Qcfa1 Z  h0 n0)) ?_
 show oF p e below (s₁.setTop (mkF m 0 #[.val (.ref t), .val (.int n_)] [])) _
 refine oG (fun _ k => XS.iloadN X0.here hx rfl (B d37_0) rfl (XS.aloadN X0.here hx rfl (B d37_1) rfl rfl k)) ?_
 show oF p e below (s₁.setTop (mkF m 2 #[.val (.ref t), .val (.int n_)] [(.ref t), (.int n_)])) _
 obtain ⟨cl5y, A5y, -, S5y, M5y, -, -⟩ := id V_t
 refine oG (fun _ k => X0.arraylength hx (o_eqE e0 A5y.1) (State.isArrayOf_alike hZ.alike A5y.2.1) (g := (mkF m 2 #[.val (.ref t), .val (.int n_)] [(.ref t), (.int n_)])) rfl rfl (B d37_2) _ (by rw [len_of S5y M5y]; exact k)) ?_
 show oF p e below (s₁.setTop (mkF m 3 #[.val (.ref t), .val (.int n_)] [(.int (n_ <<< ((1 : Int32) &&& 31))), (.int n_)])) _
 refine oG (fun _ k => XS.isub X0.here hx rfl (B d37_3) rfl (XS.bipush X0.here hx rfl (B d37_4) (XS.iushr X0.here hx rfl (B d37_6) rfl (XS.i2b X0.here hx rfl (B d37_7) rfl k)))) ?_
 show oF p e below (s₁.setTop (mkF m 8 #[.val (.ref t), .val (.int n_)] [(.int ((((n_ - (n_ <<< ((1 : Int32) &&& 31))).toUInt32 >>> ((31 : Int32) &&& 31).toUInt32).toInt32).toInt8.toInt32))])) _
 obtain ⟨fs, hr, r1, r2, hW, r3⟩ := X0.leave (v := some (.int (nar .byte ((((n_ - (n_ <<< ((1 : Int32) &&& 31))).toUInt32 >>> ((31 : Int32) &&& 31).toUInt32).toInt32).toInt8.toInt32)))) (fun h => by rw [Bd.returns] at h; cases h)
 refine ⟨_, _, ?_, r1, r2, _, _, rfl, ?_, ⟨_, rfl⟩, hW, r3.mono (by decide) (by decide)⟩
 ·exact retN X0 hx (t := .byte) Bd.returns (by simp) (B d37_8) hr
 ·show Qcfa1 Z  h0 n0 _ s₁.heap _
  rw [e0]
  exact ⟨(by rw [o_cfa1 hn0 hn1] <;> rfl), N0, rfl⟩
theorem o_npos {n : Int32} {k : Nat} (h : n.toInt = (k : Int)) (hz : ¬ (n = (0 : Int32))) : 0 < n.toInt := by
 have e : (0 : Int32).toInt = 0 := by decide
 rw [← Int32.toInt_inj, e] at hz; omega
theorem d4_0 : decode k45_ 0 = .ok (.aload_n 0, 1) := by decide +kernel
theorem d4_1 : decode k45_ 1 = .ok (.invokespecial 1, 3) := by decide +kernel
theorem d4_4 : decode k45_ 4 = .ok (.iload_n 3, 1) := by decide +kernel
theorem d4_5 : decode k45_ 5 = .ok (.ifCond .ne 22, 3) := by decide +kernel
theorem d4_27 : decode k45_ 27 = .ok (.getstatic 38, 3) := by decide +kernel
theorem d4_30 : decode k45_ 30 = .ok (.ifCond .eq 28, 3) := by decide +kernel
theorem d4_33 : decode k45_ 33 = .ok (.aload_n 1, 1) := by decide +kernel
theorem d4_34 : decode k45_ 34 = .ok (.iload_n 2, 1) := by decide +kernel
theorem d4_35 : decode k45_ 35 = .ok (.iload_n 3, 1) := by decide +kernel
theorem d4_36 : decode k45_ 36 = .ok (.invokestatic 177, 3) := by decide +kernel
theorem d4_39 : decode k45_ 39 = .ok (.astore 5, 2) := by decide +kernel
theorem d4_41 : decode k45_ 41 = .ok (.aload_n 0, 1) := by decide +kernel
theorem d4_42 : decode k45_ 42 = .ok (.aload 5, 2) := by decide +kernel
theorem d4_44 : decode k45_ 44 = .ok (.iload_n 3, 1) := by decide +kernel
theorem d4_45 : decode k45_ 45 = .ok (.invokestatic 47, 3) := by decide +kernel
theorem pd_31 : parseMethodDescriptor "([BI)B" = some ⟨[(.array .byte), .int], some .byte⟩ := by decide +kernel
theorem d4_48 : decode k45_ 48 = .ok (.putfield 15, 3) := by decide +kernel
theorem d4_51 : decode k45_ 51 = .ok (.aload_n 0, 1) := by decide +kernel
theorem d4_52 : decode k45_ 52 = .ok (.aload 5, 2) := by decide +kernel
theorem d4_54 : decode k45_ 54 = .ok (.putfield 9, 3) := by decide +kernel
theorem d4_57 : decode k45_ 57 = .ok (.return_, 1) := by decide +kernel
theorem ef_sin (m : MethodId) (x0 : Addr) (x1 : Addr) (x2 : Int32) (x3 : Int32) : entryFrame m #[(.ref x0), (.ref x1), (.int x2), (.int x3), .null] 6 = mkF m 0 #[.val (.ref x0), .val (.ref x1), .val (.int x2), .val (.int x3), .val .null, .unset] [] := by first | (simp [entryFrame, mkF, argsToLocals, Value.category]; done) | rfl
def Qsin (Z : State) (s_ : Addr) (cs : List Int32) (h0 : Heap) (n0 : Nat) (v : Option Value) (h : Heap) (L : List Loc) : Prop := ∃ (t2_ : Addr) (k2_ : ClassId), v = none ∧ Fr n0 L ∧ Keep h0 h [s_] ∧ h0.size ≤ t2_ ∧ eX2 Z h s_ ∧ o_ST Z h s_ t2_ k2_ cs
theorem sin (l : Launch) (Z : State) (a0 : Array Value) (hw : ∀ d ∈ tables_1, d.before a0 Z = true) (ws : List Jvm.Cond) (s_ : Addr) (a : Addr) (n_ : Int32) (z : Int32) (ka : ClassId) (cs : List Int32) (h0 : Heap) (n0 : Nat) (O : Old Z n0 h0) (j8_ : sT0 Z (.int 1)) (j9_ : sT1 Z (.int 0)) (j10_ : sT2 Z (.int 8)) (j6_ : sT4 Z (.int z)) (hz : ¬ (z = (0 : Int32))) (V_a : Arv Z h0 a ka .char n_ (o_ch cs) (.int 0)) (hrg : o_rng cs) (hn_ : n_.toInt = (cs.length : Int)) (h4 : cs.length ≤ 40) (E_s_ : eX2 Z h0 s_) (j5_ : fL3 Z h0 s_ .null) (j3_ : fL4 Z h0 s_ (.int 0)) (g_s : n0 ≤ s_) (nsa : s_ ≠ a) (hnz : ¬ (n_ = (0 : Int32))) :
   o_MF l Z mN45 jdk_42_method_149_code 6 none ws rM29 #[(.ref s_), (.ref a), (.int 0), (.int n_), .null] h0 (Qsin Z s_ cs h0 n0) := by
 refine MetFree.of_bodySF (plainFor_of_name pn_2) hisR ?_
 intro p e s m args below meth c s₁ Bd hml0 hP hK
 obtain ⟨rfl, hZ, hh⟩ := hP
 have hx := Bd.exec
 have hby := Bd.bytes
 have B := @hb _ _ hby
 have hml : c.maxLocals = 6 := hml0
 have hown : s.vm.findClass "java/lang/String" = some m.cls := findClass_of_methodNamed Bd.named
 have hnm := (name_of_methodNamed Bd.named Bd.method).1
 have X0 : Stand p l e rM29 s m #[(.ref s_), (.ref a), (.int 0), (.int n_), .null] below meth c s₁ [] 0 0 := Stand.of_body Bd
 have e0 : s₁.heap = h0 := by rw [← hh, Bd.state]; rfl
 have N0 := Fr.nil n0
 have K0 := Keep.refl h0 [s_]
 refine o_start (ef_sin m s_ a (0 : Int32) n_) (Q := o_QE s rM29 (Qsin Z s_ cs h0 n0)) ?_
 show oF p e below (s₁.setTop (mkF m 0 #[.val (.ref s_), .val (.ref a), .val (.int 0), .val (.int n_), .val .null, .unset] [])) _
 refine oG (fun _ k => XS.aloadN X0.here hx rfl (B d4_0) rfl rfl k) ?_
 show oF p e below (s₁.setTop (mkF m 1 #[.val (.ref s_), .val (.ref a), .val (.int 0), .val (.int n_), .val .null, .unset] [(.ref s_)])) _
 obtain ⟨T5z, X5z, e5z, st5z⟩ := initO X0 hx hZ hown (ow hw 23) (ow hw 24) (ow hw 25) e0 (g := (mkF m 1 #[.val (.ref s_), .val (.ref a), .val (.int 0), .val (.int n_), .val .null, .unset] [(.ref s_)])) rfl (by rw [hml]; rfl) rfl (B d4_1) (by decide) (W := 0) (by show 2 * 0 + _ ≤ _; exact Nat.le_of_eq rfl) (by decide)
 refine oG st5z ?_
 show oF p e below (T5z.setTop (mkF m 4 #[.val (.ref s_), .val (.ref a), .val (.int 0), .val (.int n_), .val .null, .unset] [])) _
 refine oG (fun _ k => XS.iloadN X5z.here hx rfl (B d4_4) rfl (XS.ifYes X5z.here hx rfl (pc0 := 5) (pc' := 27) rfl (B d4_5) rfl ((if0 _ _).trans (feq hnz).2) (by decide) (by decide) k)) ?_
 show oF p e below (T5z.setTop (mkF m 27 #[.val (.ref s_), .val (.ref a), .val (.int 0), .val (.int n_), .val .null, .unset] [])) _
 obtain ⟨T5A, X5A, e5A, st5A⟩ := getS2 X5z hx hZ hown (host := "") (Or.inl (ow hw 86)) Via.refl e5z (j6_.ext O.2) (g := (mkF m 27 #[.val (.ref s_), .val (.ref a), .val (.int 0), .val (.int n_), .val .null, .unset] [])) rfl (B d4_27)
 refine oG st5A ?_
 show oF p e below (T5A.setTop (mkF m 30 #[.val (.ref s_), .val (.ref a), .val (.int 0), .val (.int n_), .val .null, .unset] [(.int z)])) _
 refine oG (fun _ k => XS.ifNo X5A.here hx rfl (B d4_30) rfl ((if0 _ _).trans (feq hz).1) (XS.aloadN X5A.here hx rfl (B d4_33) rfl rfl (XS.iloadN X5A.here hx rfl (B d4_34) rfl (XS.iloadN X5A.here hx rfl (B d4_35) rfl k)))) ?_
 show oF p e below (T5A.setTop (mkF m 36 #[.val (.ref s_), .val (.ref a), .val (.int 0), .val (.int n_), .val .null, .unset] [(.int n_), (.int 0), (.ref a)])) _
 obtain ⟨_, _, ⟨T5B, L5B, k5B, n5B⟩, -, X5B, ⟨Lc5B, hQ5B, l5B, y5B, z5B⟩, st5B⟩ := Jvm.LawKit.callS X5A hx (y := mN43) hown (mo hZ hw 188) (mo hZ hw 189) (mo hZ hw 190) (mo hZ hw 191) (by decide) (backOf (W := 0) (cpr l Z a0 hw [] a n_ ka cs h0 n0 O j8_ j9_ j10_ V_a hrg hn_ h4) hZ (ow hw 191) (ow hw 190) (by decide) (by decide)) (g := (mkF m 36 #[.val (.ref s_), .val (.ref a), .val (.int 0), .val (.int n_), .val .null, .unset] [(.int n_), (.int 0), (.ref a)])) rfl (by rw [hml]; rfl) (argsL := [(.ref a), (.int 0), (.int n_)]) (rest := []) (lenOf pd_29 rfl) rfl (by show 2 * 0 + _ ≤ _; exact Nat.le_of_eq rfl) (B d4_36) (fun _ _ => ⟨rfl, e5A, (by decide : 0 + 2 ≤ _), (by decide : 0 + 240 ≤ _)⟩)
 dsimp only [Pt.U, Pt.locs, Pt.cells, Pt.slots] at X5B l5B y5B z5B st5B hQ5B
 subst y5B z5B
 obtain ⟨b_5C, kb_446, rfl, N5Bq, Kq5B, P5B_0, P5B_1⟩ := hQ5B
 refine oG st5B ?_
 have N5B := oL l5B (Fr.app N0 N5Bq)
 have ne_a_b_445 : a ≠ b_5C := Nat.ne_of_lt (Nat.lt_of_lt_of_le V_a.lt P5B_0)
 have j101_ : s_ ≠ b_5C := Nat.ne_of_lt (Nat.lt_of_lt_of_le E_s_.lt P5B_0)
 have g_b_445 : n0 ≤ b_5C := Nat.le_trans (o_osz O) P5B_0
 have j172_ : h0.size ≤ b_5C := Nat.le_trans K0.1 P5B_0
 have V_a := V_a.keep Kq5B nin0
 have E_s_ := E_s_.keep Kq5B
 have j5_ := j5_.keep Kq5B nin0
 have j3_ := j3_.keep Kq5B nin0
 have O := O.keep Kq5B all0
 have K5D := K0.trans Kq5B all0
 have O_own_BA_b_445 := P5B_1
 show oF p e below (T5B.setTop (mkF m 39 #[.val (.ref s_), .val (.ref a), .val (.int 0), .val (.int n_), .val .null, .unset] [(.ref b_5C)])) _
 rcases O_own_BA_b_445 with ⟨hla, j44_⟩ | ⟨hbg, j44_⟩
 ·show oF p e below (T5B.setTop (mkF m 39 #[.val (.ref s_), .val (.ref a), .val (.int 0), .val (.int n_), .val .null, .unset] [(.ref b_5C)])) _
  refine oG (fun _ k => XS.astore X5B.here hx rfl (B d4_39) rfl rfl (l' := #[.val (.ref s_), .val (.ref a), .val (.int 0), .val (.int n_), .val .null, .val (.ref b_5C)]) rfl (XS.aloadN X5B.here hx rfl (B d4_41) rfl rfl (XS.aload X5B.here hx rfl (B d4_42) rfl rfl (XS.iloadN X5B.here hx rfl (B d4_44) rfl k)))) ?_
  show oF p e below (T5B.setTop (mkF m 45 #[.val (.ref s_), .val (.ref a), .val (.int 0), .val (.int n_), .val .null, .val (.ref b_5C)] [(.int n_), (.ref b_5C), (.ref s_)])) _
  obtain ⟨_, _, ⟨T5E, L5E, k5E, n5E⟩, -, X5E, ⟨Lc5E, hQ5E, l5E, y5E, z5E⟩, st5E⟩ := Jvm.LawKit.callS X5B hx (y := mN44) hown (mo hZ hw 195) (mo hZ hw 196) (mo hZ hw 190) (mo hZ hw 197) (by decide) (backOf (W := 1) (cfa0 l Z a0 hw [] b_5C n_ kb_446 (o_u8 cs) (T5B.heap) n0 O j44_) hZ (ow hw 197) (ow hw 190) (by decide) (by decide)) (g := (mkF m 45 #[.val (.ref s_), .val (.ref a), .val (.int 0), .val (.int n_), .val .null, .val (.ref b_5C)] [(.int n_), (.ref b_5C), (.ref s_)])) rfl (by rw [hml]; rfl) (argsL := [(.ref b_5C), (.int n_)]) (rest := [(.ref s_)]) (lenOf pd_31 rfl) rfl (by show 2 * 0 + _ ≤ _; exact Nat.le_of_eq rfl) (B d4_45) (fun _ _ => ⟨rfl, rfl, (by decide : 2 + 0 ≤ _), (by decide : 240 + 0 ≤ _)⟩)
  dsimp only [Pt.U, Pt.locs, Pt.cells, Pt.slots] at X5E l5E y5E z5E st5E hQ5E
  subst y5E z5E
  obtain ⟨rfl, N5Eq, e5E⟩ := hQ5E
  refine oG st5E ?_
  have N5E := oL l5E (Fr.app N5B N5Eq)
  obtain ⟨T5F, h5F, X5F, e5F, W5F, st5F⟩ := putF X5E hx hZ hown (host := "") (Or.inl (ow hw 33)) Via.refl e5E j3_ E_s_ (Or.inr ⟨(ow hw 29), rfl, hnm⟩) (ow hw 14) (ty := .byte) (by decide) rfl rfl (g := (mkF m 48 #[.val (.ref s_), .val (.ref a), .val (.int 0), .val (.int n_), .val .null, .val (.ref b_5C)] [(.int 0), (.ref s_)])) rfl rfl (B d4_48)
  refine oG st5F ?_
  have V_a := V_a.other W5F (Ne.symm nsa)
  have E_s_ := E_s_.wr W5F
  have j5_ := j5_.other W5F (Or.inr (slot_ne (Or.inr (ow hw 28)) (Or.inr (ow hw 29)) (by decide) (t := (.array .byte)) (t' := .byte) (by decide) (by decide)))
  have j44_ := j44_.other W5F (Ne.symm j101_)
  have O := O.wr W5F g_s
  have K5G := K5D.wr W5F (Or.inl (List.mem_of_getElem? (i := 0) rfl))
  have j3_ := j3_.same W5F
  have N5F := Fr.snoc X5F N5E g_s
  show oF p e below (T5F.setTop (mkF m 51 #[.val (.ref s_), .val (.ref a), .val (.int 0), .val (.int n_), .val .null, .val (.ref b_5C)] [])) _
  refine oG (fun _ k => XS.aloadN X5F.here hx rfl (B d4_51) rfl rfl (XS.aload X5F.here hx rfl (B d4_52) rfl rfl k)) ?_
  show oF p e below (T5F.setTop (mkF m 54 #[.val (.ref s_), .val (.ref a), .val (.int 0), .val (.int n_), .val .null, .val (.ref b_5C)] [(.ref b_5C), (.ref s_)])) _
  obtain ⟨T5H, h5H, X5H, e5H, W5H, st5H⟩ := putF X5F hx hZ hown (host := "") (Or.inl (ow hw 32)) Via.refl e5F j5_ E_s_ (Or.inr ⟨(ow hw 28), rfl, hnm⟩) (ow hw 14) (ty := (.array .byte)) (by decide) rfl rfl (g := (mkF m 54 #[.val (.ref s_), .val (.ref a), .val (.int 0), .val (.int n_), .val .null, .val (.ref b_5C)] [(.ref b_5C), (.ref s_)])) rfl rfl (B d4_54)
  refine oG st5H ?_
  have V_a := V_a.other W5H (Ne.symm nsa)
  have E_s_ := E_s_.wr W5H
  have j3_ := j3_.other W5H (Or.inr (slot_ne (Or.inr (ow hw 29)) (Or.inr (ow hw 28)) (by decide) (t := .byte) (t' := (.array .byte)) (by decide) (by decide)))
  have j44_ := j44_.other W5H (Ne.symm j101_)
  have O := O.wr W5H g_s
  have K5I := K5G.wr W5H (Or.inl (List.mem_of_getElem? (i := 0) rfl))
  have j5_ := j5_.same W5H
  have N5H := Fr.snoc X5H N5F g_s
  show oF p e below (T5H.setTop (mkF m 57 #[.val (.ref s_), .val (.ref a), .val (.int 0), .val (.int n_), .val .null, .val (.ref b_5C)] [])) _
  obtain ⟨fs, hr, r1, r2, hW, r3⟩ := X5H.leave (v := none) (fun _ => rfl)
  refine ⟨_, _, ?_, r1, r2, _, _, rfl, ?_, ⟨_, rfl⟩, hW, r3.mono (by decide) (by decide)⟩
  ·exact X5H.returnOut hx Bd.returns (B d4_57) hr
  ·show Qsin Z s_ cs h0 n0 _ T5H.heap _
   rw [e5H]
   exact ⟨b_5C, kb_446, rfl, N5H, K5I, j172_, E_s_, ⟨j5_, hrg, Or.inl ⟨j3_, (by rw [← o_cne hn_ (by omega)]; exact j44_), hla⟩⟩⟩
 ·show oF p e below (T5B.setTop (mkF m 39 #[.val (.ref s_), .val (.ref a), .val (.int 0), .val (.int n_), .val .null, .unset] [(.ref b_5C)])) _
  refine oG (fun _ k => XS.astore X5B.here hx rfl (B d4_39) rfl rfl (l' := #[.val (.ref s_), .val (.ref a), .val (.int 0), .val (.int n_), .val .null, .val (.ref b_5C)]) rfl (XS.aloadN X5B.here hx rfl (B d4_41) rfl rfl (XS.aload X5B.here hx rfl (B d4_42) rfl rfl (XS.iloadN X5B.here hx rfl (B d4_44) rfl k)))) ?_
  show oF p e below (T5B.setTop (mkF m 45 #[.val (.ref s_), .val (.ref a), .val (.int 0), .val (.int n_), .val .null, .val (.ref b_5C)] [(.int n_), (.ref b_5C), (.ref s_)])) _
  obtain ⟨_, _, ⟨T5J, L5J, k5J, n5J⟩, -, X5J, ⟨Lc5J, hQ5J, l5J, y5J, z5J⟩, st5J⟩ := Jvm.LawKit.callS X5B hx (y := mN44) hown (mo hZ hw 195) (mo hZ hw 196) (mo hZ hw 190) (mo hZ hw 197) (by decide) (backOf (W := 1) (cfa1 l Z a0 hw [] b_5C n_ kb_446 (o_u16 cs) (T5B.heap) n0 O j44_ (o_npos hn_ hnz) (by omega)) hZ (ow hw 197) (ow hw 190) (by decide) (by decide)) (g := (mkF m 45 #[.val (.ref s_), .val (.ref a), .val (.int 0), .val (.int n_), .val .null, .val (.ref b_5C)] [(.int n_), (.ref b_5C), (.ref s_)])) rfl (by rw [hml]; rfl) (argsL := [(.ref b_5C), (.int n_)]) (rest := [(.ref s_)]) (lenOf pd_31 rfl) rfl (by show 2 * 0 + _ ≤ _; exact Nat.le_of_eq rfl) (B d4_45) (fun _ _ => ⟨rfl, rfl, (by decide : 2 + 0 ≤ _), (by decide : 240 + 0 ≤ _)⟩)
  dsimp only [Pt.U, Pt.locs, Pt.cells, Pt.slots] at X5J l5J y5J z5J st5J hQ5J
  subst y5J z5J
  obtain ⟨rfl, N5Jq, e5J⟩ := hQ5J
  refine oG st5J ?_
  have N5J := oL l5J (Fr.app N5B N5Jq)
  obtain ⟨T5K, h5K, X5K, e5K, W5K, st5K⟩ := putF X5J hx hZ hown (host := "") (Or.inl (ow hw 33)) Via.refl e5J j3_ E_s_ (Or.inr ⟨(ow hw 29), rfl, hnm⟩) (ow hw 14) (ty := .byte) (by decide) rfl rfl (g := (mkF m 48 #[.val (.ref s_), .val (.ref a), .val (.int 0), .val (.int n_), .val .null, .val (.ref b_5C)] [(.int 1), (.ref s_)])) rfl rfl (B d4_48)
  refine oG st5K ?_
  have V_a := V_a.other W5K (Ne.symm nsa)
  have E_s_ := E_s_.wr W5K
  have j5_ := j5_.other W5K (Or.inr (slot_ne (Or.inr (ow hw 28)) (Or.inr (ow hw 29)) (by decide) (t := (.array .byte)) (t' := .byte) (by decide) (by decide)))
  have j44_ := j44_.other W5K (Ne.symm j101_)
  have O := O.wr W5K g_s
  have K5L := K5D.wr W5K (Or.inl (List.mem_of_getElem? (i := 0) rfl))
  have j3_ := j3_.same W5K
  have N5K := Fr.snoc X5K N5J g_s
  show oF p e below (T5K.setTop (mkF m 51 #[.val (.ref s_), .val (.ref a), .val (.int 0), .val (.int n_), .val .null, .val (.ref b_5C)] [])) _
  refine oG (fun _ k => XS.aloadN X5K.here hx rfl (B d4_51) rfl rfl (XS.aload X5K.here hx rfl (B d4_52) rfl rfl k)) ?_
  show oF p e below (T5K.setTop (mkF m 54 #[.val (.ref s_), .val (.ref a), .val (.int 0), .val (.int n_), .val .null, .val (.ref b_5C)] [(.ref b_5C), (.ref s_)])) _
  obtain ⟨T5M, h5M, X5M, e5M, W5M, st5M⟩ := putF X5K hx hZ hown (host := "") (Or.inl (ow hw 32)) Via.refl e5K j5_ E_s_ (Or.inr ⟨(ow hw 28), rfl, hnm⟩) (ow hw 14) (ty := (.array .byte)) (by decide) rfl rfl (g := (mkF m 54 #[.val (.ref s_), .val (.ref a), .val (.int 0), .val (.int n_), .val .null, .val (.ref b_5C)] [(.ref b_5C), (.ref s_)])) rfl rfl (B d4_54)
  refine oG st5M ?_
  have V_a := V_a.other W5M (Ne.symm nsa)
  have E_s_ := E_s_.wr W5M
  have j3_ := j3_.other W5M (Or.inr (slot_ne (Or.inr (ow hw 29)) (Or.inr (ow hw 28)) (by decide) (t := .byte) (t' := (.array .byte)) (by decide) (by decide)))
  have j44_ := j44_.other W5M (Ne.symm j101_)
  have O := O.wr W5M g_s
  have K5N := K5L.wr W5M (Or.inl (List.mem_of_getElem? (i := 0) rfl))
  have j5_ := j5_.same W5M
  have N5M := Fr.snoc X5M N5K g_s
  show oF p e below (T5M.setTop (mkF m 57 #[.val (.ref s_), .val (.ref a), .val (.int 0), .val (.int n_), .val .null, .val (.ref b_5C)] [])) _
  obtain ⟨fs, hr, r1, r2, hW, r3⟩ := X5M.leave (v := none) (fun _ => rfl)
  refine ⟨_, _, ?_, r1, r2, _, _, rfl, ?_, ⟨_, rfl⟩, hW, r3.mono (by decide) (by decide)⟩
  ·exact X5M.returnOut hx Bd.returns (B d4_57) hr
  ·show Qsin Z s_ cs h0 n0 _ T5M.heap _
   rw [e5M]
   exact ⟨b_5C, kb_446, rfl, N5M, K5N, j172_, E_s_, ⟨j5_, hrg, Or.inr ⟨j3_, (by rw [← o_cne hn_ (by omega)]; exact j44_), hbg⟩⟩⟩
theorem d3_0 : decode k46_ 0 = .ok (.aload_n 0, 1) := by decide +kernel
theorem d3_1 : decode k46_ 1 = .ok (.aload_n 1, 1) := by decide +kernel
theorem d3_2 : decode k46_ 2 = .ok (.iconst 0, 1) := by decide +kernel
theorem d3_3 : decode k46_ 3 = .ok (.aload_n 1, 1) := by decide +kernel
theorem d3_4 : decode k46_ 4 = .ok (.arraylength, 1) := by decide +kernel
theorem d3_5 : decode k46_ 5 = .ok (.aconst_null, 1) := by decide +kernel
theorem d3_6 : decode k46_ 6 = .ok (.invokespecial 27, 3) := by decide +kernel
theorem pd_32 : parseMethodDescriptor "([CIILjava/lang/Void;)V" = some ⟨[(.array .char), .int, .int, (.object "java/lang/Void")], none⟩ := by decide +kernel
theorem d3_9 : decode k46_ 9 = .ok (.return_, 1) := by decide +kernel
def Qsic (Z : State) (s_ : Addr) (cs : List Int32) (h0 : Heap) (n0 : Nat) (v : Option Value) (h : Heap) (L : List Loc) : Prop := ∃ (t2_ : Addr) (k2_ : ClassId), v = none ∧ Fr n0 L ∧ Keep h0 h [s_] ∧ h0.size ≤ t2_ ∧ eX2 Z h s_ ∧ o_ST Z h s_ t2_ k2_ cs
theorem sic (l : Launch) (Z : State) (a0 : Array Value) (hw : ∀ d ∈ tables_1, d.before a0 Z = true) (ws : List Jvm.Cond) (s_ : Addr) (a : Addr) (z : Int32) (ka : ClassId) (cs : List Int32) (n_ : Int32) (h0 : Heap) (n0 : Nat) (O : Old Z n0 h0) (j8_ : sT0 Z (.int 1)) (j9_ : sT1 Z (.int 0)) (j10_ : sT2 Z (.int 8)) (j6_ : sT4 Z (.int z)) (hz : ¬ (z = (0 : Int32))) (V_a : Arv Z h0 a ka .char n_ (o_ch cs) (.int 0)) (hrg : o_rng cs) (hn_ : n_.toInt = (cs.length : Int)) (h4 : cs.length ≤ 40) (E_s_ : eX2 Z h0 s_) (j5_ : fL3 Z h0 s_ .null) (j3_ : fL4 Z h0 s_ (.int 0)) (g_s : n0 ≤ s_) (nsa : s_ ≠ a) (hnz : ¬ (n_ = (0 : Int32))) :
   o_MF l Z mN46 jdk_42_method_3_code 2 none ws rM30 #[(.ref s_), (.ref a)] h0 (Qsic Z s_ cs h0 n0) := by
 refine MetFree.of_bodySF (plainFor_of_name pn_2) hisR ?_
 intro p e s m args below meth c s₁ Bd hml0 hP hK
 obtain ⟨rfl, hZ, hh⟩ := hP
 have hx := Bd.exec
 have hby := Bd.bytes
 have B := @hb _ _ hby
 have hml : c.maxLocals = 2 := hml0
 have hown : s.vm.findClass "java/lang/String" = some m.cls := findClass_of_methodNamed Bd.named
 have X0 : Stand p l e rM30 s m #[(.ref s_), (.ref a)] below meth c s₁ [] 0 0 := Stand.of_body Bd
 have e0 : s₁.heap = h0 := by rw [← hh, Bd.state]; rfl
 have N0 := Fr.nil n0
 have K0 := Keep.refl h0 [s_]
 refine o_start (ef_iin00 m s_ a) (Q := o_QE s rM30 (Qsic Z s_ cs h0 n0)) ?_
 show oF p e below (s₁.setTop (mkF m 0 #[.val (.ref s_), .val (.ref a)] [])) _
 refine oG (fun _ k => XS.aloadN X0.here hx rfl (B d3_0) rfl rfl (XS.aloadN X0.here hx rfl (B d3_1) rfl rfl (XS.iconst X0.here hx rfl (B d3_2) (XS.aloadN X0.here hx rfl (B d3_3) rfl rfl k)))) ?_
 show oF p e below (s₁.setTop (mkF m 4 #[.val (.ref s_), .val (.ref a)] [(.ref a), (.int 0), (.ref a), (.ref s_)])) _
 obtain ⟨cl5O, A5O, -, S5O, M5O, -, -⟩ := id V_a
 refine oG (fun _ k => X0.arraylength hx (o_eqE e0 A5O.1) (State.isArrayOf_alike hZ.alike A5O.2.1) (g := (mkF m 4 #[.val (.ref s_), .val (.ref a)] [(.ref a), (.int 0), (.ref a), (.ref s_)])) rfl rfl (B d3_4) _ (by rw [len_of S5O M5O]; exact k)) ?_
 show oF p e below (s₁.setTop (mkF m 5 #[.val (.ref s_), .val (.ref a)] [(.int n_), (.int 0), (.ref a), (.ref s_)])) _
 refine oG (fun _ k => XS.aconstNull X0.here hx rfl (B d3_5) k) ?_
 show oF p e below (s₁.setTop (mkF m 6 #[.val (.ref s_), .val (.ref a)] [.null, (.int n_), (.int 0), (.ref a), (.ref s_)])) _
 obtain ⟨_, _, ⟨T5P, L5P, k5P, n5P⟩, -, X5P, ⟨Lc5P, hQ5P, l5P, y5P, z5P⟩, st5P⟩ := X0.specialBack hx (y := mN45) rfl hown (mo hZ hw 19) (mo hZ hw 20) (mo hZ hw 22) (by decide) (backOf (W := 0) (sin l Z a0 hw [] s_ a n_ z ka cs h0 n0 O j8_ j9_ j10_ j6_ hz V_a hrg hn_ h4 E_s_ j5_ j3_ g_s nsa hnz) hZ (ow hw 22) (ow hw 15) (by decide) (by decide)) (g := (mkF m 6 #[.val (.ref s_), .val (.ref a)] [.null, (.int n_), (.int 0), (.ref a), (.ref s_)])) rfl (by rw [hml]; rfl) (Steps.refl _) (a := s_) (argsL := [(.ref a), (.int 0), (.int n_), .null]) (rest := []) (lenOf pd_32 rfl) rfl (by show 2 * 0 + _ ≤ _; exact Nat.le_of_eq rfl) (B d3_6) (fun _ _ => ⟨rfl, e0, (by decide : 0 + 2 ≤ _), (by decide : 0 + 240 ≤ _)⟩)
 dsimp only [Pt.U, Pt.locs, Pt.cells, Pt.slots] at X5P l5P y5P z5P st5P hQ5P
 subst y5P z5P
 obtain ⟨t2_5Q, k2_5R, rfl, N5Pq, Kq5P, P5P_0, P5P_1, P5P_2⟩ := hQ5P
 refine oG (fun _ k => st5P.trans k) ?_
 have N5P := oL l5P (Fr.app N0 N5Pq)
 have ne_a_t2_462 : a ≠ t2_5Q := Nat.ne_of_lt (Nat.lt_of_lt_of_le V_a.lt P5P_0)
 have ne_s__t2_462 : s_ ≠ t2_5Q := Nat.ne_of_lt (Nat.lt_of_lt_of_le E_s_.lt P5P_0)
 have g_t2_462 : n0 ≤ t2_5Q := Nat.le_trans (o_osz O) P5P_0
 have sz_t2_462 : h0.size ≤ t2_5Q := Nat.le_trans K0.1 P5P_0
 have V_a := V_a.keep Kq5P (ninS (Ne.symm nsa) nin0)
 have E_s_ := E_s_.keep Kq5P
 clear j5_
 clear j3_
 have O := O.keep Kq5P (allS g_s all0)
 have K5S := K0.trans Kq5P (allS (Or.inl (List.mem_of_getElem? (i := 0) rfl)) all0)
 have E_s_ := P5P_1
 have j7_ := P5P_2
 show oF p e below (T5P.setTop (mkF m 9 #[.val (.ref s_), .val (.ref a)] [])) _
 obtain ⟨fs, hr, r1, r2, hW, r3⟩ := X5P.leave (v := none) (fun _ => rfl)
 refine ⟨_, _, ?_, r1, r2, _, _, rfl, ?_, ⟨_, rfl⟩, hW, r3.mono (by decide) (by decide)⟩
 ·exact X5P.returnOut hx Bd.returns (B d3_9) hr
 ·show Qsic Z s_ cs h0 n0 _ T5P.heap _
  exact ⟨t2_5Q, k2_5R, rfl, N5P, K5S, sz_t2_462, E_s_, j7_⟩
def o_w8 (cs : List Int32) : List Int32 := cs.map o_by
def o_w16 : List Int32 → List Int32
 | [] => []
 | c :: r => o_lo c :: o_hi c :: o_w16 r
theorem o_w8e (cs : List Int32) : o_u8 cs = o_ch (o_w8 cs) := by
 induction cs with
 | nil => rfl
 | cons c r ih => show Value.int (o_by c) :: o_u8 r = _; rw [ih]; rfl
theorem o_w16e (cs : List Int32) : o_u16 cs = o_ch (o_w16 cs) := by
 induction cs with
 | nil => rfl
 | cons c r ih => show Value.int (o_lo c) :: Value.int (o_hi c) :: o_u16 r = _; rw [ih]; rfl
theorem d39_0 : decode k47_ 0 = .ok (.aload_n 0, 1) := by decide +kernel
theorem d39_1 : decode k47_ 1 = .ok (.arraylength, 1) := by decide +kernel
theorem d39_2 : decode k47_ 2 = .ok (.aload_n 1, 1) := by decide +kernel
theorem d39_3 : decode k47_ 3 = .ok (.arraylength, 1) := by decide +kernel
theorem d39_4 : decode k47_ 4 = .ok (.if_icmp .ne 30, 3) := by decide +kernel
theorem d39_7 : decode k47_ 7 = .ok (.iconst 0, 1) := by decide +kernel
theorem d39_8 : decode k47_ 8 = .ok (.istore_n 2, 1) := by decide +kernel
theorem d39_9 : decode k47_ 9 = .ok (.iload_n 2, 1) := by decide +kernel
theorem d39_10 : decode k47_ 10 = .ok (.aload_n 0, 1) := by decide +kernel
theorem d39_11 : decode k47_ 11 = .ok (.arraylength, 1) := by decide +kernel
theorem d39_12 : decode k47_ 12 = .ok (.if_icmp .ge 20, 3) := by decide +kernel
theorem d39_32 : decode k47_ 32 = .ok (.iconst 1, 1) := by decide +kernel
theorem d39_33 : decode k47_ 33 = .ok (.ireturn, 1) := by decide +kernel
theorem d39_15 : decode k47_ 15 = .ok (.aload_n 0, 1) := by decide +kernel
theorem d39_16 : decode k47_ 16 = .ok (.iload_n 2, 1) := by decide +kernel
theorem d39_17 : decode k47_ 17 = .ok (.baload, 1) := by decide +kernel
theorem d39_18 : decode k47_ 18 = .ok (.aload_n 1, 1) := by decide +kernel
theorem d39_19 : decode k47_ 19 = .ok (.iload_n 2, 1) := by decide +kernel
theorem d39_20 : decode k47_ 20 = .ok (.baload, 1) := by decide +kernel
theorem d39_21 : decode k47_ 21 = .ok (.if_icmp .eq 5, 3) := by decide +kernel
theorem d39_26 : decode k47_ 26 = .ok (.iinc 2 1, 3) := by decide +kernel
theorem d39_29 : decode k47_ 29 = .ok (.goto (-20), 3) := by decide +kernel
def Qleq (Z : State)  (h0 : Heap) (n0 : Nat) (v : Option Value) (h : Heap) (L : List Loc) : Prop := v = some (.int 1) ∧ Fr n0 L ∧ Keep h0 h []
theorem leq (l : Launch) (Z : State) (a0 : Array Value) (hw : ∀ d ∈ tables_1, d.before a0 Z = true) (ws : List Jvm.Cond) (a : Addr) (b : Addr) (ka : ClassId) (kb : ClassId) (M : Int32) (xs : List Int32) (h0 : Heap) (n0 : Nat) (O : Old Z n0 h0) (V_a : Arv Z h0 a ka .byte M (o_ch xs) (.int 0)) (V_b : Arv Z h0 b kb .byte M (o_ch xs) (.int 0)) (hn_ : M.toInt = (xs.length : Int)) (h4 : xs.length ≤ 200) :
   o_MF l Z mN47 jdk_43_method_13_code 3 (some .boolean) ws rM0 #[(.ref a), (.ref b)] h0 (Qleq Z  h0 n0) := by
 refine MetFree.of_bodySF (plainFor_of_name pn_3) hisR ?_
 intro p e s m args below meth c s₁ Bd hml0 hP hK
 obtain ⟨rfl, hZ, hh⟩ := hP
 have hx := Bd.exec
 have hby := Bd.bytes
 have B := @hb _ _ hby
 have hml : c.maxLocals = 3 := hml0
 have hown : s.vm.findClass "java/lang/StringLatin1" = some m.cls := findClass_of_methodNamed Bd.named
 have X0 : Stand p l e rM0 s m #[(.ref a), (.ref b)] below meth c s₁ [] 0 0 := Stand.of_body Bd
 have e0 : s₁.heap = h0 := by rw [← hh, Bd.state]; rfl
 have N0 := Fr.nil n0
 have K0 := Keep.refl h0 []
 refine o_start (ef_aps m a b) (Q := o_QE s rM0 (Qleq Z  h0 n0)) ?_
 show oF p e below (s₁.setTop (mkF m 0 #[.val (.ref a), .val (.ref b), .unset] [])) _
 refine oG (fun _ k => XS.aloadN X0.here hx rfl (B d39_0) rfl rfl k) ?_
 show oF p e below (s₁.setTop (mkF m 1 #[.val (.ref a), .val (.ref b), .unset] [(.ref a)])) _
 obtain ⟨cl5T, A5T, -, S5T, M5T, -, -⟩ := id V_a
 refine oG (fun _ k => X0.arraylength hx (o_eqE e0 A5T.1) (State.isArrayOf_alike hZ.alike A5T.2.1) (g := (mkF m 1 #[.val (.ref a), .val (.ref b), .unset] [(.ref a)])) rfl rfl (B d39_1) _ (by rw [len_of S5T M5T]; exact k)) ?_
 show oF p e below (s₁.setTop (mkF m 2 #[.val (.ref a), .val (.ref b), .unset] [(.int M)])) _
 refine oG (fun _ k => XS.aloadN X0.here hx rfl (B d39_2) rfl rfl k) ?_
 show oF p e below (s₁.setTop (mkF m 3 #[.val (.ref a), .val (.ref b), .unset] [(.ref b), (.int M)])) _
 obtain ⟨cl5U, A5U, -, S5U, M5U, -, -⟩ := id V_b
 refine oG (fun _ k => X0.arraylength hx (o_eqE e0 A5U.1) (State.isArrayOf_alike hZ.alike A5U.2.1) (g := (mkF m 3 #[.val (.ref a), .val (.ref b), .unset] [(.ref b), (.int M)])) rfl rfl (B d39_3) _ (by rw [len_of S5U M5U]; exact k)) ?_
 show oF p e below (s₁.setTop (mkF m 4 #[.val (.ref a), .val (.ref b), .unset] [(.int M), (.int M)])) _
 refine oG (fun _ k => XS.icmpNo X0.here hx rfl (B d39_4) rfl (teq rfl).2 (XS.iconst X0.here hx rfl (B d39_7) (XS.istoreN X0.here hx rfl (B d39_8) rfl (l' := #[.val (.ref a), .val (.ref b), .val (.int 0)]) rfl k))) ?_
 show oF p e below (s₁.setTop (mkF m 9 #[.val (.ref a), .val (.ref b), .val (.int 0)] [])) _
 have lp : ∀ (rem : List Int32) (T5V : State) (L5V : List Loc) (h5V : Heap) (dn : List Int32) (ii : Int32), Stand p l e rM0 s m #[(.ref a), (.ref b)] below meth c T5V L5V 0 0 → T5V.heap = h5V → Fr n0 L5V → Old Z n0 h5V → Keep h0 h5V [] → Arv Z h5V a ka .byte M (o_ch xs) (.int 0) → Arv Z h5V b kb .byte M (o_ch xs) (.int 0) → xs = dn ++ rem → ii.toInt = (dn.length : Int) → oF p e below (T5V.setTop (mkF m 9 #[.val (.ref a), .val (.ref b), .val (.int ii)] [])) (fun o' t' => ∃ v' L', o' = .returned v' ∧ Qleq Z  h0 n0 v' t'.heap L' ∧ FrameEnd s o' t' L' rM0.cells rM0.slots) := by
  intro rem
  induction rem with
  | nil =>
   intro T5V L5V h5V dn ii X5V e5V N5V O K5V V_a V_b hdn hii
   show oF p e below (T5V.setTop (mkF m 9 #[.val (.ref a), .val (.ref b), .val (.int ii)] [])) _
   refine oG (fun _ k => XS.iloadN X5V.here hx rfl (B d39_9) rfl (XS.aloadN X5V.here hx rfl (B d39_10) rfl rfl k)) ?_
   show oF p e below (T5V.setTop (mkF m 11 #[.val (.ref a), .val (.ref b), .val (.int ii)] [(.ref a), (.int ii)])) _
   obtain ⟨cl5W, A5W, -, S5W, M5W, -, -⟩ := id V_a
   refine oG (fun _ k => X5V.arraylength hx (o_eqE e5V A5W.1) (State.isArrayOf_alike hZ.alike A5W.2.1) (g := (mkF m 11 #[.val (.ref a), .val (.ref b), .val (.int ii)] [(.ref a), (.int ii)])) rfl rfl (B d39_11) _ (by rw [len_of S5W M5W]; exact k)) ?_
   show oF p e below (T5V.setTop (mkF m 12 #[.val (.ref a), .val (.ref b), .val (.int ii)] [(.int M), (.int ii)])) _
   refine oG (fun _ k => XS.icmpYes X5V.here hx rfl (pc0 := 12) (pc' := 32) rfl (B d39_12) rfl (flt ((o_nlti hii hn_ (by rw [hdn, List.append_nil]; omega)) : ¬ (ii < M))).2.1 (by decide) (by decide) (XS.iconst X5V.here hx rfl (B d39_32) k)) ?_
   show oF p e below (T5V.setTop (mkF m 33 #[.val (.ref a), .val (.ref b), .val (.int ii)] [(.int 1)])) _
   obtain ⟨fs, hr, r1, r2, hW, r3⟩ := X5V.leave (v := some (.int 1)) (fun h => by rw [Bd.returns] at h; cases h)
   refine ⟨_, _, ?_, r1, r2, _, _, rfl, ?_, ⟨_, rfl⟩, hW, r3.mono (by decide) (by decide)⟩
   ·exact retN X5V hx (t := .boolean) Bd.returns (by simp) (B d39_33) hr
   ·show Qleq Z  h0 n0 _ T5V.heap _
    rw [e5V]
    exact ⟨rfl, N5V, K5V⟩
  | cons q rem ih =>
   intro T5V L5V h5V dn ii X5V e5V N5V O K5V V_a V_b hdn hii
   show oF p e below (T5V.setTop (mkF m 9 #[.val (.ref a), .val (.ref b), .val (.int ii)] [])) _
   have hcat := o_ctt hdn
   show oF p e below (T5V.setTop (mkF m 9 #[.val (.ref a), .val (.ref b), .val (.int ii)] [])) _
   refine oG (fun _ k => XS.iloadN X5V.here hx rfl (B d39_9) rfl (XS.aloadN X5V.here hx rfl (B d39_10) rfl rfl k)) ?_
   show oF p e below (T5V.setTop (mkF m 11 #[.val (.ref a), .val (.ref b), .val (.int ii)] [(.ref a), (.int ii)])) _
   obtain ⟨cl5X, A5X, -, S5X, M5X, -, -⟩ := id V_a
   refine oG (fun _ k => X5V.arraylength hx (o_eqE e5V A5X.1) (State.isArrayOf_alike hZ.alike A5X.2.1) (g := (mkF m 11 #[.val (.ref a), .val (.ref b), .val (.int ii)] [(.ref a), (.int ii)])) rfl rfl (B d39_11) _ (by rw [len_of S5X M5X]; exact k)) ?_
   show oF p e below (T5V.setTop (mkF m 12 #[.val (.ref a), .val (.ref b), .val (.int ii)] [(.int M), (.int ii)])) _
   refine oG (fun _ k => XS.icmpNo X5V.here hx rfl (B d39_12) rfl (tlt ((o_lti hii hn_ (by omega)) : ii < M)).2.1 (XS.aloadN X5V.here hx rfl (B d39_15) rfl rfl (XS.iloadN X5V.here hx rfl (B d39_16) rfl k))) ?_
   show oF p e below (T5V.setTop (mkF m 17 #[.val (.ref a), .val (.ref b), .val (.int ii)] [(.int ii), (.ref a)])) _
   obtain ⟨cl5Y, A5Y, q5Y, S5Y, M5Y, H5Y, G5Y⟩ := id V_a
   have hin5Y : ¬ (ii < 0 ∨ cl5Y.slots.size ≤ (ii).toNatClampNeg) := inb_of S5Y (o_inj hii (by omega))
   have hat5Y : cl5Y.slots[(ii).toNatClampNeg]? = some (.int q) := Has.at H5Y hin5Y (o_chg hdn hii)
   refine oG (fun _ k => X5V.baloadBytes hx (j := ii) (v := (.int q)) (o_eqE e5V A5Y.1) (State.isArrayOf_alike hZ.alike A5Y.2.1) A5Y.2.2 hin5Y hat5Y (g := (mkF m 17 #[.val (.ref a), .val (.ref b), .val (.int ii)] [(.int ii), (.ref a)])) rfl rfl (B d39_17) _ k) ?_
   show oF p e below (T5V.setTop (mkF m 18 #[.val (.ref a), .val (.ref b), .val (.int ii)] [(.int q)])) _
   refine oG (fun _ k => XS.aloadN X5V.here hx rfl (B d39_18) rfl rfl (XS.iloadN X5V.here hx rfl (B d39_19) rfl k)) ?_
   show oF p e below (T5V.setTop (mkF m 20 #[.val (.ref a), .val (.ref b), .val (.int ii)] [(.int ii), (.ref b), (.int q)])) _
   obtain ⟨cl5Z, A5Z, q5Z, S5Z, M5Z, H5Z, G5Z⟩ := id V_b
   have hin5Z : ¬ (ii < 0 ∨ cl5Z.slots.size ≤ (ii).toNatClampNeg) := inb_of S5Z (o_inj hii (by omega))
   have hat5Z : cl5Z.slots[(ii).toNatClampNeg]? = some (.int q) := Has.at H5Z hin5Z (o_chg hdn hii)
   refine oG (fun _ k => X5V.baloadBytes hx (j := ii) (v := (.int q)) (o_eqE e5V A5Z.1) (State.isArrayOf_alike hZ.alike A5Z.2.1) A5Z.2.2 hin5Z hat5Z (g := (mkF m 20 #[.val (.ref a), .val (.ref b), .val (.int ii)] [(.int ii), (.ref b), (.int q)])) rfl rfl (B d39_20) _ k) ?_
   show oF p e below (T5V.setTop (mkF m 21 #[.val (.ref a), .val (.ref b), .val (.int ii)] [(.int q), (.int q)])) _
   refine oG (fun _ k => XS.icmpYes X5V.here hx rfl (pc0 := 21) (pc' := 26) rfl (B d39_21) rfl (teq rfl).1 (by decide) (by decide) (XS.iinc X5V.here hx rfl (B d39_26) rfl (l' := #[.val (.ref a), .val (.ref b), .val (.int (ii + (1 : Int32)))]) rfl (XS.goto X5V.here hx rfl (pc0 := 29) (pc' := 9) rfl (B d39_29) (by decide) (by decide) k))) ?_
   show oF p e below (T5V.setTop (mkF m 9 #[.val (.ref a), .val (.ref b), .val (.int (ii + (1 : Int32)))] [])) _
   exact ih _ _ _ (dn ++ [q]) _ X5V e5V N5V O K5V V_a V_b (by rw [hdn, List.append_assoc] <;> rfl) (by rw [o_p1 (by omega) (by omega), hii, List.length_append] <;> rfl)
 exact lp xs _ _ _ ([] : List Int32) _ X0 e0 N0 O K0 V_a V_b rfl rfl
theorem o_w8l (cs : List Int32) : (o_w8 cs).length = cs.length := List.length_map ..
theorem o_w16l (cs : List Int32) : (o_w16 cs).length = 2 * cs.length := by
 have a := o_u16l cs
 rw [o_w16e, o_chl] at a; exact a
theorem d38_0 : decode k48_ 0 = .ok (.aload_n 0, 1) := by decide +kernel
theorem d38_1 : decode k48_ 1 = .ok (.aload_n 1, 1) := by decide +kernel
theorem d38_2 : decode k48_ 2 = .ok (.if_acmp .ne 5, 3) := by decide +kernel
theorem d38_7 : decode k48_ 7 = .ok (.aload_n 1, 1) := by decide +kernel
theorem d38_8 : decode k48_ 8 = .ok (.instanceof 10, 3) := by decide +kernel
theorem d38_11 : decode k48_ 11 = .ok (.ifCond .eq 43, 3) := by decide +kernel
theorem d38_14 : decode k48_ 14 = .ok (.aload_n 1, 1) := by decide +kernel
theorem d38_15 : decode k48_ 15 = .ok (.checkcast 10, 3) := by decide +kernel
theorem d38_18 : decode k48_ 18 = .ok (.astore_n 2, 1) := by decide +kernel
theorem d38_19 : decode k48_ 19 = .ok (.getstatic 38, 3) := by decide +kernel
theorem d38_22 : decode k48_ 22 = .ok (.ifCond .eq 14, 3) := by decide +kernel
theorem d38_25 : decode k48_ 25 = .ok (.aload_n 0, 1) := by decide +kernel
theorem d38_26 : decode k48_ 26 = .ok (.getfield 15, 3) := by decide +kernel
theorem d38_29 : decode k48_ 29 = .ok (.aload_n 2, 1) := by decide +kernel
theorem d38_30 : decode k48_ 30 = .ok (.getfield 15, 3) := by decide +kernel
theorem d38_33 : decode k48_ 33 = .ok (.if_icmp .ne 21, 3) := by decide +kernel
theorem d38_36 : decode k48_ 36 = .ok (.aload_n 0, 1) := by decide +kernel
theorem d38_37 : decode k48_ 37 = .ok (.getfield 9, 3) := by decide +kernel
theorem d38_40 : decode k48_ 40 = .ok (.aload_n 2, 1) := by decide +kernel
theorem d38_41 : decode k48_ 41 = .ok (.getfield 9, 3) := by decide +kernel
theorem d38_44 : decode k48_ 44 = .ok (.invokestatic 541, 3) := by decide +kernel
theorem pd_33 : parseMethodDescriptor "([B[B)Z" = some ⟨[(.array .byte), (.array .byte)], some .boolean⟩ := by decide +kernel
theorem d38_47 : decode k48_ 47 = .ok (.ifCond .eq 7, 3) := by decide +kernel
theorem d38_50 : decode k48_ 50 = .ok (.iconst 1, 1) := by decide +kernel
theorem d38_51 : decode k48_ 51 = .ok (.goto 4, 3) := by decide +kernel
theorem d38_55 : decode k48_ 55 = .ok (.ireturn, 1) := by decide +kernel
def Qseq (Z : State)  (h0 : Heap) (n0 : Nat) (v : Option Value) (h : Heap) (L : List Loc) : Prop := v = some (.int 1) ∧ Fr n0 L ∧ Keep h0 h []
theorem seq (l : Launch) (Z : State) (a0 : Array Value) (hw : ∀ d ∈ tables_1, d.before a0 Z = true) (ws : List Jvm.Cond) (s_ : Addr) (o_ : Addr) (z : Int32) (ts : Addr) (ks : ClassId) (to : Addr) (ko : ClassId) (cs : List Int32) (h0 : Heap) (n0 : Nat) (O : Old Z n0 h0) (j6_ : sT4 Z (.int z)) (hz : ¬ (z = (0 : Int32))) (E_s_ : eX2 Z h0 s_) (j7_ : o_ST Z h0 s_ ts ks cs) (E_o_ : eX2 Z h0 o_) (O_own_ST_o_ : o_ST Z h0 o_ to ko cs) (nso : s_ ≠ o_) (h4 : cs.length ≤ 40) :
   o_MF l Z mN48 jdk_42_method_66_code 3 (some .boolean) ws rM9 #[(.ref s_), (.ref o_)] h0 (Qseq Z  h0 n0) := by
 refine MetFree.of_bodySF (plainFor_of_name pn_2) hisR ?_
 intro p e s m args below meth c s₁ Bd hml0 hP hK
 obtain ⟨rfl, hZ, hh⟩ := hP
 have hx := Bd.exec
 have hby := Bd.bytes
 have B := @hb _ _ hby
 have hml : c.maxLocals = 3 := hml0
 have hown : s.vm.findClass "java/lang/String" = some m.cls := findClass_of_methodNamed Bd.named
 have X0 : Stand p l e rM9 s m #[(.ref s_), (.ref o_)] below meth c s₁ [] 0 0 := Stand.of_body Bd
 have e0 : s₁.heap = h0 := by rw [← hh, Bd.state]; rfl
 have N0 := Fr.nil n0
 have K0 := Keep.refl h0 []
 refine o_start (ef_aps m s_ o_) (Q := o_QE s rM9 (Qseq Z  h0 n0)) ?_
 show oF p e below (s₁.setTop (mkF m 0 #[.val (.ref s_), .val (.ref o_), .unset] [])) _
 obtain ⟨j5_, hrs_, hds_⟩ := j7_
 obtain ⟨j75_, hro_, hdo_⟩ := O_own_ST_o_
 rcases hds_ with ⟨j3_, V_ts, h1l⟩ | ⟨j3_, V_ts, h1b⟩
 ·rw [o_w8e] at V_ts
  rcases hdo_ with ⟨j51_, V_to, h2l⟩ | ⟨j51_, V_to, h2b⟩
  ·rw [o_w8e] at V_to
   show oF p e below (s₁.setTop (mkF m 0 #[.val (.ref s_), .val (.ref o_), .unset] [])) _
   refine oG (fun _ k => XS.aloadN X0.here hx rfl (B d38_0) rfl rfl (XS.aloadN X0.here hx rfl (B d38_1) rfl rfl k)) ?_
   show oF p e below (s₁.setTop (mkF m 2 #[.val (.ref s_), .val (.ref o_), .unset] [(.ref o_), (.ref s_)])) _
   refine oG (fun _ k => Jvm.RoadKit.acmp (g := (mkF m 2 #[.val (.ref s_), .val (.ref o_), .unset] [(.ref o_), (.ref s_)])) X0 hx rfl rfl rfl (pc0 := 2) (pc' := 7) (same := false) rfl (B d38_2) rfl (decide_eq_false fun q => nso (Value.ref.inj q)) (by decide) (by decide) k) ?_
   show oF p e below (s₁.setTop (mkF m 7 #[.val (.ref s_), .val (.ref o_), .unset] [])) _
   refine oG (fun _ k => XS.aloadN X0.here hx rfl (B d38_7) rfl rfl k) ?_
   show oF p e below (s₁.setTop (mkF m 8 #[.val (.ref s_), .val (.ref o_), .unset] [(.ref o_)])) _
   obtain ⟨T6a, X6a, e6a, st6a⟩ := instY X0 hx hZ hown (ow hw 203) e0 (Ins.self E_o_) (g := (mkF m 8 #[.val (.ref s_), .val (.ref o_), .unset] [(.ref o_)])) rfl rfl (B d38_8)
   refine oG st6a ?_
   show oF p e below (T6a.setTop (mkF m 11 #[.val (.ref s_), .val (.ref o_), .unset] [(.int 1)])) _
   refine oG (fun _ k => XS.ifNo X6a.here hx rfl (B d38_11) rfl ((if0 _ _).trans (feq (by decide : ¬ ((1 : Int32) = (0 : Int32)))).1) (XS.aloadN X6a.here hx rfl (B d38_14) rfl rfl k)) ?_
   show oF p e below (T6a.setTop (mkF m 15 #[.val (.ref s_), .val (.ref o_), .unset] [(.ref o_)])) _
   obtain ⟨T6b, X6b, e6b, st6b⟩ := castY X6a hx hZ hown (ow hw 203) e6a (Ins.self E_o_) (g := (mkF m 15 #[.val (.ref s_), .val (.ref o_), .unset] [(.ref o_)])) rfl rfl (B d38_15)
   refine oG st6b ?_
   show oF p e below (T6b.setTop (mkF m 18 #[.val (.ref s_), .val (.ref o_), .unset] [(.ref o_)])) _
   refine oG (fun _ k => XS.astoreN X6b.here hx rfl (B d38_18) rfl rfl (l' := #[.val (.ref s_), .val (.ref o_), .val (.ref o_)]) rfl k) ?_
   show oF p e below (T6b.setTop (mkF m 19 #[.val (.ref s_), .val (.ref o_), .val (.ref o_)] [])) _
   obtain ⟨T6c, X6c, e6c, st6c⟩ := getS2 X6b hx hZ hown (host := "") (Or.inl (ow hw 86)) Via.refl e6b (j6_.ext O.2) (g := (mkF m 19 #[.val (.ref s_), .val (.ref o_), .val (.ref o_)] [])) rfl (B d38_19)
   refine oG st6c ?_
   show oF p e below (T6c.setTop (mkF m 22 #[.val (.ref s_), .val (.ref o_), .val (.ref o_)] [(.int z)])) _
   refine oG (fun _ k => XS.ifNo X6c.here hx rfl (B d38_22) rfl ((if0 _ _).trans (feq hz).1) (XS.aloadN X6c.here hx rfl (B d38_25) rfl rfl k)) ?_
   show oF p e below (T6c.setTop (mkF m 26 #[.val (.ref s_), .val (.ref o_), .val (.ref o_)] [(.ref s_)])) _
   obtain ⟨T6d, X6d, e6d, st6d⟩ := getF X6c hx hZ hown (host := "") (Or.inl (ow hw 33)) Via.refl e6c j3_ (g := (mkF m 26 #[.val (.ref s_), .val (.ref o_), .val (.ref o_)] [(.ref s_)])) rfl rfl (B d38_26)
   refine oG st6d ?_
   show oF p e below (T6d.setTop (mkF m 29 #[.val (.ref s_), .val (.ref o_), .val (.ref o_)] [(.int 0)])) _
   refine oG (fun _ k => XS.aloadN X6d.here hx rfl (B d38_29) rfl rfl k) ?_
   show oF p e below (T6d.setTop (mkF m 30 #[.val (.ref s_), .val (.ref o_), .val (.ref o_)] [(.ref o_), (.int 0)])) _
   obtain ⟨T6e, X6e, e6e, st6e⟩ := getF X6d hx hZ hown (host := "") (Or.inl (ow hw 33)) Via.refl e6d j51_ (g := (mkF m 30 #[.val (.ref s_), .val (.ref o_), .val (.ref o_)] [(.ref o_), (.int 0)])) rfl rfl (B d38_30)
   refine oG st6e ?_
   show oF p e below (T6e.setTop (mkF m 33 #[.val (.ref s_), .val (.ref o_), .val (.ref o_)] [(.int 0), (.int 0)])) _
   refine oG (fun _ k => XS.icmpNo X6e.here hx rfl (B d38_33) rfl (teq (by decide : (0 : Int32) = (0 : Int32))).2 (XS.aloadN X6e.here hx rfl (B d38_36) rfl rfl k)) ?_
   show oF p e below (T6e.setTop (mkF m 37 #[.val (.ref s_), .val (.ref o_), .val (.ref o_)] [(.ref s_)])) _
   obtain ⟨T6f, X6f, e6f, st6f⟩ := getF X6e hx hZ hown (host := "") (Or.inl (ow hw 32)) Via.refl e6e j5_ (g := (mkF m 37 #[.val (.ref s_), .val (.ref o_), .val (.ref o_)] [(.ref s_)])) rfl rfl (B d38_37)
   refine oG st6f ?_
   show oF p e below (T6f.setTop (mkF m 40 #[.val (.ref s_), .val (.ref o_), .val (.ref o_)] [(.ref ts)])) _
   refine oG (fun _ k => XS.aloadN X6f.here hx rfl (B d38_40) rfl rfl k) ?_
   show oF p e below (T6f.setTop (mkF m 41 #[.val (.ref s_), .val (.ref o_), .val (.ref o_)] [(.ref o_), (.ref ts)])) _
   obtain ⟨T6g, X6g, e6g, st6g⟩ := getF X6f hx hZ hown (host := "") (Or.inl (ow hw 32)) Via.refl e6f j75_ (g := (mkF m 41 #[.val (.ref s_), .val (.ref o_), .val (.ref o_)] [(.ref o_), (.ref ts)])) rfl rfl (B d38_41)
   refine oG st6g ?_
   obtain ⟨_, _, ⟨T6h, L6h, k6h, n6h⟩, -, X6h, ⟨Lc6h, hQ6h, l6h, y6h, z6h⟩, st6h⟩ := Jvm.LawKit.callS X6g hx (y := mN47) hown (mo hZ hw 204) (mo hZ hw 205) (mo hZ hw 206) (mo hZ hw 207) (by decide) (backOf (W := 0) (leq l Z a0 hw [] ts to ks ko (Int32.ofNat cs.length) (o_w8 cs) h0 n0 O V_ts V_to (by rw [o_oi (by omega), o_w8l]) (by rw [o_w8l]; omega)) hZ (ow hw 207) (ow hw 206) (by decide) (by decide)) (g := (mkF m 44 #[.val (.ref s_), .val (.ref o_), .val (.ref o_)] [(.ref to), (.ref ts)])) rfl (by rw [hml]; rfl) (argsL := [(.ref ts), (.ref to)]) (rest := []) (lenOf pd_33 rfl) rfl (by show 2 * 0 + _ ≤ _; exact Nat.le_of_eq rfl) (B d38_44) (fun _ _ => ⟨rfl, e6g, (by decide : 0 + 0 ≤ _), (by decide : 0 + 0 ≤ _)⟩)
   dsimp only [Pt.U, Pt.locs, Pt.cells, Pt.slots] at X6h l6h y6h z6h st6h hQ6h
   subst y6h z6h
   obtain ⟨rfl, N6hq, Kq6h⟩ := hQ6h
   refine oG st6h ?_
   have N6h := oL l6h (Fr.app N0 N6hq)
   have E_s_ := E_s_.keep Kq6h
   have E_o_ := E_o_.keep Kq6h
   have j5_ := j5_.keep Kq6h nin0
   have j75_ := j75_.keep Kq6h nin0
   have j3_ := j3_.keep Kq6h nin0
   have V_ts := V_ts.keep Kq6h nin0
   have j51_ := j51_.keep Kq6h nin0
   have V_to := V_to.keep Kq6h nin0
   have O := O.keep Kq6h all0
   have K6i := K0.trans Kq6h all0
   show oF p e below (T6h.setTop (mkF m 47 #[.val (.ref s_), .val (.ref o_), .val (.ref o_)] [(.int 1)])) _
   refine oG (fun _ k => XS.ifNo X6h.here hx rfl (B d38_47) rfl ((if0 _ _).trans (feq (by decide : ¬ ((1 : Int32) = (0 : Int32)))).1) (XS.iconst X6h.here hx rfl (B d38_50) (XS.goto X6h.here hx rfl (pc0 := 51) (pc' := 55) rfl (B d38_51) (by decide) (by decide) k))) ?_
   show oF p e below (T6h.setTop (mkF m 55 #[.val (.ref s_), .val (.ref o_), .val (.ref o_)] [(.int 1)])) _
   obtain ⟨fs, hr, r1, r2, hW, r3⟩ := X6h.leave (v := some (.int 1)) (fun h => by rw [Bd.returns] at h; cases h)
   refine ⟨_, _, ?_, r1, r2, _, _, rfl, ?_, ⟨_, rfl⟩, hW, r3.mono (by decide) (by decide)⟩
   ·exact retN X6h hx (t := .boolean) Bd.returns (by simp) (B d38_55) hr
   ·show Qseq Z  h0 n0 _ T6h.heap _
    exact ⟨rfl, N6h, K6i⟩
  ·exact absurd (o_latbg h1l h2b) id
 ·rw [o_w16e] at V_ts
  rcases hdo_ with ⟨j51_, V_to, h2l⟩ | ⟨j51_, V_to, h2b⟩
  ·exact absurd (o_latbg h2l h1b) id
  ·rw [o_w16e] at V_to
   show oF p e below (s₁.setTop (mkF m 0 #[.val (.ref s_), .val (.ref o_), .unset] [])) _
   refine oG (fun _ k => XS.aloadN X0.here hx rfl (B d38_0) rfl rfl (XS.aloadN X0.here hx rfl (B d38_1) rfl rfl k)) ?_
   show oF p e below (s₁.setTop (mkF m 2 #[.val (.ref s_), .val (.ref o_), .unset] [(.ref o_), (.ref s_)])) _
   refine oG (fun _ k => Jvm.RoadKit.acmp (g := (mkF m 2 #[.val (.ref s_), .val (.ref o_), .unset] [(.ref o_), (.ref s_)])) X0 hx rfl rfl rfl (pc0 := 2) (pc' := 7) (same := false) rfl (B d38_2) rfl (decide_eq_false fun q => nso (Value.ref.inj q)) (by decide) (by decide) k) ?_
   show oF p e below (s₁.setTop (mkF m 7 #[.val (.ref s_), .val (.ref o_), .unset] [])) _
   refine oG (fun _ k => XS.aloadN X0.here hx rfl (B d38_7) rfl rfl k) ?_
   show oF p e below (s₁.setTop (mkF m 8 #[.val (.ref s_), .val (.ref o_), .unset] [(.ref o_)])) _
   obtain ⟨T6j, X6j, e6j, st6j⟩ := instY X0 hx hZ hown (ow hw 203) e0 (Ins.self E_o_) (g := (mkF m 8 #[.val (.ref s_), .val (.ref o_), .unset] [(.ref o_)])) rfl rfl (B d38_8)
   refine oG st6j ?_
   show oF p e below (T6j.setTop (mkF m 11 #[.val (.ref s_), .val (.ref o_), .unset] [(.int 1)])) _
   refine oG (fun _ k => XS.ifNo X6j.here hx rfl (B d38_11) rfl ((if0 _ _).trans (feq (by decide : ¬ ((1 : Int32) = (0 : Int32)))).1) (XS.aloadN X6j.here hx rfl (B d38_14) rfl rfl k)) ?_
   show oF p e below (T6j.setTop (mkF m 15 #[.val (.ref s_), .val (.ref o_), .unset] [(.ref o_)])) _
   obtain ⟨T6k, X6k, e6k, st6k⟩ := castY X6j hx hZ hown (ow hw 203) e6j (Ins.self E_o_) (g := (mkF m 15 #[.val (.ref s_), .val (.ref o_), .unset] [(.ref o_)])) rfl rfl (B d38_15)
   refine oG st6k ?_
   show oF p e below (T6k.setTop (mkF m 18 #[.val (.ref s_), .val (.ref o_), .unset] [(.ref o_)])) _
   refine oG (fun _ k => XS.astoreN X6k.here hx rfl (B d38_18) rfl rfl (l' := #[.val (.ref s_), .val (.ref o_), .val (.ref o_)]) rfl k) ?_
   show oF p e below (T6k.setTop (mkF m 19 #[.val (.ref s_), .val (.ref o_), .val (.ref o_)] [])) _
   obtain ⟨T6l, X6l, e6l, st6l⟩ := getS2 X6k hx hZ hown (host := "") (Or.inl (ow hw 86)) Via.refl e6k (j6_.ext O.2) (g := (mkF m 19 #[.val (.ref s_), .val (.ref o_), .val (.ref o_)] [])) rfl (B d38_19)
   refine oG st6l ?_
   show oF p e below (T6l.setTop (mkF m 22 #[.val (.ref s_), .val (.ref o_), .val (.ref o_)] [(.int z)])) _
   refine oG (fun _ k => XS.ifNo X6l.here hx rfl (B d38_22) rfl ((if0 _ _).trans (feq hz).1) (XS.aloadN X6l.here hx rfl (B d38_25) rfl rfl k)) ?_
   show oF p e below (T6l.setTop (mkF m 26 #[.val (.ref s_), .val (.ref o_), .val (.ref o_)] [(.ref s_)])) _
   obtain ⟨T6m, X6m, e6m, st6m⟩ := getF X6l hx hZ hown (host := "") (Or.inl (ow hw 33)) Via.refl e6l j3_ (g := (mkF m 26 #[.val (.ref s_), .val (.ref o_), .val (.ref o_)] [(.ref s_)])) rfl rfl (B d38_26)
   refine oG st6m ?_
   show oF p e below (T6m.setTop (mkF m 29 #[.val (.ref s_), .val (.ref o_), .val (.ref o_)] [(.int 1)])) _
   refine oG (fun _ k => XS.aloadN X6m.here hx rfl (B d38_29) rfl rfl k) ?_
   show oF p e below (T6m.setTop (mkF m 30 #[.val (.ref s_), .val (.ref o_), .val (.ref o_)] [(.ref o_), (.int 1)])) _
   obtain ⟨T6n, X6n, e6n, st6n⟩ := getF X6m hx hZ hown (host := "") (Or.inl (ow hw 33)) Via.refl e6m j51_ (g := (mkF m 30 #[.val (.ref s_), .val (.ref o_), .val (.ref o_)] [(.ref o_), (.int 1)])) rfl rfl (B d38_30)
   refine oG st6n ?_
   show oF p e below (T6n.setTop (mkF m 33 #[.val (.ref s_), .val (.ref o_), .val (.ref o_)] [(.int 1), (.int 1)])) _
   refine oG (fun _ k => XS.icmpNo X6n.here hx rfl (B d38_33) rfl (teq (by decide : (1 : Int32) = (1 : Int32))).2 (XS.aloadN X6n.here hx rfl (B d38_36) rfl rfl k)) ?_
   show oF p e below (T6n.setTop (mkF m 37 #[.val (.ref s_), .val (.ref o_), .val (.ref o_)] [(.ref s_)])) _
   obtain ⟨T6o, X6o, e6o, st6o⟩ := getF X6n hx hZ hown (host := "") (Or.inl (ow hw 32)) Via.refl e6n j5_ (g := (mkF m 37 #[.val (.ref s_), .val (.ref o_), .val (.ref o_)] [(.ref s_)])) rfl rfl (B d38_37)
   refine oG st6o ?_
   show oF p e below (T6o.setTop (mkF m 40 #[.val (.ref s_), .val (.ref o_), .val (.ref o_)] [(.ref ts)])) _
   refine oG (fun _ k => XS.aloadN X6o.here hx rfl (B d38_40) rfl rfl k) ?_
   show oF p e below (T6o.setTop (mkF m 41 #[.val (.ref s_), .val (.ref o_), .val (.ref o_)] [(.ref o_), (.ref ts)])) _
   obtain ⟨T6p, X6p, e6p, st6p⟩ := getF X6o hx hZ hown (host := "") (Or.inl (ow hw 32)) Via.refl e6o j75_ (g := (mkF m 41 #[.val (.ref s_), .val (.ref o_), .val (.ref o_)] [(.ref o_), (.ref ts)])) rfl rfl (B d38_41)
   refine oG st6p ?_
   obtain ⟨_, _, ⟨T6q, L6q, k6q, n6q⟩, -, X6q, ⟨Lc6q, hQ6q, l6q, y6q, z6q⟩, st6q⟩ := Jvm.LawKit.callS X6p hx (y := mN47) hown (mo hZ hw 204) (mo hZ hw 205) (mo hZ hw 206) (mo hZ hw 207) (by decide) (backOf (W := 0) (leq l Z a0 hw [] ts to ks ko ((Int32.ofNat cs.length) <<< ((1 : Int32) &&& 31)) (o_w16 cs) h0 n0 O V_ts V_to (by rw [o_zi (by omega), o_w16l]; omega) (by rw [o_w16l]; omega)) hZ (ow hw 207) (ow hw 206) (by decide) (by decide)) (g := (mkF m 44 #[.val (.ref s_), .val (.ref o_), .val (.ref o_)] [(.ref to), (.ref ts)])) rfl (by rw [hml]; rfl) (argsL := [(.ref ts), (.ref to)]) (rest := []) (lenOf pd_33 rfl) rfl (by show 2 * 0 + _ ≤ _; exact Nat.le_of_eq rfl) (B d38_44) (fun _ _ => ⟨rfl, e6p, (by decide : 0 + 0 ≤ _), (by decide : 0 + 0 ≤ _)⟩)
   dsimp only [Pt.U, Pt.locs, Pt.cells, Pt.slots] at X6q l6q y6q z6q st6q hQ6q
   subst y6q z6q
   obtain ⟨rfl, N6qq, Kq6q⟩ := hQ6q
   refine oG st6q ?_
   have N6q := oL l6q (Fr.app N0 N6qq)
   have E_s_ := E_s_.keep Kq6q
   have E_o_ := E_o_.keep Kq6q
   have j5_ := j5_.keep Kq6q nin0
   have j75_ := j75_.keep Kq6q nin0
   have j3_ := j3_.keep Kq6q nin0
   have V_ts := V_ts.keep Kq6q nin0
   have j51_ := j51_.keep Kq6q nin0
   have V_to := V_to.keep Kq6q nin0
   have O := O.keep Kq6q all0
   have K6r := K0.trans Kq6q all0
   show oF p e below (T6q.setTop (mkF m 47 #[.val (.ref s_), .val (.ref o_), .val (.ref o_)] [(.int 1)])) _
   refine oG (fun _ k => XS.ifNo X6q.here hx rfl (B d38_47) rfl ((if0 _ _).trans (feq (by decide : ¬ ((1 : Int32) = (0 : Int32)))).1) (XS.iconst X6q.here hx rfl (B d38_50) (XS.goto X6q.here hx rfl (pc0 := 51) (pc' := 55) rfl (B d38_51) (by decide) (by decide) k))) ?_
   show oF p e below (T6q.setTop (mkF m 55 #[.val (.ref s_), .val (.ref o_), .val (.ref o_)] [(.int 1)])) _
   obtain ⟨fs, hr, r1, r2, hW, r3⟩ := X6q.leave (v := some (.int 1)) (fun h => by rw [Bd.returns] at h; cases h)
   refine ⟨_, _, ?_, r1, r2, _, _, rfl, ?_, ⟨_, rfl⟩, hW, r3.mono (by decide) (by decide)⟩
   ·exact retN X6q hx (t := .boolean) Bd.returns (by simp) (B d38_55) hr
   ·show Qseq Z  h0 n0 _ T6q.heap _
    exact ⟨rfl, N6q, K6r⟩
def o_HD : List Int32 := [(82 : Int32), (101 : Int32), (110 : Int32), (101 : Int32), (119 : Int32), (97 : Int32), (108 : Int32), (91 : Int32), (108 : Int32), (111 : Int32), (99 : Int32), (107 : Int32), (78 : Int32), (97 : Int32), (109 : Int32), (101 : Int32), (61 : Int32)]
def o_TL0 : List Int32 := [(44 : Int32), (32 : Int32), (103 : Int32), (114 : Int32), (97 : Int32), (110 : Int32), (116 : Int32), (101 : Int32), (100 : Int32), (61 : Int32), (102 : Int32), (97 : Int32), (108 : Int32), (115 : Int32), (101 : Int32), (93 : Int32)]
def o_TL1 : List Int32 := [(44 : Int32), (32 : Int32), (103 : Int32), (114 : Int32), (97 : Int32), (110 : Int32), (116 : Int32), (101 : Int32), (100 : Int32), (61 : Int32), (116 : Int32), (114 : Int32), (117 : Int32), (101 : Int32), (93 : Int32)]
def o_TL (f : Int32) : List Int32 := if f = (0 : Int32) then o_TL0 else o_TL1
theorem o_ltM {k M : Int32} {K : Int} (hk : k.toInt = K) (h : K < M.toInt) : k < M := by rw [Int32.lt_iff_toInt_lt]; omega
theorem o_hj {i : Int32} {vs : List Value} {l : List Int32} (hi : i.toInt = (vs.length : Int)) (k : Int32) {K : Nat} (hk : k.toInt = (K : Int)) (hK : K ≤ 100) (hl : l.length = K) (hb : vs.length ≤ 200) : (i + k).toInt = ((vs ++ o_ch l).length : Int) := by
 have b := c_iadd i k
 have r := rng32 (i + k)
 rw [List.length_append, o_chl, hl]; omega
theorem o_hi0 {i : Int32} {vs : List Value} (hi : i.toInt = (vs.length : Int)) : i.toInt = ((vs ++ o_ch []).length : Int) := by
 rw [List.length_append, o_chl, hi]; rfl
theorem o_h0 {l : List Int32} (k : Int32) {K : Nat} (hk : k.toInt = (K : Int)) (hl : l.length = K) : k.toInt = ((o_ch l).length : Int) := by rw [o_chl, hl]; exact hk
theorem o_hl {vs : List Value} {l : List Int32} {M : Int32} {K : Nat} (hl : l.length = K) (h : (vs.length : Int) + K < M.toInt) : ((vs ++ o_ch l).length : Int) < M.toInt := by
 rw [List.length_append, o_chl, hl]; omega
theorem o_hm {l : List Int32} {M : Int32} {K : Nat} (hl : l.length = K) (h : (K : Int) < M.toInt) : ((o_ch l).length : Int) < M.toInt := by rw [o_chl, hl]; exact h
theorem o_chc (l : List Int32) (c : Int32) : o_ch l ++ [.int c] = o_ch (l ++ [c]) := by unfold o_ch; rw [List.map_append]; rfl
theorem o_chs (vs : List Value) (l : List Int32) (c : Int32) : (vs ++ o_ch l) ++ [.int c] = vs ++ o_ch (l ++ [c]) := by
 rw [List.append_assoc, o_chc]
theorem o_che : o_ch [] = [] := rfl
theorem o_nc32 : nar .char (32 : Int32) = 32 := by decide
theorem o_nc44 : nar .char (44 : Int32) = 44 := by decide
theorem o_nc61 : nar .char (61 : Int32) = 61 := by decide
theorem o_nc78 : nar .char (78 : Int32) = 78 := by decide
theorem o_nc82 : nar .char (82 : Int32) = 82 := by decide
theorem o_nc91 : nar .char (91 : Int32) = 91 := by decide
theorem o_nc93 : nar .char (93 : Int32) = 93 := by decide
theorem o_nc97 : nar .char (97 : Int32) = 97 := by decide
theorem o_nc99 : nar .char (99 : Int32) = 99 := by decide
theorem o_nc100 : nar .char (100 : Int32) = 100 := by decide
theorem o_nc101 : nar .char (101 : Int32) = 101 := by decide
theorem o_nc102 : nar .char (102 : Int32) = 102 := by decide
theorem o_nc103 : nar .char (103 : Int32) = 103 := by decide
theorem o_nc107 : nar .char (107 : Int32) = 107 := by decide
theorem o_nc108 : nar .char (108 : Int32) = 108 := by decide
theorem o_nc109 : nar .char (109 : Int32) = 109 := by decide
theorem o_nc110 : nar .char (110 : Int32) = 110 := by decide
theorem o_nc111 : nar .char (111 : Int32) = 111 := by decide
theorem o_nc114 : nar .char (114 : Int32) = 114 := by decide
theorem o_nc115 : nar .char (115 : Int32) = 115 := by decide
theorem o_nc116 : nar .char (116 : Int32) = 116 := by decide
theorem o_nc117 : nar .char (117 : Int32) = 117 := by decide
theorem o_nc119 : nar .char (119 : Int32) = 119 := by decide
theorem d1_0 : decode k49_ 0 = .ok (.aload_n 0, 1) := by decide +kernel
theorem d1_1 : decode k49_ 1 = .ok (.iconst 0, 1) := by decide +kernel
theorem d1_2 : decode k49_ 2 = .ok (.bipush 82, 2) := by decide +kernel
theorem d1_4 : decode k49_ 4 = .ok (.castore, 1) := by decide +kernel
theorem d1_5 : decode k49_ 5 = .ok (.aload_n 0, 1) := by decide +kernel
theorem d1_6 : decode k49_ 6 = .ok (.iconst 1, 1) := by decide +kernel
theorem d1_7 : decode k49_ 7 = .ok (.bipush 101, 2) := by decide +kernel
theorem d1_9 : decode k49_ 9 = .ok (.castore, 1) := by decide +kernel
theorem d1_10 : decode k49_ 10 = .ok (.aload_n 0, 1) := by decide +kernel
theorem d1_11 : decode k49_ 11 = .ok (.iconst 2, 1) := by decide +kernel
theorem d1_12 : decode k49_ 12 = .ok (.bipush 110, 2) := by decide +kernel
theorem d1_14 : decode k49_ 14 = .ok (.castore, 1) := by decide +kernel
theorem d1_15 : decode k49_ 15 = .ok (.aload_n 0, 1) := by decide +kernel
theorem d1_16 : decode k49_ 16 = .ok (.iconst 3, 1) := by decide +kernel
theorem d1_17 : decode k49_ 17 = .ok (.bipush 101, 2) := by decide +kernel
theorem d1_19 : decode k49_ 19 = .ok (.castore, 1) := by decide +kernel
theorem d1_20 : decode k49_ 20 = .ok (.aload_n 0, 1) := by decide +kernel
theorem d1_21 : decode k49_ 21 = .ok (.iconst 4, 1) := by decide +kernel
theorem d1_22 : decode k49_ 22 = .ok (.bipush 119, 2) := by decide +kernel
theorem d1_24 : decode k49_ 24 = .ok (.castore, 1) := by decide +kernel
theorem d1_25 : decode k49_ 25 = .ok (.aload_n 0, 1) := by decide +kernel
theorem d1_26 : decode k49_ 26 = .ok (.iconst 5, 1) := by decide +kernel
theorem d1_27 : decode k49_ 27 = .ok (.bipush 97, 2) := by decide +kernel
theorem d1_29 : decode k49_ 29 = .ok (.castore, 1) := by decide +kernel
theorem d1_30 : decode k49_ 30 = .ok (.aload_n 0, 1) := by decide +kernel
theorem d1_31 : decode k49_ 31 = .ok (.bipush 6, 2) := by decide +kernel
theorem d1_33 : decode k49_ 33 = .ok (.bipush 108, 2) := by decide +kernel
theorem d1_35 : decode k49_ 35 = .ok (.castore, 1) := by decide +kernel
theorem d1_36 : decode k49_ 36 = .ok (.aload_n 0, 1) := by decide +kernel
theorem d1_37 : decode k49_ 37 = .ok (.bipush 7, 2) := by decide +kernel
theorem d1_39 : decode k49_ 39 = .ok (.bipush 91, 2) := by decide +kernel
theorem d1_41 : decode k49_ 41 = .ok (.castore, 1) := by decide +kernel
theorem d1_42 : decode k49_ 42 = .ok (.aload_n 0, 1) := by decide +kernel
theorem d1_43 : decode k49_ 43 = .ok (.bipush 8, 2) := by decide +kernel
theorem d1_45 : decode k49_ 45 = .ok (.bipush 108, 2) := by decide +kernel
theorem d1_47 : decode k49_ 47 = .ok (.castore, 1) := by decide +kernel
theorem d1_48 : decode k49_ 48 = .ok (.aload_n 0, 1) := by decide +kernel
theorem d1_49 : decode k49_ 49 = .ok (.bipush 9, 2) := by decide +kernel
theorem d1_51 : decode k49_ 51 = .ok (.bipush 111, 2) := by decide +kernel
theorem d1_53 : decode k49_ 53 = .ok (.castore, 1) := by decide +kernel
theorem d1_54 : decode k49_ 54 = .ok (.aload_n 0, 1) := by decide +kernel
theorem d1_55 : decode k49_ 55 = .ok (.bipush 10, 2) := by decide +kernel
theorem d1_57 : decode k49_ 57 = .ok (.bipush 99, 2) := by decide +kernel
theorem d1_59 : decode k49_ 59 = .ok (.castore, 1) := by decide +kernel
theorem d1_60 : decode k49_ 60 = .ok (.aload_n 0, 1) := by decide +kernel
theorem d1_61 : decode k49_ 61 = .ok (.bipush 11, 2) := by decide +kernel
theorem d1_63 : decode k49_ 63 = .ok (.bipush 107, 2) := by decide +kernel
theorem d1_65 : decode k49_ 65 = .ok (.castore, 1) := by decide +kernel
theorem d1_66 : decode k49_ 66 = .ok (.aload_n 0, 1) := by decide +kernel
theorem d1_67 : decode k49_ 67 = .ok (.bipush 12, 2) := by decide +kernel
theorem d1_69 : decode k49_ 69 = .ok (.bipush 78, 2) := by decide +kernel
theorem d1_71 : decode k49_ 71 = .ok (.castore, 1) := by decide +kernel
theorem d1_72 : decode k49_ 72 = .ok (.aload_n 0, 1) := by decide +kernel
theorem d1_73 : decode k49_ 73 = .ok (.bipush 13, 2) := by decide +kernel
theorem d1_75 : decode k49_ 75 = .ok (.bipush 97, 2) := by decide +kernel
theorem d1_77 : decode k49_ 77 = .ok (.castore, 1) := by decide +kernel
theorem d1_78 : decode k49_ 78 = .ok (.aload_n 0, 1) := by decide +kernel
theorem d1_79 : decode k49_ 79 = .ok (.bipush 14, 2) := by decide +kernel
theorem d1_81 : decode k49_ 81 = .ok (.bipush 109, 2) := by decide +kernel
theorem d1_83 : decode k49_ 83 = .ok (.castore, 1) := by decide +kernel
theorem d1_84 : decode k49_ 84 = .ok (.aload_n 0, 1) := by decide +kernel
theorem d1_85 : decode k49_ 85 = .ok (.bipush 15, 2) := by decide +kernel
theorem d1_87 : decode k49_ 87 = .ok (.bipush 101, 2) := by decide +kernel
theorem d1_89 : decode k49_ 89 = .ok (.castore, 1) := by decide +kernel
theorem d1_90 : decode k49_ 90 = .ok (.aload_n 0, 1) := by decide +kernel
theorem d1_91 : decode k49_ 91 = .ok (.bipush 16, 2) := by decide +kernel
theorem d1_93 : decode k49_ 93 = .ok (.bipush 61, 2) := by decide +kernel
theorem d1_95 : decode k49_ 95 = .ok (.castore, 1) := by decide +kernel
theorem d1_96 : decode k49_ 96 = .ok (.return_, 1) := by decide +kernel
theorem pn_8 : plainName "com/example/holdfast/holdfast/RenewalToStringPinLaw" = true := by first | (simp [plainName, overriddenIn]; done) | decide +kernel
def Qhd (Z : State) (a : Addr) (ka : ClassId) (M : Int32) (h0 : Heap) (n0 : Nat) (v : Option Value) (h : Heap) (L : List Loc) : Prop := v = none ∧ Fr n0 L ∧ Keep h0 h [a] ∧ Arv Z h a ka .char M (o_ch o_HD) (.int 0)
theorem hd (l : Launch) (Z : State) (a0 : Array Value) (hw : ∀ d ∈ tables_1, d.before a0 Z = true) (ws : List Jvm.Cond) (a : Addr) (ka : ClassId) (M : Int32) (h0 : Heap) (n0 : Nat) (O : Old Z n0 h0) (V_a : Arv Z h0 a ka .char M [] (.int 0)) (g_a : n0 ≤ a) (hM : 32 ≤ M.toInt) :
   o_MF l Z mN49 method_3_code 1 none ws rM0 #[(.ref a)] h0 (Qhd Z a ka M h0 n0) := by
 refine MetFree.of_bodySF (plainFor_of_name pn_8) hisR ?_
 intro p e s m args below meth c s₁ Bd hml0 hP hK
 obtain ⟨rfl, hZ, hh⟩ := hP
 have hx := Bd.exec
 have hby := Bd.bytes
 have B := @hb _ _ hby
 have hml : c.maxLocals = 1 := hml0
 have hown : s.vm.findClass "com/example/holdfast/holdfast/RenewalToStringPinLaw" = some m.cls := findClass_of_methodNamed Bd.named
 have X0 : Stand p l e rM0 s m #[(.ref a)] below meth c s₁ [] 0 0 := Stand.of_body Bd
 have e0 : s₁.heap = h0 := by rw [← hh, Bd.state]; rfl
 have N0 := Fr.nil n0
 have K0 := Keep.refl h0 [a]
 refine o_start (ef_ul m a) (Q := o_QE s rM0 (Qhd Z a ka M h0 n0)) ?_
 show oF p e below (s₁.setTop (mkF m 0 #[.val (.ref a)] [])) _
 refine oG (fun _ k => XS.aloadN X0.here hx rfl (B d1_0) rfl rfl (XS.iconst X0.here hx rfl (B d1_1) (XS.bipush X0.here hx rfl (B d1_2) k))) ?_
 show oF p e below (s₁.setTop (mkF m 4 #[.val (.ref a)] [(.int 82), (.int 0), (.ref a)])) _
 have V_a : Arv Z h0 a ka .char M (o_ch []) (.int 0) := V_a
 show oF p e below (s₁.setTop (mkF m 4 #[.val (.ref a)] [(.int 82), (.int 0), (.ref a)])) _
 obtain ⟨T6s, h6s, X6s, e6s, W6s, Vq494, st6s⟩ := o_sC X0 hx hZ e0 V_a (j := (0 : Int32)) (o_h0 0 (K := 0) (by decide) rfl) (o_hm (K := 0) rfl (by omega)) (g := (mkF m 4 #[.val (.ref a)] [(.int 82), (.int 0), (.ref a)])) rfl rfl (B d1_4)
 refine oG st6s ?_
 have O := O.wr W6s g_a
 have K6t := K0.wr W6s (Or.inl (List.mem_of_getElem? (i := 0) rfl))
 have V_a : Arv Z h6s a ka .char M (o_ch [(82 : Int32)]) (.int 0) := by rw [o_nc82, o_chc] at Vq494; exact Vq494
 have N6s := Fr.snoc X6s N0 g_a
 show oF p e below (T6s.setTop (mkF m 5 #[.val (.ref a)] [])) _
 refine oG (fun _ k => XS.aloadN X6s.here hx rfl (B d1_5) rfl rfl (XS.iconst X6s.here hx rfl (B d1_6) (XS.bipush X6s.here hx rfl (B d1_7) k))) ?_
 show oF p e below (T6s.setTop (mkF m 9 #[.val (.ref a)] [(.int 101), (.int 1), (.ref a)])) _
 obtain ⟨T6u, h6u, X6u, e6u, W6u, Vq496, st6u⟩ := o_sC X6s hx hZ e6s V_a (j := (1 : Int32)) (o_h0 1 (K := 1) (by decide) rfl) (o_hm (K := 1) rfl (by omega)) (g := (mkF m 9 #[.val (.ref a)] [(.int 101), (.int 1), (.ref a)])) rfl rfl (B d1_9)
 refine oG st6u ?_
 have O := O.wr W6u g_a
 have K6v := K6t.wr W6u (Or.inl (List.mem_of_getElem? (i := 0) rfl))
 have V_a : Arv Z h6u a ka .char M (o_ch [(82 : Int32), (101 : Int32)]) (.int 0) := by rw [o_nc101, o_chc] at Vq496; exact Vq496
 have N6u := Fr.snoc X6u N6s g_a
 show oF p e below (T6u.setTop (mkF m 10 #[.val (.ref a)] [])) _
 refine oG (fun _ k => XS.aloadN X6u.here hx rfl (B d1_10) rfl rfl (XS.iconst X6u.here hx rfl (B d1_11) (XS.bipush X6u.here hx rfl (B d1_12) k))) ?_
 show oF p e below (T6u.setTop (mkF m 14 #[.val (.ref a)] [(.int 110), (.int 2), (.ref a)])) _
 obtain ⟨T6w, h6w, X6w, e6w, W6w, Vq498, st6w⟩ := o_sC X6u hx hZ e6u V_a (j := (2 : Int32)) (o_h0 2 (K := 2) (by decide) rfl) (o_hm (K := 2) rfl (by omega)) (g := (mkF m 14 #[.val (.ref a)] [(.int 110), (.int 2), (.ref a)])) rfl rfl (B d1_14)
 refine oG st6w ?_
 have O := O.wr W6w g_a
 have K6x := K6v.wr W6w (Or.inl (List.mem_of_getElem? (i := 0) rfl))
 have V_a : Arv Z h6w a ka .char M (o_ch [(82 : Int32), (101 : Int32), (110 : Int32)]) (.int 0) := by rw [o_nc110, o_chc] at Vq498; exact Vq498
 have N6w := Fr.snoc X6w N6u g_a
 show oF p e below (T6w.setTop (mkF m 15 #[.val (.ref a)] [])) _
 refine oG (fun _ k => XS.aloadN X6w.here hx rfl (B d1_15) rfl rfl (XS.iconst X6w.here hx rfl (B d1_16) (XS.bipush X6w.here hx rfl (B d1_17) k))) ?_
 show oF p e below (T6w.setTop (mkF m 19 #[.val (.ref a)] [(.int 101), (.int 3), (.ref a)])) _
 obtain ⟨T6y, h6y, X6y, e6y, W6y, Vq500, st6y⟩ := o_sC X6w hx hZ e6w V_a (j := (3 : Int32)) (o_h0 3 (K := 3) (by decide) rfl) (o_hm (K := 3) rfl (by omega)) (g := (mkF m 19 #[.val (.ref a)] [(.int 101), (.int 3), (.ref a)])) rfl rfl (B d1_19)
 refine oG st6y ?_
 have O := O.wr W6y g_a
 have K6z := K6x.wr W6y (Or.inl (List.mem_of_getElem? (i := 0) rfl))
 have V_a : Arv Z h6y a ka .char M (o_ch [(82 : Int32), (101 : Int32), (110 : Int32), (101 : Int32)]) (.int 0) := by rw [o_nc101, o_chc] at Vq500; exact Vq500
 have N6y := Fr.snoc X6y N6w g_a
 show oF p e below (T6y.setTop (mkF m 20 #[.val (.ref a)] [])) _
 refine oG (fun _ k => XS.aloadN X6y.here hx rfl (B d1_20) rfl rfl (XS.iconst X6y.here hx rfl (B d1_21) (XS.bipush X6y.here hx rfl (B d1_22) k))) ?_
 show oF p e below (T6y.setTop (mkF m 24 #[.val (.ref a)] [(.int 119), (.int 4), (.ref a)])) _
 obtain ⟨T6A, h6A, X6A, e6A, W6A, Vq502, st6A⟩ := o_sC X6y hx hZ e6y V_a (j := (4 : Int32)) (o_h0 4 (K := 4) (by decide) rfl) (o_hm (K := 4) rfl (by omega)) (g := (mkF m 24 #[.val (.ref a)] [(.int 119), (.int 4), (.ref a)])) rfl rfl (B d1_24)
 refine oG st6A ?_
 have O := O.wr W6A g_a
 have K6B := K6z.wr W6A (Or.inl (List.mem_of_getElem? (i := 0) rfl))
 have V_a : Arv Z h6A a ka .char M (o_ch [(82 : Int32), (101 : Int32), (110 : Int32), (101 : Int32), (119 : Int32)]) (.int 0) := by rw [o_nc119, o_chc] at Vq502; exact Vq502
 have N6A := Fr.snoc X6A N6y g_a
 show oF p e below (T6A.setTop (mkF m 25 #[.val (.ref a)] [])) _
 refine oG (fun _ k => XS.aloadN X6A.here hx rfl (B d1_25) rfl rfl (XS.iconst X6A.here hx rfl (B d1_26) (XS.bipush X6A.here hx rfl (B d1_27) k))) ?_
 show oF p e below (T6A.setTop (mkF m 29 #[.val (.ref a)] [(.int 97), (.int 5), (.ref a)])) _
 obtain ⟨T6C, h6C, X6C, e6C, W6C, Vq504, st6C⟩ := o_sC X6A hx hZ e6A V_a (j := (5 : Int32)) (o_h0 5 (K := 5) (by decide) rfl) (o_hm (K := 5) rfl (by omega)) (g := (mkF m 29 #[.val (.ref a)] [(.int 97), (.int 5), (.ref a)])) rfl rfl (B d1_29)
 refine oG st6C ?_
 have O := O.wr W6C g_a
 have K6D := K6B.wr W6C (Or.inl (List.mem_of_getElem? (i := 0) rfl))
 have V_a : Arv Z h6C a ka .char M (o_ch [(82 : Int32), (101 : Int32), (110 : Int32), (101 : Int32), (119 : Int32), (97 : Int32)]) (.int 0) := by rw [o_nc97, o_chc] at Vq504; exact Vq504
 have N6C := Fr.snoc X6C N6A g_a
 show oF p e below (T6C.setTop (mkF m 30 #[.val (.ref a)] [])) _
 refine oG (fun _ k => XS.aloadN X6C.here hx rfl (B d1_30) rfl rfl (XS.bipush X6C.here hx rfl (B d1_31) (XS.bipush X6C.here hx rfl (B d1_33) k))) ?_
 show oF p e below (T6C.setTop (mkF m 35 #[.val (.ref a)] [(.int 108), (.int 6), (.ref a)])) _
 obtain ⟨T6E, h6E, X6E, e6E, W6E, Vq506, st6E⟩ := o_sC X6C hx hZ e6C V_a (j := (6 : Int32)) (o_h0 6 (K := 6) (by decide) rfl) (o_hm (K := 6) rfl (by omega)) (g := (mkF m 35 #[.val (.ref a)] [(.int 108), (.int 6), (.ref a)])) rfl rfl (B d1_35)
 refine oG st6E ?_
 have O := O.wr W6E g_a
 have K6F := K6D.wr W6E (Or.inl (List.mem_of_getElem? (i := 0) rfl))
 have V_a : Arv Z h6E a ka .char M (o_ch [(82 : Int32), (101 : Int32), (110 : Int32), (101 : Int32), (119 : Int32), (97 : Int32), (108 : Int32)]) (.int 0) := by rw [o_nc108, o_chc] at Vq506; exact Vq506
 have N6E := Fr.snoc X6E N6C g_a
 show oF p e below (T6E.setTop (mkF m 36 #[.val (.ref a)] [])) _
 refine oG (fun _ k => XS.aloadN X6E.here hx rfl (B d1_36) rfl rfl (XS.bipush X6E.here hx rfl (B d1_37) (XS.bipush X6E.here hx rfl (B d1_39) k))) ?_
 show oF p e below (T6E.setTop (mkF m 41 #[.val (.ref a)] [(.int 91), (.int 7), (.ref a)])) _
 obtain ⟨T6G, h6G, X6G, e6G, W6G, Vq508, st6G⟩ := o_sC X6E hx hZ e6E V_a (j := (7 : Int32)) (o_h0 7 (K := 7) (by decide) rfl) (o_hm (K := 7) rfl (by omega)) (g := (mkF m 41 #[.val (.ref a)] [(.int 91), (.int 7), (.ref a)])) rfl rfl (B d1_41)
 refine oG st6G ?_
 have O := O.wr W6G g_a
 have K6H := K6F.wr W6G (Or.inl (List.mem_of_getElem? (i := 0) rfl))
 have V_a : Arv Z h6G a ka .char M (o_ch [(82 : Int32), (101 : Int32), (110 : Int32), (101 : Int32), (119 : Int32), (97 : Int32), (108 : Int32), (91 : Int32)]) (.int 0) := by rw [o_nc91, o_chc] at Vq508; exact Vq508
 have N6G := Fr.snoc X6G N6E g_a
 show oF p e below (T6G.setTop (mkF m 42 #[.val (.ref a)] [])) _
 refine oG (fun _ k => XS.aloadN X6G.here hx rfl (B d1_42) rfl rfl (XS.bipush X6G.here hx rfl (B d1_43) (XS.bipush X6G.here hx rfl (B d1_45) k))) ?_
 show oF p e below (T6G.setTop (mkF m 47 #[.val (.ref a)] [(.int 108), (.int 8), (.ref a)])) _
 obtain ⟨T6I, h6I, X6I, e6I, W6I, Vq510, st6I⟩ := o_sC X6G hx hZ e6G V_a (j := (8 : Int32)) (o_h0 8 (K := 8) (by decide) rfl) (o_hm (K := 8) rfl (by omega)) (g := (mkF m 47 #[.val (.ref a)] [(.int 108), (.int 8), (.ref a)])) rfl rfl (B d1_47)
 refine oG st6I ?_
 have O := O.wr W6I g_a
 have K6J := K6H.wr W6I (Or.inl (List.mem_of_getElem? (i := 0) rfl))
 have V_a : Arv Z h6I a ka .char M (o_ch [(82 : Int32), (101 : Int32), (110 : Int32), (101 : Int32), (119 : Int32), (97 : Int32), (108 : Int32), (91 : Int32), (108 : Int32)]) (.int 0) := by rw [o_nc108, o_chc] at Vq510; exact Vq510
 have N6I := Fr.snoc X6I N6G g_a
 show oF p e below (T6I.setTop (mkF m 48 #[.val (.ref a)] [])) _
 refine oG (fun _ k => XS.aloadN X6I.here hx rfl (B d1_48) rfl rfl (XS.bipush X6I.here hx rfl (B d1_49) (XS.bipush X6I.here hx rfl (B d1_51) k))) ?_
 show oF p e below (T6I.setTop (mkF m 53 #[.val (.ref a)] [(.int 111), (.int 9), (.ref a)])) _
 obtain ⟨T6K, h6K, X6K, e6K, W6K, Vq512, st6K⟩ := o_sC X6I hx hZ e6I V_a (j := (9 : Int32)) (o_h0 9 (K := 9) (by decide) rfl) (o_hm (K := 9) rfl (by omega)) (g := (mkF m 53 #[.val (.ref a)] [(.int 111), (.int 9), (.ref a)])) rfl rfl (B d1_53)
 refine oG st6K ?_
 have O := O.wr W6K g_a
 have K6L := K6J.wr W6K (Or.inl (List.mem_of_getElem? (i := 0) rfl))
 have V_a : Arv Z h6K a ka .char M (o_ch [(82 : Int32), (101 : Int32), (110 : Int32), (101 : Int32), (119 : Int32), (97 : Int32), (108 : Int32), (91 : Int32), (108 : Int32), (111 : Int32)]) (.int 0) := by rw [o_nc111, o_chc] at Vq512; exact Vq512
 have N6K := Fr.snoc X6K N6I g_a
 show oF p e below (T6K.setTop (mkF m 54 #[.val (.ref a)] [])) _
 refine oG (fun _ k => XS.aloadN X6K.here hx rfl (B d1_54) rfl rfl (XS.bipush X6K.here hx rfl (B d1_55) (XS.bipush X6K.here hx rfl (B d1_57) k))) ?_
 show oF p e below (T6K.setTop (mkF m 59 #[.val (.ref a)] [(.int 99), (.int 10), (.ref a)])) _
 obtain ⟨T6M, h6M, X6M, e6M, W6M, Vq514, st6M⟩ := o_sC X6K hx hZ e6K V_a (j := (10 : Int32)) (o_h0 10 (K := 10) (by decide) rfl) (o_hm (K := 10) rfl (by omega)) (g := (mkF m 59 #[.val (.ref a)] [(.int 99), (.int 10), (.ref a)])) rfl rfl (B d1_59)
 refine oG st6M ?_
 have O := O.wr W6M g_a
 have K6N := K6L.wr W6M (Or.inl (List.mem_of_getElem? (i := 0) rfl))
 have V_a : Arv Z h6M a ka .char M (o_ch [(82 : Int32), (101 : Int32), (110 : Int32), (101 : Int32), (119 : Int32), (97 : Int32), (108 : Int32), (91 : Int32), (108 : Int32), (111 : Int32), (99 : Int32)]) (.int 0) := by rw [o_nc99, o_chc] at Vq514; exact Vq514
 have N6M := Fr.snoc X6M N6K g_a
 show oF p e below (T6M.setTop (mkF m 60 #[.val (.ref a)] [])) _
 refine oG (fun _ k => XS.aloadN X6M.here hx rfl (B d1_60) rfl rfl (XS.bipush X6M.here hx rfl (B d1_61) (XS.bipush X6M.here hx rfl (B d1_63) k))) ?_
 show oF p e below (T6M.setTop (mkF m 65 #[.val (.ref a)] [(.int 107), (.int 11), (.ref a)])) _
 obtain ⟨T6O, h6O, X6O, e6O, W6O, Vq516, st6O⟩ := o_sC X6M hx hZ e6M V_a (j := (11 : Int32)) (o_h0 11 (K := 11) (by decide) rfl) (o_hm (K := 11) rfl (by omega)) (g := (mkF m 65 #[.val (.ref a)] [(.int 107), (.int 11), (.ref a)])) rfl rfl (B d1_65)
 refine oG st6O ?_
 have O := O.wr W6O g_a
 have K6P := K6N.wr W6O (Or.inl (List.mem_of_getElem? (i := 0) rfl))
 have V_a : Arv Z h6O a ka .char M (o_ch [(82 : Int32), (101 : Int32), (110 : Int32), (101 : Int32), (119 : Int32), (97 : Int32), (108 : Int32), (91 : Int32), (108 : Int32), (111 : Int32), (99 : Int32), (107 : Int32)]) (.int 0) := by rw [o_nc107, o_chc] at Vq516; exact Vq516
 have N6O := Fr.snoc X6O N6M g_a
 show oF p e below (T6O.setTop (mkF m 66 #[.val (.ref a)] [])) _
 refine oG (fun _ k => XS.aloadN X6O.here hx rfl (B d1_66) rfl rfl (XS.bipush X6O.here hx rfl (B d1_67) (XS.bipush X6O.here hx rfl (B d1_69) k))) ?_
 show oF p e below (T6O.setTop (mkF m 71 #[.val (.ref a)] [(.int 78), (.int 12), (.ref a)])) _
 obtain ⟨T6Q, h6Q, X6Q, e6Q, W6Q, Vq518, st6Q⟩ := o_sC X6O hx hZ e6O V_a (j := (12 : Int32)) (o_h0 12 (K := 12) (by decide) rfl) (o_hm (K := 12) rfl (by omega)) (g := (mkF m 71 #[.val (.ref a)] [(.int 78), (.int 12), (.ref a)])) rfl rfl (B d1_71)
 refine oG st6Q ?_
 have O := O.wr W6Q g_a
 have K6R := K6P.wr W6Q (Or.inl (List.mem_of_getElem? (i := 0) rfl))
 have V_a : Arv Z h6Q a ka .char M (o_ch [(82 : Int32), (101 : Int32), (110 : Int32), (101 : Int32), (119 : Int32), (97 : Int32), (108 : Int32), (91 : Int32), (108 : Int32), (111 : Int32), (99 : Int32), (107 : Int32), (78 : Int32)]) (.int 0) := by rw [o_nc78, o_chc] at Vq518; exact Vq518
 have N6Q := Fr.snoc X6Q N6O g_a
 show oF p e below (T6Q.setTop (mkF m 72 #[.val (.ref a)] [])) _
 refine oG (fun _ k => XS.aloadN X6Q.here hx rfl (B d1_72) rfl rfl (XS.bipush X6Q.here hx rfl (B d1_73) (XS.bipush X6Q.here hx rfl (B d1_75) k))) ?_
 show oF p e below (T6Q.setTop (mkF m 77 #[.val (.ref a)] [(.int 97), (.int 13), (.ref a)])) _
 obtain ⟨T6S, h6S, X6S, e6S, W6S, Vq520, st6S⟩ := o_sC X6Q hx hZ e6Q V_a (j := (13 : Int32)) (o_h0 13 (K := 13) (by decide) rfl) (o_hm (K := 13) rfl (by omega)) (g := (mkF m 77 #[.val (.ref a)] [(.int 97), (.int 13), (.ref a)])) rfl rfl (B d1_77)
 refine oG st6S ?_
 have O := O.wr W6S g_a
 have K6T := K6R.wr W6S (Or.inl (List.mem_of_getElem? (i := 0) rfl))
 have V_a : Arv Z h6S a ka .char M (o_ch [(82 : Int32), (101 : Int32), (110 : Int32), (101 : Int32), (119 : Int32), (97 : Int32), (108 : Int32), (91 : Int32), (108 : Int32), (111 : Int32), (99 : Int32), (107 : Int32), (78 : Int32), (97 : Int32)]) (.int 0) := by rw [o_nc97, o_chc] at Vq520; exact Vq520
 have N6S := Fr.snoc X6S N6Q g_a
 show oF p e below (T6S.setTop (mkF m 78 #[.val (.ref a)] [])) _
 refine oG (fun _ k => XS.aloadN X6S.here hx rfl (B d1_78) rfl rfl (XS.bipush X6S.here hx rfl (B d1_79) (XS.bipush X6S.here hx rfl (B d1_81) k))) ?_
 show oF p e below (T6S.setTop (mkF m 83 #[.val (.ref a)] [(.int 109), (.int 14), (.ref a)])) _
 obtain ⟨T6U, h6U, X6U, e6U, W6U, Vq522, st6U⟩ := o_sC X6S hx hZ e6S V_a (j := (14 : Int32)) (o_h0 14 (K := 14) (by decide) rfl) (o_hm (K := 14) rfl (by omega)) (g := (mkF m 83 #[.val (.ref a)] [(.int 109), (.int 14), (.ref a)])) rfl rfl (B d1_83)
 refine oG st6U ?_
 have O := O.wr W6U g_a
 have K6V := K6T.wr W6U (Or.inl (List.mem_of_getElem? (i := 0) rfl))
 have V_a : Arv Z h6U a ka .char M (o_ch [(82 : Int32), (101 : Int32), (110 : Int32), (101 : Int32), (119 : Int32), (97 : Int32), (108 : Int32), (91 : Int32), (108 : Int32), (111 : Int32), (99 : Int32), (107 : Int32), (78 : Int32), (97 : Int32), (109 : Int32)]) (.int 0) := by rw [o_nc109, o_chc] at Vq522; exact Vq522
 have N6U := Fr.snoc X6U N6S g_a
 show oF p e below (T6U.setTop (mkF m 84 #[.val (.ref a)] [])) _
 refine oG (fun _ k => XS.aloadN X6U.here hx rfl (B d1_84) rfl rfl (XS.bipush X6U.here hx rfl (B d1_85) (XS.bipush X6U.here hx rfl (B d1_87) k))) ?_
 show oF p e below (T6U.setTop (mkF m 89 #[.val (.ref a)] [(.int 101), (.int 15), (.ref a)])) _
 obtain ⟨T6W, h6W, X6W, e6W, W6W, Vq524, st6W⟩ := o_sC X6U hx hZ e6U V_a (j := (15 : Int32)) (o_h0 15 (K := 15) (by decide) rfl) (o_hm (K := 15) rfl (by omega)) (g := (mkF m 89 #[.val (.ref a)] [(.int 101), (.int 15), (.ref a)])) rfl rfl (B d1_89)
 refine oG st6W ?_
 have O := O.wr W6W g_a
 have K6X := K6V.wr W6W (Or.inl (List.mem_of_getElem? (i := 0) rfl))
 have V_a : Arv Z h6W a ka .char M (o_ch [(82 : Int32), (101 : Int32), (110 : Int32), (101 : Int32), (119 : Int32), (97 : Int32), (108 : Int32), (91 : Int32), (108 : Int32), (111 : Int32), (99 : Int32), (107 : Int32), (78 : Int32), (97 : Int32), (109 : Int32), (101 : Int32)]) (.int 0) := by rw [o_nc101, o_chc] at Vq524; exact Vq524
 have N6W := Fr.snoc X6W N6U g_a
 show oF p e below (T6W.setTop (mkF m 90 #[.val (.ref a)] [])) _
 refine oG (fun _ k => XS.aloadN X6W.here hx rfl (B d1_90) rfl rfl (XS.bipush X6W.here hx rfl (B d1_91) (XS.bipush X6W.here hx rfl (B d1_93) k))) ?_
 show oF p e below (T6W.setTop (mkF m 95 #[.val (.ref a)] [(.int 61), (.int 16), (.ref a)])) _
 obtain ⟨T6Y, h6Y, X6Y, e6Y, W6Y, Vq526, st6Y⟩ := o_sC X6W hx hZ e6W V_a (j := (16 : Int32)) (o_h0 16 (K := 16) (by decide) rfl) (o_hm (K := 16) rfl (by omega)) (g := (mkF m 95 #[.val (.ref a)] [(.int 61), (.int 16), (.ref a)])) rfl rfl (B d1_95)
 refine oG st6Y ?_
 have O := O.wr W6Y g_a
 have K6Z := K6X.wr W6Y (Or.inl (List.mem_of_getElem? (i := 0) rfl))
 have V_a : Arv Z h6Y a ka .char M (o_ch [(82 : Int32), (101 : Int32), (110 : Int32), (101 : Int32), (119 : Int32), (97 : Int32), (108 : Int32), (91 : Int32), (108 : Int32), (111 : Int32), (99 : Int32), (107 : Int32), (78 : Int32), (97 : Int32), (109 : Int32), (101 : Int32), (61 : Int32)]) (.int 0) := by rw [o_nc61, o_chc] at Vq526; exact Vq526
 have N6Y := Fr.snoc X6Y N6W g_a
 show oF p e below (T6Y.setTop (mkF m 96 #[.val (.ref a)] [])) _
 obtain ⟨fs, hr, r1, r2, hW, r3⟩ := X6Y.leave (v := none) (fun _ => rfl)
 refine ⟨_, _, ?_, r1, r2, _, _, rfl, ?_, ⟨_, rfl⟩, hW, r3.mono (by decide) (by decide)⟩
 ·exact X6Y.returnOut hx Bd.returns (B d1_96) hr
 ·show Qhd Z a ka M h0 n0 _ T6Y.heap _
  rw [e6Y]
  exact ⟨rfl, N6Y, K6Z, V_a⟩
theorem o_tl0 {f : Int32} (h : f = (0 : Int32)) : o_TL f = o_TL0 := if_pos h
theorem o_tl1 {f : Int32} (h : ¬ (f = (0 : Int32))) : o_TL f = o_TL1 := if_neg h
theorem o_tll (f : Int32) : 15 ≤ (o_TL f).length ∧ (o_TL f).length ≤ 16 := by
 unfold o_TL; split <;> decide
theorem d2_0 : decode k50_ 0 = .ok (.aload_n 0, 1) := by decide +kernel
theorem d2_1 : decode k50_ 1 = .ok (.iload_n 1, 1) := by decide +kernel
theorem d2_2 : decode k50_ 2 = .ok (.bipush 44, 2) := by decide +kernel
theorem d2_4 : decode k50_ 4 = .ok (.castore, 1) := by decide +kernel
theorem d2_5 : decode k50_ 5 = .ok (.aload_n 0, 1) := by decide +kernel
theorem d2_6 : decode k50_ 6 = .ok (.iload_n 1, 1) := by decide +kernel
theorem d2_7 : decode k50_ 7 = .ok (.iconst 1, 1) := by decide +kernel
theorem d2_8 : decode k50_ 8 = .ok (.iadd, 1) := by decide +kernel
theorem d2_9 : decode k50_ 9 = .ok (.bipush 32, 2) := by decide +kernel
theorem d2_11 : decode k50_ 11 = .ok (.castore, 1) := by decide +kernel
theorem d2_12 : decode k50_ 12 = .ok (.aload_n 0, 1) := by decide +kernel
theorem d2_13 : decode k50_ 13 = .ok (.iload_n 1, 1) := by decide +kernel
theorem d2_14 : decode k50_ 14 = .ok (.iconst 2, 1) := by decide +kernel
theorem d2_15 : decode k50_ 15 = .ok (.iadd, 1) := by decide +kernel
theorem d2_16 : decode k50_ 16 = .ok (.bipush 103, 2) := by decide +kernel
theorem d2_18 : decode k50_ 18 = .ok (.castore, 1) := by decide +kernel
theorem d2_19 : decode k50_ 19 = .ok (.aload_n 0, 1) := by decide +kernel
theorem d2_20 : decode k50_ 20 = .ok (.iload_n 1, 1) := by decide +kernel
theorem d2_21 : decode k50_ 21 = .ok (.iconst 3, 1) := by decide +kernel
theorem d2_22 : decode k50_ 22 = .ok (.iadd, 1) := by decide +kernel
theorem d2_23 : decode k50_ 23 = .ok (.bipush 114, 2) := by decide +kernel
theorem d2_25 : decode k50_ 25 = .ok (.castore, 1) := by decide +kernel
theorem d2_26 : decode k50_ 26 = .ok (.aload_n 0, 1) := by decide +kernel
theorem d2_27 : decode k50_ 27 = .ok (.iload_n 1, 1) := by decide +kernel
theorem d2_28 : decode k50_ 28 = .ok (.iconst 4, 1) := by decide +kernel
theorem d2_29 : decode k50_ 29 = .ok (.iadd, 1) := by decide +kernel
theorem d2_30 : decode k50_ 30 = .ok (.bipush 97, 2) := by decide +kernel
theorem d2_32 : decode k50_ 32 = .ok (.castore, 1) := by decide +kernel
theorem d2_33 : decode k50_ 33 = .ok (.aload_n 0, 1) := by decide +kernel
theorem d2_34 : decode k50_ 34 = .ok (.iload_n 1, 1) := by decide +kernel
theorem d2_35 : decode k50_ 35 = .ok (.iconst 5, 1) := by decide +kernel
theorem d2_36 : decode k50_ 36 = .ok (.iadd, 1) := by decide +kernel
theorem d2_37 : decode k50_ 37 = .ok (.bipush 110, 2) := by decide +kernel
theorem d2_39 : decode k50_ 39 = .ok (.castore, 1) := by decide +kernel
theorem d2_40 : decode k50_ 40 = .ok (.aload_n 0, 1) := by decide +kernel
theorem d2_41 : decode k50_ 41 = .ok (.iload_n 1, 1) := by decide +kernel
theorem d2_42 : decode k50_ 42 = .ok (.bipush 6, 2) := by decide +kernel
theorem d2_44 : decode k50_ 44 = .ok (.iadd, 1) := by decide +kernel
theorem d2_45 : decode k50_ 45 = .ok (.bipush 116, 2) := by decide +kernel
theorem d2_47 : decode k50_ 47 = .ok (.castore, 1) := by decide +kernel
theorem d2_48 : decode k50_ 48 = .ok (.aload_n 0, 1) := by decide +kernel
theorem d2_49 : decode k50_ 49 = .ok (.iload_n 1, 1) := by decide +kernel
theorem d2_50 : decode k50_ 50 = .ok (.bipush 7, 2) := by decide +kernel
theorem d2_52 : decode k50_ 52 = .ok (.iadd, 1) := by decide +kernel
theorem d2_53 : decode k50_ 53 = .ok (.bipush 101, 2) := by decide +kernel
theorem d2_55 : decode k50_ 55 = .ok (.castore, 1) := by decide +kernel
theorem d2_56 : decode k50_ 56 = .ok (.aload_n 0, 1) := by decide +kernel
theorem d2_57 : decode k50_ 57 = .ok (.iload_n 1, 1) := by decide +kernel
theorem d2_58 : decode k50_ 58 = .ok (.bipush 8, 2) := by decide +kernel
theorem d2_60 : decode k50_ 60 = .ok (.iadd, 1) := by decide +kernel
theorem d2_61 : decode k50_ 61 = .ok (.bipush 100, 2) := by decide +kernel
theorem d2_63 : decode k50_ 63 = .ok (.castore, 1) := by decide +kernel
theorem d2_64 : decode k50_ 64 = .ok (.aload_n 0, 1) := by decide +kernel
theorem d2_65 : decode k50_ 65 = .ok (.iload_n 1, 1) := by decide +kernel
theorem d2_66 : decode k50_ 66 = .ok (.bipush 9, 2) := by decide +kernel
theorem d2_68 : decode k50_ 68 = .ok (.iadd, 1) := by decide +kernel
theorem d2_69 : decode k50_ 69 = .ok (.bipush 61, 2) := by decide +kernel
theorem d2_71 : decode k50_ 71 = .ok (.castore, 1) := by decide +kernel
theorem d2_72 : decode k50_ 72 = .ok (.iload_n 2, 1) := by decide +kernel
theorem d2_73 : decode k50_ 73 = .ok (.ifCond .eq 46, 3) := by decide +kernel
theorem d2_119 : decode k50_ 119 = .ok (.aload_n 0, 1) := by decide +kernel
theorem d2_120 : decode k50_ 120 = .ok (.iload_n 1, 1) := by decide +kernel
theorem d2_121 : decode k50_ 121 = .ok (.bipush 10, 2) := by decide +kernel
theorem d2_123 : decode k50_ 123 = .ok (.iadd, 1) := by decide +kernel
theorem d2_124 : decode k50_ 124 = .ok (.bipush 102, 2) := by decide +kernel
theorem d2_126 : decode k50_ 126 = .ok (.castore, 1) := by decide +kernel
theorem d2_127 : decode k50_ 127 = .ok (.aload_n 0, 1) := by decide +kernel
theorem d2_128 : decode k50_ 128 = .ok (.iload_n 1, 1) := by decide +kernel
theorem d2_129 : decode k50_ 129 = .ok (.bipush 11, 2) := by decide +kernel
theorem d2_131 : decode k50_ 131 = .ok (.iadd, 1) := by decide +kernel
theorem d2_132 : decode k50_ 132 = .ok (.bipush 97, 2) := by decide +kernel
theorem d2_134 : decode k50_ 134 = .ok (.castore, 1) := by decide +kernel
theorem d2_135 : decode k50_ 135 = .ok (.aload_n 0, 1) := by decide +kernel
theorem d2_136 : decode k50_ 136 = .ok (.iload_n 1, 1) := by decide +kernel
theorem d2_137 : decode k50_ 137 = .ok (.bipush 12, 2) := by decide +kernel
theorem d2_139 : decode k50_ 139 = .ok (.iadd, 1) := by decide +kernel
theorem d2_140 : decode k50_ 140 = .ok (.bipush 108, 2) := by decide +kernel
theorem d2_142 : decode k50_ 142 = .ok (.castore, 1) := by decide +kernel
theorem d2_143 : decode k50_ 143 = .ok (.aload_n 0, 1) := by decide +kernel
theorem d2_144 : decode k50_ 144 = .ok (.iload_n 1, 1) := by decide +kernel
theorem d2_145 : decode k50_ 145 = .ok (.bipush 13, 2) := by decide +kernel
theorem d2_147 : decode k50_ 147 = .ok (.iadd, 1) := by decide +kernel
theorem d2_148 : decode k50_ 148 = .ok (.bipush 115, 2) := by decide +kernel
theorem d2_150 : decode k50_ 150 = .ok (.castore, 1) := by decide +kernel
theorem d2_151 : decode k50_ 151 = .ok (.aload_n 0, 1) := by decide +kernel
theorem d2_152 : decode k50_ 152 = .ok (.iload_n 1, 1) := by decide +kernel
theorem d2_153 : decode k50_ 153 = .ok (.bipush 14, 2) := by decide +kernel
theorem d2_155 : decode k50_ 155 = .ok (.iadd, 1) := by decide +kernel
theorem d2_156 : decode k50_ 156 = .ok (.bipush 101, 2) := by decide +kernel
theorem d2_158 : decode k50_ 158 = .ok (.castore, 1) := by decide +kernel
theorem d2_159 : decode k50_ 159 = .ok (.aload_n 0, 1) := by decide +kernel
theorem d2_160 : decode k50_ 160 = .ok (.iload_n 1, 1) := by decide +kernel
theorem d2_161 : decode k50_ 161 = .ok (.bipush 15, 2) := by decide +kernel
theorem d2_163 : decode k50_ 163 = .ok (.iadd, 1) := by decide +kernel
theorem d2_164 : decode k50_ 164 = .ok (.bipush 93, 2) := by decide +kernel
theorem d2_166 : decode k50_ 166 = .ok (.castore, 1) := by decide +kernel
theorem d2_167 : decode k50_ 167 = .ok (.return_, 1) := by decide +kernel
theorem d2_76 : decode k50_ 76 = .ok (.aload_n 0, 1) := by decide +kernel
theorem d2_77 : decode k50_ 77 = .ok (.iload_n 1, 1) := by decide +kernel
theorem d2_78 : decode k50_ 78 = .ok (.bipush 10, 2) := by decide +kernel
theorem d2_80 : decode k50_ 80 = .ok (.iadd, 1) := by decide +kernel
theorem d2_81 : decode k50_ 81 = .ok (.bipush 116, 2) := by decide +kernel
theorem d2_83 : decode k50_ 83 = .ok (.castore, 1) := by decide +kernel
theorem d2_84 : decode k50_ 84 = .ok (.aload_n 0, 1) := by decide +kernel
theorem d2_85 : decode k50_ 85 = .ok (.iload_n 1, 1) := by decide +kernel
theorem d2_86 : decode k50_ 86 = .ok (.bipush 11, 2) := by decide +kernel
theorem d2_88 : decode k50_ 88 = .ok (.iadd, 1) := by decide +kernel
theorem d2_89 : decode k50_ 89 = .ok (.bipush 114, 2) := by decide +kernel
theorem d2_91 : decode k50_ 91 = .ok (.castore, 1) := by decide +kernel
theorem d2_92 : decode k50_ 92 = .ok (.aload_n 0, 1) := by decide +kernel
theorem d2_93 : decode k50_ 93 = .ok (.iload_n 1, 1) := by decide +kernel
theorem d2_94 : decode k50_ 94 = .ok (.bipush 12, 2) := by decide +kernel
theorem d2_96 : decode k50_ 96 = .ok (.iadd, 1) := by decide +kernel
theorem d2_97 : decode k50_ 97 = .ok (.bipush 117, 2) := by decide +kernel
theorem d2_99 : decode k50_ 99 = .ok (.castore, 1) := by decide +kernel
theorem d2_100 : decode k50_ 100 = .ok (.aload_n 0, 1) := by decide +kernel
theorem d2_101 : decode k50_ 101 = .ok (.iload_n 1, 1) := by decide +kernel
theorem d2_102 : decode k50_ 102 = .ok (.bipush 13, 2) := by decide +kernel
theorem d2_104 : decode k50_ 104 = .ok (.iadd, 1) := by decide +kernel
theorem d2_105 : decode k50_ 105 = .ok (.bipush 101, 2) := by decide +kernel
theorem d2_107 : decode k50_ 107 = .ok (.castore, 1) := by decide +kernel
theorem d2_108 : decode k50_ 108 = .ok (.aload_n 0, 1) := by decide +kernel
theorem d2_109 : decode k50_ 109 = .ok (.iload_n 1, 1) := by decide +kernel
theorem d2_110 : decode k50_ 110 = .ok (.bipush 14, 2) := by decide +kernel
theorem d2_112 : decode k50_ 112 = .ok (.iadd, 1) := by decide +kernel
theorem d2_113 : decode k50_ 113 = .ok (.bipush 93, 2) := by decide +kernel
theorem d2_115 : decode k50_ 115 = .ok (.castore, 1) := by decide +kernel
theorem d2_116 : decode k50_ 116 = .ok (.goto 51, 3) := by decide +kernel
def Qtl (Z : State) (a : Addr) (f_ : Int32) (ka : ClassId) (M : Int32) (vs : List Value) (h0 : Heap) (n0 : Nat) (v : Option Value) (h : Heap) (L : List Loc) : Prop := v = none ∧ Fr n0 L ∧ Keep h0 h [a] ∧ Arv Z h a ka .char M (vs ++ o_ch (o_TL f_)) (.int 0)
theorem tl (l : Launch) (Z : State) (a0 : Array Value) (hw : ∀ d ∈ tables_1, d.before a0 Z = true) (ws : List Jvm.Cond) (a : Addr) (i : Int32) (f_ : Int32) (ka : ClassId) (M : Int32) (vs : List Value) (h0 : Heap) (n0 : Nat) (O : Old Z n0 h0) (V_a : Arv Z h0 a ka .char M vs (.int 0)) (g_a : n0 ≤ a) (hi : i.toInt = (vs.length : Int)) (hM : (vs.length : Int) + ((o_TL f_).length : Int) ≤ M.toInt) (h9 : M.toInt ≤ 100) :
   o_MF l Z mN50 method_4_code 3 none ws rM0 #[(.ref a), (.int i), (.int f_)] h0 (Qtl Z a f_ ka M vs h0 n0) := by
 refine MetFree.of_bodySF (plainFor_of_name pn_8) hisR ?_
 intro p e s m args below meth c s₁ Bd hml0 hP hK
 obtain ⟨rfl, hZ, hh⟩ := hP
 have hx := Bd.exec
 have hby := Bd.bytes
 have B := @hb _ _ hby
 have hml : c.maxLocals = 3 := hml0
 have hown : s.vm.findClass "com/example/holdfast/holdfast/RenewalToStringPinLaw" = some m.cls := findClass_of_methodNamed Bd.named
 have X0 : Stand p l e rM0 s m #[(.ref a), (.int i), (.int f_)] below meth c s₁ [] 0 0 := Stand.of_body Bd
 have e0 : s₁.heap = h0 := by rw [← hh, Bd.state]; rfl
 have N0 := Fr.nil n0
 have K0 := Keep.refl h0 [a]
 refine o_start (ef_pt m a i f_) (Q := o_QE s rM0 (Qtl Z a f_ ka M vs h0 n0)) ?_
 show oF p e below (s₁.setTop (mkF m 0 #[.val (.ref a), .val (.int i), .val (.int f_)] [])) _
 refine oG (fun _ k => XS.aloadN X0.here hx rfl (B d2_0) rfl rfl (XS.iloadN X0.here hx rfl (B d2_1) rfl (XS.bipush X0.here hx rfl (B d2_2) k))) ?_
 show oF p e below (s₁.setTop (mkF m 4 #[.val (.ref a), .val (.int i), .val (.int f_)] [(.int 44), (.int i), (.ref a)])) _
 have V_a : Arv Z h0 a ka .char M (vs ++ o_ch []) (.int 0) := by rw [o_che, List.append_nil]; exact V_a
 have htl := o_tll f_
 show oF p e below (s₁.setTop (mkF m 4 #[.val (.ref a), .val (.int i), .val (.int f_)] [(.int 44), (.int i), (.ref a)])) _
 obtain ⟨T7a, h7a, X7a, e7a, W7a, Vq529, st7a⟩ := o_sC X0 hx hZ e0 V_a (j := i) (o_hi0 hi) (o_hl (K := 0) rfl (by omega)) (g := (mkF m 4 #[.val (.ref a), .val (.int i), .val (.int f_)] [(.int 44), (.int i), (.ref a)])) rfl rfl (B d2_4)
 refine oG st7a ?_
 have O := O.wr W7a g_a
 have K7b := K0.wr W7a (Or.inl (List.mem_of_getElem? (i := 0) rfl))
 have V_a : Arv Z h7a a ka .char M (vs ++ o_ch [(44 : Int32)]) (.int 0) := by rw [o_nc44, o_chs] at Vq529; exact Vq529
 have N7a := Fr.snoc X7a N0 g_a
 show oF p e below (T7a.setTop (mkF m 5 #[.val (.ref a), .val (.int i), .val (.int f_)] [])) _
 refine oG (fun _ k => XS.aloadN X7a.here hx rfl (B d2_5) rfl rfl (XS.iloadN X7a.here hx rfl (B d2_6) rfl (XS.iconst X7a.here hx rfl (B d2_7) (XS.iadd X7a.here hx rfl (B d2_8) rfl (XS.bipush X7a.here hx rfl (B d2_9) k))))) ?_
 show oF p e below (T7a.setTop (mkF m 11 #[.val (.ref a), .val (.int i), .val (.int f_)] [(.int 32), (.int (i + (1 : Int32))), (.ref a)])) _
 obtain ⟨T7c, h7c, X7c, e7c, W7c, Vq531, st7c⟩ := o_sC X7a hx hZ e7a V_a (j := (i + (1 : Int32))) (o_hj hi 1 (K := 1) (by decide) (by decide) rfl (by omega)) (o_hl (K := 1) rfl (by omega)) (g := (mkF m 11 #[.val (.ref a), .val (.int i), .val (.int f_)] [(.int 32), (.int (i + (1 : Int32))), (.ref a)])) rfl rfl (B d2_11)
 refine oG st7c ?_
 have O := O.wr W7c g_a
 have K7d := K7b.wr W7c (Or.inl (List.mem_of_getElem? (i := 0) rfl))
 have V_a : Arv Z h7c a ka .char M (vs ++ o_ch [(44 : Int32), (32 : Int32)]) (.int 0) := by rw [o_nc32, o_chs] at Vq531; exact Vq531
 have N7c := Fr.snoc X7c N7a g_a
 show oF p e below (T7c.setTop (mkF m 12 #[.val (.ref a), .val (.int i), .val (.int f_)] [])) _
 refine oG (fun _ k => XS.aloadN X7c.here hx rfl (B d2_12) rfl rfl (XS.iloadN X7c.here hx rfl (B d2_13) rfl (XS.iconst X7c.here hx rfl (B d2_14) (XS.iadd X7c.here hx rfl (B d2_15) rfl (XS.bipush X7c.here hx rfl (B d2_16) k))))) ?_
 show oF p e below (T7c.setTop (mkF m 18 #[.val (.ref a), .val (.int i), .val (.int f_)] [(.int 103), (.int (i + (2 : Int32))), (.ref a)])) _
 obtain ⟨T7e, h7e, X7e, e7e, W7e, Vq533, st7e⟩ := o_sC X7c hx hZ e7c V_a (j := (i + (2 : Int32))) (o_hj hi 2 (K := 2) (by decide) (by decide) rfl (by omega)) (o_hl (K := 2) rfl (by omega)) (g := (mkF m 18 #[.val (.ref a), .val (.int i), .val (.int f_)] [(.int 103), (.int (i + (2 : Int32))), (.ref a)])) rfl rfl (B d2_18)
 refine oG st7e ?_
 have O := O.wr W7e g_a
 have K7f := K7d.wr W7e (Or.inl (List.mem_of_getElem? (i := 0) rfl))
 have V_a : Arv Z h7e a ka .char M (vs ++ o_ch [(44 : Int32), (32 : Int32), (103 : Int32)]) (.int 0) := by rw [o_nc103, o_chs] at Vq533; exact Vq533
 have N7e := Fr.snoc X7e N7c g_a
 show oF p e below (T7e.setTop (mkF m 19 #[.val (.ref a), .val (.int i), .val (.int f_)] [])) _
 refine oG (fun _ k => XS.aloadN X7e.here hx rfl (B d2_19) rfl rfl (XS.iloadN X7e.here hx rfl (B d2_20) rfl (XS.iconst X7e.here hx rfl (B d2_21) (XS.iadd X7e.here hx rfl (B d2_22) rfl (XS.bipush X7e.here hx rfl (B d2_23) k))))) ?_
 show oF p e below (T7e.setTop (mkF m 25 #[.val (.ref a), .val (.int i), .val (.int f_)] [(.int 114), (.int (i + (3 : Int32))), (.ref a)])) _
 obtain ⟨T7g, h7g, X7g, e7g, W7g, Vq535, st7g⟩ := o_sC X7e hx hZ e7e V_a (j := (i + (3 : Int32))) (o_hj hi 3 (K := 3) (by decide) (by decide) rfl (by omega)) (o_hl (K := 3) rfl (by omega)) (g := (mkF m 25 #[.val (.ref a), .val (.int i), .val (.int f_)] [(.int 114), (.int (i + (3 : Int32))), (.ref a)])) rfl rfl (B d2_25)
 refine oG st7g ?_
 have O := O.wr W7g g_a
 have K7h := K7f.wr W7g (Or.inl (List.mem_of_getElem? (i := 0) rfl))
 have V_a : Arv Z h7g a ka .char M (vs ++ o_ch [(44 : Int32), (32 : Int32), (103 : Int32), (114 : Int32)]) (.int 0) := by rw [o_nc114, o_chs] at Vq535; exact Vq535
 have N7g := Fr.snoc X7g N7e g_a
 show oF p e below (T7g.setTop (mkF m 26 #[.val (.ref a), .val (.int i), .val (.int f_)] [])) _
 refine oG (fun _ k => XS.aloadN X7g.here hx rfl (B d2_26) rfl rfl (XS.iloadN X7g.here hx rfl (B d2_27) rfl (XS.iconst X7g.here hx rfl (B d2_28) (XS.iadd X7g.here hx rfl (B d2_29) rfl (XS.bipush X7g.here hx rfl (B d2_30) k))))) ?_
 show oF p e below (T7g.setTop (mkF m 32 #[.val (.ref a), .val (.int i), .val (.int f_)] [(.int 97), (.int (i + (4 : Int32))), (.ref a)])) _
 obtain ⟨T7i, h7i, X7i, e7i, W7i, Vq537, st7i⟩ := o_sC X7g hx hZ e7g V_a (j := (i + (4 : Int32))) (o_hj hi 4 (K := 4) (by decide) (by decide) rfl (by omega)) (o_hl (K := 4) rfl (by omega)) (g := (mkF m 32 #[.val (.ref a), .val (.int i), .val (.int f_)] [(.int 97), (.int (i + (4 : Int32))), (.ref a)])) rfl rfl (B d2_32)
 refine oG st7i ?_
 have O := O.wr W7i g_a
 have K7j := K7h.wr W7i (Or.inl (List.mem_of_getElem? (i := 0) rfl))
 have V_a : Arv Z h7i a ka .char M (vs ++ o_ch [(44 : Int32), (32 : Int32), (103 : Int32), (114 : Int32), (97 : Int32)]) (.int 0) := by rw [o_nc97, o_chs] at Vq537; exact Vq537
 have N7i := Fr.snoc X7i N7g g_a
 show oF p e below (T7i.setTop (mkF m 33 #[.val (.ref a), .val (.int i), .val (.int f_)] [])) _
 refine oG (fun _ k => XS.aloadN X7i.here hx rfl (B d2_33) rfl rfl (XS.iloadN X7i.here hx rfl (B d2_34) rfl (XS.iconst X7i.here hx rfl (B d2_35) (XS.iadd X7i.here hx rfl (B d2_36) rfl (XS.bipush X7i.here hx rfl (B d2_37) k))))) ?_
 show oF p e below (T7i.setTop (mkF m 39 #[.val (.ref a), .val (.int i), .val (.int f_)] [(.int 110), (.int (i + (5 : Int32))), (.ref a)])) _
 obtain ⟨T7k, h7k, X7k, e7k, W7k, Vq539, st7k⟩ := o_sC X7i hx hZ e7i V_a (j := (i + (5 : Int32))) (o_hj hi 5 (K := 5) (by decide) (by decide) rfl (by omega)) (o_hl (K := 5) rfl (by omega)) (g := (mkF m 39 #[.val (.ref a), .val (.int i), .val (.int f_)] [(.int 110), (.int (i + (5 : Int32))), (.ref a)])) rfl rfl (B d2_39)
 refine oG st7k ?_
 have O := O.wr W7k g_a
 have K7l := K7j.wr W7k (Or.inl (List.mem_of_getElem? (i := 0) rfl))
 have V_a : Arv Z h7k a ka .char M (vs ++ o_ch [(44 : Int32), (32 : Int32), (103 : Int32), (114 : Int32), (97 : Int32), (110 : Int32)]) (.int 0) := by rw [o_nc110, o_chs] at Vq539; exact Vq539
 have N7k := Fr.snoc X7k N7i g_a
 show oF p e below (T7k.setTop (mkF m 40 #[.val (.ref a), .val (.int i), .val (.int f_)] [])) _
 refine oG (fun _ k => XS.aloadN X7k.here hx rfl (B d2_40) rfl rfl (XS.iloadN X7k.here hx rfl (B d2_41) rfl (XS.bipush X7k.here hx rfl (B d2_42) (XS.iadd X7k.here hx rfl (B d2_44) rfl (XS.bipush X7k.here hx rfl (B d2_45) k))))) ?_
 show oF p e below (T7k.setTop (mkF m 47 #[.val (.ref a), .val (.int i), .val (.int f_)] [(.int 116), (.int (i + (6 : Int32))), (.ref a)])) _
 obtain ⟨T7m, h7m, X7m, e7m, W7m, Vq541, st7m⟩ := o_sC X7k hx hZ e7k V_a (j := (i + (6 : Int32))) (o_hj hi 6 (K := 6) (by decide) (by decide) rfl (by omega)) (o_hl (K := 6) rfl (by omega)) (g := (mkF m 47 #[.val (.ref a), .val (.int i), .val (.int f_)] [(.int 116), (.int (i + (6 : Int32))), (.ref a)])) rfl rfl (B d2_47)
 refine oG st7m ?_
 have O := O.wr W7m g_a
 have K7n := K7l.wr W7m (Or.inl (List.mem_of_getElem? (i := 0) rfl))
 have V_a : Arv Z h7m a ka .char M (vs ++ o_ch [(44 : Int32), (32 : Int32), (103 : Int32), (114 : Int32), (97 : Int32), (110 : Int32), (116 : Int32)]) (.int 0) := by rw [o_nc116, o_chs] at Vq541; exact Vq541
 have N7m := Fr.snoc X7m N7k g_a
 show oF p e below (T7m.setTop (mkF m 48 #[.val (.ref a), .val (.int i), .val (.int f_)] [])) _
 refine oG (fun _ k => XS.aloadN X7m.here hx rfl (B d2_48) rfl rfl (XS.iloadN X7m.here hx rfl (B d2_49) rfl (XS.bipush X7m.here hx rfl (B d2_50) (XS.iadd X7m.here hx rfl (B d2_52) rfl (XS.bipush X7m.here hx rfl (B d2_53) k))))) ?_
 show oF p e below (T7m.setTop (mkF m 55 #[.val (.ref a), .val (.int i), .val (.int f_)] [(.int 101), (.int (i + (7 : Int32))), (.ref a)])) _
 obtain ⟨T7o, h7o, X7o, e7o, W7o, Vq543, st7o⟩ := o_sC X7m hx hZ e7m V_a (j := (i + (7 : Int32))) (o_hj hi 7 (K := 7) (by decide) (by decide) rfl (by omega)) (o_hl (K := 7) rfl (by omega)) (g := (mkF m 55 #[.val (.ref a), .val (.int i), .val (.int f_)] [(.int 101), (.int (i + (7 : Int32))), (.ref a)])) rfl rfl (B d2_55)
 refine oG st7o ?_
 have O := O.wr W7o g_a
 have K7p := K7n.wr W7o (Or.inl (List.mem_of_getElem? (i := 0) rfl))
 have V_a : Arv Z h7o a ka .char M (vs ++ o_ch [(44 : Int32), (32 : Int32), (103 : Int32), (114 : Int32), (97 : Int32), (110 : Int32), (116 : Int32), (101 : Int32)]) (.int 0) := by rw [o_nc101, o_chs] at Vq543; exact Vq543
 have N7o := Fr.snoc X7o N7m g_a
 show oF p e below (T7o.setTop (mkF m 56 #[.val (.ref a), .val (.int i), .val (.int f_)] [])) _
 refine oG (fun _ k => XS.aloadN X7o.here hx rfl (B d2_56) rfl rfl (XS.iloadN X7o.here hx rfl (B d2_57) rfl (XS.bipush X7o.here hx rfl (B d2_58) (XS.iadd X7o.here hx rfl (B d2_60) rfl (XS.bipush X7o.here hx rfl (B d2_61) k))))) ?_
 show oF p e below (T7o.setTop (mkF m 63 #[.val (.ref a), .val (.int i), .val (.int f_)] [(.int 100), (.int (i + (8 : Int32))), (.ref a)])) _
 obtain ⟨T7q, h7q, X7q, e7q, W7q, Vq545, st7q⟩ := o_sC X7o hx hZ e7o V_a (j := (i + (8 : Int32))) (o_hj hi 8 (K := 8) (by decide) (by decide) rfl (by omega)) (o_hl (K := 8) rfl (by omega)) (g := (mkF m 63 #[.val (.ref a), .val (.int i), .val (.int f_)] [(.int 100), (.int (i + (8 : Int32))), (.ref a)])) rfl rfl (B d2_63)
 refine oG st7q ?_
 have O := O.wr W7q g_a
 have K7r := K7p.wr W7q (Or.inl (List.mem_of_getElem? (i := 0) rfl))
 have V_a : Arv Z h7q a ka .char M (vs ++ o_ch [(44 : Int32), (32 : Int32), (103 : Int32), (114 : Int32), (97 : Int32), (110 : Int32), (116 : Int32), (101 : Int32), (100 : Int32)]) (.int 0) := by rw [o_nc100, o_chs] at Vq545; exact Vq545
 have N7q := Fr.snoc X7q N7o g_a
 show oF p e below (T7q.setTop (mkF m 64 #[.val (.ref a), .val (.int i), .val (.int f_)] [])) _
 refine oG (fun _ k => XS.aloadN X7q.here hx rfl (B d2_64) rfl rfl (XS.iloadN X7q.here hx rfl (B d2_65) rfl (XS.bipush X7q.here hx rfl (B d2_66) (XS.iadd X7q.here hx rfl (B d2_68) rfl (XS.bipush X7q.here hx rfl (B d2_69) k))))) ?_
 show oF p e below (T7q.setTop (mkF m 71 #[.val (.ref a), .val (.int i), .val (.int f_)] [(.int 61), (.int (i + (9 : Int32))), (.ref a)])) _
 obtain ⟨T7s, h7s, X7s, e7s, W7s, Vq547, st7s⟩ := o_sC X7q hx hZ e7q V_a (j := (i + (9 : Int32))) (o_hj hi 9 (K := 9) (by decide) (by decide) rfl (by omega)) (o_hl (K := 9) rfl (by omega)) (g := (mkF m 71 #[.val (.ref a), .val (.int i), .val (.int f_)] [(.int 61), (.int (i + (9 : Int32))), (.ref a)])) rfl rfl (B d2_71)
 refine oG st7s ?_
 have O := O.wr W7s g_a
 have K7t := K7r.wr W7s (Or.inl (List.mem_of_getElem? (i := 0) rfl))
 have V_a : Arv Z h7s a ka .char M (vs ++ o_ch [(44 : Int32), (32 : Int32), (103 : Int32), (114 : Int32), (97 : Int32), (110 : Int32), (116 : Int32), (101 : Int32), (100 : Int32), (61 : Int32)]) (.int 0) := by rw [o_nc61, o_chs] at Vq547; exact Vq547
 have N7s := Fr.snoc X7s N7q g_a
 show oF p e below (T7s.setTop (mkF m 72 #[.val (.ref a), .val (.int i), .val (.int f_)] [])) _
 refine oG (fun _ k => XS.iloadN X7s.here hx rfl (B d2_72) rfl k) ?_
 show oF p e below (T7s.setTop (mkF m 73 #[.val (.ref a), .val (.int i), .val (.int f_)] [(.int f_)])) _
 by_cases hc73_549 : f_ = (0 : Int32)
 ·refine oG (fun _ k => XS.ifYes X7s.here hx rfl (pc0 := 73) (pc' := 119) rfl (B d2_73) rfl ((if0 _ _).trans (teq hc73_549).1) (by decide) (by decide) (XS.aloadN X7s.here hx rfl (B d2_119) rfl rfl (XS.iloadN X7s.here hx rfl (B d2_120) rfl (XS.bipush X7s.here hx rfl (B d2_121) (XS.iadd X7s.here hx rfl (B d2_123) rfl (XS.bipush X7s.here hx rfl (B d2_124) k)))))) ?_
  show oF p e below (T7s.setTop (mkF m 126 #[.val (.ref a), .val (.int i), .val (.int f_)] [(.int 102), (.int (i + (10 : Int32))), (.ref a)])) _
  obtain ⟨T7u, h7u, X7u, e7u, W7u, Vq550, st7u⟩ := o_sC X7s hx hZ e7s V_a (j := (i + (10 : Int32))) (o_hj hi 10 (K := 10) (by decide) (by decide) rfl (by omega)) (o_hl (K := 10) rfl (by omega)) (g := (mkF m 126 #[.val (.ref a), .val (.int i), .val (.int f_)] [(.int 102), (.int (i + (10 : Int32))), (.ref a)])) rfl rfl (B d2_126)
  refine oG st7u ?_
  have O := O.wr W7u g_a
  have K7v := K7t.wr W7u (Or.inl (List.mem_of_getElem? (i := 0) rfl))
  have V_a : Arv Z h7u a ka .char M (vs ++ o_ch [(44 : Int32), (32 : Int32), (103 : Int32), (114 : Int32), (97 : Int32), (110 : Int32), (116 : Int32), (101 : Int32), (100 : Int32), (61 : Int32), (102 : Int32)]) (.int 0) := by rw [o_nc102, o_chs] at Vq550; exact Vq550
  have N7u := Fr.snoc X7u N7s g_a
  show oF p e below (T7u.setTop (mkF m 127 #[.val (.ref a), .val (.int i), .val (.int f_)] [])) _
  refine oG (fun _ k => XS.aloadN X7u.here hx rfl (B d2_127) rfl rfl (XS.iloadN X7u.here hx rfl (B d2_128) rfl (XS.bipush X7u.here hx rfl (B d2_129) (XS.iadd X7u.here hx rfl (B d2_131) rfl (XS.bipush X7u.here hx rfl (B d2_132) k))))) ?_
  show oF p e below (T7u.setTop (mkF m 134 #[.val (.ref a), .val (.int i), .val (.int f_)] [(.int 97), (.int (i + (11 : Int32))), (.ref a)])) _
  obtain ⟨T7w, h7w, X7w, e7w, W7w, Vq552, st7w⟩ := o_sC X7u hx hZ e7u V_a (j := (i + (11 : Int32))) (o_hj hi 11 (K := 11) (by decide) (by decide) rfl (by omega)) (o_hl (K := 11) rfl (by omega)) (g := (mkF m 134 #[.val (.ref a), .val (.int i), .val (.int f_)] [(.int 97), (.int (i + (11 : Int32))), (.ref a)])) rfl rfl (B d2_134)
  refine oG st7w ?_
  have O := O.wr W7w g_a
  have K7x := K7v.wr W7w (Or.inl (List.mem_of_getElem? (i := 0) rfl))
  have V_a : Arv Z h7w a ka .char M (vs ++ o_ch [(44 : Int32), (32 : Int32), (103 : Int32), (114 : Int32), (97 : Int32), (110 : Int32), (116 : Int32), (101 : Int32), (100 : Int32), (61 : Int32), (102 : Int32), (97 : Int32)]) (.int 0) := by rw [o_nc97, o_chs] at Vq552; exact Vq552
  have N7w := Fr.snoc X7w N7u g_a
  show oF p e below (T7w.setTop (mkF m 135 #[.val (.ref a), .val (.int i), .val (.int f_)] [])) _
  refine oG (fun _ k => XS.aloadN X7w.here hx rfl (B d2_135) rfl rfl (XS.iloadN X7w.here hx rfl (B d2_136) rfl (XS.bipush X7w.here hx rfl (B d2_137) (XS.iadd X7w.here hx rfl (B d2_139) rfl (XS.bipush X7w.here hx rfl (B d2_140) k))))) ?_
  show oF p e below (T7w.setTop (mkF m 142 #[.val (.ref a), .val (.int i), .val (.int f_)] [(.int 108), (.int (i + (12 : Int32))), (.ref a)])) _
  obtain ⟨T7y, h7y, X7y, e7y, W7y, Vq554, st7y⟩ := o_sC X7w hx hZ e7w V_a (j := (i + (12 : Int32))) (o_hj hi 12 (K := 12) (by decide) (by decide) rfl (by omega)) (o_hl (K := 12) rfl (by omega)) (g := (mkF m 142 #[.val (.ref a), .val (.int i), .val (.int f_)] [(.int 108), (.int (i + (12 : Int32))), (.ref a)])) rfl rfl (B d2_142)
  refine oG st7y ?_
  have O := O.wr W7y g_a
  have K7z := K7x.wr W7y (Or.inl (List.mem_of_getElem? (i := 0) rfl))
  have V_a : Arv Z h7y a ka .char M (vs ++ o_ch [(44 : Int32), (32 : Int32), (103 : Int32), (114 : Int32), (97 : Int32), (110 : Int32), (116 : Int32), (101 : Int32), (100 : Int32), (61 : Int32), (102 : Int32), (97 : Int32), (108 : Int32)]) (.int 0) := by rw [o_nc108, o_chs] at Vq554; exact Vq554
  have N7y := Fr.snoc X7y N7w g_a
  show oF p e below (T7y.setTop (mkF m 143 #[.val (.ref a), .val (.int i), .val (.int f_)] [])) _
  refine oG (fun _ k => XS.aloadN X7y.here hx rfl (B d2_143) rfl rfl (XS.iloadN X7y.here hx rfl (B d2_144) rfl (XS.bipush X7y.here hx rfl (B d2_145) (XS.iadd X7y.here hx rfl (B d2_147) rfl (XS.bipush X7y.here hx rfl (B d2_148) k))))) ?_
  show oF p e below (T7y.setTop (mkF m 150 #[.val (.ref a), .val (.int i), .val (.int f_)] [(.int 115), (.int (i + (13 : Int32))), (.ref a)])) _
  obtain ⟨T7A, h7A, X7A, e7A, W7A, Vq556, st7A⟩ := o_sC X7y hx hZ e7y V_a (j := (i + (13 : Int32))) (o_hj hi 13 (K := 13) (by decide) (by decide) rfl (by omega)) (o_hl (K := 13) rfl (by omega)) (g := (mkF m 150 #[.val (.ref a), .val (.int i), .val (.int f_)] [(.int 115), (.int (i + (13 : Int32))), (.ref a)])) rfl rfl (B d2_150)
  refine oG st7A ?_
  have O := O.wr W7A g_a
  have K7B := K7z.wr W7A (Or.inl (List.mem_of_getElem? (i := 0) rfl))
  have V_a : Arv Z h7A a ka .char M (vs ++ o_ch [(44 : Int32), (32 : Int32), (103 : Int32), (114 : Int32), (97 : Int32), (110 : Int32), (116 : Int32), (101 : Int32), (100 : Int32), (61 : Int32), (102 : Int32), (97 : Int32), (108 : Int32), (115 : Int32)]) (.int 0) := by rw [o_nc115, o_chs] at Vq556; exact Vq556
  have N7A := Fr.snoc X7A N7y g_a
  show oF p e below (T7A.setTop (mkF m 151 #[.val (.ref a), .val (.int i), .val (.int f_)] [])) _
  refine oG (fun _ k => XS.aloadN X7A.here hx rfl (B d2_151) rfl rfl (XS.iloadN X7A.here hx rfl (B d2_152) rfl (XS.bipush X7A.here hx rfl (B d2_153) (XS.iadd X7A.here hx rfl (B d2_155) rfl (XS.bipush X7A.here hx rfl (B d2_156) k))))) ?_
  show oF p e below (T7A.setTop (mkF m 158 #[.val (.ref a), .val (.int i), .val (.int f_)] [(.int 101), (.int (i + (14 : Int32))), (.ref a)])) _
  obtain ⟨T7C, h7C, X7C, e7C, W7C, Vq558, st7C⟩ := o_sC X7A hx hZ e7A V_a (j := (i + (14 : Int32))) (o_hj hi 14 (K := 14) (by decide) (by decide) rfl (by omega)) (o_hl (K := 14) rfl (by omega)) (g := (mkF m 158 #[.val (.ref a), .val (.int i), .val (.int f_)] [(.int 101), (.int (i + (14 : Int32))), (.ref a)])) rfl rfl (B d2_158)
  refine oG st7C ?_
  have O := O.wr W7C g_a
  have K7D := K7B.wr W7C (Or.inl (List.mem_of_getElem? (i := 0) rfl))
  have V_a : Arv Z h7C a ka .char M (vs ++ o_ch [(44 : Int32), (32 : Int32), (103 : Int32), (114 : Int32), (97 : Int32), (110 : Int32), (116 : Int32), (101 : Int32), (100 : Int32), (61 : Int32), (102 : Int32), (97 : Int32), (108 : Int32), (115 : Int32), (101 : Int32)]) (.int 0) := by rw [o_nc101, o_chs] at Vq558; exact Vq558
  have N7C := Fr.snoc X7C N7A g_a
  show oF p e below (T7C.setTop (mkF m 159 #[.val (.ref a), .val (.int i), .val (.int f_)] [])) _
  refine oG (fun _ k => XS.aloadN X7C.here hx rfl (B d2_159) rfl rfl (XS.iloadN X7C.here hx rfl (B d2_160) rfl (XS.bipush X7C.here hx rfl (B d2_161) (XS.iadd X7C.here hx rfl (B d2_163) rfl (XS.bipush X7C.here hx rfl (B d2_164) k))))) ?_
  show oF p e below (T7C.setTop (mkF m 166 #[.val (.ref a), .val (.int i), .val (.int f_)] [(.int 93), (.int (i + (15 : Int32))), (.ref a)])) _
  obtain ⟨T7E, h7E, X7E, e7E, W7E, Vq560, st7E⟩ := o_sC X7C hx hZ e7C V_a (j := (i + (15 : Int32))) (o_hj hi 15 (K := 15) (by decide) (by decide) rfl (by omega)) (o_hl (K := 15) rfl (by rw [o_tl0 hc73_549] at hM; have q_ : o_TL0.length = 16 := rfl; omega)) (g := (mkF m 166 #[.val (.ref a), .val (.int i), .val (.int f_)] [(.int 93), (.int (i + (15 : Int32))), (.ref a)])) rfl rfl (B d2_166)
  refine oG st7E ?_
  have O := O.wr W7E g_a
  have K7F := K7D.wr W7E (Or.inl (List.mem_of_getElem? (i := 0) rfl))
  have V_a : Arv Z h7E a ka .char M (vs ++ o_ch [(44 : Int32), (32 : Int32), (103 : Int32), (114 : Int32), (97 : Int32), (110 : Int32), (116 : Int32), (101 : Int32), (100 : Int32), (61 : Int32), (102 : Int32), (97 : Int32), (108 : Int32), (115 : Int32), (101 : Int32), (93 : Int32)]) (.int 0) := by rw [o_nc93, o_chs] at Vq560; exact Vq560
  have N7E := Fr.snoc X7E N7C g_a
  show oF p e below (T7E.setTop (mkF m 167 #[.val (.ref a), .val (.int i), .val (.int f_)] [])) _
  obtain ⟨fs, hr, r1, r2, hW, r3⟩ := X7E.leave (v := none) (fun _ => rfl)
  refine ⟨_, _, ?_, r1, r2, _, _, rfl, ?_, ⟨_, rfl⟩, hW, r3.mono (by decide) (by decide)⟩
  ·exact X7E.returnOut hx Bd.returns (B d2_167) hr
  ·show Qtl Z a f_ ka M vs h0 n0 _ T7E.heap _
   rw [e7E]
   exact ⟨rfl, N7E, K7F, (by rw [o_tl0 hc73_549]; exact V_a)⟩
 ·refine oG (fun _ k => XS.ifNo X7s.here hx rfl (B d2_73) rfl ((if0 _ _).trans (feq hc73_549).1) (XS.aloadN X7s.here hx rfl (B d2_76) rfl rfl (XS.iloadN X7s.here hx rfl (B d2_77) rfl (XS.bipush X7s.here hx rfl (B d2_78) (XS.iadd X7s.here hx rfl (B d2_80) rfl (XS.bipush X7s.here hx rfl (B d2_81) k)))))) ?_
  show oF p e below (T7s.setTop (mkF m 83 #[.val (.ref a), .val (.int i), .val (.int f_)] [(.int 116), (.int (i + (10 : Int32))), (.ref a)])) _
  obtain ⟨T7G, h7G, X7G, e7G, W7G, Vq563, st7G⟩ := o_sC X7s hx hZ e7s V_a (j := (i + (10 : Int32))) (o_hj hi 10 (K := 10) (by decide) (by decide) rfl (by omega)) (o_hl (K := 10) rfl (by omega)) (g := (mkF m 83 #[.val (.ref a), .val (.int i), .val (.int f_)] [(.int 116), (.int (i + (10 : Int32))), (.ref a)])) rfl rfl (B d2_83)
  refine oG st7G ?_
  have O := O.wr W7G g_a
  have K7H := K7t.wr W7G (Or.inl (List.mem_of_getElem? (i := 0) rfl))
  have V_a : Arv Z h7G a ka .char M (vs ++ o_ch [(44 : Int32), (32 : Int32), (103 : Int32), (114 : Int32), (97 : Int32), (110 : Int32), (116 : Int32), (101 : Int32), (100 : Int32), (61 : Int32), (116 : Int32)]) (.int 0) := by rw [o_nc116, o_chs] at Vq563; exact Vq563
  have N7G := Fr.snoc X7G N7s g_a
  show oF p e below (T7G.setTop (mkF m 84 #[.val (.ref a), .val (.int i), .val (.int f_)] [])) _
  refine oG (fun _ k => XS.aloadN X7G.here hx rfl (B d2_84) rfl rfl (XS.iloadN X7G.here hx rfl (B d2_85) rfl (XS.bipush X7G.here hx rfl (B d2_86) (XS.iadd X7G.here hx rfl (B d2_88) rfl (XS.bipush X7G.here hx rfl (B d2_89) k))))) ?_
  show oF p e below (T7G.setTop (mkF m 91 #[.val (.ref a), .val (.int i), .val (.int f_)] [(.int 114), (.int (i + (11 : Int32))), (.ref a)])) _
  obtain ⟨T7I, h7I, X7I, e7I, W7I, Vq565, st7I⟩ := o_sC X7G hx hZ e7G V_a (j := (i + (11 : Int32))) (o_hj hi 11 (K := 11) (by decide) (by decide) rfl (by omega)) (o_hl (K := 11) rfl (by omega)) (g := (mkF m 91 #[.val (.ref a), .val (.int i), .val (.int f_)] [(.int 114), (.int (i + (11 : Int32))), (.ref a)])) rfl rfl (B d2_91)
  refine oG st7I ?_
  have O := O.wr W7I g_a
  have K7J := K7H.wr W7I (Or.inl (List.mem_of_getElem? (i := 0) rfl))
  have V_a : Arv Z h7I a ka .char M (vs ++ o_ch [(44 : Int32), (32 : Int32), (103 : Int32), (114 : Int32), (97 : Int32), (110 : Int32), (116 : Int32), (101 : Int32), (100 : Int32), (61 : Int32), (116 : Int32), (114 : Int32)]) (.int 0) := by rw [o_nc114, o_chs] at Vq565; exact Vq565
  have N7I := Fr.snoc X7I N7G g_a
  show oF p e below (T7I.setTop (mkF m 92 #[.val (.ref a), .val (.int i), .val (.int f_)] [])) _
  refine oG (fun _ k => XS.aloadN X7I.here hx rfl (B d2_92) rfl rfl (XS.iloadN X7I.here hx rfl (B d2_93) rfl (XS.bipush X7I.here hx rfl (B d2_94) (XS.iadd X7I.here hx rfl (B d2_96) rfl (XS.bipush X7I.here hx rfl (B d2_97) k))))) ?_
  show oF p e below (T7I.setTop (mkF m 99 #[.val (.ref a), .val (.int i), .val (.int f_)] [(.int 117), (.int (i + (12 : Int32))), (.ref a)])) _
  obtain ⟨T7K, h7K, X7K, e7K, W7K, Vq567, st7K⟩ := o_sC X7I hx hZ e7I V_a (j := (i + (12 : Int32))) (o_hj hi 12 (K := 12) (by decide) (by decide) rfl (by omega)) (o_hl (K := 12) rfl (by omega)) (g := (mkF m 99 #[.val (.ref a), .val (.int i), .val (.int f_)] [(.int 117), (.int (i + (12 : Int32))), (.ref a)])) rfl rfl (B d2_99)
  refine oG st7K ?_
  have O := O.wr W7K g_a
  have K7L := K7J.wr W7K (Or.inl (List.mem_of_getElem? (i := 0) rfl))
  have V_a : Arv Z h7K a ka .char M (vs ++ o_ch [(44 : Int32), (32 : Int32), (103 : Int32), (114 : Int32), (97 : Int32), (110 : Int32), (116 : Int32), (101 : Int32), (100 : Int32), (61 : Int32), (116 : Int32), (114 : Int32), (117 : Int32)]) (.int 0) := by rw [o_nc117, o_chs] at Vq567; exact Vq567
  have N7K := Fr.snoc X7K N7I g_a
  show oF p e below (T7K.setTop (mkF m 100 #[.val (.ref a), .val (.int i), .val (.int f_)] [])) _
  refine oG (fun _ k => XS.aloadN X7K.here hx rfl (B d2_100) rfl rfl (XS.iloadN X7K.here hx rfl (B d2_101) rfl (XS.bipush X7K.here hx rfl (B d2_102) (XS.iadd X7K.here hx rfl (B d2_104) rfl (XS.bipush X7K.here hx rfl (B d2_105) k))))) ?_
  show oF p e below (T7K.setTop (mkF m 107 #[.val (.ref a), .val (.int i), .val (.int f_)] [(.int 101), (.int (i + (13 : Int32))), (.ref a)])) _
  obtain ⟨T7M, h7M, X7M, e7M, W7M, Vq569, st7M⟩ := o_sC X7K hx hZ e7K V_a (j := (i + (13 : Int32))) (o_hj hi 13 (K := 13) (by decide) (by decide) rfl (by omega)) (o_hl (K := 13) rfl (by omega)) (g := (mkF m 107 #[.val (.ref a), .val (.int i), .val (.int f_)] [(.int 101), (.int (i + (13 : Int32))), (.ref a)])) rfl rfl (B d2_107)
  refine oG st7M ?_
  have O := O.wr W7M g_a
  have K7N := K7L.wr W7M (Or.inl (List.mem_of_getElem? (i := 0) rfl))
  have V_a : Arv Z h7M a ka .char M (vs ++ o_ch [(44 : Int32), (32 : Int32), (103 : Int32), (114 : Int32), (97 : Int32), (110 : Int32), (116 : Int32), (101 : Int32), (100 : Int32), (61 : Int32), (116 : Int32), (114 : Int32), (117 : Int32), (101 : Int32)]) (.int 0) := by rw [o_nc101, o_chs] at Vq569; exact Vq569
  have N7M := Fr.snoc X7M N7K g_a
  show oF p e below (T7M.setTop (mkF m 108 #[.val (.ref a), .val (.int i), .val (.int f_)] [])) _
  refine oG (fun _ k => XS.aloadN X7M.here hx rfl (B d2_108) rfl rfl (XS.iloadN X7M.here hx rfl (B d2_109) rfl (XS.bipush X7M.here hx rfl (B d2_110) (XS.iadd X7M.here hx rfl (B d2_112) rfl (XS.bipush X7M.here hx rfl (B d2_113) k))))) ?_
  show oF p e below (T7M.setTop (mkF m 115 #[.val (.ref a), .val (.int i), .val (.int f_)] [(.int 93), (.int (i + (14 : Int32))), (.ref a)])) _
  obtain ⟨T7O, h7O, X7O, e7O, W7O, Vq571, st7O⟩ := o_sC X7M hx hZ e7M V_a (j := (i + (14 : Int32))) (o_hj hi 14 (K := 14) (by decide) (by decide) rfl (by omega)) (o_hl (K := 14) rfl (by omega)) (g := (mkF m 115 #[.val (.ref a), .val (.int i), .val (.int f_)] [(.int 93), (.int (i + (14 : Int32))), (.ref a)])) rfl rfl (B d2_115)
  refine oG st7O ?_
  have O := O.wr W7O g_a
  have K7P := K7N.wr W7O (Or.inl (List.mem_of_getElem? (i := 0) rfl))
  have V_a : Arv Z h7O a ka .char M (vs ++ o_ch [(44 : Int32), (32 : Int32), (103 : Int32), (114 : Int32), (97 : Int32), (110 : Int32), (116 : Int32), (101 : Int32), (100 : Int32), (61 : Int32), (116 : Int32), (114 : Int32), (117 : Int32), (101 : Int32), (93 : Int32)]) (.int 0) := by rw [o_nc93, o_chs] at Vq571; exact Vq571
  have N7O := Fr.snoc X7O N7M g_a
  show oF p e below (T7O.setTop (mkF m 116 #[.val (.ref a), .val (.int i), .val (.int f_)] [])) _
  refine oG (fun _ k => XS.goto X7O.here hx rfl (pc0 := 116) (pc' := 167) rfl (B d2_116) (by decide) (by decide) k) ?_
  show oF p e below (T7O.setTop (mkF m 167 #[.val (.ref a), .val (.int i), .val (.int f_)] [])) _
  obtain ⟨fs, hr, r1, r2, hW, r3⟩ := X7O.leave (v := none) (fun _ => rfl)
  refine ⟨_, _, ?_, r1, r2, _, _, rfl, ?_, ⟨_, rfl⟩, hW, r3.mono (by decide) (by decide)⟩
  ·exact X7O.returnOut hx Bd.returns (B d2_167) hr
  ·show Qtl Z a f_ ka M vs h0 n0 _ T7O.heap _
   rw [e7O]
   exact ⟨rfl, N7O, K7P, (by rw [o_tl1 hc73_549]; exact V_a)⟩
open Jvm.Free.SB Jvm.Free.SBG Bundle in
theorem o_safeN {Z : State} {EL : List (String × Nat)} {vm : Vm} {h : Heap} {x : Addr} (hal : Z.vm.Alike vm) (E : eX2 Z h x) (F : fL3 Z h x .null) : Safe Z EL vm h x := fun B => by
 obtain ⟨cell, k, e1, e2, e3, -, -⟩ := E
 have nm : ∀ {n : String} {c : ClassId}, vm.findClass n = some c → c = cell.cls → n = "java/lang/String" := fun {n c} f e => by
   subst e
   rw [hal.findClass] at f
   obtain ⟨k1, q1, q2⟩ := Vm.findClass_spec f
   obtain ⟨k2, q3, q4⟩ := Vm.findClass_spec e2
   cases q1.symm.trans q3
   exact q2.symm.trans q4
 obtain ⟨p, -, u, a, -, q, -, G, rfl | rfl⟩ := B
 · obtain ⟨cell', cf, kk, i, f, f1, f2, f3, f4, f5, f6, f7⟩ := F
   have hq : h[q.sa]? = some q.sC := G.ha
   obtain ⟨cS, ⟨⟨s1, s2, s3, ⟨cv, kv, iv, s4, s4'⟩, ⟨cc, kc, ic, s5, s5'⟩, s6, s7, s8, s9, -⟩, hfS, hcS⟩, -⟩ := G
   obtain ⟨kv', z4⟩ := ff_back (U := Wst Z vm h) hal s4
   cases f1.symm.trans hq
   have z := z4.symm.trans f2
   simp only [Option.some.injEq, Prod.mk.injEq] at z
   rw [← z.2.2.2, s8] at f7
   cases f7
 · cases (show h[q.sd]? = some q.SA from G.hd).symm.trans e1
   obtain ⟨cS, -, -, f, -⟩ := G
   exact absurd (nm f rfl) (by decide)
theorem o_wS {Z : State} {a0 : Array Value} (hw : ∀ d ∈ tables_1, d.before a0 Z = true) : ∀ d ∈ Bundle.stringAtoms, d.before a0 Z = true := fun d hd => hw d ((by decide +kernel : ∀ d ∈ Bundle.stringAtoms, d ∈ tables_1) d hd)
abbrev o_EL : List (String × Nat) := [("com/example/holdfast/holdfast/LockEventListener$Renewal", 20), ("com/example/holdfast/holdfast/LockEventListener$Renewal", 26), ("com/example/holdfast/holdfast/LockEventListener$Renewal", 31), ("java/lang/String", 7)]
theorem o_lit_0 : (∀ c ∈ ("Renewal[lockName=" : String).toList, c.toNat < 256) ∧ ("Renewal[lockName=" : String).toList.map (fun c => Value.int (Jvm.Lit.byteI c.toNat.toUInt16)) = [.int 82, .int 101, .int 110, .int 101, .int 119, .int 97, .int 108, .int 91, .int 108, .int 111, .int 99, .int 107, .int 78, .int 97, .int 109, .int 101, .int 61] := ⟨by decide, rfl⟩
theorem o_lit_1 : (∀ c ∈ (", granted=" : String).toList, c.toNat < 256) ∧ (", granted=" : String).toList.map (fun c => Value.int (Jvm.Lit.byteI c.toNat.toUInt16)) = [.int 44, .int 32, .int 103, .int 114, .int 97, .int 110, .int 116, .int 101, .int 100, .int 61] := ⟨by decide, rfl⟩
theorem o_lit_2 : (∀ c ∈ ("]" : String).toList, c.toNat < 256) ∧ ("]" : String).toList.map (fun c => Value.int (Jvm.Lit.byteI c.toNat.toUInt16)) = [.int 93] := ⟨by decide, rfl⟩
theorem o_lit_3 : (∀ c ∈ ("" : String).toList, c.toNat < 256) ∧ ("" : String).toList.map (fun c => Value.int (Jvm.Lit.byteI c.toNat.toUInt16)) = [] := ⟨by decide, rfl⟩
theorem o_EW {Z : State} {a0 : Array Value} (hw : ∀ d ∈ tables_1, d.before a0 Z = true) : EW Z a0 o_EL := (EW.cons (ow hw 65) o_lit_0.1 (EW.cons (ow hw 137) o_lit_1.1 (EW.cons (ow hw 152) o_lit_2.1 (EW.cons (ow hw 26) o_lit_3.1 EW.nil))))
theorem o_ST.lt {Z : State} {h : Heap} {b t : Addr} {kt : ClassId} {cs : List Int32} (F : o_ST Z h b t kt cs) : t < h.size := o_ST_lt F
theorem o_b32 : o_by 32 = 32 := by decide
theorem o_b44 : o_by 44 = 44 := by decide
theorem o_b61 : o_by 61 = 61 := by decide
theorem o_b78 : o_by 78 = 78 := by decide
theorem o_b82 : o_by 82 = 82 := by decide
theorem o_b91 : o_by 91 = 91 := by decide
theorem o_b93 : o_by 93 = 93 := by decide
theorem o_b99 : o_by 99 = 99 := by decide
theorem o_b100 : o_by 100 = 100 := by decide
theorem o_b103 : o_by 103 = 103 := by decide
theorem o_b107 : o_by 107 = 107 := by decide
theorem o_b109 : o_by 109 = 109 := by decide
theorem o_b110 : o_by 110 = 110 := by decide
theorem o_b111 : o_by 111 = 111 := by decide
theorem o_b119 : o_by 119 = 119 := by decide
def o_L1 : List Int32 := [(82 : Int32), (101 : Int32), (110 : Int32), (101 : Int32), (119 : Int32), (97 : Int32), (108 : Int32), (91 : Int32), (108 : Int32), (111 : Int32), (99 : Int32), (107 : Int32), (78 : Int32), (97 : Int32), (109 : Int32), (101 : Int32), (61 : Int32)]
theorem o_L1e : o_u8 o_L1 = [.int 82, .int 101, .int 110, .int 101, .int 119, .int 97, .int 108, .int 91, .int 108, .int 111, .int 99, .int 107, .int 78, .int 97, .int 109, .int 101, .int 61] := by
 show ([.int (o_by 82), .int (o_by 101), .int (o_by 110), .int (o_by 101), .int (o_by 119), .int (o_by 97), .int (o_by 108), .int (o_by 91), .int (o_by 108), .int (o_by 111), .int (o_by 99), .int (o_by 107), .int (o_by 78), .int (o_by 97), .int (o_by 109), .int (o_by 101), .int (o_by 61)] : List Value) = _
 rw [o_b82, o_b101, o_b110, o_b119, o_b97, o_b108, o_b91, o_b111, o_b99, o_b107, o_b78, o_b109, o_b61]
theorem o_L1r : o_rng o_L1 := by unfold o_rng o_L1; decide
theorem o_L1l : o_lat o_L1 := by unfold o_lat o_L1; decide
def o_L2 : List Int32 := [(44 : Int32), (32 : Int32), (103 : Int32), (114 : Int32), (97 : Int32), (110 : Int32), (116 : Int32), (101 : Int32), (100 : Int32), (61 : Int32)]
theorem o_L2e : o_u8 o_L2 = [.int 44, .int 32, .int 103, .int 114, .int 97, .int 110, .int 116, .int 101, .int 100, .int 61] := by
 show ([.int (o_by 44), .int (o_by 32), .int (o_by 103), .int (o_by 114), .int (o_by 97), .int (o_by 110), .int (o_by 116), .int (o_by 101), .int (o_by 100), .int (o_by 61)] : List Value) = _
 rw [o_b44, o_b32, o_b103, o_b114, o_b97, o_b110, o_b116, o_b101, o_b100, o_b61]
theorem o_L2r : o_rng o_L2 := by unfold o_rng o_L2; decide
theorem o_L2l : o_lat o_L2 := by unfold o_lat o_L2; decide
def o_L3 : List Int32 := [(93 : Int32)]
theorem o_L3e : o_u8 o_L3 = [.int 93] := by
 show ([.int (o_by 93)] : List Value) = _
 rw [o_b93]
theorem o_L3r : o_rng o_L3 := by unfold o_rng o_L3; decide
theorem o_L3l : o_lat o_L3 := by unfold o_lat o_L3; decide
theorem d9_0 : decode k51_ 0 = .ok (.aload_n 0, 1) := by decide +kernel
theorem d9_1 : decode k51_ 1 = .ok (.invokespecial 3, 3) := by decide +kernel
theorem d9_4 : decode k51_ 4 = .ok (.getstatic 18, 3) := by decide +kernel
theorem d9_7 : decode k51_ 7 = .ok (.ifCond .eq 18, 3) := by decide +kernel
theorem d9_10 : decode k51_ 10 = .ok (.aload_n 0, 1) := by decide +kernel
theorem d9_11 : decode k51_ 11 = .ok (.iload_n 1, 1) := by decide +kernel
theorem d9_12 : decode k51_ 12 = .ok (.newarray .byte, 2) := by decide +kernel
theorem d9_14 : decode k51_ 14 = .ok (.putfield 15, 3) := by decide +kernel
theorem d9_17 : decode k51_ 17 = .ok (.aload_n 0, 1) := by decide +kernel
theorem d9_18 : decode k51_ 18 = .ok (.iconst 0, 1) := by decide +kernel
theorem d9_19 : decode k51_ 19 = .ok (.putfield 22, 3) := by decide +kernel
theorem d9_22 : decode k51_ 22 = .ok (.goto 16, 3) := by decide +kernel
theorem d9_38 : decode k51_ 38 = .ok (.return_, 1) := by decide +kernel
def Qai (Z : State) (b : Addr) (h0 : Heap) (n0 : Nat) (v : Option Value) (h : Heap) (L : List Loc) : Prop := ∃ (t_ : Addr) (k_ : ClassId), v = none ∧ Fr n0 L ∧ Keep h0 h [b] ∧ h0.size ≤ t_ ∧ eX1 Z h b ∧ fL5 Z h b (.int 0) ∧ eX0 Z h t_ ∧ o_SB Z h b t_ k_ (16 : Int32) ([] : List Int32)
theorem ai (l : Launch) (Z : State) (a0 : Array Value) (hw : ∀ d ∈ tables_1, d.before a0 Z = true) (ws : List Jvm.Cond) (b : Addr) (z : Int32) (h0 : Heap) (n0 : Nat) (O : Old Z n0 h0) (j6_ : sT4 Z (.int z)) (hz : ¬ (z = (0 : Int32))) (E_b : eX1 Z h0 b) (j2_ : fL0 Z h0 b .null) (j1_ : fL2 Z h0 b (.int 0)) (j0_ : fL5 Z h0 b (.int 0)) (j4_ : fL1 Z h0 b (.int 0)) (g_b : n0 ≤ b) :
   o_MF l Z mN51 jdk_68_method_2_code 2 none ws rM31 #[(.ref b), (.int 16)] h0 (Qai Z b h0 n0) := by
 refine MetFree.of_bodySF (plainFor_of_name pn_4) hisR ?_
 intro p e s m args below meth c s₁ Bd hml0 hP hK
 obtain ⟨rfl, hZ, hh⟩ := hP
 have hx := Bd.exec
 have hby := Bd.bytes
 have B := @hb _ _ hby
 have hml : c.maxLocals = 2 := hml0
 have hown : s.vm.findClass "java/lang/AbstractStringBuilder" = some m.cls := findClass_of_methodNamed Bd.named
 have X0 : Stand p l e rM31 s m #[(.ref b), (.int 16)] below meth c s₁ [] 0 0 := Stand.of_body Bd
 have e0 : s₁.heap = h0 := by rw [← hh, Bd.state]; rfl
 have N0 := Fr.nil n0
 have K0 := Keep.refl h0 [b]
 refine o_start (ef_saz m b (16 : Int32)) (Q := o_QE s rM31 (Qai Z b h0 n0)) ?_
 show oF p e below (s₁.setTop (mkF m 0 #[.val (.ref b), .val (.int 16)] [])) _
 refine oG (fun _ k => XS.aloadN X0.here hx rfl (B d9_0) rfl rfl k) ?_
 show oF p e below (s₁.setTop (mkF m 1 #[.val (.ref b), .val (.int 16)] [(.ref b)])) _
 obtain ⟨T7Q, X7Q, e7Q, st7Q⟩ := initO X0 hx hZ hown (ow hw 59) (ow hw 24) (ow hw 25) e0 (g := (mkF m 1 #[.val (.ref b), .val (.int 16)] [(.ref b)])) rfl (by rw [hml]; rfl) rfl (B d9_1) (by decide) (W := 0) (by show 2 * 0 + _ ≤ _; exact Nat.le_of_eq rfl) (by decide)
 refine oG st7Q ?_
 obtain ⟨T7R, X7R, e7R, st7R⟩ := getS2 X7Q hx hZ hown (host := "") (Or.inl (ow hw 60)) Via.refl e7Q (j6_.ext O.2) (g := (mkF m 4 #[.val (.ref b), .val (.int 16)] [])) rfl (B d9_4)
 refine oG st7R ?_
 show oF p e below (T7R.setTop (mkF m 7 #[.val (.ref b), .val (.int 16)] [(.int z)])) _
 refine oG (fun _ k => XS.ifNo X7R.here hx rfl (B d9_7) rfl ((if0 _ _).trans (feq hz).1) (XS.aloadN X7R.here hx rfl (B d9_10) rfl rfl (XS.iloadN X7R.here hx rfl (B d9_11) rfl k))) ?_
 show oF p e below (T7R.setTop (mkF m 12 #[.val (.ref b), .val (.int 16)] [(.int 16), (.ref b)])) _
 obtain ⟨T7S, h7S, k7S, X7S, e7S, E7S, A7S, B7S, st7S⟩ := newPE X7R hx hZ (ow hw 27) e7R (g := (mkF m 12 #[.val (.ref b), .val (.int 16)] [(.int 16), (.ref b)])) rfl (B d9_12) rfl (by decide) (cap := 16) (by decide) (by decide) (by decide) (by decide) (ad := "[B") (by decide)
 obtain ⟨b7S, g7S⟩ : ∃ z, z = h0.size := ⟨_, rfl⟩
 rw [← g7S] at A7S st7S B7S
 refine oG st7S ?_
 have j173_ : b ≠ b7S := Nat.ne_of_lt (Nat.lt_of_lt_of_le E_b.lt (Nat.le_of_eq g7S.symm))
 have g_b576 : n0 ≤ b7S := Nat.le_trans (o_osz O) (Nat.le_of_eq g7S.symm)
 have sz_b576 : h0.size ≤ b7S := Nat.le_trans K0.1 (Nat.le_of_eq g7S.symm)
 have E_b := E_b.ext E7S
 have j2_ := j2_.ext E7S
 have j1_ := j1_.ext E7S
 have j0_ := j0_.ext E7S
 have j4_ := j4_.ext E7S
 have O := O.ext E7S
 have K7T := K0.ext E7S
 have j88_ := B7S
 have j89_ : Arv Z h7S b7S k7S .byte (16 : Int32) [] (.int 0) := Arv.new A7S (by decide)
 obtain ⟨T7U, h7U, X7U, e7U, W7U, st7U⟩ := putF X7S hx hZ hown (host := "") (Or.inl (ow hw 61)) Via.refl e7S j2_ E_b (Or.inl (ow hw 62)) (ow hw 48) (ty := (.array .byte)) (by decide) rfl rfl (g := (mkF m 14 #[.val (.ref b), .val (.int 16)] [(.ref b7S), (.ref b)])) rfl rfl (B d9_14)
 refine oG st7U ?_
 have E_b := E_b.wr W7U
 have j1_ := j1_.other W7U (Or.inr (slot_ne (Or.inl (ow hw 64)) (Or.inl (ow hw 62)) (by decide) (t := .byte) (t' := (.array .byte)) (by decide) (by decide)))
 have j0_ := j0_.other W7U (Or.inr (slot_ne (Or.inl (ow hw 88)) (Or.inl (ow hw 62)) (by decide) (t := .int) (t' := (.array .byte)) (by decide) (by decide)))
 have j4_ := j4_.other W7U (Or.inr (slot_ne (Or.inl (ow hw 267)) (Or.inl (ow hw 62)) (by decide) (t := .boolean) (t' := (.array .byte)) (by decide) (by decide)))
 have j88_ := j88_.wr W7U
 have j89_ := j89_.other W7U (Ne.symm j173_)
 have O := O.wr W7U g_b
 have K7V := K7T.wr W7U (Or.inl (List.mem_of_getElem? (i := 0) rfl))
 have j2_ := j2_.same W7U
 have N7U := Fr.snoc X7U N0 g_b
 show oF p e below (T7U.setTop (mkF m 17 #[.val (.ref b), .val (.int 16)] [])) _
 refine oG (fun _ k => XS.aloadN X7U.here hx rfl (B d9_17) rfl rfl (XS.iconst X7U.here hx rfl (B d9_18) k)) ?_
 show oF p e below (T7U.setTop (mkF m 19 #[.val (.ref b), .val (.int 16)] [(.int 0), (.ref b)])) _
 obtain ⟨T7W, h7W, X7W, e7W, W7W, st7W⟩ := putF X7U hx hZ hown (host := "") (Or.inl (ow hw 63)) Via.refl e7U j1_ E_b (Or.inl (ow hw 64)) (ow hw 48) (ty := .byte) (by decide) rfl rfl (g := (mkF m 19 #[.val (.ref b), .val (.int 16)] [(.int 0), (.ref b)])) rfl rfl (B d9_19)
 refine oG st7W ?_
 have E_b := E_b.wr W7W
 have j2_ := j2_.other W7W (Or.inr (slot_ne (Or.inl (ow hw 62)) (Or.inl (ow hw 64)) (by decide) (t := (.array .byte)) (t' := .byte) (by decide) (by decide)))
 have j0_ := j0_.other W7W (Or.inr (slot_ne (Or.inl (ow hw 88)) (Or.inl (ow hw 64)) (by decide) (t := .int) (t' := .byte) (by decide) (by decide)))
 have j4_ := j4_.other W7W (Or.inr (slot_ne (Or.inl (ow hw 267)) (Or.inl (ow hw 64)) (by decide) (t := .boolean) (t' := .byte) (by decide) (by decide)))
 have j88_ := j88_.wr W7W
 have j89_ := j89_.other W7W (Ne.symm j173_)
 have O := O.wr W7W g_b
 have K7X := K7V.wr W7W (Or.inl (List.mem_of_getElem? (i := 0) rfl))
 have j1_ := j1_.same W7W
 have N7W := Fr.snoc X7W N7U g_b
 show oF p e below (T7W.setTop (mkF m 22 #[.val (.ref b), .val (.int 16)] [])) _
 refine oG (fun _ k => XS.goto X7W.here hx rfl (pc0 := 22) (pc' := 38) rfl (B d9_22) (by decide) (by decide) k) ?_
 show oF p e below (T7W.setTop (mkF m 38 #[.val (.ref b), .val (.int 16)] [])) _
 obtain ⟨fs, hr, r1, r2, hW, r3⟩ := X7W.leave (v := none) (fun _ => rfl)
 refine ⟨_, _, ?_, r1, r2, _, _, rfl, ?_, ⟨_, rfl⟩, hW, r3.mono (by decide) (by decide)⟩
 ·exact X7W.returnOut hx Bd.returns (B d9_38) hr
 ·show Qai Z b h0 n0 _ T7W.heap _
  rw [e7W]
  exact ⟨b7S, k7S, rfl, N7W, K7X, sz_b576, E_b, j0_, j88_, ⟨j2_, j4_, (fun _ hz => by cases hz), Or.inl ⟨j1_, j89_, (fun _ hz => by cases hz)⟩⟩⟩
theorem d8_0 : decode k52_ 0 = .ok (.aload_n 0, 1) := by decide +kernel
theorem d8_1 : decode k52_ 1 = .ok (.bipush 16, 2) := by decide +kernel
theorem d8_3 : decode k52_ 3 = .ok (.invokespecial 1, 3) := by decide +kernel
theorem d8_6 : decode k52_ 6 = .ok (.return_, 1) := by decide +kernel
def Qsi (Z : State) (b : Addr) (h0 : Heap) (n0 : Nat) (v : Option Value) (h : Heap) (L : List Loc) : Prop := ∃ (t_ : Addr) (k_ : ClassId), v = none ∧ Fr n0 L ∧ Keep h0 h [b] ∧ h0.size ≤ t_ ∧ eX1 Z h b ∧ fL5 Z h b (.int 0) ∧ eX0 Z h t_ ∧ o_SB Z h b t_ k_ (16 : Int32) ([] : List Int32)
theorem si (l : Launch) (Z : State) (a0 : Array Value) (hw : ∀ d ∈ tables_1, d.before a0 Z = true) (ws : List Jvm.Cond) (b : Addr) (z : Int32) (h0 : Heap) (n0 : Nat) (O : Old Z n0 h0) (j6_ : sT4 Z (.int z)) (hz : ¬ (z = (0 : Int32))) (E_b : eX1 Z h0 b) (j2_ : fL0 Z h0 b .null) (j1_ : fL2 Z h0 b (.int 0)) (j0_ : fL5 Z h0 b (.int 0)) (j4_ : fL1 Z h0 b (.int 0)) (g_b : n0 ≤ b) :
   o_MF l Z mN52 jdk_67_method_1_code 1 none ws rM32 #[(.ref b)] h0 (Qsi Z b h0 n0) := by
 refine MetFree.of_bodySF (plainFor_of_name pn_7) hisR ?_
 intro p e s m args below meth c s₁ Bd hml0 hP hK
 obtain ⟨rfl, hZ, hh⟩ := hP
 have hx := Bd.exec
 have hby := Bd.bytes
 have B := @hb _ _ hby
 have hml : c.maxLocals = 1 := hml0
 have hown : s.vm.findClass "java/lang/StringBuilder" = some m.cls := findClass_of_methodNamed Bd.named
 have X0 : Stand p l e rM32 s m #[(.ref b)] below meth c s₁ [] 0 0 := Stand.of_body Bd
 have e0 : s₁.heap = h0 := by rw [← hh, Bd.state]; rfl
 have N0 := Fr.nil n0
 have K0 := Keep.refl h0 [b]
 refine o_start (ef_ul m b) (Q := o_QE s rM32 (Qsi Z b h0 n0)) ?_
 show oF p e below (s₁.setTop (mkF m 0 #[.val (.ref b)] [])) _
 refine oG (fun _ k => XS.aloadN X0.here hx rfl (B d8_0) rfl rfl (XS.bipush X0.here hx rfl (B d8_1) k)) ?_
 show oF p e below (s₁.setTop (mkF m 3 #[.val (.ref b)] [(.int 16), (.ref b)])) _
 obtain ⟨_, _, ⟨T7Y, L7Y, k7Y, n7Y⟩, -, X7Y, ⟨Lc7Y, hQ7Y, l7Y, y7Y, z7Y⟩, st7Y⟩ := X0.specialBack hx (y := mN51) rfl hown (mo hZ hw 53) (mo hZ hw 54) (mo hZ hw 58) (by decide) (backOf (W := 0) (ai l Z a0 hw [] b z h0 n0 O j6_ hz E_b j2_ j1_ j0_ j4_ g_b) hZ (ow hw 58) (ow hw 57) (by decide) (by decide)) (g := (mkF m 3 #[.val (.ref b)] [(.int 16), (.ref b)])) rfl (by rw [hml]; rfl) (Steps.refl _) (a := b) (argsL := [(.int 16)]) (rest := []) (lenOf pd_16 rfl) rfl (by show 2 * 0 + _ ≤ _; exact Nat.le_of_eq rfl) (B d8_3) (fun _ _ => ⟨rfl, e0, (by decide : 0 + 1 ≤ _), (by decide : 0 + 16 ≤ _)⟩)
 dsimp only [Pt.U, Pt.locs, Pt.cells, Pt.slots] at X7Y l7Y y7Y z7Y st7Y hQ7Y
 subst y7Y z7Y
 obtain ⟨t_7Z, k_8a, rfl, N7Yq, Kq7Y, P7Y_0, P7Y_1, P7Y_2, P7Y_3, P7Y_4⟩ := hQ7Y
 refine oG (fun _ k => st7Y.trans k) ?_
 have N7Y := oL l7Y (Fr.app N0 N7Yq)
 have ne_b_t_584 : b ≠ t_7Z := Nat.ne_of_lt (Nat.lt_of_lt_of_le E_b.lt P7Y_0)
 have g_t_584 : n0 ≤ t_7Z := Nat.le_trans (o_osz O) P7Y_0
 have sz_t_584 : h0.size ≤ t_7Z := Nat.le_trans K0.1 P7Y_0
 have E_b := E_b.keep Kq7Y
 clear j2_
 clear j1_
 clear j0_
 clear j4_
 have O := O.keep Kq7Y (allS g_b all0)
 have K8b := K0.trans Kq7Y (allS (Or.inl (List.mem_of_getElem? (i := 0) rfl)) all0)
 have E_b := P7Y_1
 have j0_ := P7Y_2
 have E_t_584 := P7Y_3
 have j12_ := P7Y_4
 show oF p e below (T7Y.setTop (mkF m 6 #[.val (.ref b)] [])) _
 obtain ⟨fs, hr, r1, r2, hW, r3⟩ := X7Y.leave (v := none) (fun _ => rfl)
 refine ⟨_, _, ?_, r1, r2, _, _, rfl, ?_, ⟨_, rfl⟩, hW, r3.mono (by decide) (by decide)⟩
 ·exact X7Y.returnOut hx Bd.returns (B d8_6) hr
 ·show Qsi Z b h0 n0 _ T7Y.heap _
  exact ⟨t_7Z, k_8a, rfl, N7Y, K8b, sz_t_584, E_b, j0_, E_t_584, j12_⟩
theorem d6_0 : decode k53_ 0 = .ok (.aload_n 0, 1) := by decide +kernel
theorem d6_1 : decode k53_ 1 = .ok (.invokespecial 1, 3) := by decide +kernel
theorem d6_4 : decode k53_ 4 = .ok (.aload_n 0, 1) := by decide +kernel
theorem d6_5 : decode k53_ 5 = .ok (.aload_n 1, 1) := by decide +kernel
theorem d6_6 : decode k53_ 6 = .ok (.putfield 7, 3) := by decide +kernel
theorem d6_9 : decode k53_ 9 = .ok (.aload_n 0, 1) := by decide +kernel
theorem d6_10 : decode k53_ 10 = .ok (.iload_n 2, 1) := by decide +kernel
theorem d6_11 : decode k53_ 11 = .ok (.putfield 13, 3) := by decide +kernel
theorem d6_14 : decode k53_ 14 = .ok (.return_, 1) := by decide +kernel
theorem pn_9 : plainName "com/example/holdfast/holdfast/LockEventListener$Renewal" = true := by first | (simp [plainName, overriddenIn]; done) | decide +kernel
theorem ef_rin (m : MethodId) (x0 : Addr) (x1 : Addr) (x2 : Int32) : entryFrame m #[(.ref x0), (.ref x1), (.int x2)] 3 = mkF m 0 #[.val (.ref x0), .val (.ref x1), .val (.int x2)] [] := by first | (simp [entryFrame, mkF, argsToLocals, Value.category]; done) | rfl
def Qrin (Z : State) (r_ : Addr) (s_ : Addr) (f_ : Int32) (h0 : Heap) (n0 : Nat) (v : Option Value) (h : Heap) (L : List Loc) : Prop := v = none ∧ Fr n0 L ∧ Keep h0 h [r_] ∧ eX3 Z h r_ ∧ fL6 Z h r_ (.ref s_) ∧ fL7 Z h r_ (.int (nar .boolean f_))
theorem rin (l : Launch) (Z : State) (a0 : Array Value) (hw : ∀ d ∈ tables_1, d.before a0 Z = true) (ws : List Jvm.Cond) (r_ : Addr) (s_ : Addr) (f_ : Int32) (h0 : Heap) (n0 : Nat) (O : Old Z n0 h0) (E_r_ : eX3 Z h0 r_) (j17_ : fL6 Z h0 r_ .null) (j18_ : fL7 Z h0 r_ (.int 0)) (g_r : n0 ≤ r_) (E_s_ : eX2 Z h0 s_) (nsr : s_ ≠ r_) :
   o_MF l Z mN53 prog_11_method_1_code 3 none ws rM7 #[(.ref r_), (.ref s_), (.int f_)] h0 (Qrin Z r_ s_ f_ h0 n0) := by
 refine MetFree.of_bodySF (plainFor_of_name pn_9) hisR ?_
 intro p e s m args below meth c s₁ Bd hml0 hP hK
 obtain ⟨rfl, hZ, hh⟩ := hP
 have hx := Bd.exec
 have hby := Bd.bytes
 have B := @hb _ _ hby
 have hml : c.maxLocals = 3 := hml0
 have hown : s.vm.findClass "com/example/holdfast/holdfast/LockEventListener$Renewal" = some m.cls := findClass_of_methodNamed Bd.named
 have hnm := (name_of_methodNamed Bd.named Bd.method).1
 have X0 : Stand p l e rM7 s m #[(.ref r_), (.ref s_), (.int f_)] below meth c s₁ [] 0 0 := Stand.of_body Bd
 have e0 : s₁.heap = h0 := by rw [← hh, Bd.state]; rfl
 have N0 := Fr.nil n0
 have K0 := Keep.refl h0 [r_]
 refine o_start (ef_rin m r_ s_ f_) (Q := o_QE s rM7 (Qrin Z r_ s_ f_ h0 n0)) ?_
 show oF p e below (s₁.setTop (mkF m 0 #[.val (.ref r_), .val (.ref s_), .val (.int f_)] [])) _
 refine oG (fun _ k => XS.aloadN X0.here hx rfl (B d6_0) rfl rfl k) ?_
 show oF p e below (s₁.setTop (mkF m 1 #[.val (.ref r_), .val (.ref s_), .val (.int f_)] [(.ref r_)])) _
 obtain ⟨T8c, X8c, e8c, st8c⟩ := initO X0 hx hZ hown (ow hw 37) (ow hw 24) (ow hw 25) e0 (g := (mkF m 1 #[.val (.ref r_), .val (.ref s_), .val (.int f_)] [(.ref r_)])) rfl (by rw [hml]; rfl) rfl (B d6_1) (by decide) (W := 0) (by show 2 * 0 + _ ≤ _; exact Nat.le_of_eq rfl) (by decide)
 refine oG st8c ?_
 show oF p e below (T8c.setTop (mkF m 4 #[.val (.ref r_), .val (.ref s_), .val (.int f_)] [])) _
 refine oG (fun _ k => XS.aloadN X8c.here hx rfl (B d6_4) rfl rfl (XS.aloadN X8c.here hx rfl (B d6_5) rfl rfl k)) ?_
 show oF p e below (T8c.setTop (mkF m 6 #[.val (.ref r_), .val (.ref s_), .val (.int f_)] [(.ref s_), (.ref r_)])) _
 obtain ⟨T8d, h8d, X8d, e8d, W8d, st8d⟩ := putF X8c hx hZ hown (host := "") (Or.inl (ow hw 38)) Via.refl e8c j17_ E_r_ (Or.inr ⟨(ow hw 39), rfl, hnm⟩) (ow hw 11) (ty := (.object "java/lang/String")) (by decide) rfl rfl (g := (mkF m 6 #[.val (.ref r_), .val (.ref s_), .val (.int f_)] [(.ref s_), (.ref r_)])) rfl rfl (B d6_6)
 refine oG st8d ?_
 have E_r_ := E_r_.wr W8d
 have j18_ := j18_.other W8d (Or.inr (slot_ne (Or.inr (ow hw 41)) (Or.inr (ow hw 39)) (by decide) (t := .boolean) (t' := (.object "java/lang/String")) (by decide) (by decide)))
 have E_s_ := E_s_.wr W8d
 have O := O.wr W8d g_r
 have K8e := K0.wr W8d (Or.inl (List.mem_of_getElem? (i := 0) rfl))
 have j17_ := j17_.same W8d
 have N8d := Fr.snoc X8d N0 g_r
 show oF p e below (T8d.setTop (mkF m 9 #[.val (.ref r_), .val (.ref s_), .val (.int f_)] [])) _
 refine oG (fun _ k => XS.aloadN X8d.here hx rfl (B d6_9) rfl rfl (XS.iloadN X8d.here hx rfl (B d6_10) rfl k)) ?_
 show oF p e below (T8d.setTop (mkF m 11 #[.val (.ref r_), .val (.ref s_), .val (.int f_)] [(.int f_), (.ref r_)])) _
 obtain ⟨T8f, h8f, X8f, e8f, W8f, st8f⟩ := putFN X8d hx hZ hown (ow hw 40) Via.refl e8d j18_ E_r_ (Or.inr ⟨(ow hw 41), rfl, hnm⟩) (ow hw 11) (ty := .boolean) (v' := (.int (nar .boolean f_))) (by decide) rfl (fits_nar_bool _) (g := (mkF m 11 #[.val (.ref r_), .val (.ref s_), .val (.int f_)] [(.int f_), (.ref r_)])) rfl rfl (B d6_11)
 refine oG st8f ?_
 have E_r_ := E_r_.wr W8f
 have j17_ := j17_.other W8f (Or.inr (slot_ne (Or.inr (ow hw 39)) (Or.inr (ow hw 41)) (by decide) (t := (.object "java/lang/String")) (t' := .boolean) (by decide) (by decide)))
 have E_s_ := E_s_.wr W8f
 have O := O.wr W8f g_r
 have K8g := K8e.wr W8f (Or.inl (List.mem_of_getElem? (i := 0) rfl))
 have j18_ := j18_.same W8f
 have N8f := Fr.snoc X8f N8d g_r
 show oF p e below (T8f.setTop (mkF m 14 #[.val (.ref r_), .val (.ref s_), .val (.int f_)] [])) _
 obtain ⟨fs, hr, r1, r2, hW, r3⟩ := X8f.leave (v := none) (fun _ => rfl)
 refine ⟨_, _, ?_, r1, r2, _, _, rfl, ?_, ⟨_, rfl⟩, hW, r3.mono (by decide) (by decide)⟩
 ·exact X8f.returnOut hx Bd.returns (B d6_14) hr
 ·show Qrin Z r_ s_ f_ h0 n0 _ T8f.heap _
  rw [e8f]
  exact ⟨rfl, N8f, K8g, E_r_, j17_, j18_⟩
theorem o_cap1 : o_cap 16 34 ((0 : Int32) + (Int32.ofNat o_L1.length)) := Or.inr (Or.inl ⟨rfl, rfl, by decide⟩)
theorem o_capn {N cn : Int32} {cs ds : List Int32} (hcn : cn.toInt = (cs.length : Int)) (h : ((cs ++ ds).length : Int) ≤ N.toInt) (hN : N.toInt ≤ 100) : o_cap N N (cn + (Int32.ofNat ds.length)) := by
 rw [List.length_append] at h
 have a := o_cs0 (ds := ds) hcn (by omega)
 rw [List.length_append] at a
 exact Or.inl ⟨rfl, by omega, by omega, hN⟩
theorem o_capg {cn : Int32} {cs : List Int32} (hcn : cn.toInt = (cs.length : Int)) (h : cs.length = 34) : o_cap 34 70 (cn + (Int32.ofNat o_L3.length)) := by
 have a := o_cs0 (ds := o_L3) hcn (by rw [h]; decide)
 have e : (35 : Int32).toInt = 35 := by decide
 have l : o_L3.length = 1 := rfl
 refine Or.inr (Or.inr ⟨rfl, rfl, ?_⟩)
 rw [← Int32.toInt_inj, a, List.length_append, h, l, e]; rfl
theorem o_tfl {f : Int32} (hf : f = (0 : Int32) ∨ f = (1 : Int32)) : 4 ≤ (o_tf f).length ∧ (o_tf f).length ≤ 5 := by
 rcases hf with rfl | rfl <;> decide
def o_m1 : List Int32 := [] ++ o_L1
theorem o_m1l : o_m1.length = 17 := rfl
def o_m2 (ds : List Int32) : List Int32 := o_m1 ++ ds
def o_m3 (ds : List Int32) : List Int32 := o_m2 ds ++ o_L2
def o_m4 (ds : List Int32) (f : Int32) : List Int32 := o_m3 ds ++ o_tf f
def o_m5 (ds : List Int32) (f : Int32) : List Int32 := o_m4 ds f ++ o_L3
theorem o_m2l (ds : List Int32) : (o_m2 ds).length = 17 + ds.length := by unfold o_m2; rw [List.length_append, o_m1l]
theorem o_m3l (ds : List Int32) : (o_m3 ds).length = 27 + ds.length := by
 unfold o_m3; rw [List.length_append, o_m2l]; have : o_L2.length = 10 := rfl
 omega
theorem o_m4l (ds : List Int32) (f : Int32) : (o_m4 ds f).length = 27 + ds.length + (o_tf f).length := by unfold o_m4; rw [List.length_append, o_m3l]
theorem o_m5l (ds : List Int32) (f : Int32) : (o_m5 ds f).length = 28 + ds.length + (o_tf f).length := by
 unfold o_m5; rw [List.length_append, o_m4l]; have : o_L3.length = 1 := rfl
 omega
theorem d7_0 : decode k54_ 0 = .ok (.new 17, 3) := by decide +kernel
theorem d7_3 : decode k54_ 3 = .ok (.dup, 1) := by decide +kernel
theorem d7_4 : decode k54_ 4 = .ok (.invokespecial 19, 3) := by decide +kernel
theorem d7_7 : decode k54_ 7 = .ok (.ldc 20, 2) := by decide +kernel
theorem d7_9 : decode k54_ 9 = .ok (.invokevirtual 22, 3) := by decide +kernel
theorem pd_34 : parseMethodDescriptor "(Ljava/lang/String;)Ljava/lang/StringBuilder;" = some ⟨[(.object "java/lang/String")], some (.object "java/lang/StringBuilder")⟩ := by decide +kernel
theorem d7_12 : decode k54_ 12 = .ok (.aload_n 0, 1) := by decide +kernel
theorem d7_13 : decode k54_ 13 = .ok (.getfield 7, 3) := by decide +kernel
theorem d7_16 : decode k54_ 16 = .ok (.invokevirtual 22, 3) := by decide +kernel
theorem d7_19 : decode k54_ 19 = .ok (.ldc 26, 2) := by decide +kernel
theorem d7_21 : decode k54_ 21 = .ok (.invokevirtual 22, 3) := by decide +kernel
theorem d7_24 : decode k54_ 24 = .ok (.aload_n 0, 1) := by decide +kernel
theorem d7_25 : decode k54_ 25 = .ok (.getfield 13, 3) := by decide +kernel
theorem d7_28 : decode k54_ 28 = .ok (.invokevirtual 28, 3) := by decide +kernel
theorem pd_35 : parseMethodDescriptor "(Z)Ljava/lang/StringBuilder;" = some ⟨[.boolean], some (.object "java/lang/StringBuilder")⟩ := by decide +kernel
theorem d7_31 : decode k54_ 31 = .ok (.ldc 31, 2) := by decide +kernel
theorem d7_33 : decode k54_ 33 = .ok (.invokevirtual 22, 3) := by decide +kernel
theorem d7_36 : decode k54_ 36 = .ok (.invokevirtual 33, 3) := by decide +kernel
theorem pd_36 : parseMethodDescriptor "()Ljava/lang/String;" = some ⟨[], some (.object "java/lang/String")⟩ := by decide +kernel
theorem d7_39 : decode k54_ 39 = .ok (.areturn, 1) := by decide +kernel
def Qrts (Z : State) (ds : List Int32) (f_ : Int32) (h0 : Heap) (n0 : Nat) (v : Option Value) (h : Heap) (L : List Loc) : Prop := ∃ (o_ : Addr) (t2_ : Addr) (k2_ : ClassId), v = some (.ref o_) ∧ Fr n0 L ∧ Keep h0 h [] ∧ h0.size ≤ o_ ∧ h0.size ≤ t2_ ∧ eX2 Z h o_ ∧ o_ST Z h o_ t2_ k2_ (o_m5 ds f_)
theorem rts (l : Launch) (Z : State) (a0 : Array Value) (hw : ∀ d ∈ tables_1, d.before a0 Z = true) (ws : List Jvm.Cond) (r_ : Addr) (z : Int32) (fm : Value) (s_ : Addr) (ts : Addr) (ks : ClassId) (ds : List Int32) (f_ : Int32) (h0 : Heap) (n0 : Nat) (O : Old Z n0 h0) (j8_ : sT0 Z (.int 1)) (j9_ : sT1 Z (.int 0)) (j10_ : sT2 Z (.int 8)) (j13_ : sT3 Z fm) (hfm : fm.isRef = true) (j6_ : sT4 Z (.int z)) (hz : ¬ (z = (0 : Int32))) (E_r_ : eX3 Z h0 r_) (j17_ : fL6 Z h0 r_ (.ref s_)) (j18_ : fL7 Z h0 r_ (.int f_)) (E_s_ : eX2 Z h0 s_) (j7_ : o_ST Z h0 s_ ts ks ds) (hf : (f_ = (0 : Int32) ∨ f_ = (1 : Int32))) (h2 : ds.length ≤ 2) :
   MetFree l mN54 (head1 (Jvm.Cond.code mN54 prog_11_method_4_code 1 (some (.object "java/lang/String")) :: ws) rM33) (fun a' U' => a' = #[(.ref r_)] ∧ Z.Warmed39 U'.vm ∧ U'.heap = h0 ∧ CHv Z o_EL U'.vm h0) (fun _ _ _ _ _ => True) (fun _ U' o' W' => ∃ v' L', o' = .returned v' ∧ Qrts Z ds f_ h0 n0 v' W'.heap L' ∧ CHr Z o_EL U'.vm U'.heap W'.vm W'.heap ∧ ReturnedEndW U' o' W' L' rM33.cells rM33.slots) := by
 refine MetFree.of_bodySF (plainFor_of_name pn_9) hisR ?_
 intro p e s m args below meth c s₁ Bd hml0 hP hK
 obtain ⟨rfl, hZ, hh, HC⟩ := hP
 have hx := Bd.exec
 have hby := Bd.bytes
 have B := @hb _ _ hby
 have hml : c.maxLocals = 1 := hml0
 have hown : s.vm.findClass "com/example/holdfast/holdfast/LockEventListener$Renewal" = some m.cls := findClass_of_methodNamed Bd.named
 have X0 : Stand p l e rM33 (s.setVm s.vm) m #[(.ref r_)] below meth c s₁ [] 0 0 := Stand.of_body Bd
 have e0 : s₁.heap = h0 := by rw [← hh, Bd.state]; rfl
 have N0 := Fr.nil n0
 have K0 := Keep.refl h0 []
 have CR := CHr.refl HC
 have hS : s.Since s.vm h0.size := (State.WarmedH.refl s).since _
 have hk : h0.size ≤ h0.size := Nat.le_refl _
 refine o_start (ef_ul m r_) (Q := fun o' t' => ∃ v' L', o' = .returned v' ∧ Qrts Z ds f_ h0 n0 v' t'.heap L' ∧ CHr Z o_EL s.vm s.heap t'.vm t'.heap ∧ ReturnedEndW s o' t' L' rM33.cells rM33.slots) ?_
 show oF p e below (s₁.setTop (mkF m 0 #[.val (.ref r_)] [])) _
 obtain ⟨T8h, h8h, X8h, e8h, E8h, A8h, D8h, -, st8h⟩ := newO X0 hx hZ hown (ow hw 47) (ow hw 48) (ow hw 49) e0 (g := (mkF m 0 #[.val (.ref r_)] [])) rfl (B d7_0) (by decide) (by decide)
 obtain ⟨b8h, g8h⟩ : ∃ z, z = h0.size := ⟨_, rfl⟩
 rw [← g8h] at A8h D8h st8h
 refine oG st8h ?_
 have j41_ : r_ ≠ b8h := Nat.ne_of_lt (Nat.lt_of_lt_of_le E_r_.lt (Nat.le_of_eq g8h.symm))
 have j56_ : s_ ≠ b8h := Nat.ne_of_lt (Nat.lt_of_lt_of_le E_s_.lt (Nat.le_of_eq g8h.symm))
 have j57_ : ts ≠ b8h := Nat.ne_of_lt (Nat.lt_of_lt_of_le j7_.lt (Nat.le_of_eq g8h.symm))
 have j42_ : n0 ≤ b8h := Nat.le_trans (o_osz O) (Nat.le_of_eq g8h.symm)
 have j65_ : h0.size ≤ b8h := Nat.le_trans K0.1 (Nat.le_of_eq g8h.symm)
 have CR := CR.trans (CHr.ext E8h HC)
 have j16_ := Safe.ext E8h HC (Safe.new (Nat.le_of_eq g8h.symm))
 have HC := CHv.ext E8h HC
 have E_r_ := E_r_.ext E8h
 have j17_ := j17_.ext E8h
 have j18_ := j18_.ext E8h
 have E_s_ := E_s_.ext E8h
 have j7_ := o_ST_ext j7_ E8h
 have O := O.ext E8h
 have K8i := K0.ext E8h
 have hk := Nat.le_trans hk E8h.1
 have j11_ := A8h
 have j174_ : fL0 Z h8h b8h .null := D8h (Or.inl (ow hw 62)) (ty := (.array .byte)) (by decide)
 have j175_ : fL2 Z h8h b8h (.int 0) := D8h (Or.inl (ow hw 64)) (ty := .byte) (by decide)
 have j15_ : fL5 Z h8h b8h (.int 0) := D8h (Or.inl (ow hw 88)) (ty := .int) (by decide)
 have j176_ : fL1 Z h8h b8h (.int 0) := D8h (Or.inl (ow hw 267)) (ty := .boolean) (by decide)
 show oF p e below (T8h.setTop (mkF m 3 #[.val (.ref r_)] [(.ref b8h)])) _
 refine oG (fun _ k => XS.dup X8h.here hx rfl (B d7_3) rfl rfl k) ?_
 show oF p e below (T8h.setTop (mkF m 4 #[.val (.ref r_)] [(.ref b8h), (.ref b8h)])) _
 obtain ⟨_, _, ⟨T8j, L8j, k8j, n8j⟩, -, X8j, ⟨Lc8j, hQ8j, l8j, y8j, z8j⟩, st8j⟩ := X8h.specialBack hx (y := mN52) rfl hown (mo hZ hw 50) (mo hZ hw 51) (mo hZ hw 52) (by decide) (backOf (W := 1) (si l Z a0 hw [] b8h z h8h n0 O j6_ hz j11_ j174_ j175_ j15_ j176_ j42_) hZ (ow hw 52) (ow hw 49) (by decide) (by decide)) (g := (mkF m 4 #[.val (.ref r_)] [(.ref b8h), (.ref b8h)])) rfl (by rw [hml]; rfl) (Steps.refl _) (a := b8h) (argsL := []) (rest := [(.ref b8h)]) (lenOf pd_12 rfl) rfl (by show 2 * 0 + _ ≤ _; exact Nat.le_of_eq rfl) (B d7_4) (fun _ _ => ⟨rfl, e8h, (by decide : 1 + 1 ≤ _), (by decide : 4 + 16 ≤ _)⟩)
 dsimp only [Pt.U, Pt.locs, Pt.cells, Pt.slots] at X8j l8j y8j z8j st8j hQ8j
 subst y8j z8j
 obtain ⟨t_8k, k_8l, rfl, N8jq, Kq8j, P8j_0, P8j_1, P8j_2, P8j_3, P8j_4⟩ := hQ8j
 refine oG (fun _ k => st8j.trans k) ?_
 have N8j := oL l8j (Fr.app N0 N8jq)
 have j127_ : r_ ≠ t_8k := Nat.ne_of_lt (Nat.lt_of_lt_of_le E_r_.lt P8j_0)
 have j177_ : s_ ≠ t_8k := Nat.ne_of_lt (Nat.lt_of_lt_of_le E_s_.lt P8j_0)
 have j178_ : ts ≠ t_8k := Nat.ne_of_lt (Nat.lt_of_lt_of_le j7_.lt P8j_0)
 have ne_b594_t_597 : b8h ≠ t_8k := Nat.ne_of_lt (Nat.lt_of_lt_of_le j11_.lt P8j_0)
 have j179_ : n0 ≤ t_8k := Nat.le_trans (o_osz O) P8j_0
 have j180_ : h0.size ≤ t_8k := Nat.le_trans K8i.1 P8j_0
 have Sq := (sfS j16_ sf0)
 have j58_ := Safe.keep Kq8j Sq HC (Safe.new P8j_0)
 have CR := CR.trans (CHr.keep Kq8j Sq HC)
 have j16_ := Safe.keep Kq8j Sq HC j16_
 have HC := CHv.keep Kq8j Sq HC
 have E_r_ := E_r_.keep Kq8j
 have j17_ := j17_.keep Kq8j (ninS j41_ nin0)
 have j18_ := j18_.keep Kq8j (ninS j41_ nin0)
 have E_s_ := E_s_.keep Kq8j
 have j7_ := o_ST_keep j7_ Kq8j (ninS j56_ nin0) (ninS j57_ nin0)
 have j11_ := j11_.keep Kq8j
 clear j174_
 clear j175_
 clear j15_
 clear j176_
 have O := O.keep Kq8j (allS j42_ all0)
 have K8m := K8i.trans Kq8j (allS (Or.inr j65_) all0)
 have hk := Nat.le_trans hk Kq8j.1
 have j11_ := P8j_1
 have j15_ := P8j_2
 have j76_ := P8j_3
 have j14_ := P8j_4
 obtain ⟨b8n, T8n, h8n, k8n, t600, kb600, X8n, e8n, E8n, hS, hk, hZ, hown, L8n_0, L8n_1, L8n_2, L8n_3, -, -, CQ600, -, ne600, st8n⟩ := ldcCH X8j hx hZ hown (ow hw 65) (o_wS hw) rfl hS hk (o_EW hw) (List.mem_of_getElem? (i := 0) rfl) HC (vs := [.int 82, .int 101, .int 110, .int 101, .int 119, .int 97, .int 108, .int 91, .int 108, .int 111, .int 99, .int 107, .int 78, .int 97, .int 109, .int 101, .int 61]) (z := (17 : Int32)) (o_lit_0) (by decide) (by decide) (g := (mkF m 7 #[.val (.ref r_)] [(.ref b8h)])) rfl (B d7_7) (n := 68) (by decide) (by decide) (by decide) (by decide)
 refine oG st8n ?_
 have CR := CR.trans CQ600
 have j16_ := CHr.safe CQ600 j11_.lt j16_
 have j58_ := CHr.safe CQ600 j76_.lt j58_
 have E_r_ := E_r_.ext E8n
 have j17_ := j17_.ext E8n
 have j18_ := j18_.ext E8n
 have E_s_ := E_s_.ext E8n
 have j7_ := o_ST_ext j7_ E8n
 have j11_ := j11_.ext E8n
 have j15_ := j15_.ext E8n
 have j76_ := j76_.ext E8n
 have j14_ := o_SB_ext j14_ E8n
 have O := O.ext E8n
 have K8o := K8m.ext E8n
 have HC := CQ600.1
 have j66_ := (ne600 _ j16_).1
 have j67_ := (ne600 _ j16_).2
 have j128_ := (ne600 _ j58_).1
 have j129_ := (ne600 _ j58_).2
 have j20_ := L8n_0
 have F_b600_String_coder := L8n_1
 have F_b600_String_value := L8n_2
 have V_t600 := L8n_3
 show oF p e below (T8n.setTop (mkF m 9 #[.val (.ref r_)] [(.ref b8n), (.ref b8h)])) _
 have j21_ : o_ST Z h8n b8n t600 kb600 o_L1 := ⟨F_b600_String_value, o_L1r, Or.inl ⟨F_b600_String_coder, by rw [o_L1e]; exact V_t600, o_L1l⟩⟩
 show oF p e below (T8n.setTop (mkF m 9 #[.val (.ref r_)] [(.ref b8n), (.ref b8h)])) _
 have lt_602 := E_r_.lt
 have lt_603 := E_s_.lt
 have lt_604 := j7_.lt
 have lt_605 := j20_.lt
 have lt_606 := j21_.lt
 obtain ⟨cq8p, kq8p, q8pa, q8pb, q8pc⟩ := isOf hZ e8n j11_
 obtain ⟨_, _, ⟨T8p, L8p, k8p, n8p⟩, -, X8p, ⟨Lc8p, hQ8p, l8p, y8p, z8p⟩, st8p⟩ := X8n.virtualBack hx (y := mN23) (z := mN23) hown (mo hZ hw 66) (mo hZ hw 67) (notFace_of_selects (args := #[]) (mo hZ hw 69)) (mo hZ hw 69) (mo hZ hw 68) (by decide) (backOf (W := 0) (sap l Z a0 hw [] b8h b8n z t_8k k_8l (16 : Int32) (0 : Int32) ([] : List Int32) (34 : Int32) t600 kb600 o_L1 fm h8n n0 O j8_ j9_ j10_ j13_ hfm j6_ hz j11_ j15_ j14_ j76_ j42_ j179_ ne_b594_t_597 j20_ j21_ (by decide) (Ne.symm j128_) (Ne.symm j66_) (Ne.symm j129_) (Ne.symm j67_) (by decide) o_cap1 (by decide) (by decide) (by decide)) hZ (ow hw 70) (ow hw 49) (by decide) (by decide)) q8pa q8pc (g := (mkF m 9 #[.val (.ref r_)] [(.ref b8n), (.ref b8h)])) rfl (by rw [hml]; rfl) (Steps.refl _) (argsL := [(.ref b8n)]) (rest := []) (lenOf pd_34 rfl) rfl (by show 2 * 0 + _ ≤ _; exact Nat.le_of_eq rfl) (B d7_9) (fun _ _ => ⟨rfl, e8n, (by decide : 4 + 2 ≤ _), (by decide : 92 + 340 ≤ _)⟩)
 dsimp only [Pt.U, Pt.locs, Pt.cells, Pt.slots] at X8p l8p y8p z8p st8p hQ8p
 subst y8p z8p
 obtain ⟨t2_8q, k2_8r, rfl, N8pq, Kq8p, P8p_0, P8p_1, P8p_2, P8p_3, P8p_4, P8p_5, P8p_6⟩ := hQ8p
 refine oG (fun _ k => st8p.trans k) ?_
 have N8p := oL l8p (Fr.app N8j N8pq)
 have Sq := (sfS j16_ (sfS j58_ sf0))
 have j102_ := Safe.keep Kq8p Sq HC (P8p_0.elim (fun q_ => by rw [q_]; exact j58_) (fun q_ => Safe.new q_))
 have CR := CR.trans (CHr.keep Kq8p Sq HC)
 have j16_ := Safe.keep Kq8p Sq HC j16_
 have j58_ := Safe.keep Kq8p Sq HC j58_
 have HC := CHv.keep Kq8p Sq HC
 have E_r_ := E_r_.keep Kq8p
 have j17_ := j17_.keep Kq8p (ninS j41_ (ninS j127_ nin0))
 have j18_ := j18_.keep Kq8p (ninS j41_ (ninS j127_ nin0))
 have E_s_ := E_s_.keep Kq8p
 have j7_ := o_ST_keep j7_ Kq8p (ninS j56_ (ninS j177_ nin0)) (ninS j57_ (ninS j178_ nin0))
 have j11_ := j11_.keep Kq8p
 clear j15_
 have j76_ := j76_.keep Kq8p
 clear j14_
 have j20_ := j20_.keep Kq8p
 have j21_ := o_ST_keep j21_ Kq8p (ninS (Ne.symm j66_) (ninS (Ne.symm j128_) nin0)) (ninS (Ne.symm j67_) (ninS (Ne.symm j129_) nin0))
 have O := O.keep Kq8p (allS j42_ (allS j179_ all0))
 have K8s := K8o.trans Kq8p (allS (Or.inr j65_) (allS (Or.inr j180_) all0))
 have hk := Nat.le_trans hk Kq8p.1
 have j11_ := P8p_3
 have j15_ := P8p_4
 have j130_ := P8p_5
 have j14_ := P8p_6
 have j181_ : h0.size ≤ t2_8q := P8p_0.elim (fun q_ => by rw [q_]; exact j180_) (fun q_ => Nat.le_trans K8o.1 q_)
 have j131_ : r_ ≠ t2_8q := P8p_0.elim (fun q_ => by rw [q_]; exact j127_) (fun q_ => Nat.ne_of_lt (Nat.lt_of_lt_of_le lt_602 q_))
 have j132_ : s_ ≠ t2_8q := P8p_0.elim (fun q_ => by rw [q_]; exact j177_) (fun q_ => Nat.ne_of_lt (Nat.lt_of_lt_of_le lt_603 q_))
 have j133_ : ts ≠ t2_8q := P8p_0.elim (fun q_ => by rw [q_]; exact j178_) (fun q_ => Nat.ne_of_lt (Nat.lt_of_lt_of_le lt_604 q_))
 have j182_ : b8n ≠ t2_8q := P8p_0.elim (fun q_ => by rw [q_]; exact (Ne.symm j128_)) (fun q_ => Nat.ne_of_lt (Nat.lt_of_lt_of_le lt_605 q_))
 have j183_ : t600 ≠ t2_8q := P8p_0.elim (fun q_ => by rw [q_]; exact (Ne.symm j129_)) (fun q_ => Nat.ne_of_lt (Nat.lt_of_lt_of_le lt_606 q_))
 have j14_ : o_SB Z T8p.heap b8h t2_8q k2_8r (34 : Int32) o_m1 := j14_
 obtain ⟨c1, ec1⟩ : ∃ z : Int32, z = ((0 : Int32) + (Int32.ofNat o_L1.length)) := ⟨_, rfl⟩
 have hc1 : c1.toInt = (o_m1.length : Int) := by rw [ec1]; exact (o_cs0 (cs := []) (ds := o_L1) (by decide) (by decide))
 rw [← ec1] at j15_
 show oF p e below (T8p.setTop (mkF m 12 #[.val (.ref r_)] [(.ref b8h)])) _
 refine oG (fun _ k => XS.aloadN X8p.here hx rfl (B d7_12) rfl rfl k) ?_
 show oF p e below (T8p.setTop (mkF m 13 #[.val (.ref r_)] [(.ref r_), (.ref b8h)])) _
 obtain ⟨T8t, X8t, e8t, st8t⟩ := getF X8p hx hZ hown (host := "") (Or.inl (ow hw 38)) Via.refl rfl j17_ (g := (mkF m 13 #[.val (.ref r_)] [(.ref r_), (.ref b8h)])) rfl rfl (B d7_13)
 refine oG st8t ?_
 have lt_612 := E_r_.lt
 have lt_613 := E_s_.lt
 have lt_614 := j7_.lt
 have lt_615 := j20_.lt
 have lt_616 := j21_.lt
 obtain ⟨cq8u, kq8u, q8ua, q8ub, q8uc⟩ := isOf hZ e8t j11_
 obtain ⟨_, _, ⟨T8u, L8u, k8u, n8u⟩, -, X8u, ⟨Lc8u, hQ8u, l8u, y8u, z8u⟩, st8u⟩ := X8t.virtualBack hx (y := mN23) (z := mN23) hown (mo hZ hw 66) (mo hZ hw 67) (notFace_of_selects (args := #[]) (mo hZ hw 69)) (mo hZ hw 69) (mo hZ hw 68) (by decide) (backOf (W := 0) (sap l Z a0 hw [] b8h s_ z t2_8q k2_8r (34 : Int32) c1 o_m1 (34 : Int32) ts ks ds fm (T8p.heap) n0 O j8_ j9_ j10_ j13_ hfm j6_ hz j11_ j15_ j14_ j130_ j42_ P8p_1 P8p_2 E_s_ j7_ (by omega) j132_ j56_ j133_ j57_ hc1 (o_capn hc1 (by rw [show (o_m1 ++ ds).length = _ from o_m2l ds, show (34 : Int32).toInt = 34 from by decide]; omega) (by decide)) (by decide) (by rw [show (34 : Int32).toInt = 34 from by decide, o_m1l]; omega) (by decide)) hZ (ow hw 70) (ow hw 49) (by decide) (by decide)) q8ua q8uc (g := (mkF m 16 #[.val (.ref r_)] [(.ref s_), (.ref b8h)])) rfl (by rw [hml]; rfl) (Steps.refl _) (argsL := [(.ref s_)]) (rest := []) (lenOf pd_34 rfl) rfl (by show 2 * 0 + _ ≤ _; exact Nat.le_of_eq rfl) (B d7_16) (fun _ _ => ⟨rfl, e8t, (by decide : 6 + 2 ≤ _), (by decide : 432 + 340 ≤ _)⟩)
 dsimp only [Pt.U, Pt.locs, Pt.cells, Pt.slots] at X8u l8u y8u z8u st8u hQ8u
 subst y8u z8u
 obtain ⟨t2_8v, k2_8w, rfl, N8uq, Kq8u, P8u_0, P8u_1, P8u_2, P8u_3, P8u_4, P8u_5, P8u_6⟩ := hQ8u
 refine oG (fun _ k => st8u.trans k) ?_
 have N8u := oL l8u (Fr.app N8p N8uq)
 have Sq := (sfS j16_ (sfS j102_ sf0))
 have j59_ := Safe.keep Kq8u Sq HC (P8u_0.elim (fun q_ => by rw [q_]; exact j102_) (fun q_ => Safe.new q_))
 have CR := CR.trans (CHr.keep Kq8u Sq HC)
 have j16_ := Safe.keep Kq8u Sq HC j16_
 have j102_ := Safe.keep Kq8u Sq HC j102_
 have HC := CHv.keep Kq8u Sq HC
 have E_r_ := E_r_.keep Kq8u
 have j17_ := j17_.keep Kq8u (ninS j41_ (ninS j131_ nin0))
 have j18_ := j18_.keep Kq8u (ninS j41_ (ninS j131_ nin0))
 have E_s_ := E_s_.keep Kq8u
 have j7_ := o_ST_keep j7_ Kq8u (ninS j56_ (ninS j132_ nin0)) (ninS j57_ (ninS j133_ nin0))
 have j11_ := j11_.keep Kq8u
 have j20_ := j20_.keep Kq8u
 have j21_ := o_ST_keep j21_ Kq8u (ninS (Ne.symm j66_) (ninS j182_ nin0)) (ninS (Ne.symm j67_) (ninS j183_ nin0))
 clear j15_
 have j130_ := j130_.keep Kq8u
 clear j14_
 have O := O.keep Kq8u (allS j42_ (allS P8p_1 all0))
 have K8x := K8s.trans Kq8u (allS (Or.inr j65_) (allS (Or.inr j181_) all0))
 have hk := Nat.le_trans hk Kq8u.1
 have j11_ := P8u_3
 have j15_ := P8u_4
 have j77_ := P8u_5
 have j14_ := P8u_6
 have j184_ : h0.size ≤ t2_8v := P8u_0.elim (fun q_ => by rw [q_]; exact j181_) (fun q_ => Nat.le_trans K8s.1 q_)
 have j134_ : r_ ≠ t2_8v := P8u_0.elim (fun q_ => by rw [q_]; exact j131_) (fun q_ => Nat.ne_of_lt (Nat.lt_of_lt_of_le lt_612 q_))
 have j185_ : s_ ≠ t2_8v := P8u_0.elim (fun q_ => by rw [q_]; exact j132_) (fun q_ => Nat.ne_of_lt (Nat.lt_of_lt_of_le lt_613 q_))
 have j186_ : ts ≠ t2_8v := P8u_0.elim (fun q_ => by rw [q_]; exact j133_) (fun q_ => Nat.ne_of_lt (Nat.lt_of_lt_of_le lt_614 q_))
 have j187_ : b8n ≠ t2_8v := P8u_0.elim (fun q_ => by rw [q_]; exact j182_) (fun q_ => Nat.ne_of_lt (Nat.lt_of_lt_of_le lt_615 q_))
 have j188_ : t600 ≠ t2_8v := P8u_0.elim (fun q_ => by rw [q_]; exact j183_) (fun q_ => Nat.ne_of_lt (Nat.lt_of_lt_of_le lt_616 q_))
 have j14_ : o_SB Z T8u.heap b8h t2_8v k2_8w (34 : Int32) (o_m2 ds) := j14_
 obtain ⟨c2, ec2⟩ : ∃ z : Int32, z = (c1 + (Int32.ofNat ds.length)) := ⟨_, rfl⟩
 have hc2 : c2.toInt = ((o_m2 ds).length : Int) := by rw [ec2]; exact (o_cs0 hc1 (by rw [o_m1l]; omega))
 rw [← ec2] at j15_
 obtain ⟨b8y, T8y, h8y, k8y, t621, kb621, X8y, e8y, E8y, hS, hk, hZ, hown, L8y_0, L8y_1, L8y_2, L8y_3, -, -, CQ621, -, ne621, st8y⟩ := ldcCH X8u hx hZ hown (ow hw 137) (o_wS hw) rfl hS hk (o_EW hw) (List.mem_of_getElem? (i := 1) rfl) HC (vs := [.int 44, .int 32, .int 103, .int 114, .int 97, .int 110, .int 116, .int 101, .int 100, .int 61]) (z := (10 : Int32)) (o_lit_1) (by decide) (by decide) (g := (mkF m 19 #[.val (.ref r_)] [(.ref b8h)])) rfl (B d7_19) (n := 40) (by decide) (by decide) (by decide) (by decide)
 refine oG st8y ?_
 have CR := CR.trans CQ621
 have j16_ := CHr.safe CQ621 j11_.lt j16_
 have j59_ := CHr.safe CQ621 j77_.lt j59_
 have E_r_ := E_r_.ext E8y
 have j17_ := j17_.ext E8y
 have j18_ := j18_.ext E8y
 have E_s_ := E_s_.ext E8y
 have j7_ := o_ST_ext j7_ E8y
 have j11_ := j11_.ext E8y
 have j20_ := j20_.ext E8y
 have j21_ := o_ST_ext j21_ E8y
 have j15_ := j15_.ext E8y
 have j77_ := j77_.ext E8y
 have j14_ := o_SB_ext j14_ E8y
 have O := O.ext E8y
 have K8z := K8x.ext E8y
 have HC := CQ621.1
 have j90_ := (ne621 _ j16_).1
 have j91_ := (ne621 _ j16_).2
 have j135_ := (ne621 _ j59_).1
 have j136_ := (ne621 _ j59_).2
 have j23_ := L8y_0
 have F_b621_String_coder := L8y_1
 have F_b621_String_value := L8y_2
 have V_t621 := L8y_3
 show oF p e below (T8y.setTop (mkF m 21 #[.val (.ref r_)] [(.ref b8y), (.ref b8h)])) _
 have j24_ : o_ST Z h8y b8y t621 kb621 o_L2 := ⟨F_b621_String_value, o_L2r, Or.inl ⟨F_b621_String_coder, by rw [o_L2e]; exact V_t621, o_L2l⟩⟩
 show oF p e below (T8y.setTop (mkF m 21 #[.val (.ref r_)] [(.ref b8y), (.ref b8h)])) _
 have lt_623 := E_r_.lt
 have lt_624 := E_s_.lt
 have lt_625 := j7_.lt
 have lt_626 := j20_.lt
 have lt_627 := j21_.lt
 have lt_628 := j23_.lt
 have lt_629 := j24_.lt
 obtain ⟨cq8A, kq8A, q8Aa, q8Ab, q8Ac⟩ := isOf hZ e8y j11_
 obtain ⟨_, _, ⟨T8A, L8A, k8A, n8A⟩, -, X8A, ⟨Lc8A, hQ8A, l8A, y8A, z8A⟩, st8A⟩ := X8y.virtualBack hx (y := mN23) (z := mN23) hown (mo hZ hw 66) (mo hZ hw 67) (notFace_of_selects (args := #[]) (mo hZ hw 69)) (mo hZ hw 69) (mo hZ hw 68) (by decide) (backOf (W := 0) (sap l Z a0 hw [] b8h b8y z t2_8v k2_8w (34 : Int32) c2 (o_m2 ds) (34 : Int32) t621 kb621 o_L2 fm h8y n0 O j8_ j9_ j10_ j13_ hfm j6_ hz j11_ j15_ j14_ j77_ j42_ P8u_1 P8u_2 j23_ j24_ (by decide) (Ne.symm j135_) (Ne.symm j90_) (Ne.symm j136_) (Ne.symm j91_) hc2 (o_capn hc2 (by rw [show (o_m2 ds ++ o_L2).length = _ from o_m3l ds, show (34 : Int32).toInt = 34 from by decide]; omega) (by decide)) (by rw [o_m2l, show (34 : Int32).toInt = 34 from by decide]; omega) (by rw [o_m2l, show (34 : Int32).toInt = 34 from by decide, show o_L2.length = 10 from rfl]; omega) (by decide)) hZ (ow hw 70) (ow hw 49) (by decide) (by decide)) q8Aa q8Ac (g := (mkF m 21 #[.val (.ref r_)] [(.ref b8y), (.ref b8h)])) rfl (by rw [hml]; rfl) (Steps.refl _) (argsL := [(.ref b8y)]) (rest := []) (lenOf pd_34 rfl) rfl (by show 2 * 0 + _ ≤ _; exact Nat.le_of_eq rfl) (B d7_21) (fun _ _ => ⟨rfl, e8y, (by decide : 10 + 2 ≤ _), (by decide : 816 + 340 ≤ _)⟩)
 dsimp only [Pt.U, Pt.locs, Pt.cells, Pt.slots] at X8A l8A y8A z8A st8A hQ8A
 subst y8A z8A
 obtain ⟨t2_8B, k2_8C, rfl, N8Aq, Kq8A, P8A_0, P8A_1, P8A_2, P8A_3, P8A_4, P8A_5, P8A_6⟩ := hQ8A
 refine oG (fun _ k => st8A.trans k) ?_
 have N8A := oL l8A (Fr.app N8u N8Aq)
 have Sq := (sfS j16_ (sfS j59_ sf0))
 have j103_ := Safe.keep Kq8A Sq HC (P8A_0.elim (fun q_ => by rw [q_]; exact j59_) (fun q_ => Safe.new q_))
 have CR := CR.trans (CHr.keep Kq8A Sq HC)
 have j16_ := Safe.keep Kq8A Sq HC j16_
 have j59_ := Safe.keep Kq8A Sq HC j59_
 have HC := CHv.keep Kq8A Sq HC
 have E_r_ := E_r_.keep Kq8A
 have j17_ := j17_.keep Kq8A (ninS j41_ (ninS j134_ nin0))
 have j18_ := j18_.keep Kq8A (ninS j41_ (ninS j134_ nin0))
 have E_s_ := E_s_.keep Kq8A
 have j7_ := o_ST_keep j7_ Kq8A (ninS j56_ (ninS j185_ nin0)) (ninS j57_ (ninS j186_ nin0))
 have j11_ := j11_.keep Kq8A
 have j20_ := j20_.keep Kq8A
 have j21_ := o_ST_keep j21_ Kq8A (ninS (Ne.symm j66_) (ninS j187_ nin0)) (ninS (Ne.symm j67_) (ninS j188_ nin0))
 clear j15_
 have j77_ := j77_.keep Kq8A
 clear j14_
 have j23_ := j23_.keep Kq8A
 have j24_ := o_ST_keep j24_ Kq8A (ninS (Ne.symm j90_) (ninS (Ne.symm j135_) nin0)) (ninS (Ne.symm j91_) (ninS (Ne.symm j136_) nin0))
 have O := O.keep Kq8A (allS j42_ (allS P8u_1 all0))
 have K8D := K8z.trans Kq8A (allS (Or.inr j65_) (allS (Or.inr j184_) all0))
 have hk := Nat.le_trans hk Kq8A.1
 have j11_ := P8A_3
 have j15_ := P8A_4
 have j137_ := P8A_5
 have j14_ := P8A_6
 have j189_ : h0.size ≤ t2_8B := P8A_0.elim (fun q_ => by rw [q_]; exact j184_) (fun q_ => Nat.le_trans K8z.1 q_)
 have j138_ : r_ ≠ t2_8B := P8A_0.elim (fun q_ => by rw [q_]; exact j134_) (fun q_ => Nat.ne_of_lt (Nat.lt_of_lt_of_le lt_623 q_))
 have j190_ : s_ ≠ t2_8B := P8A_0.elim (fun q_ => by rw [q_]; exact j185_) (fun q_ => Nat.ne_of_lt (Nat.lt_of_lt_of_le lt_624 q_))
 have j191_ : ts ≠ t2_8B := P8A_0.elim (fun q_ => by rw [q_]; exact j186_) (fun q_ => Nat.ne_of_lt (Nat.lt_of_lt_of_le lt_625 q_))
 have j192_ : b8n ≠ t2_8B := P8A_0.elim (fun q_ => by rw [q_]; exact j187_) (fun q_ => Nat.ne_of_lt (Nat.lt_of_lt_of_le lt_626 q_))
 have j193_ : t600 ≠ t2_8B := P8A_0.elim (fun q_ => by rw [q_]; exact j188_) (fun q_ => Nat.ne_of_lt (Nat.lt_of_lt_of_le lt_627 q_))
 have j194_ : b8y ≠ t2_8B := P8A_0.elim (fun q_ => by rw [q_]; exact (Ne.symm j135_)) (fun q_ => Nat.ne_of_lt (Nat.lt_of_lt_of_le lt_628 q_))
 have j195_ : t621 ≠ t2_8B := P8A_0.elim (fun q_ => by rw [q_]; exact (Ne.symm j136_)) (fun q_ => Nat.ne_of_lt (Nat.lt_of_lt_of_le lt_629 q_))
 have j14_ : o_SB Z T8A.heap b8h t2_8B k2_8C (34 : Int32) (o_m3 ds) := j14_
 obtain ⟨c3, ec3⟩ : ∃ z : Int32, z = (c2 + (Int32.ofNat o_L2.length)) := ⟨_, rfl⟩
 have hc3 : c3.toInt = ((o_m3 ds).length : Int) := by rw [ec3]; exact (o_cs0 hc2 (by rw [o_m2l, show o_L2.length = 10 from rfl]; omega))
 rw [← ec3] at j15_
 show oF p e below (T8A.setTop (mkF m 24 #[.val (.ref r_)] [(.ref b8h)])) _
 refine oG (fun _ k => XS.aloadN X8A.here hx rfl (B d7_24) rfl rfl k) ?_
 show oF p e below (T8A.setTop (mkF m 25 #[.val (.ref r_)] [(.ref r_), (.ref b8h)])) _
 obtain ⟨T8E, X8E, e8E, st8E⟩ := getF X8A hx hZ hown (host := "") (Or.inl (ow hw 40)) Via.refl rfl j18_ (g := (mkF m 25 #[.val (.ref r_)] [(.ref r_), (.ref b8h)])) rfl rfl (B d7_25)
 refine oG st8E ?_
 have lt_635 := E_r_.lt
 have lt_636 := E_s_.lt
 have lt_637 := j7_.lt
 have lt_638 := j20_.lt
 have lt_639 := j21_.lt
 have lt_640 := j23_.lt
 have lt_641 := j24_.lt
 have htf := o_tfl hf
 obtain ⟨cq8F, kq8F, q8Fa, q8Fb, q8Fc⟩ := isOf hZ e8E j11_
 obtain ⟨_, _, ⟨T8F, L8F, k8F, n8F⟩, -, X8F, ⟨Lc8F, hQ8F, l8F, y8F, z8F⟩, st8F⟩ := X8E.virtualBack hx (y := mN30) (z := mN30) hown (mo hZ hw 138) (mo hZ hw 139) (notFace_of_selects (args := #[]) (mo hZ hw 141)) (mo hZ hw 141) (mo hZ hw 140) (by decide) (backOf (W := 0) (saz l Z a0 hw [] b8h f_ z t2_8B k2_8C (34 : Int32) c3 (o_m3 ds) fm (T8A.heap) n0 O j8_ j9_ j10_ j13_ hfm j6_ hz j11_ j15_ j14_ j137_ j42_ P8A_1 P8A_2 hc3 (by rw [o_m3l, show (34 : Int32).toInt = 34 from by decide]; omega) (by decide)) hZ (ow hw 142) (ow hw 49) (by decide) (by decide)) q8Fa q8Fc (g := (mkF m 28 #[.val (.ref r_)] [(.int f_), (.ref b8h)])) rfl (by rw [hml]; rfl) (Steps.refl _) (argsL := [(.int f_)]) (rest := []) (lenOf pd_35 rfl) rfl (by show 2 * 0 + _ ≤ _; exact Nat.le_of_eq rfl) (B d7_28) (fun _ _ => ⟨rfl, e8E, (by decide : 12 + 1 ≤ _), (by decide : 1156 + 140 ≤ _)⟩)
 dsimp only [Pt.U, Pt.locs, Pt.cells, Pt.slots] at X8F l8F y8F z8F st8F hQ8F
 subst y8F z8F
 obtain ⟨t2_8G, k2_8H, n2_645, rfl, N8Fq, Kq8F, P8F_0, P8F_1, P8F_2, P8F_3, P8F_4, P8F_5, P8F_6, P8F_7⟩ := hQ8F
 refine oG (fun _ k => st8F.trans k) ?_
 have N8F := oL l8F (Fr.app N8A N8Fq)
 have Sq := (sfS j16_ (sfS j103_ sf0))
 have j46_ := Safe.keep Kq8F Sq HC (P8F_0.elim (fun q_ => by rw [q_]; exact j103_) (fun q_ => Safe.new q_))
 have CR := CR.trans (CHr.keep Kq8F Sq HC)
 have j16_ := Safe.keep Kq8F Sq HC j16_
 have j103_ := Safe.keep Kq8F Sq HC j103_
 have HC := CHv.keep Kq8F Sq HC
 have E_r_ := E_r_.keep Kq8F
 have j17_ := j17_.keep Kq8F (ninS j41_ (ninS j138_ nin0))
 have j18_ := j18_.keep Kq8F (ninS j41_ (ninS j138_ nin0))
 have E_s_ := E_s_.keep Kq8F
 have j7_ := o_ST_keep j7_ Kq8F (ninS j56_ (ninS j190_ nin0)) (ninS j57_ (ninS j191_ nin0))
 have j11_ := j11_.keep Kq8F
 have j20_ := j20_.keep Kq8F
 have j21_ := o_ST_keep j21_ Kq8F (ninS (Ne.symm j66_) (ninS j192_ nin0)) (ninS (Ne.symm j67_) (ninS j193_ nin0))
 have j23_ := j23_.keep Kq8F
 have j24_ := o_ST_keep j24_ Kq8F (ninS (Ne.symm j90_) (ninS j194_ nin0)) (ninS (Ne.symm j91_) (ninS j195_ nin0))
 clear j15_
 have j137_ := j137_.keep Kq8F
 clear j14_
 have O := O.keep Kq8F (allS j42_ (allS P8A_1 all0))
 have K8I := K8D.trans Kq8F (allS (Or.inr j65_) (allS (Or.inr j189_) all0))
 have hk := Nat.le_trans hk Kq8F.1
 have j11_ := P8F_4
 have j15_ := P8F_5
 have j52_ := P8F_6
 have j14_ := P8F_7
 have j104_ : h0.size ≤ t2_8G := P8F_0.elim (fun q_ => by rw [q_]; exact j189_) (fun q_ => Nat.le_trans K8D.1 q_)
 have j78_ : r_ ≠ t2_8G := P8F_0.elim (fun q_ => by rw [q_]; exact j138_) (fun q_ => Nat.ne_of_lt (Nat.lt_of_lt_of_le lt_635 q_))
 have j105_ : s_ ≠ t2_8G := P8F_0.elim (fun q_ => by rw [q_]; exact j190_) (fun q_ => Nat.ne_of_lt (Nat.lt_of_lt_of_le lt_636 q_))
 have j106_ : ts ≠ t2_8G := P8F_0.elim (fun q_ => by rw [q_]; exact j191_) (fun q_ => Nat.ne_of_lt (Nat.lt_of_lt_of_le lt_637 q_))
 have j107_ : b8n ≠ t2_8G := P8F_0.elim (fun q_ => by rw [q_]; exact j192_) (fun q_ => Nat.ne_of_lt (Nat.lt_of_lt_of_le lt_638 q_))
 have j108_ : t600 ≠ t2_8G := P8F_0.elim (fun q_ => by rw [q_]; exact j193_) (fun q_ => Nat.ne_of_lt (Nat.lt_of_lt_of_le lt_639 q_))
 have j109_ : b8y ≠ t2_8G := P8F_0.elim (fun q_ => by rw [q_]; exact j194_) (fun q_ => Nat.ne_of_lt (Nat.lt_of_lt_of_le lt_640 q_))
 have j110_ : t621 ≠ t2_8G := P8F_0.elim (fun q_ => by rw [q_]; exact j195_) (fun q_ => Nat.ne_of_lt (Nat.lt_of_lt_of_le lt_641 q_))
 have j14_ : o_SB Z T8F.heap b8h t2_8G k2_8H (34 : Int32) (o_m4 ds f_) := j14_
 obtain ⟨c4, ec4⟩ : ∃ z : Int32, z = n2_645 := ⟨_, rfl⟩
 have hc4 : c4.toInt = ((o_m4 ds f_).length : Int) := by rw [ec4]; exact P8F_3
 rw [← ec4] at j15_
 obtain ⟨b8J, T8J, h8J, k8J, t647, kb647, X8J, e8J, E8J, hS, hk, hZ, hown, L8J_0, L8J_1, L8J_2, L8J_3, -, -, CQ647, -, ne647, st8J⟩ := ldcCH X8F hx hZ hown (ow hw 152) (o_wS hw) rfl hS hk (o_EW hw) (List.mem_of_getElem? (i := 2) rfl) HC (vs := [.int 93]) (z := (1 : Int32)) (o_lit_2) (by decide) (by decide) (g := (mkF m 31 #[.val (.ref r_)] [(.ref b8h)])) rfl (B d7_31) (n := 4) (by decide) (by decide) (by decide) (by decide)
 refine oG st8J ?_
 have CR := CR.trans CQ647
 have j16_ := CHr.safe CQ647 j11_.lt j16_
 have j46_ := CHr.safe CQ647 j52_.lt j46_
 have E_r_ := E_r_.ext E8J
 have j17_ := j17_.ext E8J
 have j18_ := j18_.ext E8J
 have E_s_ := E_s_.ext E8J
 have j7_ := o_ST_ext j7_ E8J
 have j11_ := j11_.ext E8J
 have j20_ := j20_.ext E8J
 have j21_ := o_ST_ext j21_ E8J
 have j23_ := j23_.ext E8J
 have j24_ := o_ST_ext j24_ E8J
 have j15_ := j15_.ext E8J
 have j52_ := j52_.ext E8J
 have j14_ := o_SB_ext j14_ E8J
 have O := O.ext E8J
 have K8K := K8I.ext E8J
 have HC := CQ647.1
 have j111_ := (ne647 _ j16_).1
 have j112_ := (ne647 _ j16_).2
 have j79_ := (ne647 _ j46_).1
 have j80_ := (ne647 _ j46_).2
 have j38_ := L8J_0
 have F_b647_String_coder := L8J_1
 have F_b647_String_value := L8J_2
 have V_t647 := L8J_3
 show oF p e below (T8J.setTop (mkF m 33 #[.val (.ref r_)] [(.ref b8J), (.ref b8h)])) _
 have j39_ : o_ST Z h8J b8J t647 kb647 o_L3 := ⟨F_b647_String_value, o_L3r, Or.inl ⟨F_b647_String_coder, by rw [o_L3e]; exact V_t647, o_L3l⟩⟩
 by_cases hfl : (o_m4 ds f_).length = 34
 ·show oF p e below (T8J.setTop (mkF m 33 #[.val (.ref r_)] [(.ref b8J), (.ref b8h)])) _
  have lt_649 := E_r_.lt
  have lt_650 := E_s_.lt
  have lt_651 := j7_.lt
  have lt_652 := j20_.lt
  have lt_653 := j21_.lt
  have lt_654 := j23_.lt
  have lt_655 := j24_.lt
  have lt_656 := j38_.lt
  have lt_657 := j39_.lt
  obtain ⟨cq8L, kq8L, q8La, q8Lb, q8Lc⟩ := isOf hZ e8J j11_
  obtain ⟨_, _, ⟨T8L, L8L, k8L, n8L⟩, -, X8L, ⟨Lc8L, hQ8L, l8L, y8L, z8L⟩, st8L⟩ := X8J.virtualBack hx (y := mN23) (z := mN23) hown (mo hZ hw 66) (mo hZ hw 67) (notFace_of_selects (args := #[]) (mo hZ hw 69)) (mo hZ hw 69) (mo hZ hw 68) (by decide) (backOf (W := 0) (sap l Z a0 hw [] b8h b8J z t2_8G k2_8H (34 : Int32) c4 (o_m4 ds f_) (70 : Int32) t647 kb647 o_L3 fm h8J n0 O j8_ j9_ j10_ j13_ hfm j6_ hz j11_ j15_ j14_ j52_ j42_ P8F_1 P8F_2 j38_ j39_ (by decide) (Ne.symm j79_) (Ne.symm j111_) (Ne.symm j80_) (Ne.symm j112_) hc4 (o_capg hc4 hfl) (by rw [o_m4l, show (34 : Int32).toInt = 34 from by decide]; omega) (by rw [hfl, show (70 : Int32).toInt = 70 from by decide, show o_L3.length = 1 from rfl]; omega) (by decide)) hZ (ow hw 70) (ow hw 49) (by decide) (by decide)) q8La q8Lc (g := (mkF m 33 #[.val (.ref r_)] [(.ref b8J), (.ref b8h)])) rfl (by rw [hml]; rfl) (Steps.refl _) (argsL := [(.ref b8J)]) (rest := []) (lenOf pd_34 rfl) rfl (by show 2 * 0 + _ ≤ _; exact Nat.le_of_eq rfl) (B d7_33) (fun _ _ => ⟨rfl, e8J, (by decide : 15 + 2 ≤ _), (by decide : 1304 + 340 ≤ _)⟩)
  dsimp only [Pt.U, Pt.locs, Pt.cells, Pt.slots] at X8L l8L y8L z8L st8L hQ8L
  subst y8L z8L
  obtain ⟨t2_8M, k2_8N, rfl, N8Lq, Kq8L, P8L_0, P8L_1, P8L_2, P8L_3, P8L_4, P8L_5, P8L_6⟩ := hQ8L
  refine oG (fun _ k => st8L.trans k) ?_
  have N8L := oL l8L (Fr.app N8F N8Lq)
  have Sq := (sfS j16_ (sfS j46_ sf0))
  have j196_ := Safe.keep Kq8L Sq HC (P8L_0.elim (fun q_ => by rw [q_]; exact j46_) (fun q_ => Safe.new q_))
  have CR := CR.trans (CHr.keep Kq8L Sq HC)
  have j16_ := Safe.keep Kq8L Sq HC j16_
  have j46_ := Safe.keep Kq8L Sq HC j46_
  have HC := CHv.keep Kq8L Sq HC
  have E_r_ := E_r_.keep Kq8L
  have j17_ := j17_.keep Kq8L (ninS j41_ (ninS j78_ nin0))
  have j18_ := j18_.keep Kq8L (ninS j41_ (ninS j78_ nin0))
  have E_s_ := E_s_.keep Kq8L
  have j7_ := o_ST_keep j7_ Kq8L (ninS j56_ (ninS j105_ nin0)) (ninS j57_ (ninS j106_ nin0))
  have j11_ := j11_.keep Kq8L
  have j20_ := j20_.keep Kq8L
  have j21_ := o_ST_keep j21_ Kq8L (ninS (Ne.symm j66_) (ninS j107_ nin0)) (ninS (Ne.symm j67_) (ninS j108_ nin0))
  have j23_ := j23_.keep Kq8L
  have j24_ := o_ST_keep j24_ Kq8L (ninS (Ne.symm j90_) (ninS j109_ nin0)) (ninS (Ne.symm j91_) (ninS j110_ nin0))
  clear j15_
  have j52_ := j52_.keep Kq8L
  clear j14_
  have j38_ := j38_.keep Kq8L
  have j39_ := o_ST_keep j39_ Kq8L (ninS (Ne.symm j111_) (ninS (Ne.symm j79_) nin0)) (ninS (Ne.symm j112_) (ninS (Ne.symm j80_) nin0))
  have O := O.keep Kq8L (allS j42_ (allS P8F_1 all0))
  have K8O := K8K.trans Kq8L (allS (Or.inr j65_) (allS (Or.inr j104_) all0))
  have hk := Nat.le_trans hk Kq8L.1
  have j11_ := P8L_3
  have j15_ := P8L_4
  have j92_ := P8L_5
  have j14_ := P8L_6
  have sz_t2_659 : h0.size ≤ t2_8M := P8L_0.elim (fun q_ => by rw [q_]; exact j104_) (fun q_ => Nat.le_trans K8K.1 q_)
  have ne_r__t2_659 : r_ ≠ t2_8M := P8L_0.elim (fun q_ => by rw [q_]; exact j78_) (fun q_ => Nat.ne_of_lt (Nat.lt_of_lt_of_le lt_649 q_))
  have ne_s__t2_659 : s_ ≠ t2_8M := P8L_0.elim (fun q_ => by rw [q_]; exact j105_) (fun q_ => Nat.ne_of_lt (Nat.lt_of_lt_of_le lt_650 q_))
  have ne_ts_t2_659 : ts ≠ t2_8M := P8L_0.elim (fun q_ => by rw [q_]; exact j106_) (fun q_ => Nat.ne_of_lt (Nat.lt_of_lt_of_le lt_651 q_))
  have ne_b600_t2_659 : b8n ≠ t2_8M := P8L_0.elim (fun q_ => by rw [q_]; exact j107_) (fun q_ => Nat.ne_of_lt (Nat.lt_of_lt_of_le lt_652 q_))
  have ne_t600_t2_659 : t600 ≠ t2_8M := P8L_0.elim (fun q_ => by rw [q_]; exact j108_) (fun q_ => Nat.ne_of_lt (Nat.lt_of_lt_of_le lt_653 q_))
  have ne_b621_t2_659 : b8y ≠ t2_8M := P8L_0.elim (fun q_ => by rw [q_]; exact j109_) (fun q_ => Nat.ne_of_lt (Nat.lt_of_lt_of_le lt_654 q_))
  have ne_t621_t2_659 : t621 ≠ t2_8M := P8L_0.elim (fun q_ => by rw [q_]; exact j110_) (fun q_ => Nat.ne_of_lt (Nat.lt_of_lt_of_le lt_655 q_))
  have ne_b647_t2_659 : b8J ≠ t2_8M := P8L_0.elim (fun q_ => by rw [q_]; exact (Ne.symm j79_)) (fun q_ => Nat.ne_of_lt (Nat.lt_of_lt_of_le lt_656 q_))
  have ne_t647_t2_659 : t647 ≠ t2_8M := P8L_0.elim (fun q_ => by rw [q_]; exact (Ne.symm j80_)) (fun q_ => Nat.ne_of_lt (Nat.lt_of_lt_of_le lt_657 q_))
  have j14_ : o_SB Z T8L.heap b8h t2_8M k2_8N (70 : Int32) (o_m5 ds f_) := j14_
  obtain ⟨c5, ec5⟩ : ∃ z : Int32, z = (c4 + (Int32.ofNat o_L3.length)) := ⟨_, rfl⟩
  have hc5 : c5.toInt = ((o_m5 ds f_).length : Int) := by rw [ec5]; exact (o_cs0 hc4 (by rw [o_m4l, show o_L3.length = 1 from rfl]; omega))
  rw [← ec5] at j15_
  obtain ⟨cq8P, kq8P, q8Pa, q8Pb, q8Pc⟩ := isOf hZ rfl j11_
  obtain ⟨_, _, ⟨T8P, L8P, k8P, n8P⟩, -, X8P, ⟨Lc8P, hQ8P, l8P, y8P, z8P⟩, st8P⟩ := X8L.virtualBack hx (y := mN39) (z := mN39) hown (mo hZ hw 153) (mo hZ hw 154) (notFace_of_selects (args := #[]) (mo hZ hw 156)) (mo hZ hw 156) (mo hZ hw 155) (by decide) (backOf (W := 0) (tos l Z a0 hw [] b8h z t2_8M k2_8N (70 : Int32) c5 (o_m5 ds f_) (T8L.heap) n0 O j6_ hz j11_ j15_ j14_ j92_ hc5 (by decide) (by rw [o_m5l]; omega) (by rw [o_m5l, show (70 : Int32).toInt = 70 from by decide]; have q_ := o_m4l ds f_; omega)) hZ (ow hw 157) (ow hw 49) (by decide) (by decide)) q8Pa q8Pc (g := (mkF m 36 #[.val (.ref r_)] [(.ref b8h)])) rfl (by rw [hml]; rfl) (Steps.refl _) (argsL := []) (rest := []) (lenOf pd_36 rfl) rfl (by show 2 * 0 + _ ≤ _; exact Nat.le_of_eq rfl) (B d7_36) (fun _ _ => ⟨rfl, rfl, (by decide : 17 + 2 ≤ _), (by decide : 1644 + 84 ≤ _)⟩)
  dsimp only [Pt.U, Pt.locs, Pt.cells, Pt.slots] at X8P l8P y8P z8P st8P hQ8P
  subst y8P z8P
  obtain ⟨s_8Q, t2_8R, k2_8S, rfl, N8Pq, Kq8P, P8P_0, P8P_1, P8P_2, P8P_3⟩ := hQ8P
  refine oG (fun _ k => st8P.trans k) ?_
  have N8P := oL l8P (Fr.app N8L N8Pq)
  have ne_r__s_663 : r_ ≠ s_8Q := Nat.ne_of_lt (Nat.lt_of_lt_of_le E_r_.lt P8P_0)
  have ne_s__s_663 : s_ ≠ s_8Q := Nat.ne_of_lt (Nat.lt_of_lt_of_le E_s_.lt P8P_0)
  have ne_ts_s_663 : ts ≠ s_8Q := Nat.ne_of_lt (Nat.lt_of_lt_of_le j7_.lt P8P_0)
  have ne_b594_s_663 : b8h ≠ s_8Q := Nat.ne_of_lt (Nat.lt_of_lt_of_le j11_.lt P8P_0)
  have ne_b600_s_663 : b8n ≠ s_8Q := Nat.ne_of_lt (Nat.lt_of_lt_of_le j20_.lt P8P_0)
  have ne_t600_s_663 : t600 ≠ s_8Q := Nat.ne_of_lt (Nat.lt_of_lt_of_le j21_.lt P8P_0)
  have ne_b621_s_663 : b8y ≠ s_8Q := Nat.ne_of_lt (Nat.lt_of_lt_of_le j23_.lt P8P_0)
  have ne_t621_s_663 : t621 ≠ s_8Q := Nat.ne_of_lt (Nat.lt_of_lt_of_le j24_.lt P8P_0)
  have ne_b647_s_663 : b8J ≠ s_8Q := Nat.ne_of_lt (Nat.lt_of_lt_of_le j38_.lt P8P_0)
  have ne_t647_s_663 : t647 ≠ s_8Q := Nat.ne_of_lt (Nat.lt_of_lt_of_le j39_.lt P8P_0)
  have ne_t2_659_s_663 : t2_8M ≠ s_8Q := Nat.ne_of_lt (Nat.lt_of_lt_of_le j92_.lt P8P_0)
  have g_s_663 : n0 ≤ s_8Q := Nat.le_trans (o_osz O) P8P_0
  have sz_s_663 : h0.size ≤ s_8Q := Nat.le_trans K8O.1 P8P_0
  have ne_r__t2_664 : r_ ≠ t2_8R := Nat.ne_of_lt (Nat.lt_of_lt_of_le E_r_.lt P8P_1)
  have ne_s__t2_664 : s_ ≠ t2_8R := Nat.ne_of_lt (Nat.lt_of_lt_of_le E_s_.lt P8P_1)
  have ne_ts_t2_664 : ts ≠ t2_8R := Nat.ne_of_lt (Nat.lt_of_lt_of_le j7_.lt P8P_1)
  have ne_b594_t2_664 : b8h ≠ t2_8R := Nat.ne_of_lt (Nat.lt_of_lt_of_le j11_.lt P8P_1)
  have ne_b600_t2_664 : b8n ≠ t2_8R := Nat.ne_of_lt (Nat.lt_of_lt_of_le j20_.lt P8P_1)
  have ne_t600_t2_664 : t600 ≠ t2_8R := Nat.ne_of_lt (Nat.lt_of_lt_of_le j21_.lt P8P_1)
  have ne_b621_t2_664 : b8y ≠ t2_8R := Nat.ne_of_lt (Nat.lt_of_lt_of_le j23_.lt P8P_1)
  have ne_t621_t2_664 : t621 ≠ t2_8R := Nat.ne_of_lt (Nat.lt_of_lt_of_le j24_.lt P8P_1)
  have ne_b647_t2_664 : b8J ≠ t2_8R := Nat.ne_of_lt (Nat.lt_of_lt_of_le j38_.lt P8P_1)
  have ne_t647_t2_664 : t647 ≠ t2_8R := Nat.ne_of_lt (Nat.lt_of_lt_of_le j39_.lt P8P_1)
  have ne_t2_659_t2_664 : t2_8M ≠ t2_8R := Nat.ne_of_lt (Nat.lt_of_lt_of_le j92_.lt P8P_1)
  have g_t2_664 : n0 ≤ t2_8R := Nat.le_trans (o_osz O) P8P_1
  have sz_t2_664 : h0.size ≤ t2_8R := Nat.le_trans K8O.1 P8P_1
  skip
  have S_s_663 := Safe.keep Kq8P sf0 HC (Safe.new P8P_0)
  have S_t2_664 := Safe.keep Kq8P sf0 HC (Safe.new P8P_1)
  have CR := CR.trans (CHr.keep Kq8P sf0 HC)
  have j16_ := Safe.keep Kq8P sf0 HC j16_
  have j196_ := Safe.keep Kq8P sf0 HC j196_
  have HC := CHv.keep Kq8P sf0 HC
  have E_r_ := E_r_.keep Kq8P
  have j17_ := j17_.keep Kq8P nin0
  have j18_ := j18_.keep Kq8P nin0
  have E_s_ := E_s_.keep Kq8P
  have j7_ := o_ST_keep j7_ Kq8P nin0 nin0
  have j11_ := j11_.keep Kq8P
  have j20_ := j20_.keep Kq8P
  have j21_ := o_ST_keep j21_ Kq8P nin0 nin0
  have j23_ := j23_.keep Kq8P
  have j24_ := o_ST_keep j24_ Kq8P nin0 nin0
  have j38_ := j38_.keep Kq8P
  have j39_ := o_ST_keep j39_ Kq8P nin0 nin0
  have j15_ := j15_.keep Kq8P nin0
  have j92_ := j92_.keep Kq8P
  have j14_ := o_SB_keep j14_ Kq8P nin0 nin0
  have O := O.keep Kq8P all0
  have K8T := K8O.trans Kq8P all0
  have hk := Nat.le_trans hk Kq8P.1
  have E_s_663 := P8P_2
  have O_own_ST_s_663 := P8P_3
  show oF p e below (T8P.setTop (mkF m 39 #[.val (.ref r_)] [(.ref s_8Q)])) _
  obtain ⟨fs, hr, r1, r2, hE⟩ := X8P.leaveW hS hk (v := some (.ref s_8Q)) (fun h => by rw [Bd.returns] at h; cases h)
  refine ⟨_, _, ?_, r1, r2, _, _, rfl, ?_, ?_, ⟨_, rfl⟩, hE.2.1, hE.2.2.1, hE.2.2.2.mono (by decide) (by decide)⟩
  ·exact X8P.areturnOut hx rfl Bd.returns rfl (B d7_39) hr
  ·show Qrts Z ds f_ h0 n0 _ T8P.heap _
   exact ⟨s_8Q, t2_8R, k2_8S, rfl, N8P, K8T, sz_s_663, sz_t2_664, E_s_663, O_own_ST_s_663⟩
  ·show CHr Z o_EL s.vm s.heap T8P.vm T8P.heap
   rw [hh]
   exact CR.trans (CHv.at X8P hZ (o_EW hw) HC)
 ·show oF p e below (T8J.setTop (mkF m 33 #[.val (.ref r_)] [(.ref b8J), (.ref b8h)])) _
  have lt_668 := E_r_.lt
  have lt_669 := E_s_.lt
  have lt_670 := j7_.lt
  have lt_671 := j20_.lt
  have lt_672 := j21_.lt
  have lt_673 := j23_.lt
  have lt_674 := j24_.lt
  have lt_675 := j38_.lt
  have lt_676 := j39_.lt
  obtain ⟨cq8U, kq8U, q8Ua, q8Ub, q8Uc⟩ := isOf hZ e8J j11_
  obtain ⟨_, _, ⟨T8U, L8U, k8U, n8U⟩, -, X8U, ⟨Lc8U, hQ8U, l8U, y8U, z8U⟩, st8U⟩ := X8J.virtualBack hx (y := mN23) (z := mN23) hown (mo hZ hw 66) (mo hZ hw 67) (notFace_of_selects (args := #[]) (mo hZ hw 69)) (mo hZ hw 69) (mo hZ hw 68) (by decide) (backOf (W := 0) (sap l Z a0 hw [] b8h b8J z t2_8G k2_8H (34 : Int32) c4 (o_m4 ds f_) (34 : Int32) t647 kb647 o_L3 fm h8J n0 O j8_ j9_ j10_ j13_ hfm j6_ hz j11_ j15_ j14_ j52_ j42_ P8F_1 P8F_2 j38_ j39_ (by decide) (Ne.symm j79_) (Ne.symm j111_) (Ne.symm j80_) (Ne.symm j112_) hc4 (o_capn hc4 (by rw [show (o_m4 ds f_ ++ o_L3).length = _ from o_m5l ds f_, show (34 : Int32).toInt = 34 from by decide]; have q_ := o_m4l ds f_; omega) (by decide)) (by rw [o_m4l, show (34 : Int32).toInt = 34 from by decide]; omega) (by rw [o_m4l, show (34 : Int32).toInt = 34 from by decide, show o_L3.length = 1 from rfl]; have q_ := o_m4l ds f_; omega) (by decide)) hZ (ow hw 70) (ow hw 49) (by decide) (by decide)) q8Ua q8Uc (g := (mkF m 33 #[.val (.ref r_)] [(.ref b8J), (.ref b8h)])) rfl (by rw [hml]; rfl) (Steps.refl _) (argsL := [(.ref b8J)]) (rest := []) (lenOf pd_34 rfl) rfl (by show 2 * 0 + _ ≤ _; exact Nat.le_of_eq rfl) (B d7_33) (fun _ _ => ⟨rfl, e8J, (by decide : 15 + 2 ≤ _), (by decide : 1304 + 340 ≤ _)⟩)
  dsimp only [Pt.U, Pt.locs, Pt.cells, Pt.slots] at X8U l8U y8U z8U st8U hQ8U
  subst y8U z8U
  obtain ⟨t2_8V, k2_8W, rfl, N8Uq, Kq8U, P8U_0, P8U_1, P8U_2, P8U_3, P8U_4, P8U_5, P8U_6⟩ := hQ8U
  refine oG (fun _ k => st8U.trans k) ?_
  have N8U := oL l8U (Fr.app N8F N8Uq)
  have Sq := (sfS j16_ (sfS j46_ sf0))
  have j197_ := Safe.keep Kq8U Sq HC (P8U_0.elim (fun q_ => by rw [q_]; exact j46_) (fun q_ => Safe.new q_))
  have CR := CR.trans (CHr.keep Kq8U Sq HC)
  have j16_ := Safe.keep Kq8U Sq HC j16_
  have j46_ := Safe.keep Kq8U Sq HC j46_
  have HC := CHv.keep Kq8U Sq HC
  have E_r_ := E_r_.keep Kq8U
  have j17_ := j17_.keep Kq8U (ninS j41_ (ninS j78_ nin0))
  have j18_ := j18_.keep Kq8U (ninS j41_ (ninS j78_ nin0))
  have E_s_ := E_s_.keep Kq8U
  have j7_ := o_ST_keep j7_ Kq8U (ninS j56_ (ninS j105_ nin0)) (ninS j57_ (ninS j106_ nin0))
  have j11_ := j11_.keep Kq8U
  have j20_ := j20_.keep Kq8U
  have j21_ := o_ST_keep j21_ Kq8U (ninS (Ne.symm j66_) (ninS j107_ nin0)) (ninS (Ne.symm j67_) (ninS j108_ nin0))
  have j23_ := j23_.keep Kq8U
  have j24_ := o_ST_keep j24_ Kq8U (ninS (Ne.symm j90_) (ninS j109_ nin0)) (ninS (Ne.symm j91_) (ninS j110_ nin0))
  clear j15_
  have j52_ := j52_.keep Kq8U
  clear j14_
  have j38_ := j38_.keep Kq8U
  have j39_ := o_ST_keep j39_ Kq8U (ninS (Ne.symm j111_) (ninS (Ne.symm j79_) nin0)) (ninS (Ne.symm j112_) (ninS (Ne.symm j80_) nin0))
  have O := O.keep Kq8U (allS j42_ (allS P8F_1 all0))
  have K8X := K8K.trans Kq8U (allS (Or.inr j65_) (allS (Or.inr j104_) all0))
  have hk := Nat.le_trans hk Kq8U.1
  have j11_ := P8U_3
  have j15_ := P8U_4
  have j93_ := P8U_5
  have j14_ := P8U_6
  have sz_t2_678 : h0.size ≤ t2_8V := P8U_0.elim (fun q_ => by rw [q_]; exact j104_) (fun q_ => Nat.le_trans K8K.1 q_)
  have ne_r__t2_678 : r_ ≠ t2_8V := P8U_0.elim (fun q_ => by rw [q_]; exact j78_) (fun q_ => Nat.ne_of_lt (Nat.lt_of_lt_of_le lt_668 q_))
  have ne_s__t2_678 : s_ ≠ t2_8V := P8U_0.elim (fun q_ => by rw [q_]; exact j105_) (fun q_ => Nat.ne_of_lt (Nat.lt_of_lt_of_le lt_669 q_))
  have ne_ts_t2_678 : ts ≠ t2_8V := P8U_0.elim (fun q_ => by rw [q_]; exact j106_) (fun q_ => Nat.ne_of_lt (Nat.lt_of_lt_of_le lt_670 q_))
  have ne_b600_t2_678 : b8n ≠ t2_8V := P8U_0.elim (fun q_ => by rw [q_]; exact j107_) (fun q_ => Nat.ne_of_lt (Nat.lt_of_lt_of_le lt_671 q_))
  have ne_t600_t2_678 : t600 ≠ t2_8V := P8U_0.elim (fun q_ => by rw [q_]; exact j108_) (fun q_ => Nat.ne_of_lt (Nat.lt_of_lt_of_le lt_672 q_))
  have ne_b621_t2_678 : b8y ≠ t2_8V := P8U_0.elim (fun q_ => by rw [q_]; exact j109_) (fun q_ => Nat.ne_of_lt (Nat.lt_of_lt_of_le lt_673 q_))
  have ne_t621_t2_678 : t621 ≠ t2_8V := P8U_0.elim (fun q_ => by rw [q_]; exact j110_) (fun q_ => Nat.ne_of_lt (Nat.lt_of_lt_of_le lt_674 q_))
  have ne_b647_t2_678 : b8J ≠ t2_8V := P8U_0.elim (fun q_ => by rw [q_]; exact (Ne.symm j79_)) (fun q_ => Nat.ne_of_lt (Nat.lt_of_lt_of_le lt_675 q_))
  have ne_t647_t2_678 : t647 ≠ t2_8V := P8U_0.elim (fun q_ => by rw [q_]; exact (Ne.symm j80_)) (fun q_ => Nat.ne_of_lt (Nat.lt_of_lt_of_le lt_676 q_))
  have j14_ : o_SB Z T8U.heap b8h t2_8V k2_8W (34 : Int32) (o_m5 ds f_) := j14_
  obtain ⟨c5, ec5⟩ : ∃ z : Int32, z = (c4 + (Int32.ofNat o_L3.length)) := ⟨_, rfl⟩
  have hc5 : c5.toInt = ((o_m5 ds f_).length : Int) := by rw [ec5]; exact (o_cs0 hc4 (by rw [o_m4l, show o_L3.length = 1 from rfl]; omega))
  rw [← ec5] at j15_
  obtain ⟨cq8Y, kq8Y, q8Ya, q8Yb, q8Yc⟩ := isOf hZ rfl j11_
  obtain ⟨_, _, ⟨T8Y, L8Y, k8Y, n8Y⟩, -, X8Y, ⟨Lc8Y, hQ8Y, l8Y, y8Y, z8Y⟩, st8Y⟩ := X8U.virtualBack hx (y := mN39) (z := mN39) hown (mo hZ hw 153) (mo hZ hw 154) (notFace_of_selects (args := #[]) (mo hZ hw 156)) (mo hZ hw 156) (mo hZ hw 155) (by decide) (backOf (W := 0) (tos l Z a0 hw [] b8h z t2_8V k2_8W (34 : Int32) c5 (o_m5 ds f_) (T8U.heap) n0 O j6_ hz j11_ j15_ j14_ j93_ hc5 (by decide) (by rw [o_m5l]; omega) (by rw [o_m5l, show (34 : Int32).toInt = 34 from by decide]; have q_ := o_m4l ds f_; omega)) hZ (ow hw 157) (ow hw 49) (by decide) (by decide)) q8Ya q8Yc (g := (mkF m 36 #[.val (.ref r_)] [(.ref b8h)])) rfl (by rw [hml]; rfl) (Steps.refl _) (argsL := []) (rest := []) (lenOf pd_36 rfl) rfl (by show 2 * 0 + _ ≤ _; exact Nat.le_of_eq rfl) (B d7_36) (fun _ _ => ⟨rfl, rfl, (by decide : 17 + 2 ≤ _), (by decide : 1644 + 84 ≤ _)⟩)
  dsimp only [Pt.U, Pt.locs, Pt.cells, Pt.slots] at X8Y l8Y y8Y z8Y st8Y hQ8Y
  subst y8Y z8Y
  obtain ⟨s_8Z, t2_9a, k2_9b, rfl, N8Yq, Kq8Y, P8Y_0, P8Y_1, P8Y_2, P8Y_3⟩ := hQ8Y
  refine oG (fun _ k => st8Y.trans k) ?_
  have N8Y := oL l8Y (Fr.app N8U N8Yq)
  have ne_r__s_682 : r_ ≠ s_8Z := Nat.ne_of_lt (Nat.lt_of_lt_of_le E_r_.lt P8Y_0)
  have ne_s__s_682 : s_ ≠ s_8Z := Nat.ne_of_lt (Nat.lt_of_lt_of_le E_s_.lt P8Y_0)
  have ne_ts_s_682 : ts ≠ s_8Z := Nat.ne_of_lt (Nat.lt_of_lt_of_le j7_.lt P8Y_0)
  have ne_b594_s_682 : b8h ≠ s_8Z := Nat.ne_of_lt (Nat.lt_of_lt_of_le j11_.lt P8Y_0)
  have ne_b600_s_682 : b8n ≠ s_8Z := Nat.ne_of_lt (Nat.lt_of_lt_of_le j20_.lt P8Y_0)
  have ne_t600_s_682 : t600 ≠ s_8Z := Nat.ne_of_lt (Nat.lt_of_lt_of_le j21_.lt P8Y_0)
  have ne_b621_s_682 : b8y ≠ s_8Z := Nat.ne_of_lt (Nat.lt_of_lt_of_le j23_.lt P8Y_0)
  have ne_t621_s_682 : t621 ≠ s_8Z := Nat.ne_of_lt (Nat.lt_of_lt_of_le j24_.lt P8Y_0)
  have ne_b647_s_682 : b8J ≠ s_8Z := Nat.ne_of_lt (Nat.lt_of_lt_of_le j38_.lt P8Y_0)
  have ne_t647_s_682 : t647 ≠ s_8Z := Nat.ne_of_lt (Nat.lt_of_lt_of_le j39_.lt P8Y_0)
  have ne_t2_678_s_682 : t2_8V ≠ s_8Z := Nat.ne_of_lt (Nat.lt_of_lt_of_le j93_.lt P8Y_0)
  have g_s_682 : n0 ≤ s_8Z := Nat.le_trans (o_osz O) P8Y_0
  have sz_s_682 : h0.size ≤ s_8Z := Nat.le_trans K8X.1 P8Y_0
  have ne_r__t2_683 : r_ ≠ t2_9a := Nat.ne_of_lt (Nat.lt_of_lt_of_le E_r_.lt P8Y_1)
  have ne_s__t2_683 : s_ ≠ t2_9a := Nat.ne_of_lt (Nat.lt_of_lt_of_le E_s_.lt P8Y_1)
  have ne_ts_t2_683 : ts ≠ t2_9a := Nat.ne_of_lt (Nat.lt_of_lt_of_le j7_.lt P8Y_1)
  have ne_b594_t2_683 : b8h ≠ t2_9a := Nat.ne_of_lt (Nat.lt_of_lt_of_le j11_.lt P8Y_1)
  have ne_b600_t2_683 : b8n ≠ t2_9a := Nat.ne_of_lt (Nat.lt_of_lt_of_le j20_.lt P8Y_1)
  have ne_t600_t2_683 : t600 ≠ t2_9a := Nat.ne_of_lt (Nat.lt_of_lt_of_le j21_.lt P8Y_1)
  have ne_b621_t2_683 : b8y ≠ t2_9a := Nat.ne_of_lt (Nat.lt_of_lt_of_le j23_.lt P8Y_1)
  have ne_t621_t2_683 : t621 ≠ t2_9a := Nat.ne_of_lt (Nat.lt_of_lt_of_le j24_.lt P8Y_1)
  have ne_b647_t2_683 : b8J ≠ t2_9a := Nat.ne_of_lt (Nat.lt_of_lt_of_le j38_.lt P8Y_1)
  have ne_t647_t2_683 : t647 ≠ t2_9a := Nat.ne_of_lt (Nat.lt_of_lt_of_le j39_.lt P8Y_1)
  have ne_t2_678_t2_683 : t2_8V ≠ t2_9a := Nat.ne_of_lt (Nat.lt_of_lt_of_le j93_.lt P8Y_1)
  have g_t2_683 : n0 ≤ t2_9a := Nat.le_trans (o_osz O) P8Y_1
  have sz_t2_683 : h0.size ≤ t2_9a := Nat.le_trans K8X.1 P8Y_1
  skip
  have S_s_682 := Safe.keep Kq8Y sf0 HC (Safe.new P8Y_0)
  have S_t2_683 := Safe.keep Kq8Y sf0 HC (Safe.new P8Y_1)
  have CR := CR.trans (CHr.keep Kq8Y sf0 HC)
  have j16_ := Safe.keep Kq8Y sf0 HC j16_
  have j197_ := Safe.keep Kq8Y sf0 HC j197_
  have HC := CHv.keep Kq8Y sf0 HC
  have E_r_ := E_r_.keep Kq8Y
  have j17_ := j17_.keep Kq8Y nin0
  have j18_ := j18_.keep Kq8Y nin0
  have E_s_ := E_s_.keep Kq8Y
  have j7_ := o_ST_keep j7_ Kq8Y nin0 nin0
  have j11_ := j11_.keep Kq8Y
  have j20_ := j20_.keep Kq8Y
  have j21_ := o_ST_keep j21_ Kq8Y nin0 nin0
  have j23_ := j23_.keep Kq8Y
  have j24_ := o_ST_keep j24_ Kq8Y nin0 nin0
  have j38_ := j38_.keep Kq8Y
  have j39_ := o_ST_keep j39_ Kq8Y nin0 nin0
  have j15_ := j15_.keep Kq8Y nin0
  have j93_ := j93_.keep Kq8Y
  have j14_ := o_SB_keep j14_ Kq8Y nin0 nin0
  have O := O.keep Kq8Y all0
  have K9c := K8X.trans Kq8Y all0
  have hk := Nat.le_trans hk Kq8Y.1
  have E_s_682 := P8Y_2
  have O_own_ST_s_682 := P8Y_3
  show oF p e below (T8Y.setTop (mkF m 39 #[.val (.ref r_)] [(.ref s_8Z)])) _
  obtain ⟨fs, hr, r1, r2, hE⟩ := X8Y.leaveW hS hk (v := some (.ref s_8Z)) (fun h => by rw [Bd.returns] at h; cases h)
  refine ⟨_, _, ?_, r1, r2, _, _, rfl, ?_, ?_, ⟨_, rfl⟩, hE.2.1, hE.2.2.1, hE.2.2.2.mono (by decide) (by decide)⟩
  ·exact X8Y.areturnOut hx rfl Bd.returns rfl (B d7_39) hr
  ·show Qrts Z ds f_ h0 n0 _ T8Y.heap _
   exact ⟨s_8Z, t2_9a, k2_9b, rfl, N8Y, K9c, sz_s_682, sz_t2_683, E_s_682, O_own_ST_s_682⟩
  ·show CHr Z o_EL s.vm s.heap T8Y.vm T8Y.heap
   rw [hh]
   exact CR.trans (CHv.at X8Y hZ (o_EW hw) HC)
theorem d4_8 : decode k45_ 8 = .ok (.aload_n 0, 1) := by decide +kernel
theorem d4_9 : decode k45_ 9 = .ok (.ldc 7, 2) := by decide +kernel
theorem d4_11 : decode k45_ 11 = .ok (.getfield 9, 3) := by decide +kernel
theorem d4_14 : decode k45_ 14 = .ok (.putfield 9, 3) := by decide +kernel
theorem d4_17 : decode k45_ 17 = .ok (.aload_n 0, 1) := by decide +kernel
theorem d4_18 : decode k45_ 18 = .ok (.ldc 7, 2) := by decide +kernel
theorem d4_20 : decode k45_ 20 = .ok (.getfield 15, 3) := by decide +kernel
theorem d4_23 : decode k45_ 23 = .ok (.putfield 15, 3) := by decide +kernel
theorem d4_26 : decode k45_ 26 = .ok (.return_, 1) := by decide +kernel
def Qsiv (Z : State) (s_ : Addr) (r_ : Addr) (e_ : Addr) (h0 : Heap) (n0 : Nat) (v : Option Value) (h : Heap) (L : List Loc) : Prop := ∃ (t_ : Addr) (kb_ : ClassId), v = none ∧ Fr n0 L ∧ Keep h0 h [s_] ∧ r_ ≠ t_ ∧ e_ ≠ t_ ∧ s_ ≠ t_ ∧ eX2 Z h s_ ∧ fL4 Z h s_ (.int 0) ∧ fL3 Z h s_ (.ref t_) ∧ Arv Z h t_ kb_ .byte (0 : Int32) [] (.int 0)
theorem siv (l : Launch) (Z : State) (a0 : Array Value) (hw : ∀ d ∈ tables_1, d.before a0 Z = true) (ws : List Jvm.Cond) (s_ : Addr) (a : Addr) (ka : ClassId) (r_ : Addr) (e_ : Addr) (h0 : Heap) (n0 : Nat) (O : Old Z n0 h0) (E_s_ : eX2 Z h0 s_) (j5_ : fL3 Z h0 s_ .null) (j3_ : fL4 Z h0 s_ (.int 0)) (g_s_ : n0 ≤ s_) (V_a : Arv Z h0 a ka .char (0 : Int32) [] (.int 0)) (nsa : s_ ≠ a) (E_r_ : eX3 Z h0 r_) (E_e_ : eX4 Z h0 e_) (nsr : s_ ≠ r_) (nse : s_ ≠ e_) :
   MetFree l mN45 (head1 (Jvm.Cond.code mN45 jdk_42_method_149_code 6 none :: ws) rM34) (fun a' U' => a' = #[(.ref s_), (.ref a), (.int 0), (.int 0), .null] ∧ Z.Warmed39 U'.vm ∧ U'.heap = h0 ∧ CHv Z o_EL U'.vm h0) (fun _ _ _ _ _ => True) (fun _ U' o' W' => ∃ v' L', o' = .returned v' ∧ Qsiv Z s_ r_ e_ h0 n0 v' W'.heap L' ∧ CHr Z o_EL U'.vm U'.heap W'.vm W'.heap ∧ ReturnedEndW U' o' W' L' rM34.cells rM34.slots) := by
 refine MetFree.of_bodySF (plainFor_of_name pn_2) hisR ?_
 intro p e s m args below meth c s₁ Bd hml0 hP hK
 obtain ⟨rfl, hZ, hh, HC⟩ := hP
 have hx := Bd.exec
 have hby := Bd.bytes
 have B := @hb _ _ hby
 have hml : c.maxLocals = 6 := hml0
 have hown : s.vm.findClass "java/lang/String" = some m.cls := findClass_of_methodNamed Bd.named
 have hnm := (name_of_methodNamed Bd.named Bd.method).1
 have X0 : Stand p l e rM34 (s.setVm s.vm) m #[(.ref s_), (.ref a), (.int 0), (.int 0), .null] below meth c s₁ [] 0 0 := Stand.of_body Bd
 have e0 : s₁.heap = h0 := by rw [← hh, Bd.state]; rfl
 have N0 := Fr.nil n0
 have K0 := Keep.refl h0 [s_]
 have CR := CHr.refl HC
 have hS : s.Since s.vm h0.size := (State.WarmedH.refl s).since _
 have hk : h0.size ≤ h0.size := Nat.le_refl _
 refine o_start (ef_sin m s_ a (0 : Int32) (0 : Int32)) (Q := fun o' t' => ∃ v' L', o' = .returned v' ∧ Qsiv Z s_ r_ e_ h0 n0 v' t'.heap L' ∧ CHr Z o_EL s.vm s.heap t'.vm t'.heap ∧ ReturnedEndW s o' t' L' rM34.cells rM34.slots) ?_
 show oF p e below (s₁.setTop (mkF m 0 #[.val (.ref s_), .val (.ref a), .val (.int 0), .val (.int 0), .val .null, .unset] [])) _
 refine oG (fun _ k => XS.aloadN X0.here hx rfl (B d4_0) rfl rfl k) ?_
 show oF p e below (s₁.setTop (mkF m 1 #[.val (.ref s_), .val (.ref a), .val (.int 0), .val (.int 0), .val .null, .unset] [(.ref s_)])) _
 obtain ⟨T9d, X9d, e9d, st9d⟩ := initO X0 hx hZ hown (ow hw 23) (ow hw 24) (ow hw 25) e0 (g := (mkF m 1 #[.val (.ref s_), .val (.ref a), .val (.int 0), .val (.int 0), .val .null, .unset] [(.ref s_)])) rfl (by rw [hml]; rfl) rfl (B d4_1) (by decide) (W := 0) (by show 2 * 0 + _ ≤ _; exact Nat.le_of_eq rfl) (by decide)
 refine oG st9d ?_
 show oF p e below (T9d.setTop (mkF m 4 #[.val (.ref s_), .val (.ref a), .val (.int 0), .val (.int 0), .val .null, .unset] [])) _
 refine oG (fun _ k => XS.iloadN X9d.here hx rfl (B d4_4) rfl (XS.ifNo X9d.here hx rfl (B d4_5) rfl ((if0 _ _).trans (teq (by decide : (0 : Int32) = (0 : Int32))).2) (XS.aloadN X9d.here hx rfl (B d4_8) rfl rfl k))) ?_
 show oF p e below (T9d.setTop (mkF m 9 #[.val (.ref s_), .val (.ref a), .val (.int 0), .val (.int 0), .val .null, .unset] [(.ref s_)])) _
 have S_r_ := Safe.exa (EL := o_EL) hZ.alike E_r_ (by decide) (by decide)
 have S_e_ := Safe.exa (EL := o_EL) hZ.alike E_e_ (by decide) (by decide)
 show oF p e below (T9d.setTop (mkF m 9 #[.val (.ref s_), .val (.ref a), .val (.int 0), .val (.int 0), .val .null, .unset] [(.ref s_)])) _
 have S_s_ := o_safeN (EL := o_EL) hZ.alike E_s_ j5_
 obtain ⟨b9e, T9e, h9e, k9e, t688, kb688, X9e, e9e, E9e, hS, hk, hZ, hown, L9e_0, L9e_1, L9e_2, L9e_3, -, -, CQ688, -, ne688, st9e⟩ := ldcCH X9d hx hZ hown (ow hw 26) (o_wS hw) e9d hS hk (o_EW hw) (List.mem_of_getElem? (i := 3) rfl) HC (vs := []) (z := (0 : Int32)) (o_lit_3) (by decide) (by decide) (g := (mkF m 9 #[.val (.ref s_), .val (.ref a), .val (.int 0), .val (.int 0), .val .null, .unset] [(.ref s_)])) rfl (B d4_9) (n := 0) (by decide) (by decide) (by decide) (by decide)
 refine oG st9e ?_
 have CR := CR.trans CQ688
 have S_r_ := CHr.safe CQ688 E_r_.lt S_r_
 have S_e_ := CHr.safe CQ688 E_e_.lt S_e_
 have S_s_ := CHr.safe CQ688 E_s_.lt S_s_
 have E_s_ := E_s_.ext E9e
 have j5_ := j5_.ext E9e
 have j3_ := j3_.ext E9e
 have V_a := V_a.ext E9e
 have E_r_ := E_r_.ext E9e
 have E_e_ := E_e_.ext E9e
 have O := O.ext E9e
 have K9f := K0.ext E9e
 have HC := CQ688.1
 have ne_r__b688 := (ne688 _ S_r_).1
 have ne_r__t688 := (ne688 _ S_r_).2
 have ne_e__b688 := (ne688 _ S_e_).1
 have ne_e__t688 := (ne688 _ S_e_).2
 have j113_ := (ne688 _ S_s_).1
 have j139_ := (ne688 _ S_s_).2
 have j81_ := L9e_0
 have j82_ := L9e_1
 have j68_ := L9e_2
 have j69_ := L9e_3
 obtain ⟨T9g, X9g, e9g, st9g⟩ := getF X9e hx hZ hown (host := "") (Or.inl (ow hw 32)) Via.refl e9e j68_ (g := (mkF m 11 #[.val (.ref s_), .val (.ref a), .val (.int 0), .val (.int 0), .val .null, .unset] [(.ref b9e), (.ref s_)])) rfl rfl (B d4_11)
 refine oG st9g ?_
 obtain ⟨T9h, h9h, X9h, e9h, W9h, st9h⟩ := putF X9g hx hZ hown (host := "") (Or.inl (ow hw 32)) Via.refl e9g j5_ E_s_ (Or.inr ⟨(ow hw 28), rfl, hnm⟩) (ow hw 14) (ty := (.array .byte)) (by decide) rfl rfl (g := (mkF m 14 #[.val (.ref s_), .val (.ref a), .val (.int 0), .val (.int 0), .val .null, .unset] [(.ref t688), (.ref s_)])) rfl rfl (B d4_14)
 refine oG st9h ?_
 have Sq := S_s_
 have CR := CR.trans (CHr.wr W9h Sq HC)
 have S_r_ := Safe.wr W9h Sq HC S_r_
 have S_e_ := Safe.wr W9h Sq HC S_e_
 have S_s_ := Safe.wr W9h Sq HC S_s_
 have HC := CHv.wr W9h Sq HC
 have E_s_ := E_s_.wr W9h
 have j3_ := j3_.other W9h (Or.inr (slot_ne (Or.inr (ow hw 29)) (Or.inr (ow hw 28)) (by decide) (t := .byte) (t' := (.array .byte)) (by decide) (by decide)))
 have V_a := V_a.other W9h (Ne.symm nsa)
 have E_r_ := E_r_.wr W9h
 have E_e_ := E_e_.wr W9h
 have j81_ := j81_.wr W9h
 have j82_ := j82_.other W9h (Or.inl (Ne.symm j113_))
 have j68_ := j68_.other W9h (Or.inl (Ne.symm j113_))
 have j69_ := j69_.other W9h (Ne.symm j139_)
 have O := O.wr W9h g_s_
 have K9i := K9f.wr W9h (Or.inl (List.mem_of_getElem? (i := 0) rfl))
 have hk := Nat.le_trans hk (Nat.le_of_eq (Wr.size W9h).symm)
 have j5_ := j5_.same W9h
 have N9h := Fr.snoc X9h N0 g_s_
 show oF p e below (T9h.setTop (mkF m 17 #[.val (.ref s_), .val (.ref a), .val (.int 0), .val (.int 0), .val .null, .unset] [])) _
 refine oG (fun _ k => XS.aloadN X9h.here hx rfl (B d4_17) rfl rfl k) ?_
 show oF p e below (T9h.setTop (mkF m 18 #[.val (.ref s_), .val (.ref a), .val (.int 0), .val (.int 0), .val .null, .unset] [(.ref s_)])) _
 obtain ⟨b9j, T9j, h9j, k9j, t693, kb693, X9j, e9j, E9j, hS, hk, hZ, hown, L9j_0, L9j_1, L9j_2, L9j_3, -, -, CQ693, -, ne693, st9j⟩ := ldcCH X9h hx hZ hown (ow hw 26) (o_wS hw) e9h hS hk (o_EW hw) (List.mem_of_getElem? (i := 3) rfl) HC (vs := []) (z := (0 : Int32)) (o_lit_3) (by decide) (by decide) (g := (mkF m 18 #[.val (.ref s_), .val (.ref a), .val (.int 0), .val (.int 0), .val .null, .unset] [(.ref s_)])) rfl (B d4_18) (n := 0) (by decide) (by decide) (by decide) (by decide)
 refine oG st9j ?_
 have CR := CR.trans CQ693
 have S_r_ := CHr.safe CQ693 E_r_.lt S_r_
 have S_e_ := CHr.safe CQ693 E_e_.lt S_e_
 have S_s_ := CHr.safe CQ693 E_s_.lt S_s_
 have E_s_ := E_s_.ext E9j
 have j5_ := j5_.ext E9j
 have j3_ := j3_.ext E9j
 have V_a := V_a.ext E9j
 have E_r_ := E_r_.ext E9j
 have E_e_ := E_e_.ext E9j
 have j81_ := j81_.ext E9j
 have j82_ := j82_.ext E9j
 have j68_ := j68_.ext E9j
 have j69_ := j69_.ext E9j
 have O := O.ext E9j
 have K9k := K9i.ext E9j
 have HC := CQ693.1
 have ne_r__b693 := (ne693 _ S_r_).1
 have ne_r__t693 := (ne693 _ S_r_).2
 have ne_e__b693 := (ne693 _ S_e_).1
 have ne_e__t693 := (ne693 _ S_e_).2
 have j198_ := (ne693 _ S_s_).1
 have ne_s__t693 := (ne693 _ S_s_).2
 have j199_ := L9j_0
 have j140_ := L9j_1
 have j200_ := L9j_2
 have j201_ := L9j_3
 obtain ⟨T9l, X9l, e9l, st9l⟩ := getF X9j hx hZ hown (host := "") (Or.inl (ow hw 33)) Via.refl e9j j140_ (g := (mkF m 20 #[.val (.ref s_), .val (.ref a), .val (.int 0), .val (.int 0), .val .null, .unset] [(.ref b9j), (.ref s_)])) rfl rfl (B d4_20)
 refine oG st9l ?_
 obtain ⟨T9m, h9m, X9m, e9m, W9m, st9m⟩ := putF X9l hx hZ hown (host := "") (Or.inl (ow hw 33)) Via.refl e9l j3_ E_s_ (Or.inr ⟨(ow hw 29), rfl, hnm⟩) (ow hw 14) (ty := .byte) (by decide) rfl rfl (g := (mkF m 23 #[.val (.ref s_), .val (.ref a), .val (.int 0), .val (.int 0), .val .null, .unset] [(.int 0), (.ref s_)])) rfl rfl (B d4_23)
 refine oG st9m ?_
 have Sq := S_s_
 have CR := CR.trans (CHr.wr W9m Sq HC)
 have S_r_ := Safe.wr W9m Sq HC S_r_
 have S_e_ := Safe.wr W9m Sq HC S_e_
 have S_s_ := Safe.wr W9m Sq HC S_s_
 have HC := CHv.wr W9m Sq HC
 have E_s_ := E_s_.wr W9m
 have j5_ := j5_.other W9m (Or.inr (slot_ne (Or.inr (ow hw 28)) (Or.inr (ow hw 29)) (by decide) (t := (.array .byte)) (t' := .byte) (by decide) (by decide)))
 have V_a := V_a.other W9m (Ne.symm nsa)
 have E_r_ := E_r_.wr W9m
 have E_e_ := E_e_.wr W9m
 have j81_ := j81_.wr W9m
 have j82_ := j82_.other W9m (Or.inl (Ne.symm j113_))
 have j68_ := j68_.other W9m (Or.inl (Ne.symm j113_))
 have j69_ := j69_.other W9m (Ne.symm j139_)
 have j199_ := j199_.wr W9m
 have j140_ := j140_.other W9m (Or.inl (Ne.symm j198_))
 have j200_ := j200_.other W9m (Or.inl (Ne.symm j198_))
 have j201_ := j201_.other W9m (Ne.symm ne_s__t693)
 have O := O.wr W9m g_s_
 have K9n := K9k.wr W9m (Or.inl (List.mem_of_getElem? (i := 0) rfl))
 have hk := Nat.le_trans hk (Nat.le_of_eq (Wr.size W9m).symm)
 have j3_ := j3_.same W9m
 have N9m := Fr.snoc X9m N9h g_s_
 show oF p e below (T9m.setTop (mkF m 26 #[.val (.ref s_), .val (.ref a), .val (.int 0), .val (.int 0), .val .null, .unset] [])) _
 obtain ⟨fs, hr, r1, r2, hE⟩ := X9m.leaveW hS (Nat.le_trans hk (Nat.le_of_eq (congrArg Array.size e9m).symm)) (v := none) (fun _ => rfl)
 refine ⟨_, _, ?_, r1, r2, _, _, rfl, ?_, ?_, ⟨_, rfl⟩, hE.2.1, hE.2.2.1, hE.2.2.2.mono (by decide) (by decide)⟩
 ·exact X9m.returnOut hx Bd.returns (B d4_26) hr
 ·show Qsiv Z s_ r_ e_ h0 n0 _ T9m.heap _
  rw [e9m]
  exact ⟨t688, kb688, rfl, N9m, K9n, ne_r__t688, ne_e__t688, j139_, E_s_, j3_, j5_, j69_⟩
 ·show CHr Z o_EL s.vm s.heap T9m.vm T9m.heap
  rw [hh, e9m]
  exact CR.trans (CHv.at X9m hZ (o_EW hw) HC)
def Qsie (Z : State) (s_ : Addr) (r_ : Addr) (e_ : Addr) (h0 : Heap) (n0 : Nat) (v : Option Value) (h : Heap) (L : List Loc) : Prop := ∃ (t_ : Addr) (kb_ : ClassId), v = none ∧ Fr n0 L ∧ Keep h0 h [s_] ∧ r_ ≠ t_ ∧ e_ ≠ t_ ∧ s_ ≠ t_ ∧ eX2 Z h s_ ∧ fL4 Z h s_ (.int 0) ∧ fL3 Z h s_ (.ref t_) ∧ Arv Z h t_ kb_ .byte (0 : Int32) [] (.int 0)
theorem sie (l : Launch) (Z : State) (a0 : Array Value) (hw : ∀ d ∈ tables_1, d.before a0 Z = true) (ws : List Jvm.Cond) (s_ : Addr) (a : Addr) (ka : ClassId) (r_ : Addr) (e_ : Addr) (h0 : Heap) (n0 : Nat) (O : Old Z n0 h0) (E_s_ : eX2 Z h0 s_) (j5_ : fL3 Z h0 s_ .null) (j3_ : fL4 Z h0 s_ (.int 0)) (g_s_ : n0 ≤ s_) (V_a : Arv Z h0 a ka .char (0 : Int32) [] (.int 0)) (nsa : s_ ≠ a) (E_r_ : eX3 Z h0 r_) (E_e_ : eX4 Z h0 e_) (nsr : s_ ≠ r_) (nse : s_ ≠ e_) :
   MetFree l mN46 (head1 (Jvm.Cond.code mN46 jdk_42_method_3_code 2 none :: ws) rM35) (fun a' U' => a' = #[(.ref s_), (.ref a)] ∧ Z.Warmed39 U'.vm ∧ U'.heap = h0 ∧ CHv Z o_EL U'.vm h0) (fun _ _ _ _ _ => True) (fun _ U' o' W' => ∃ v' L', o' = .returned v' ∧ Qsie Z s_ r_ e_ h0 n0 v' W'.heap L' ∧ CHr Z o_EL U'.vm U'.heap W'.vm W'.heap ∧ ReturnedEndW U' o' W' L' rM35.cells rM35.slots) := by
 refine MetFree.of_bodySF (plainFor_of_name pn_2) hisR ?_
 intro p e s m args below meth c s₁ Bd hml0 hP hK
 obtain ⟨rfl, hZ, hh, HC⟩ := hP
 have hx := Bd.exec
 have hby := Bd.bytes
 have B := @hb _ _ hby
 have hml : c.maxLocals = 2 := hml0
 have hown : s.vm.findClass "java/lang/String" = some m.cls := findClass_of_methodNamed Bd.named
 have X0 : Stand p l e rM35 (s.setVm s.vm) m #[(.ref s_), (.ref a)] below meth c s₁ [] 0 0 := Stand.of_body Bd
 have e0 : s₁.heap = h0 := by rw [← hh, Bd.state]; rfl
 have N0 := Fr.nil n0
 have K0 := Keep.refl h0 [s_]
 have CR := CHr.refl HC
 have hS : s.Since s.vm h0.size := (State.WarmedH.refl s).since _
 have hk : h0.size ≤ h0.size := Nat.le_refl _
 refine o_start (ef_iin00 m s_ a) (Q := fun o' t' => ∃ v' L', o' = .returned v' ∧ Qsie Z s_ r_ e_ h0 n0 v' t'.heap L' ∧ CHr Z o_EL s.vm s.heap t'.vm t'.heap ∧ ReturnedEndW s o' t' L' rM35.cells rM35.slots) ?_
 show oF p e below (s₁.setTop (mkF m 0 #[.val (.ref s_), .val (.ref a)] [])) _
 refine oG (fun _ k => XS.aloadN X0.here hx rfl (B d3_0) rfl rfl (XS.aloadN X0.here hx rfl (B d3_1) rfl rfl (XS.iconst X0.here hx rfl (B d3_2) (XS.aloadN X0.here hx rfl (B d3_3) rfl rfl k)))) ?_
 show oF p e below (s₁.setTop (mkF m 4 #[.val (.ref s_), .val (.ref a)] [(.ref a), (.int 0), (.ref a), (.ref s_)])) _
 obtain ⟨cl9o, A9o, -, S9o, M9o, -, -⟩ := id V_a
 refine oG (fun _ k => X0.arraylength hx (o_eqE e0 A9o.1) (State.isArrayOf_alike hZ.alike A9o.2.1) (g := (mkF m 4 #[.val (.ref s_), .val (.ref a)] [(.ref a), (.int 0), (.ref a), (.ref s_)])) rfl rfl (B d3_4) _ (by rw [len_of S9o M9o]; exact k)) ?_
 show oF p e below (s₁.setTop (mkF m 5 #[.val (.ref s_), .val (.ref a)] [(.int 0), (.int 0), (.ref a), (.ref s_)])) _
 refine oG (fun _ k => XS.aconstNull X0.here hx rfl (B d3_5) k) ?_
 show oF p e below (s₁.setTop (mkF m 6 #[.val (.ref s_), .val (.ref a)] [.null, (.int 0), (.int 0), (.ref a), (.ref s_)])) _
 obtain ⟨_, _, ⟨T9p, L9p, k9p, n9p⟩, -, X9p, hS700, hg700, ⟨Lc9p, hQ9p, l9p, y9p, z9p, CQ700⟩, st9p⟩ := X0.specialBackS hx (y := mN45) rfl hown (mo hZ hw 19) (mo hZ hw 20) (mo hZ hw 22) (by decide) (backOfSH (W := 0) (siv l Z a0 hw [] s_ a ka r_ e_ h0 n0 O E_s_ j5_ j3_ g_s_ V_a nsa E_r_ E_e_ nsr nse) hZ (ow hw 22) (ow hw 15) (by decide) (by decide) (o_EW hw) HC) (g := (mkF m 6 #[.val (.ref s_), .val (.ref a)] [.null, (.int 0), (.int 0), (.ref a), (.ref s_)])) rfl (by rw [hml]; rfl) (Steps.refl _) (a := s_) (argsL := [(.ref a), (.int 0), (.int 0), .null]) (rest := []) (lenOf pd_32 rfl) rfl (by show 2 * 0 + _ ≤ _; exact Nat.le_of_eq rfl) (B d3_6) (fun _ _ => ⟨rfl, e0, (by decide : 0 + 4 ≤ _), (by decide : 0 + 8 ≤ _)⟩)
 dsimp only [Pt.U, Pt.locs, Pt.cells, Pt.slots] at X9p l9p y9p z9p st9p hQ9p
 subst l9p y9p z9p
 obtain ⟨X9p, hS, hZ, hown⟩ := rebS hS (Nat.le_trans hk (Nat.le_of_eq (congrArg Array.size e0).symm)) X9p hS700 hg700 hZ hown
 obtain ⟨t_9q, kb_702, rfl, N9pq, Kq9p, P9p_0, P9p_1, P9p_2, P9p_3, P9p_4, P9p_5, P9p_6⟩ := hQ9p
 refine oG (fun _ k => st9p.trans k) ?_
 have N9p := Fr.app N0 N9pq
 have CR := CR.trans CQ700
 have HC := CQ700.1
 have E_s_ := E_s_.keep Kq9p
 clear j5_
 clear j3_
 have V_a := V_a.keep Kq9p (ninS (Ne.symm nsa) nin0)
 have E_r_ := E_r_.keep Kq9p
 have E_e_ := E_e_.keep Kq9p
 have O := O.keep Kq9p (allS g_s_ all0)
 have K9r := K0.trans Kq9p (allS (Or.inl (List.mem_of_getElem? (i := 0) rfl)) all0)
 have hk := Nat.le_refl T9p.heap.size
 have E_s_ := P9p_3
 have j3_ := P9p_4
 have j5_ := P9p_5
 have V_t_701 := P9p_6
 show oF p e below (T9p.setTop (mkF m 9 #[.val (.ref s_), .val (.ref a)] [])) _
 obtain ⟨fs, hr, r1, r2, hE⟩ := X9p.leaveW hS hk (v := none) (fun _ => rfl)
 refine ⟨_, _, ?_, r1, r2, _, _, rfl, ?_, ?_, ⟨_, rfl⟩, hE.2.1, hE.2.2.1, hE.2.2.2.mono (by decide) (by decide)⟩
 ·exact X9p.returnOut hx Bd.returns (B d3_9) hr
 ·show Qsie Z s_ r_ e_ h0 n0 _ T9p.heap _
  exact ⟨t_9q, kb_702, rfl, N9p, K9r, P9p_0, P9p_1, P9p_2, E_s_, j3_, j5_, V_t_701⟩
 ·show CHr Z o_EL s.vm s.heap T9p.vm T9p.heap
  rw [hh]
  exact CR.trans (CHv.at X9p hZ (o_EW hw) HC)
theorem o_kk3 (m : Int32) : ((m &&& (2147483647 : Int32)) % (3 : Int32)) = 0 ∨ ((m &&& (2147483647 : Int32)) % (3 : Int32)) = 1 ∨ ((m &&& (2147483647 : Int32)) % (3 : Int32)) = 2 := by
 have h1 := c_mask m 2147483647 31 (by decide) (by decide)
 have h2 := (c_irem (m &&& 2147483647) 3 3 (by decide)).1 (by omega)
 have k0 : (0 : Int32).toInt = 0 := by decide
 have k1 : (1 : Int32).toInt = 1 := by decide
 have k2 : (2 : Int32).toInt = 2 := by decide
 rw [← Int32.toInt_inj, ← Int32.toInt_inj, ← Int32.toInt_inj]
 omega
theorem o_chA (l : List Int32) (c : Int32) : o_ch l ++ [.int c] = o_ch (l ++ [c]) := by unfold o_ch; rw [List.map_append]; rfl
theorem o_chB (l k : List Int32) : o_ch l ++ o_ch k = o_ch (l ++ k) := by unfold o_ch; rw [List.map_append]
theorem o_hdl : (o_ch o_HD).length = 17 := by rw [o_chl]; rfl
theorem o_hdr : o_rng o_HD := by unfold o_rng o_HD; decide
theorem o_tlr (f : Int32) : o_rng (o_TL f) := by
 unfold o_TL o_rng o_TL0 o_TL1; split <;> decide
theorem o_nz {f : Int32} (h : f = 0 ∨ f = 1) : nar .boolean f = f := by
 rcases h with rfl | rfl <;> decide
theorem o_meq {ds : List Int32} {f : Int32} (hf : f = (0 : Int32) ∨ f = (1 : Int32)) : o_m5 ds f = (o_HD ++ ds) ++ o_TL f := by
 have e : o_m1 = o_HD := rfl
 unfold o_m5 o_m4 o_m3 o_m2
 rw [e, List.append_assoc, List.append_assoc]
 congr 1
 rcases hf with rfl | rfl <;> decide
theorem o_wl {ds : List Int32} {f : Int32} (h : ds.length ≤ 2) : ((o_HD ++ ds) ++ o_TL f).length = 17 + ds.length + (o_TL f).length ∧ ((o_HD ++ ds) ++ o_TL f).length ≤ 40 := by
 have a := o_tll f
 have b : o_HD.length = 17 := rfl
 rw [List.length_append, List.length_append, b]
 exact ⟨rfl, by omega⟩
theorem o_17 {n : Int32} {ds : List Int32} (h : n.toInt = (ds.length : Int)) (h2 : ds.length ≤ 2) : ((17 : Int32) + n).toInt = ((o_ch (o_HD ++ ds)).length : Int) := by
 have b : o_HD.length = 17 := rfl
 have c := c_iadd 17 n
 have r := rng32 (17 + n)
 have e : (17 : Int32).toInt = 17 := by decide
 rw [o_chl, List.length_append, b]; omega
theorem o_nz0 {M : Int32} {k : Nat} (h : M.toInt = (k : Int)) (hk : 0 < k) : ¬ (M = (0 : Int32)) := fun q => by
 have z : (0 : Int32).toInt = 0 := by decide
 rw [q, z] at h; omega
theorem o_r2 {c d : Int32} (h : o_rng [c]) (k : o_rng [d]) : o_rng [c, d] := o_rng_app (a := [c]) h k
theorem pd_37 : parseMethodDescriptor "([CIZ)V" = some ⟨[(.array .char), .int, .boolean], none⟩ := by decide +kernel
theorem pd_38 : parseMethodDescriptor "(Ljava/lang/String;Z)V" = some ⟨[(.object "java/lang/String"), .boolean], none⟩ := by decide +kernel
theorem pd_39 : parseMethodDescriptor "([C)V" = some ⟨[(.array .char)], none⟩ := by decide +kernel
theorem pd_40 : parseMethodDescriptor "(Ljava/lang/Object;)Z" = some ⟨[(.object "java/lang/Object")], some .boolean⟩ := by decide +kernel
theorem ef_rm0 (m : MethodId) (x0 : Int32) (x1 : Int32) (x2 : Int32) (x3 : Int32) : entryFrame m #[(.int x0), (.int x1), (.int x2), (.int x3)] maxLocals = mkF m 0 #[.val (.int x0), .val (.int x1), .val (.int x2), .val (.int x3), .unset, .unset, .unset, .unset, .unset, .unset, .unset] [] := by first | (simp [entryFrame, mkF, argsToLocals, Value.category, maxLocals]; done) | rfl
def Qrm0 (Z : State)  (h0 : Heap) (n0 : Nat) (v : Option Value) (h : Heap) (L : List Loc) : Prop := v = some (.int 1) ∧ Fr n0 L ∧ Keep h0 h []
theorem rm0 (l : Launch) (Z : State) (a0 : Array Value) (hw : ∀ d ∈ tables_1, d.before a0 Z = true) (ws : List Jvm.Cond) (p0 : Int32) (p1 : Int32) (p2 : Int32) (p3 : Int32) (z : Int32) (fm : Value) (h0 : Heap) (n0 : Nat) (O : Old Z n0 h0) (j8_ : sT0 Z (.int 1)) (j9_ : sT1 Z (.int 0)) (j10_ : sT2 Z (.int 8)) (j13_ : sT3 Z fm) (hfm : fm.isRef = true) (j6_ : sT4 Z (.int z)) (hz : ¬ (z = (0 : Int32))) :
   MetFree l x (head1 (Jvm.Cond.code x code maxLocals ret :: ws) room_1) (fun a' U' => a' = #[(.int p0), (.int p1), (.int p2), (.int p3)] ∧ Z.Warmed39 U'.vm ∧ U'.heap = h0 ∧ CHv Z o_EL U'.vm h0) (fun _ _ _ _ _ => True) (fun _ U' o' W' => ∃ v' L', o' = .returned v' ∧ Qrm0 Z  h0 n0 v' W'.heap L' ∧ CHr Z o_EL U'.vm U'.heap W'.vm W'.heap ∧ ReturnedEndW U' o' W' L' 30 2315) := by
 refine MetFree.of_bodySF (plainFor_of_name pn_8) hisR ?_
 intro p e s m args below meth c s₁ Bd hml0 hP hK
 obtain ⟨rfl, hZ, hh, HC⟩ := hP
 have hx := Bd.exec
 have hby := Bd.bytes
 have B := @hb _ _ hby
 have hml : c.maxLocals = 11 := hml0
 have hown : s.vm.findClass "com/example/holdfast/holdfast/RenewalToStringPinLaw" = some m.cls := findClass_of_methodNamed Bd.named
 have X0 : Stand p l e room_1 (s.setVm s.vm) m #[(.int p0), (.int p1), (.int p2), (.int p3)] below meth c s₁ [] 0 0 := Stand.of_body Bd
 have e0 : s₁.heap = h0 := by rw [← hh, Bd.state]; rfl
 have N0 := Fr.nil n0
 have K0 := Keep.refl h0 []
 have CR := CHr.refl HC
 have hS : s.Since s.vm h0.size := (State.WarmedH.refl s).since _
 have hk : h0.size ≤ h0.size := Nat.le_refl _
 refine o_start (ef_rm0 m p0 p1 p2 p3) (Q := fun o' t' => ∃ v' L', o' = .returned v' ∧ Qrm0 Z  h0 n0 v' t'.heap L' ∧ CHr Z o_EL s.vm s.heap t'.vm t'.heap ∧ ReturnedEndW s o' t' L' 30 2315) ?_
 show oF p e below (s₁.setTop (mkF m 0 #[.val (.int p0), .val (.int p1), .val (.int p2), .val (.int p3), .unset, .unset, .unset, .unset, .unset, .unset, .unset] [])) _
 have mn : ∀ (T9s : State) (L9s : List Loc) (h9s : Heap) (vm705 : Vm) (kS705 : Nat) (nA : Addr) (eA : Addr) (kN : ClassId) (kE : ClassId) (NN : Int32) (M : Int32) (nn : Int32) (f_ : Int32) (ds : List Int32) (s6l : Slot) (s7l : Slot), Stand p l e room_1 (s.setVm vm705) m #[(.int p0), (.int p1), (.int p2), (.int p3)] below meth c T9s L9s 2 37 → T9s.heap = h9s → Fr n0 L9s → s.Since vm705 kS705 → kS705 ≤ h9s.size → Z.Warmed39 (s.setVm vm705).vm → (s.setVm vm705).vm.findClass "com/example/holdfast/holdfast/RenewalToStringPinLaw" = some m.cls → CHv Z o_EL vm705 h9s → CHr Z o_EL s.vm h0 vm705 h9s → Old Z n0 h9s → Keep h0 h9s [] → Arv Z h9s nA kN .char NN (o_ch ds) (.int 0) → Arv Z h9s eA kE .char M (o_ch (o_HD ++ ds)) (.int 0) → eX4 Z h9s nA → eX4 Z h9s eA → o_rng ds → ds.length ≤ 2 → NN.toInt = (ds.length : Int) → nn.toInt = (ds.length : Int) → (f_ = (0 : Int32) ∨ f_ = (1 : Int32)) → M.toInt = (17 + ds.length + (o_TL f_).length : Nat) → n0 ≤ nA → n0 ≤ eA → h0.size ≤ nA → h0.size ≤ eA → nA ≠ eA → oF p e below (T9s.setTop (mkF m 167 #[.val (.int p0), .val (.int p1), .val (.int p2), .val (.int p3), .val (.int nn), .val (.int f_), s6l, s7l, .val (.ref nA), .val (.ref eA), .unset] [])) (fun o' t' => ∃ v' L', o' = .returned v' ∧ Qrm0 Z  h0 n0 v' t'.heap L' ∧ CHr Z o_EL s.vm s.heap t'.vm t'.heap ∧ ReturnedEndW s o' t' L' 30 2315) := by
  intro T9s L9s h9s vm705 kS705 nA eA kN kE NN M nn f_ ds s6l s7l X9s e9s N9s hS hk hZ hown HC CR O K9s V_nA V_eA E_nA E_eA hrg h2 hNN hnn hf hM g_nA g_eA sz_nA sz_eA j45_
  show oF p e below (T9s.setTop (mkF m 167 #[.val (.int p0), .val (.int p1), .val (.int p2), .val (.int p3), .val (.int nn), .val (.int f_), s6l, s7l, .val (.ref nA), .val (.ref eA), .unset] [])) _
  refine oG (fun _ k => XS.aload X9s.here hx rfl (B at_167) rfl rfl (XS.bipush X9s.here hx rfl (B at_169) (XS.iload X9s.here hx rfl (B at_171) rfl (XS.iadd X9s.here hx rfl (B at_173) rfl (XS.iload X9s.here hx rfl (B at_174) rfl k))))) ?_
  show oF p e below (T9s.setTop (mkF m 176 #[.val (.int p0), .val (.int p1), .val (.int p2), .val (.int p3), .val (.int nn), .val (.int f_), s6l, s7l, .val (.ref nA), .val (.ref eA), .unset] [(.int f_), (.int ((17 : Int32) + nn)), (.ref eA)])) _
  have htl := o_tll f_
  obtain ⟨_, _, ⟨T9t, L9t, k9t, n9t⟩, -, X9t, ⟨Lc9t, hQ9t, l9t, y9t, z9t⟩, st9t⟩ := Jvm.LawKit.callS X9s hx (y := mN50) hown (mo hZ hw 7) (mo hZ hw 8) (mo hZ hw 5) (mo hZ hw 9) (by decide) (backOf (W := 0) (tl l Z a0 hw [] eA ((17 : Int32) + nn) f_ kE M (o_ch (o_HD ++ ds)) h9s n0 O V_eA g_eA (o_17 hnn h2) (by rw [o_chl, List.length_append, show o_HD.length = 17 from rfl]; omega) (by omega)) hZ (ow hw 9) (ow hw 5) (by decide) (by decide)) (g := (mkF m 176 #[.val (.int p0), .val (.int p1), .val (.int p2), .val (.int p3), .val (.int nn), .val (.int f_), s6l, s7l, .val (.ref nA), .val (.ref eA), .unset] [(.int f_), (.int ((17 : Int32) + nn)), (.ref eA)])) rfl (by rw [hml]; rfl) (argsL := [(.ref eA), (.int ((17 : Int32) + nn)), (.int f_)]) (rest := []) (lenOf pd_37 rfl) rfl (by show 2 * 0 + _ ≤ _; exact Nat.le_of_eq rfl) (B at_176) (fun _ _ => ⟨rfl, e9s, (by decide : 2 + 0 ≤ _), (by decide : 37 + 0 ≤ _)⟩)
  dsimp only [Pt.U, Pt.locs, Pt.cells, Pt.slots] at X9t l9t y9t z9t st9t hQ9t
  subst y9t z9t
  obtain ⟨rfl, N9tq, Kq9t, P9t_0⟩ := hQ9t
  refine oG st9t ?_
  have N9t := oL l9t (Fr.app N9s N9tq)
  have Sq := (sfS (Safe.exa (EL := o_EL) hZ.alike E_eA (by decide) (by decide)) sf0)
  have CR := CR.trans (CHr.keep Kq9t Sq HC)
  have HC := CHv.keep Kq9t Sq HC
  have V_nA := V_nA.keep Kq9t (ninS j45_ nin0)
  clear V_eA
  have E_nA := E_nA.keep Kq9t
  have E_eA := E_eA.keep Kq9t
  have O := O.keep Kq9t (allS g_eA all0)
  have K9u := K9s.trans Kq9t (allS (Or.inr sz_eA) all0)
  have hk := Nat.le_trans hk Kq9t.1
  have V_eA := P9t_0
  show oF p e below (T9t.setTop (mkF m 179 #[.val (.int p0), .val (.int p1), .val (.int p2), .val (.int p3), .val (.int nn), .val (.int f_), s6l, s7l, .val (.ref nA), .val (.ref eA), .unset] [])) _
  have V_eA : Arv Z T9t.heap eA kE .char M (o_ch ((o_HD ++ ds) ++ o_TL f_)) (.int 0) := by rw [← o_chB]; exact V_eA
  show oF p e below (T9t.setTop (mkF m 179 #[.val (.int p0), .val (.int p1), .val (.int p2), .val (.int p3), .val (.int nn), .val (.int f_), s6l, s7l, .val (.ref nA), .val (.ref eA), .unset] [])) _
  obtain ⟨T9v, h9v, X9v, e9v, E9v, A9v, D9v, -, st9v⟩ := newO X9t hx hZ hown (ow hw 10) (ow hw 11) (ow hw 12) rfl (g := (mkF m 179 #[.val (.int p0), .val (.int p1), .val (.int p2), .val (.int p3), .val (.int nn), .val (.int f_), s6l, s7l, .val (.ref nA), .val (.ref eA), .unset] [])) rfl (B at_179) (by decide) (by decide)
  obtain ⟨b9v, g9v⟩ : ∃ z, z = T9t.heap.size := ⟨_, rfl⟩
  rw [← g9v] at A9v D9v st9v
  refine oG st9v ?_
  have ne_nA_b708 : nA ≠ b9v := Nat.ne_of_lt (Nat.lt_of_lt_of_le V_nA.lt (Nat.le_of_eq g9v.symm))
  have ne_eA_b708 : eA ≠ b9v := Nat.ne_of_lt (Nat.lt_of_lt_of_le E_eA.lt (Nat.le_of_eq g9v.symm))
  have j202_ : n0 ≤ b9v := Nat.le_trans (o_osz O) (Nat.le_of_eq g9v.symm)
  have sz_b708 : h0.size ≤ b9v := Nat.le_trans K9u.1 (Nat.le_of_eq g9v.symm)
  have CR := CR.trans (CHr.ext E9v HC)
  have j29_ := Safe.ext E9v HC (Safe.new (Nat.le_of_eq g9v.symm))
  have HC := CHv.ext E9v HC
  have V_nA := V_nA.ext E9v
  have E_nA := E_nA.ext E9v
  have E_eA := E_eA.ext E9v
  have V_eA := V_eA.ext E9v
  have O := O.ext E9v
  have K9w := K9u.ext E9v
  have hk := Nat.le_trans hk E9v.1
  have j19_ := A9v
  have j27_ : fL6 Z h9v b9v .null := D9v (Or.inr (ow hw 39)) (ty := (.object "java/lang/String")) (by decide)
  have j25_ : fL7 Z h9v b9v (.int 0) := D9v (Or.inr (ow hw 41)) (ty := .boolean) (by decide)
  show oF p e below (T9v.setTop (mkF m 182 #[.val (.int p0), .val (.int p1), .val (.int p2), .val (.int p3), .val (.int nn), .val (.int f_), s6l, s7l, .val (.ref nA), .val (.ref eA), .unset] [(.ref b9v)])) _
  refine oG (fun _ k => XS.dup X9v.here hx rfl (B at_182) rfl rfl k) ?_
  show oF p e below (T9v.setTop (mkF m 183 #[.val (.int p0), .val (.int p1), .val (.int p2), .val (.int p3), .val (.int nn), .val (.int f_), s6l, s7l, .val (.ref nA), .val (.ref eA), .unset] [(.ref b9v), (.ref b9v)])) _
  obtain ⟨T9x, h9x, X9x, e9x, E9x, A9x, D9x, -, st9x⟩ := newO X9v hx hZ hown (ow hw 13) (ow hw 14) (ow hw 15) e9v (g := (mkF m 183 #[.val (.int p0), .val (.int p1), .val (.int p2), .val (.int p3), .val (.int nn), .val (.int f_), s6l, s7l, .val (.ref nA), .val (.ref eA), .unset] [(.ref b9v), (.ref b9v)])) rfl (B at_183) (by decide) (by decide)
  obtain ⟨b9x, g9x⟩ : ∃ z, z = h9v.size := ⟨_, rfl⟩
  rw [← g9x] at A9x D9x st9x
  refine oG st9x ?_
  have j114_ : nA ≠ b9x := Nat.ne_of_lt (Nat.lt_of_lt_of_le V_nA.lt (Nat.le_of_eq g9x.symm))
  have j141_ : eA ≠ b9x := Nat.ne_of_lt (Nat.lt_of_lt_of_le E_eA.lt (Nat.le_of_eq g9x.symm))
  have j70_ : b9v ≠ b9x := Nat.ne_of_lt (Nat.lt_of_lt_of_le j19_.lt (Nat.le_of_eq g9x.symm))
  have j115_ : n0 ≤ b9x := Nat.le_trans (o_osz O) (Nat.le_of_eq g9x.symm)
  have j203_ : h0.size ≤ b9x := Nat.le_trans K9w.1 (Nat.le_of_eq g9x.symm)
  have CR := CR.trans (CHr.ext E9x HC)
  have j29_ := Safe.ext E9x HC j29_
  have j35_ := Safe.ext E9x HC (Safe.new (Nat.le_of_eq g9x.symm))
  have HC := CHv.ext E9x HC
  have V_nA := V_nA.ext E9x
  have E_nA := E_nA.ext E9x
  have E_eA := E_eA.ext E9x
  have V_eA := V_eA.ext E9x
  have j19_ := j19_.ext E9x
  have j27_ := j27_.ext E9x
  have j25_ := j25_.ext E9x
  have O := O.ext E9x
  have K9y := K9w.ext E9x
  have hk := Nat.le_trans hk E9x.1
  have j22_ := A9x
  have j83_ : fL3 Z h9x b9x .null := D9x (Or.inr (ow hw 28)) (ty := (.array .byte)) (by decide)
  have j84_ : fL4 Z h9x b9x (.int 0) := D9x (Or.inr (ow hw 29)) (ty := .byte) (by decide)
  show oF p e below (T9x.setTop (mkF m 186 #[.val (.int p0), .val (.int p1), .val (.int p2), .val (.int p3), .val (.int nn), .val (.int f_), s6l, s7l, .val (.ref nA), .val (.ref eA), .unset] [(.ref b9x), (.ref b9v), (.ref b9v)])) _
  refine oG (fun _ k => XS.dup X9x.here hx rfl (B at_186) rfl rfl (XS.aload X9x.here hx rfl (B at_187) rfl rfl k)) ?_
  show oF p e below (T9x.setTop (mkF m 189 #[.val (.int p0), .val (.int p1), .val (.int p2), .val (.int p3), .val (.int nn), .val (.int f_), s6l, s7l, .val (.ref nA), .val (.ref eA), .unset] [(.ref nA), (.ref b9x), (.ref b9x), (.ref b9v), (.ref b9v)])) _
  have m2 : ∀ (T9z : State) (L9z : List Loc) (h9z : Heap) (vm712 : Vm) (kS712 : Nat) (ts : Addr) (ks : ClassId), Stand p l e room_1 (s.setVm vm712) m #[(.int p0), (.int p1), (.int p2), (.int p3)] below meth c T9z L9z 8 343 → T9z.heap = h9z → Fr n0 L9z → s.Since vm712 kS712 → kS712 ≤ h9z.size → Z.Warmed39 (s.setVm vm712).vm → (s.setVm vm712).vm.findClass "com/example/holdfast/holdfast/RenewalToStringPinLaw" = some m.cls → CHv Z o_EL vm712 h9z → CHr Z o_EL s.vm h0 vm712 h9z → Safe Z o_EL vm712 h9z b9v → Safe Z o_EL vm712 h9z b9x → Old Z n0 h9z → Keep h0 h9z [] → eX4 Z h9z nA → eX4 Z h9z eA → Arv Z h9z eA kE .char M (o_ch ((o_HD ++ ds) ++ o_TL f_)) (.int 0) → eX3 Z h9z b9v → fL6 Z h9z b9v .null → fL7 Z h9z b9v (.int 0) → eX2 Z h9z b9x → o_ST Z h9z b9x ts ks ds → ts ≠ eA → ts ≠ b9v → oF p e below (T9z.setTop (mkF m 192 #[.val (.int p0), .val (.int p1), .val (.int p2), .val (.int p3), .val (.int nn), .val (.int f_), s6l, s7l, .val (.ref nA), .val (.ref eA), .unset] [(.ref b9x), (.ref b9v), (.ref b9v)])) (fun o' t' => ∃ v' L', o' = .returned v' ∧ Qrm0 Z  h0 n0 v' t'.heap L' ∧ CHr Z o_EL s.vm s.heap t'.vm t'.heap ∧ ReturnedEndW s o' t' L' 30 2315) := by
   intro T9z L9z h9z vm712 kS712 ts ks X9z e9z N9z hS hk hZ hown HC CR j29_ j35_ O K9z E_nA E_eA V_eA j19_ j27_ j25_ j22_ j31_ ne_eA_ts ne_r_ts
   show oF p e below (T9z.setTop (mkF m 192 #[.val (.int p0), .val (.int p1), .val (.int p2), .val (.int p3), .val (.int nn), .val (.int f_), s6l, s7l, .val (.ref nA), .val (.ref eA), .unset] [(.ref b9x), (.ref b9v), (.ref b9v)])) _
   refine oG (fun _ k => XS.iload X9z.here hx rfl (B at_192) rfl k) ?_
   show oF p e below (T9z.setTop (mkF m 194 #[.val (.int p0), .val (.int p1), .val (.int p2), .val (.int p3), .val (.int nn), .val (.int f_), s6l, s7l, .val (.ref nA), .val (.ref eA), .unset] [(.int f_), (.ref b9x), (.ref b9v), (.ref b9v)])) _
   obtain ⟨_, _, ⟨T9A, L9A, k9A, n9A⟩, -, X9A, ⟨Lc9A, hQ9A, l9A, y9A, z9A⟩, st9A⟩ := X9z.specialBack hx (y := mN53) rfl hown (mo hZ hw 34) (mo hZ hw 35) (mo hZ hw 36) (by decide) (backOf (W := 1) (rin l Z a0 hw [] b9v b9x f_ h9z n0 O j19_ j27_ j25_ j202_ j22_ (Ne.symm j70_)) hZ (ow hw 36) (ow hw 12) (by decide) (by decide)) (g := (mkF m 194 #[.val (.int p0), .val (.int p1), .val (.int p2), .val (.int p3), .val (.int nn), .val (.int f_), s6l, s7l, .val (.ref nA), .val (.ref eA), .unset] [(.int f_), (.ref b9x), (.ref b9v), (.ref b9v)])) rfl (by rw [hml]; rfl) (Steps.refl _) (a := b9v) (argsL := [(.ref b9x), (.int f_)]) (rest := [(.ref b9v)]) (lenOf pd_38 rfl) rfl (by show 2 * 0 + _ ≤ _; exact Nat.le_of_eq rfl) (B at_194) (fun _ _ => ⟨rfl, e9z, (by decide : 8 + 0 ≤ _), (by decide : 343 + 0 ≤ _)⟩)
   dsimp only [Pt.U, Pt.locs, Pt.cells, Pt.slots] at X9A l9A y9A z9A st9A hQ9A
   subst y9A z9A
   obtain ⟨rfl, N9Aq, Kq9A, P9A_0, P9A_1, P9A_2⟩ := hQ9A
   refine oG (fun _ k => st9A.trans k) ?_
   have N9A := oL l9A (Fr.app N9z N9Aq)
   have Sq := (sfS j29_ sf0)
   have CR := CR.trans (CHr.keep Kq9A Sq HC)
   have j29_ := Safe.keep Kq9A Sq HC j29_
   have j35_ := Safe.keep Kq9A Sq HC j35_
   have HC := CHv.keep Kq9A Sq HC
   have E_nA := E_nA.keep Kq9A
   have E_eA := E_eA.keep Kq9A
   have V_eA := V_eA.keep Kq9A (ninS ne_eA_b708 nin0)
   have j19_ := j19_.keep Kq9A
   clear j27_
   clear j25_
   have j22_ := j22_.keep Kq9A
   have j31_ := o_ST_keep j31_ Kq9A (ninS (Ne.symm j70_) nin0) (ninS ne_r_ts nin0)
   have O := O.keep Kq9A (allS j202_ all0)
   have K9B := K9z.trans Kq9A (allS (Or.inr sz_b708) all0)
   have hk := Nat.le_trans hk Kq9A.1
   have j19_ := P9A_0
   have j27_ := P9A_1
   have j25_ := P9A_2
   show oF p e below (T9A.setTop (mkF m 197 #[.val (.int p0), .val (.int p1), .val (.int p2), .val (.int p3), .val (.int nn), .val (.int f_), s6l, s7l, .val (.ref nA), .val (.ref eA), .unset] [(.ref b9v)])) _
   rw [o_nz hf] at j25_
   show oF p e below (T9A.setTop (mkF m 197 #[.val (.int p0), .val (.int p1), .val (.int p2), .val (.int p3), .val (.int nn), .val (.int f_), s6l, s7l, .val (.ref nA), .val (.ref eA), .unset] [(.ref b9v)])) _
   obtain ⟨cq9C, kq9C, q9Ca, q9Cb, q9Cc⟩ := isOf hZ rfl j19_
   obtain ⟨_, _, ⟨T9C, L9C, k9C, n9C⟩, -, X9C, hS715, hg715, ⟨Lc9C, hQ9C, l9C, y9C, z9C, CQ715⟩, st9C⟩ := X9A.virtualBackS hx (y := mN54) (z := mN54) hown (mo hZ hw 42) (mo hZ hw 43) (notFace_of_selects (args := #[]) (mo hZ hw 45)) (mo hZ hw 45) (mo hZ hw 44) (by decide) (backOfSH (W := 0) (rts l Z a0 hw [] b9v z fm b9x ts ks ds f_ (T9A.heap) n0 O j8_ j9_ j10_ j13_ hfm j6_ hz j19_ j27_ j25_ j22_ j31_ hf h2) hZ (ow hw 46) (ow hw 12) (by decide) (by decide) (o_EW hw) HC) q9Ca q9Cc (g := (mkF m 197 #[.val (.int p0), .val (.int p1), .val (.int p2), .val (.int p3), .val (.int nn), .val (.int f_), s6l, s7l, .val (.ref nA), .val (.ref eA), .unset] [(.ref b9v)])) rfl (by rw [hml]; rfl) (Steps.refl _) (argsL := []) (rest := []) (lenOf pd_36 rfl) rfl (by show 2 * 0 + _ ≤ _; exact Nat.le_of_eq rfl) (B at_197) (fun _ _ => ⟨rfl, rfl, (by decide : 8 + 19 ≤ _), (by decide : 343 + 1728 ≤ _)⟩)
   dsimp only [Pt.U, Pt.locs, Pt.cells, Pt.slots] at X9C l9C y9C z9C st9C hQ9C
   subst l9C y9C z9C
   obtain ⟨X9C, hS, hZ, hown⟩ := rebS hS hk X9C hS715 hg715 hZ hown
   obtain ⟨o_716, t2_9D, k2_9E, rfl, N9Cq, Kq9C, P9C_0, P9C_1, P9C_2, P9C_3⟩ := hQ9C
   refine oG (fun _ k => st9C.trans k) ?_
   have N9C := Fr.app N9A N9Cq
   have ne_nA_o_716 : nA ≠ o_716 := Nat.ne_of_lt (Nat.lt_of_lt_of_le E_nA.lt P9C_0)
   have ne_eA_o_716 : eA ≠ o_716 := Nat.ne_of_lt (Nat.lt_of_lt_of_le E_eA.lt P9C_0)
   have ne_b708_o_716 : b9v ≠ o_716 := Nat.ne_of_lt (Nat.lt_of_lt_of_le j19_.lt P9C_0)
   have ne_b710_o_716 : b9x ≠ o_716 := Nat.ne_of_lt (Nat.lt_of_lt_of_le j22_.lt P9C_0)
   have ne_ts_o_716 : ts ≠ o_716 := Nat.ne_of_lt (Nat.lt_of_lt_of_le j31_.lt P9C_0)
   have g_o_716 : n0 ≤ o_716 := Nat.le_trans (o_osz O) P9C_0
   have sz_o_716 : h0.size ≤ o_716 := Nat.le_trans K9B.1 P9C_0
   have ne_nA_t2_717 : nA ≠ t2_9D := Nat.ne_of_lt (Nat.lt_of_lt_of_le E_nA.lt P9C_1)
   have ne_eA_t2_717 : eA ≠ t2_9D := Nat.ne_of_lt (Nat.lt_of_lt_of_le E_eA.lt P9C_1)
   have ne_b708_t2_717 : b9v ≠ t2_9D := Nat.ne_of_lt (Nat.lt_of_lt_of_le j19_.lt P9C_1)
   have ne_b710_t2_717 : b9x ≠ t2_9D := Nat.ne_of_lt (Nat.lt_of_lt_of_le j22_.lt P9C_1)
   have ne_ts_t2_717 : ts ≠ t2_9D := Nat.ne_of_lt (Nat.lt_of_lt_of_le j31_.lt P9C_1)
   have g_t2_717 : n0 ≤ t2_9D := Nat.le_trans (o_osz O) P9C_1
   have sz_t2_717 : h0.size ≤ t2_9D := Nat.le_trans K9B.1 P9C_1
   have CR := CR.trans CQ715
   have j29_ := CHr.safe CQ715 j19_.lt j29_
   have j35_ := CHr.safe CQ715 j22_.lt j35_
   have HC := CQ715.1
   have E_nA := E_nA.keep Kq9C
   have E_eA := E_eA.keep Kq9C
   have V_eA := V_eA.keep Kq9C nin0
   have j19_ := j19_.keep Kq9C
   have j22_ := j22_.keep Kq9C
   have j31_ := o_ST_keep j31_ Kq9C nin0 nin0
   have j27_ := j27_.keep Kq9C nin0
   have j25_ := j25_.keep Kq9C nin0
   have O := O.keep Kq9C all0
   have K9F := K9B.trans Kq9C all0
   have hk := Nat.le_refl T9C.heap.size
   have j49_ := P9C_2
   have j50_ := P9C_3
   show oF p e below (T9C.setTop (mkF m 200 #[.val (.int p0), .val (.int p1), .val (.int p2), .val (.int p3), .val (.int nn), .val (.int f_), s6l, s7l, .val (.ref nA), .val (.ref eA), .unset] [(.ref o_716)])) _
   refine oG (fun _ k => XS.astore X9C.here hx rfl (B at_200) rfl rfl (l' := #[.val (.int p0), .val (.int p1), .val (.int p2), .val (.int p3), .val (.int nn), .val (.int f_), s6l, s7l, .val (.ref nA), .val (.ref eA), .val (.ref o_716)]) rfl (XS.aload X9C.here hx rfl (B at_202) rfl rfl (XS.ifnullNo X9C.here hx rfl (B at_204) rfl (XS.aload X9C.here hx rfl (B at_207) rfl rfl k)))) ?_
   show oF p e below (T9C.setTop (mkF m 209 #[.val (.int p0), .val (.int p1), .val (.int p2), .val (.int p3), .val (.int nn), .val (.int f_), s6l, s7l, .val (.ref nA), .val (.ref eA), .val (.ref o_716)] [(.ref o_716)])) _
   obtain ⟨T9G, h9G, X9G, e9G, E9G, A9G, D9G, -, st9G⟩ := newO X9C hx hZ hown (ow hw 13) (ow hw 14) (ow hw 15) rfl (g := (mkF m 209 #[.val (.int p0), .val (.int p1), .val (.int p2), .val (.int p3), .val (.int nn), .val (.int f_), s6l, s7l, .val (.ref nA), .val (.ref eA), .val (.ref o_716)] [(.ref o_716)])) rfl (B at_209) (by decide) (by decide)
   obtain ⟨b9G, g9G⟩ : ∃ z, z = T9C.heap.size := ⟨_, rfl⟩
   rw [← g9G] at A9G D9G st9G
   refine oG st9G ?_
   have ne_nA_b720 : nA ≠ b9G := Nat.ne_of_lt (Nat.lt_of_lt_of_le E_nA.lt (Nat.le_of_eq g9G.symm))
   have j204_ : eA ≠ b9G := Nat.ne_of_lt (Nat.lt_of_lt_of_le E_eA.lt (Nat.le_of_eq g9G.symm))
   have j205_ : b9v ≠ b9G := Nat.ne_of_lt (Nat.lt_of_lt_of_le j19_.lt (Nat.le_of_eq g9G.symm))
   have ne_b710_b720 : b9x ≠ b9G := Nat.ne_of_lt (Nat.lt_of_lt_of_le j22_.lt (Nat.le_of_eq g9G.symm))
   have ne_ts_b720 : ts ≠ b9G := Nat.ne_of_lt (Nat.lt_of_lt_of_le j31_.lt (Nat.le_of_eq g9G.symm))
   have j206_ : o_716 ≠ b9G := Nat.ne_of_lt (Nat.lt_of_lt_of_le j49_.lt (Nat.le_of_eq g9G.symm))
   have ne_t2_717_b720 : t2_9D ≠ b9G := Nat.ne_of_lt (Nat.lt_of_lt_of_le j50_.lt (Nat.le_of_eq g9G.symm))
   have j207_ : n0 ≤ b9G := Nat.le_trans (o_osz O) (Nat.le_of_eq g9G.symm)
   have sz_b720 : h0.size ≤ b9G := Nat.le_trans K9F.1 (Nat.le_of_eq g9G.symm)
   have CR := CR.trans (CHr.ext E9G HC)
   have j29_ := Safe.ext E9G HC j29_
   have j35_ := Safe.ext E9G HC j35_
   have j94_ := Safe.ext E9G HC (Safe.new (Nat.le_of_eq g9G.symm))
   have HC := CHv.ext E9G HC
   have E_nA := E_nA.ext E9G
   have E_eA := E_eA.ext E9G
   have V_eA := V_eA.ext E9G
   have j19_ := j19_.ext E9G
   have j22_ := j22_.ext E9G
   have j31_ := o_ST_ext j31_ E9G
   have j27_ := j27_.ext E9G
   have j25_ := j25_.ext E9G
   have j49_ := j49_.ext E9G
   have j50_ := o_ST_ext j50_ E9G
   have O := O.ext E9G
   have K9H := K9F.ext E9G
   have hk := Nat.le_trans hk E9G.1
   have j60_ := A9G
   have j208_ : fL3 Z h9G b9G .null := D9G (Or.inr (ow hw 28)) (ty := (.array .byte)) (by decide)
   have j209_ : fL4 Z h9G b9G (.int 0) := D9G (Or.inr (ow hw 29)) (ty := .byte) (by decide)
   show oF p e below (T9G.setTop (mkF m 212 #[.val (.int p0), .val (.int p1), .val (.int p2), .val (.int p3), .val (.int nn), .val (.int f_), s6l, s7l, .val (.ref nA), .val (.ref eA), .val (.ref o_716)] [(.ref b9G), (.ref o_716)])) _
   refine oG (fun _ k => XS.dup X9G.here hx rfl (B at_212) rfl rfl (XS.aload X9G.here hx rfl (B at_213) rfl rfl k)) ?_
   show oF p e below (T9G.setTop (mkF m 215 #[.val (.int p0), .val (.int p1), .val (.int p2), .val (.int p3), .val (.int nn), .val (.int f_), s6l, s7l, .val (.ref nA), .val (.ref eA), .val (.ref o_716)] [(.ref eA), (.ref b9G), (.ref b9G), (.ref o_716)])) _
   obtain ⟨_, _, ⟨T9I, L9I, k9I, n9I⟩, -, X9I, ⟨Lc9I, hQ9I, l9I, y9I, z9I⟩, st9I⟩ := X9G.specialBack hx (y := mN46) rfl hown (mo hZ hw 16) (mo hZ hw 17) (mo hZ hw 18) (by decide) (backOf (W := 2) (sic l Z a0 hw [] b9G eA z kE ((o_HD ++ ds) ++ o_TL f_) M h9G n0 O j8_ j9_ j10_ j6_ hz V_eA (o_rng_app (o_rng_app o_hdr hrg) (o_tlr f_)) (by rw [(o_wl (f := f_) h2).1]; exact hM) (o_wl (f := f_) h2).2 j60_ j208_ j209_ j207_ (Ne.symm j204_) (o_nz0 hM (by omega))) hZ (ow hw 18) (ow hw 15) (by decide) (by decide)) (g := (mkF m 215 #[.val (.int p0), .val (.int p1), .val (.int p2), .val (.int p3), .val (.int nn), .val (.int f_), s6l, s7l, .val (.ref nA), .val (.ref eA), .val (.ref o_716)] [(.ref eA), (.ref b9G), (.ref b9G), (.ref o_716)])) rfl (by rw [hml]; rfl) (Steps.refl _) (a := b9G) (argsL := [(.ref eA)]) (rest := [(.ref b9G), (.ref o_716)]) (lenOf pd_39 rfl) rfl (by show 2 * 0 + _ ≤ _; exact Nat.le_of_eq rfl) (B at_215) (fun _ _ => ⟨rfl, e9G, (by decide : 28 + 2 ≤ _), (by decide : 2075 + 240 ≤ _)⟩)
   dsimp only [Pt.U, Pt.locs, Pt.cells, Pt.slots] at X9I l9I y9I z9I st9I hQ9I
   subst y9I z9I
   obtain ⟨t2_9J, k2_9K, rfl, N9Iq, Kq9I, P9I_0, P9I_1, P9I_2⟩ := hQ9I
   refine oG (fun _ k => st9I.trans k) ?_
   have N9I := oL l9I (Fr.app N9C N9Iq)
   have ne_nA_t2_723 : nA ≠ t2_9J := Nat.ne_of_lt (Nat.lt_of_lt_of_le E_nA.lt P9I_0)
   have ne_eA_t2_723 : eA ≠ t2_9J := Nat.ne_of_lt (Nat.lt_of_lt_of_le E_eA.lt P9I_0)
   have ne_b708_t2_723 : b9v ≠ t2_9J := Nat.ne_of_lt (Nat.lt_of_lt_of_le j19_.lt P9I_0)
   have ne_b710_t2_723 : b9x ≠ t2_9J := Nat.ne_of_lt (Nat.lt_of_lt_of_le j22_.lt P9I_0)
   have ne_ts_t2_723 : ts ≠ t2_9J := Nat.ne_of_lt (Nat.lt_of_lt_of_le j31_.lt P9I_0)
   have ne_o_716_t2_723 : o_716 ≠ t2_9J := Nat.ne_of_lt (Nat.lt_of_lt_of_le j49_.lt P9I_0)
   have ne_t2_717_t2_723 : t2_9D ≠ t2_9J := Nat.ne_of_lt (Nat.lt_of_lt_of_le j50_.lt P9I_0)
   have ne_b720_t2_723 : b9G ≠ t2_9J := Nat.ne_of_lt (Nat.lt_of_lt_of_le j60_.lt P9I_0)
   have g_t2_723 : n0 ≤ t2_9J := Nat.le_trans (o_osz O) P9I_0
   have sz_t2_723 : h0.size ≤ t2_9J := Nat.le_trans K9H.1 P9I_0
   have Sq := (sfS j94_ sf0)
   have j210_ := Safe.keep Kq9I Sq HC (Safe.new P9I_0)
   have CR := CR.trans (CHr.keep Kq9I Sq HC)
   have j29_ := Safe.keep Kq9I Sq HC j29_
   have j35_ := Safe.keep Kq9I Sq HC j35_
   have j94_ := Safe.keep Kq9I Sq HC j94_
   have HC := CHv.keep Kq9I Sq HC
   have E_nA := E_nA.keep Kq9I
   have E_eA := E_eA.keep Kq9I
   have V_eA := V_eA.keep Kq9I (ninS j204_ nin0)
   have j19_ := j19_.keep Kq9I
   have j22_ := j22_.keep Kq9I
   have j31_ := o_ST_keep j31_ Kq9I (ninS ne_b710_b720 nin0) (ninS ne_ts_b720 nin0)
   have j27_ := j27_.keep Kq9I (ninS j205_ nin0)
   have j25_ := j25_.keep Kq9I (ninS j205_ nin0)
   have j49_ := j49_.keep Kq9I
   have j50_ := o_ST_keep j50_ Kq9I (ninS j206_ nin0) (ninS ne_t2_717_b720 nin0)
   have j60_ := j60_.keep Kq9I
   clear j208_
   clear j209_
   have O := O.keep Kq9I (allS j207_ all0)
   have K9L := K9H.trans Kq9I (allS (Or.inr sz_b720) all0)
   have hk := Nat.le_trans hk Kq9I.1
   have j60_ := P9I_1
   have j142_ := P9I_2
   show oF p e below (T9I.setTop (mkF m 218 #[.val (.int p0), .val (.int p1), .val (.int p2), .val (.int p3), .val (.int nn), .val (.int f_), s6l, s7l, .val (.ref nA), .val (.ref eA), .val (.ref o_716)] [(.ref b9G), (.ref o_716)])) _
   rw [o_meq hf] at j50_
   show oF p e below (T9I.setTop (mkF m 218 #[.val (.int p0), .val (.int p1), .val (.int p2), .val (.int p3), .val (.int nn), .val (.int f_), s6l, s7l, .val (.ref nA), .val (.ref eA), .val (.ref o_716)] [(.ref b9G), (.ref o_716)])) _
   obtain ⟨cq9M, kq9M, q9Ma, q9Mb, q9Mc⟩ := isOf hZ rfl j49_
   obtain ⟨_, _, ⟨T9M, L9M, k9M, n9M⟩, -, X9M, ⟨Lc9M, hQ9M, l9M, y9M, z9M⟩, st9M⟩ := X9I.virtualBack hx (y := mN48) (z := mN48) hown (mo hZ hw 198) (mo hZ hw 199) (notFace_of_selects (args := #[]) (mo hZ hw 201)) (mo hZ hw 201) (mo hZ hw 200) (by decide) (backOf (W := 0) (seq l Z a0 hw [] o_716 b9G z t2_9D k2_9E t2_9J k2_9K ((o_HD ++ ds) ++ o_TL f_) (T9I.heap) n0 O j6_ hz j49_ j50_ j60_ j142_ j206_ (o_wl (f := f_) h2).2) hZ (ow hw 202) (ow hw 15) (by decide) (by decide)) q9Ma q9Mc (g := (mkF m 218 #[.val (.int p0), .val (.int p1), .val (.int p2), .val (.int p3), .val (.int nn), .val (.int f_), s6l, s7l, .val (.ref nA), .val (.ref eA), .val (.ref o_716)] [(.ref b9G), (.ref o_716)])) rfl (by rw [hml]; rfl) (Steps.refl _) (argsL := [(.ref b9G)]) (rest := []) (lenOf pd_40 rfl) rfl (by show 2 * 0 + _ ≤ _; exact Nat.le_of_eq rfl) (B at_218) (fun _ _ => ⟨rfl, rfl, (by decide : 30 + 0 ≤ _), (by decide : 2315 + 0 ≤ _)⟩)
   dsimp only [Pt.U, Pt.locs, Pt.cells, Pt.slots] at X9M l9M y9M z9M st9M hQ9M
   subst y9M z9M
   obtain ⟨rfl, N9Mq, Kq9M⟩ := hQ9M
   refine oG (fun _ k => st9M.trans k) ?_
   have N9M := oL l9M (Fr.app N9I N9Mq)
   skip
   have CR := CR.trans (CHr.keep Kq9M sf0 HC)
   have j29_ := Safe.keep Kq9M sf0 HC j29_
   have j35_ := Safe.keep Kq9M sf0 HC j35_
   have j94_ := Safe.keep Kq9M sf0 HC j94_
   have j210_ := Safe.keep Kq9M sf0 HC j210_
   have HC := CHv.keep Kq9M sf0 HC
   have E_nA := E_nA.keep Kq9M
   have E_eA := E_eA.keep Kq9M
   have V_eA := V_eA.keep Kq9M nin0
   have j19_ := j19_.keep Kq9M
   have j22_ := j22_.keep Kq9M
   have j31_ := o_ST_keep j31_ Kq9M nin0 nin0
   have j27_ := j27_.keep Kq9M nin0
   have j25_ := j25_.keep Kq9M nin0
   have j49_ := j49_.keep Kq9M
   have j50_ := o_ST_keep j50_ Kq9M nin0 nin0
   have j60_ := j60_.keep Kq9M
   have j142_ := o_ST_keep j142_ Kq9M nin0 nin0
   have O := O.keep Kq9M all0
   have K9N := K9L.trans Kq9M all0
   have hk := Nat.le_trans hk Kq9M.1
   show oF p e below (T9M.setTop (mkF m 221 #[.val (.int p0), .val (.int p1), .val (.int p2), .val (.int p3), .val (.int nn), .val (.int f_), s6l, s7l, .val (.ref nA), .val (.ref eA), .val (.ref o_716)] [(.int 1)])) _
   refine oG (fun _ k => XS.ifNo X9M.here hx rfl (B at_221) rfl ((if0 _ _).trans (feq (by decide : ¬ ((1 : Int32) = (0 : Int32)))).1) (XS.iconst X9M.here hx rfl (B at_224) (XS.goto X9M.here hx rfl (pc0 := 225) (pc' := 229) rfl (B at_225) (by decide) (by decide) k))) ?_
   show oF p e below (T9M.setTop (mkF m 229 #[.val (.int p0), .val (.int p1), .val (.int p2), .val (.int p3), .val (.int nn), .val (.int f_), s6l, s7l, .val (.ref nA), .val (.ref eA), .val (.ref o_716)] [(.int 1)])) _
   obtain ⟨fs, hr, r1, r2, hE⟩ := X9M.leaveW hS hk (v := some (.int 1)) (fun h => by rw [Bd.returns] at h; cases h)
   refine ⟨_, _, ?_, r1, r2, _, _, rfl, ?_, ?_, ⟨_, rfl⟩, hE.2.1, hE.2.2.1, hE.2.2.2.mono (by decide) (by decide)⟩
   ·exact retN X9M hx (t := .boolean) Bd.returns (by simp) (B at_229) hr
   ·show Qrm0 Z  h0 n0 _ T9M.heap _
    exact ⟨rfl, N9M, K9N⟩
   ·show CHr Z o_EL s.vm s.heap T9M.vm T9M.heap
    rw [hh]
    exact CR.trans (CHv.at X9M hZ (o_EW hw) HC)
  by_cases hds : ds = []
  ·have eNN : NN = (0 : Int32) := by rw [← Int32.toInt_inj, hNN, hds]; rfl
   have V_nA : Arv Z h9x nA kN .char (0 : Int32) [] (.int 0) := by rw [hds, eNN] at V_nA; exact V_nA
   show oF p e below (T9x.setTop (mkF m 189 #[.val (.int p0), .val (.int p1), .val (.int p2), .val (.int p3), .val (.int nn), .val (.int f_), s6l, s7l, .val (.ref nA), .val (.ref eA), .unset] [(.ref nA), (.ref b9x), (.ref b9x), (.ref b9v), (.ref b9v)])) _
   obtain ⟨_, _, ⟨T9O, L9O, k9O, n9O⟩, -, X9O, hS729, hg729, ⟨Lc9O, hQ9O, l9O, y9O, z9O, CQ729⟩, st9O⟩ := X9x.specialBackS hx (y := mN46) rfl hown (mo hZ hw 16) (mo hZ hw 17) (mo hZ hw 18) (by decide) (backOfSH (W := 3) (sie l Z a0 hw [] b9x nA kN b9v eA h9x n0 O j22_ j83_ j84_ j115_ V_nA (Ne.symm j114_) j19_ E_eA (Ne.symm j70_) (Ne.symm j141_)) hZ (ow hw 18) (ow hw 15) (by decide) (by decide) (o_EW hw) HC) (g := (mkF m 189 #[.val (.int p0), .val (.int p1), .val (.int p2), .val (.int p3), .val (.int nn), .val (.int f_), s6l, s7l, .val (.ref nA), .val (.ref eA), .unset] [(.ref nA), (.ref b9x), (.ref b9x), (.ref b9v), (.ref b9v)])) rfl (by rw [hml]; rfl) (Steps.refl _) (a := b9x) (argsL := [(.ref nA)]) (rest := [(.ref b9x), (.ref b9v), (.ref b9v)]) (lenOf pd_39 rfl) rfl (by show 2 * 0 + _ ≤ _; exact Nat.le_of_eq rfl) (B at_189) (fun _ _ => ⟨rfl, e9x, (by decide : 4 + 4 ≤ _), (by decide : 43 + 8 ≤ _)⟩)
   dsimp only [Pt.U, Pt.locs, Pt.cells, Pt.slots] at X9O l9O y9O z9O st9O hQ9O
   subst l9O y9O z9O
   obtain ⟨X9O, hS, hZ, hown⟩ := rebS hS (Nat.le_trans hk (Nat.le_of_eq (congrArg Array.size e9x).symm)) X9O hS729 hg729 hZ hown
   obtain ⟨t_9P, kb_731, rfl, N9Oq, Kq9O, P9O_0, P9O_1, P9O_2, P9O_3, P9O_4, P9O_5, P9O_6⟩ := hQ9O
   refine oG (fun _ k => st9O.trans k) ?_
   have N9O := Fr.app N9t N9Oq
   have CR := CR.trans CQ729
   have j29_ := CHr.safe CQ729 j19_.lt j29_
   have j35_ := CHr.safe CQ729 j22_.lt j35_
   have HC := CQ729.1
   have V_nA := V_nA.keep Kq9O (ninS j114_ nin0)
   have E_nA := E_nA.keep Kq9O
   have E_eA := E_eA.keep Kq9O
   have V_eA := V_eA.keep Kq9O (ninS j141_ nin0)
   have j19_ := j19_.keep Kq9O
   have j27_ := j27_.keep Kq9O (ninS j70_ nin0)
   have j25_ := j25_.keep Kq9O (ninS j70_ nin0)
   have j22_ := j22_.keep Kq9O
   clear j83_
   clear j84_
   have O := O.keep Kq9O (allS j115_ all0)
   have K9Q := K9y.trans Kq9O (allS (Or.inr j203_) all0)
   have hk := Nat.le_refl T9O.heap.size
   have j22_ := P9O_3
   have j84_ := P9O_4
   have j83_ := P9O_5
   have V_t_730 := P9O_6
   show oF p e below (T9O.setTop (mkF m 192 #[.val (.int p0), .val (.int p1), .val (.int p2), .val (.int p3), .val (.int nn), .val (.int f_), s6l, s7l, .val (.ref nA), .val (.ref eA), .unset] [(.ref b9x), (.ref b9v), (.ref b9v)])) _
   have j31_ : o_ST Z T9O.heap b9x t_9P kb_731 ds := by rw [hds]; exact ⟨j83_, (fun _ hz => by cases hz), Or.inl ⟨j84_, V_t_730, (fun _ hz => by cases hz)⟩⟩
   exact m2 _ _ _ _ _ t_9P kb_731 (X9O.more (by decide) (by decide)) rfl N9O hS hk hZ hown HC CR j29_ j35_ O K9Q E_nA E_eA V_eA j19_ j27_ j25_ j22_ j31_ (Ne.symm P9O_1) (Ne.symm P9O_0)
  ·show oF p e below (T9x.setTop (mkF m 189 #[.val (.int p0), .val (.int p1), .val (.int p2), .val (.int p3), .val (.int nn), .val (.int f_), s6l, s7l, .val (.ref nA), .val (.ref eA), .unset] [(.ref nA), (.ref b9x), (.ref b9x), (.ref b9v), (.ref b9v)])) _
   obtain ⟨_, _, ⟨T9R, L9R, k9R, n9R⟩, -, X9R, ⟨Lc9R, hQ9R, l9R, y9R, z9R⟩, st9R⟩ := X9x.specialBack hx (y := mN46) rfl hown (mo hZ hw 16) (mo hZ hw 17) (mo hZ hw 18) (by decide) (backOf (W := 3) (sic l Z a0 hw [] b9x nA z kN ds NN h9x n0 O j8_ j9_ j10_ j6_ hz V_nA hrg hNN (by omega) j22_ j83_ j84_ j115_ (Ne.symm j114_) (o_nz0 hNN (List.length_pos_iff.mpr hds))) hZ (ow hw 18) (ow hw 15) (by decide) (by decide)) (g := (mkF m 189 #[.val (.int p0), .val (.int p1), .val (.int p2), .val (.int p3), .val (.int nn), .val (.int f_), s6l, s7l, .val (.ref nA), .val (.ref eA), .unset] [(.ref nA), (.ref b9x), (.ref b9x), (.ref b9v), (.ref b9v)])) rfl (by rw [hml]; rfl) (Steps.refl _) (a := b9x) (argsL := [(.ref nA)]) (rest := [(.ref b9x), (.ref b9v), (.ref b9v)]) (lenOf pd_39 rfl) rfl (by show 2 * 0 + _ ≤ _; exact Nat.le_of_eq rfl) (B at_189) (fun _ _ => ⟨rfl, e9x, (by decide : 4 + 2 ≤ _), (by decide : 43 + 240 ≤ _)⟩)
   dsimp only [Pt.U, Pt.locs, Pt.cells, Pt.slots] at X9R l9R y9R z9R st9R hQ9R
   subst y9R z9R
   obtain ⟨t2_9S, k2_9T, rfl, N9Rq, Kq9R, P9R_0, P9R_1, P9R_2⟩ := hQ9R
   refine oG (fun _ k => st9R.trans k) ?_
   have N9R := oL l9R (Fr.app N9t N9Rq)
   have ne_nA_t2_734 : nA ≠ t2_9S := Nat.ne_of_lt (Nat.lt_of_lt_of_le V_nA.lt P9R_0)
   have ne_eA_t2_734 : eA ≠ t2_9S := Nat.ne_of_lt (Nat.lt_of_lt_of_le E_eA.lt P9R_0)
   have ne_b708_t2_734 : b9v ≠ t2_9S := Nat.ne_of_lt (Nat.lt_of_lt_of_le j19_.lt P9R_0)
   have ne_b710_t2_734 : b9x ≠ t2_9S := Nat.ne_of_lt (Nat.lt_of_lt_of_le j22_.lt P9R_0)
   have g_t2_734 : n0 ≤ t2_9S := Nat.le_trans (o_osz O) P9R_0
   have sz_t2_734 : h0.size ≤ t2_9S := Nat.le_trans K9y.1 P9R_0
   have Sq := (sfS j35_ sf0)
   have S_t2_734 := Safe.keep Kq9R Sq HC (Safe.new P9R_0)
   have CR := CR.trans (CHr.keep Kq9R Sq HC)
   have j29_ := Safe.keep Kq9R Sq HC j29_
   have j35_ := Safe.keep Kq9R Sq HC j35_
   have HC := CHv.keep Kq9R Sq HC
   have V_nA := V_nA.keep Kq9R (ninS j114_ nin0)
   have E_nA := E_nA.keep Kq9R
   have E_eA := E_eA.keep Kq9R
   have V_eA := V_eA.keep Kq9R (ninS j141_ nin0)
   have j19_ := j19_.keep Kq9R
   have j27_ := j27_.keep Kq9R (ninS j70_ nin0)
   have j25_ := j25_.keep Kq9R (ninS j70_ nin0)
   have j22_ := j22_.keep Kq9R
   clear j83_
   clear j84_
   have O := O.keep Kq9R (allS j115_ all0)
   have K9U := K9y.trans Kq9R (allS (Or.inr j203_) all0)
   have hk := Nat.le_trans hk Kq9R.1
   have j22_ := P9R_1
   have j31_ := P9R_2
   show oF p e below (T9R.setTop (mkF m 192 #[.val (.int p0), .val (.int p1), .val (.int p2), .val (.int p3), .val (.int nn), .val (.int f_), s6l, s7l, .val (.ref nA), .val (.ref eA), .unset] [(.ref b9x), (.ref b9v), (.ref b9v)])) _
   exact m2 _ _ _ _ _ t2_9S k2_9T (X9R.more (by decide) (by decide)) rfl N9R hS hk hZ hown HC CR j29_ j35_ O K9U E_nA E_eA V_eA j19_ j27_ j25_ j22_ j31_ (Ne.symm ne_eA_t2_734) (Ne.symm ne_b708_t2_734)
 show oF p e below (s₁.setTop (mkF m 0 #[.val (.int p0), .val (.int p1), .val (.int p2), .val (.int p3), .unset, .unset, .unset, .unset, .unset, .unset, .unset] [])) _
 refine oG (fun _ k => XS.iloadN X0.here hx rfl (B at_0) rfl k) ?_
 show oF p e below (s₁.setTop (mkF m 1 #[.val (.int p0), .val (.int p1), .val (.int p2), .val (.int p3), .unset, .unset, .unset, .unset, .unset, .unset, .unset] [(.int p0)])) _
 refine oG (fun _ k => X0.ldcInt hx hown (mo hZ hw 0) (g := (mkF m 1 #[.val (.int p0), .val (.int p1), .val (.int p2), .val (.int p3), .unset, .unset, .unset, .unset, .unset, .unset, .unset] [(.int p0)])) rfl (B at_1) _ k) ?_
 show oF p e below (s₁.setTop (mkF m 3 #[.val (.int p0), .val (.int p1), .val (.int p2), .val (.int p3), .unset, .unset, .unset, .unset, .unset, .unset, .unset] [(.int 2147483647), (.int p0)])) _
 refine oG (fun _ k => XS.iand X0.here hx rfl (B at_3) rfl (XS.iconst X0.here hx rfl (B at_4) (iremM X0 hx rfl (B at_5) rfl (by decide) (XS.istore X0.here hx rfl (B at_6) rfl (l' := #[.val (.int p0), .val (.int p1), .val (.int p2), .val (.int p3), .val (.int ((p0 &&& (2147483647 : Int32)) % (3 : Int32))), .unset, .unset, .unset, .unset, .unset, .unset]) rfl k)))) ?_
 show oF p e below (s₁.setTop (mkF m 8 #[.val (.int p0), .val (.int p1), .val (.int p2), .val (.int p3), .val (.int ((p0 &&& (2147483647 : Int32)) % (3 : Int32))), .unset, .unset, .unset, .unset, .unset, .unset] [])) _
 rcases o_kk3 p0 with hk3 | hk3 | hk3
 ·rw [hk3]
  show oF p e below (s₁.setTop (mkF m 8 #[.val (.int p0), .val (.int p1), .val (.int p2), .val (.int p3), .val (.int 0), .unset, .unset, .unset, .unset, .unset, .unset] [])) _
  have jf : ∀ (f_ : Int32), (f_ = (0 : Int32) ∨ f_ = (1 : Int32)) → oF p e below (s₁.setTop (mkF m 19 #[.val (.int p0), .val (.int p1), .val (.int p2), .val (.int p3), .val (.int 0), .unset, .unset, .unset, .unset, .unset, .unset] [(.int f_)])) (fun o' t' => ∃ v' L', o' = .returned v' ∧ Qrm0 Z  h0 n0 v' t'.heap L' ∧ CHr Z o_EL s.vm s.heap t'.vm t'.heap ∧ ReturnedEndW s o' t' L' 30 2315) := by
   intro f_ hf
   show oF p e below (s₁.setTop (mkF m 19 #[.val (.int p0), .val (.int p1), .val (.int p2), .val (.int p3), .val (.int 0), .unset, .unset, .unset, .unset, .unset, .unset] [(.int f_)])) _
   refine oG (fun _ k => XS.istore X0.here hx rfl (B at_19) rfl (l' := #[.val (.int p0), .val (.int p1), .val (.int p2), .val (.int p3), .val (.int 0), .val (.int f_), .unset, .unset, .unset, .unset, .unset]) rfl (XS.iloadN X0.here hx rfl (B at_21) rfl k)) ?_
   show oF p e below (s₁.setTop (mkF m 22 #[.val (.int p0), .val (.int p1), .val (.int p2), .val (.int p3), .val (.int 0), .val (.int f_), .unset, .unset, .unset, .unset, .unset] [(.int p2)])) _
   refine oG (fun _ k => X0.ldcInt hx hown (mo hZ hw 1) (g := (mkF m 22 #[.val (.int p0), .val (.int p1), .val (.int p2), .val (.int p3), .val (.int 0), .val (.int f_), .unset, .unset, .unset, .unset, .unset] [(.int p2)])) rfl (B at_22) _ k) ?_
   show oF p e below (s₁.setTop (mkF m 24 #[.val (.int p0), .val (.int p1), .val (.int p2), .val (.int p3), .val (.int 0), .val (.int f_), .unset, .unset, .unset, .unset, .unset] [(.int 65535), (.int p2)])) _
   refine oG (fun _ k => XS.iand X0.here hx rfl (B at_24) rfl (XS.i2c X0.here hx rfl (B at_25) rfl (XS.istore X0.here hx rfl (B at_26) rfl (l' := #[.val (.int p0), .val (.int p1), .val (.int p2), .val (.int p3), .val (.int 0), .val (.int f_), .val (.int ((p2 &&& (65535 : Int32)).toUInt32.toUInt16.toUInt32.toInt32)), .unset, .unset, .unset, .unset]) rfl (XS.iloadN X0.here hx rfl (B at_28) rfl k)))) ?_
   show oF p e below (s₁.setTop (mkF m 29 #[.val (.int p0), .val (.int p1), .val (.int p2), .val (.int p3), .val (.int 0), .val (.int f_), .val (.int ((p2 &&& (65535 : Int32)).toUInt32.toUInt16.toUInt32.toInt32)), .unset, .unset, .unset, .unset] [(.int p3)])) _
   refine oG (fun _ k => X0.ldcInt hx hown (mo hZ hw 1) (g := (mkF m 29 #[.val (.int p0), .val (.int p1), .val (.int p2), .val (.int p3), .val (.int 0), .val (.int f_), .val (.int ((p2 &&& (65535 : Int32)).toUInt32.toUInt16.toUInt32.toInt32)), .unset, .unset, .unset, .unset] [(.int p3)])) rfl (B at_29) _ k) ?_
   show oF p e below (s₁.setTop (mkF m 31 #[.val (.int p0), .val (.int p1), .val (.int p2), .val (.int p3), .val (.int 0), .val (.int f_), .val (.int ((p2 &&& (65535 : Int32)).toUInt32.toUInt16.toUInt32.toInt32)), .unset, .unset, .unset, .unset] [(.int 65535), (.int p3)])) _
   refine oG (fun _ k => XS.iand X0.here hx rfl (B at_31) rfl (XS.i2c X0.here hx rfl (B at_32) rfl (XS.istore X0.here hx rfl (B at_33) rfl (l' := #[.val (.int p0), .val (.int p1), .val (.int p2), .val (.int p3), .val (.int 0), .val (.int f_), .val (.int ((p2 &&& (65535 : Int32)).toUInt32.toUInt16.toUInt32.toInt32)), .val (.int ((p3 &&& (65535 : Int32)).toUInt32.toUInt16.toUInt32.toInt32)), .unset, .unset, .unset]) rfl k))) ?_
   show oF p e below (s₁.setTop (mkF m 35 #[.val (.int p0), .val (.int p1), .val (.int p2), .val (.int p3), .val (.int 0), .val (.int f_), .val (.int ((p2 &&& (65535 : Int32)).toUInt32.toUInt16.toUInt32.toInt32)), .val (.int ((p3 &&& (65535 : Int32)).toUInt32.toUInt16.toUInt32.toInt32)), .unset, .unset, .unset] [])) _
   obtain ⟨c0, hc0⟩ : ∃ z, z = ((p2 &&& (65535 : Int32)).toUInt32.toUInt16.toUInt32.toInt32) := ⟨_, rfl⟩
   rw [← hc0]
   have rc0 : o_rng [c0] := by rw [hc0]; exact o_rng1 (o_i2cr _).1 (o_i2cr _).2
   obtain ⟨c1, hc1⟩ : ∃ z, z = ((p3 &&& (65535 : Int32)).toUInt32.toUInt16.toUInt32.toInt32) := ⟨_, rfl⟩
   rw [← hc1]
   have rc1 : o_rng [c1] := by rw [hc1]; exact o_rng1 (o_i2cr _).1 (o_i2cr _).2
   show oF p e below (s₁.setTop (mkF m 35 #[.val (.int p0), .val (.int p1), .val (.int p2), .val (.int p3), .val (.int 0), .val (.int f_), .val (.int c0), .val (.int c1), .unset, .unset, .unset] [])) _
   refine oG (fun _ k => XS.iload X0.here hx rfl (B at_35) rfl (XS.ifNo X0.here hx rfl (B at_37) rfl ((if0 _ _).trans (teq (by decide : (0 : Int32) = (0 : Int32))).2) (XS.iconst X0.here hx rfl (B at_40) k))) ?_
   show oF p e below (s₁.setTop (mkF m 41 #[.val (.int p0), .val (.int p1), .val (.int p2), .val (.int p3), .val (.int 0), .val (.int f_), .val (.int c0), .val (.int c1), .unset, .unset, .unset] [(.int 0)])) _
   obtain ⟨T9V, h9V, k9V, X9V, e9V, E9V, A9V, B9V, st9V⟩ := newPE X0 hx hZ (ow hw 2) e0 (g := (mkF m 41 #[.val (.int p0), .val (.int p1), .val (.int p2), .val (.int p3), .val (.int 0), .val (.int f_), .val (.int c0), .val (.int c1), .unset, .unset, .unset] [(.int 0)])) rfl (B at_41) rfl (by decide) (cap := 0) (by decide) (by decide) (by decide) (by decide) (ad := "[C") (by decide)
   obtain ⟨b9V, g9V⟩ : ∃ z, z = h0.size := ⟨_, rfl⟩
   rw [← g9V] at A9V st9V B9V
   refine oG st9V ?_
   have g_b737 : n0 ≤ b9V := Nat.le_trans (o_osz O) (Nat.le_of_eq g9V.symm)
   have sz_b737 : h0.size ≤ b9V := Nat.le_trans K0.1 (Nat.le_of_eq g9V.symm)
   have CR := CR.trans (CHr.ext E9V HC)
   have j53_ := Safe.ext E9V HC (Safe.new (Nat.le_of_eq g9V.symm))
   have HC := CHv.ext E9V HC
   have O := O.ext E9V
   have K9W := K0.ext E9V
   have hk := Nat.le_trans hk E9V.1
   have j47_ := B9V
   have j48_ : Arv Z h9V b9V k9V .char (0 : Int32) [] (.int 0) := (Arv.new A9V (by decide)).pad (pad_rep [] (.int 0) 0)
   show oF p e below (T9V.setTop (mkF m 43 #[.val (.int p0), .val (.int p1), .val (.int p2), .val (.int p3), .val (.int 0), .val (.int f_), .val (.int c0), .val (.int c1), .unset, .unset, .unset] [(.ref b9V)])) _
   refine oG (fun _ k => XS.astore X9V.here hx rfl (B at_43) rfl rfl (l' := #[.val (.int p0), .val (.int p1), .val (.int p2), .val (.int p3), .val (.int 0), .val (.int f_), .val (.int c0), .val (.int c1), .val (.ref b9V), .unset, .unset]) rfl k) ?_
   show oF p e below (T9V.setTop (mkF m 45 #[.val (.int p0), .val (.int p1), .val (.int p2), .val (.int p3), .val (.int 0), .val (.int f_), .val (.int c0), .val (.int c1), .val (.ref b9V), .unset, .unset] [])) _
   have je : ∀ (T9X : State) (L9X : List Loc) (h9X : Heap) (vm739 : Vm) (kS739 : Nat) (eA : Addr) (kE : ClassId) (M : Int32), Stand p l e room_1 (s.setVm vm739) m #[(.int p0), (.int p1), (.int p2), (.int p3)] below meth c T9X L9X 2 35 → T9X.heap = h9X → Fr n0 L9X → s.Since vm739 kS739 → kS739 ≤ h9X.size → Z.Warmed39 (s.setVm vm739).vm → (s.setVm vm739).vm.findClass "com/example/holdfast/holdfast/RenewalToStringPinLaw" = some m.cls → CHv Z o_EL vm739 h9X → CHr Z o_EL s.vm h0 vm739 h9X → Safe Z o_EL vm739 h9X b9V → Old Z n0 h9X → Keep h0 h9X [] → eX4 Z h9X b9V → Arv Z h9X b9V k9V .char (0 : Int32) [] (.int 0) → Arv Z h9X eA kE .char M [] (.int 0) → eX4 Z h9X eA → n0 ≤ eA → h0.size ≤ eA → b9V ≠ eA → M.toInt = ((17 + 0 + (o_TL f_).length : Nat) : Int) → oF p e below (T9X.setTop (mkF m 136 #[.val (.int p0), .val (.int p1), .val (.int p2), .val (.int p3), .val (.int 0), .val (.int f_), .val (.int c0), .val (.int c1), .val (.ref b9V), .val (.ref eA), .unset] [])) (fun o' t' => ∃ v' L', o' = .returned v' ∧ Qrm0 Z  h0 n0 v' t'.heap L' ∧ CHr Z o_EL s.vm s.heap t'.vm t'.heap ∧ ReturnedEndW s o' t' L' 30 2315) := by
    intro T9X L9X h9X vm739 kS739 eA kE M X9X e9X N9X hS hk hZ hown HC CR j53_ O K9X j47_ j48_ V_eA E_eA g_eA sz_eA j45_ hM
    have htl := o_tll f_
    show oF p e below (T9X.setTop (mkF m 136 #[.val (.int p0), .val (.int p1), .val (.int p2), .val (.int p3), .val (.int 0), .val (.int f_), .val (.int c0), .val (.int c1), .val (.ref b9V), .val (.ref eA), .unset] [])) _
    refine oG (fun _ k => XS.aload X9X.here hx rfl (B at_136) rfl rfl k) ?_
    show oF p e below (T9X.setTop (mkF m 138 #[.val (.int p0), .val (.int p1), .val (.int p2), .val (.int p3), .val (.int 0), .val (.int f_), .val (.int c0), .val (.int c1), .val (.ref b9V), .val (.ref eA), .unset] [(.ref eA)])) _
    obtain ⟨_, _, ⟨T9Y, L9Y, k9Y, n9Y⟩, -, X9Y, ⟨Lc9Y, hQ9Y, l9Y, y9Y, z9Y⟩, st9Y⟩ := Jvm.LawKit.callS X9X hx (y := mN49) hown (mo hZ hw 3) (mo hZ hw 4) (mo hZ hw 5) (mo hZ hw 6) (by decide) (backOf (W := 0) (hd l Z a0 hw [] eA kE M h9X n0 O V_eA g_eA (by omega)) hZ (ow hw 6) (ow hw 5) (by decide) (by decide)) (g := (mkF m 138 #[.val (.int p0), .val (.int p1), .val (.int p2), .val (.int p3), .val (.int 0), .val (.int f_), .val (.int c0), .val (.int c1), .val (.ref b9V), .val (.ref eA), .unset] [(.ref eA)])) rfl (by rw [hml]; rfl) (argsL := [(.ref eA)]) (rest := []) (lenOf pd_39 rfl) rfl (by show 2 * 0 + _ ≤ _; exact Nat.le_of_eq rfl) (B at_138) (fun _ _ => ⟨rfl, e9X, (by decide : 2 + 0 ≤ _), (by decide : 35 + 0 ≤ _)⟩)
    dsimp only [Pt.U, Pt.locs, Pt.cells, Pt.slots] at X9Y l9Y y9Y z9Y st9Y hQ9Y
    subst y9Y z9Y
    obtain ⟨rfl, N9Yq, Kq9Y, P9Y_0⟩ := hQ9Y
    refine oG st9Y ?_
    have N9Y := oL l9Y (Fr.app N9X N9Yq)
    have Sq := (sfS (Safe.exa (EL := o_EL) hZ.alike E_eA (by decide) (by decide)) sf0)
    have CR := CR.trans (CHr.keep Kq9Y Sq HC)
    have j53_ := Safe.keep Kq9Y Sq HC j53_
    have HC := CHv.keep Kq9Y Sq HC
    have j47_ := j47_.keep Kq9Y
    have j48_ := j48_.keep Kq9Y (ninS j45_ nin0)
    clear V_eA
    have E_eA := E_eA.keep Kq9Y
    have O := O.keep Kq9Y (allS g_eA all0)
    have K9Z := K9X.trans Kq9Y (allS (Or.inr sz_eA) all0)
    have hk := Nat.le_trans hk Kq9Y.1
    have V_eA := P9Y_0
    show oF p e below (T9Y.setTop (mkF m 141 #[.val (.int p0), .val (.int p1), .val (.int p2), .val (.int p3), .val (.int 0), .val (.int f_), .val (.int c0), .val (.int c1), .val (.ref b9V), .val (.ref eA), .unset] [])) _
    refine oG (fun _ k => XS.iload X9Y.here hx rfl (B at_141) rfl (XS.iconst X9Y.here hx rfl (B at_143) (XS.icmpYes X9Y.here hx rfl (pc0 := 144) (pc' := 154) rfl (B at_144) rfl (tlt (by decide : (0 : Int32) < (1 : Int32))).1 (by decide) (by decide) (XS.iload X9Y.here hx rfl (B at_154) rfl (XS.iconst X9Y.here hx rfl (B at_156) (XS.icmpYes X9Y.here hx rfl (pc0 := 157) (pc' := 167) rfl (B at_157) rfl (tlt (by decide : (0 : Int32) < (2 : Int32))).1 (by decide) (by decide) k)))))) ?_
    show oF p e below (T9Y.setTop (mkF m 167 #[.val (.int p0), .val (.int p1), .val (.int p2), .val (.int p3), .val (.int 0), .val (.int f_), .val (.int c0), .val (.int c1), .val (.ref b9V), .val (.ref eA), .unset] [])) _
    have j48_ : Arv Z T9Y.heap b9V k9V .char (0 : Int32) (o_ch ([] : List Int32)) (.int 0) := by exact j48_
    have V_eA : Arv Z T9Y.heap eA kE .char M (o_ch (o_HD ++ ([] : List Int32))) (.int 0) := by rw [List.append_nil]; exact V_eA
    exact mn _ _ _ _ _ b9V eA _ _ _ _ _ _ ([] : List Int32) _ _ (X9Y.more (by decide) (by decide)) rfl N9Y hS hk hZ hown HC CR O K9Z j48_ V_eA j47_ E_eA (fun _ hz => by cases hz) (Nat.le_of_ble_eq_true rfl) rfl rfl hf hM g_b737 g_eA sz_b737 sz_eA j45_
   show oF p e below (T9V.setTop (mkF m 45 #[.val (.int p0), .val (.int p1), .val (.int p2), .val (.int p3), .val (.int 0), .val (.int f_), .val (.int c0), .val (.int c1), .val (.ref b9V), .unset, .unset] [])) _
   refine oG (fun _ k => XS.iload X9V.here hx rfl (B at_45) rfl k) ?_
   show oF p e below (T9V.setTop (mkF m 47 #[.val (.int p0), .val (.int p1), .val (.int p2), .val (.int p3), .val (.int 0), .val (.int f_), .val (.int c0), .val (.int c1), .val (.ref b9V), .unset, .unset] [(.int f_)])) _
   by_cases hc47_742 : f_ = (0 : Int32)
   ·refine oG (fun _ k => XS.ifYes X9V.here hx rfl (pc0 := 47) (pc' := 57) rfl (B at_47) rfl ((if0 _ _).trans (teq hc47_742).1) (by decide) (by decide) (XS.bipush X9V.here hx rfl (B at_57) k)) ?_
    show oF p e below (T9V.setTop (mkF m 59 #[.val (.int p0), .val (.int p1), .val (.int p2), .val (.int p3), .val (.int 0), .val (.int f_), .val (.int c0), .val (.int c1), .val (.ref b9V), .unset, .unset] [(.int 33)])) _
    obtain ⟨T743, h743, k743, X743, e743, E743, A743, B743, st743⟩ := newPE X9V hx hZ (ow hw 2) e9V (g := (mkF m 59 #[.val (.int p0), .val (.int p1), .val (.int p2), .val (.int p3), .val (.int 0), .val (.int f_), .val (.int c0), .val (.int c1), .val (.ref b9V), .unset, .unset] [(.int 33)])) rfl (B at_59) rfl (by decide) (cap := 35) (by decide) (by decide) (by decide) (by decide) (ad := "[C") (by decide)
    obtain ⟨b743, g743⟩ : ∃ z, z = h9V.size := ⟨_, rfl⟩
    rw [← g743] at A743 st743 B743
    refine oG st743 ?_
    have ne_b737_b743 : b9V ≠ b743 := Nat.ne_of_lt (Nat.lt_of_lt_of_le j47_.lt (Nat.le_of_eq g743.symm))
    have g_b743 : n0 ≤ b743 := Nat.le_trans (o_osz O) (Nat.le_of_eq g743.symm)
    have sz_b743 : h0.size ≤ b743 := Nat.le_trans K9W.1 (Nat.le_of_eq g743.symm)
    have CR := CR.trans (CHr.ext E743 HC)
    have j53_ := Safe.ext E743 HC j53_
    have S_b743 := Safe.ext E743 HC (Safe.new (Nat.le_of_eq g743.symm))
    have HC := CHv.ext E743 HC
    have j47_ := j47_.ext E743
    have j48_ := j48_.ext E743
    have O := O.ext E743
    have K744 := K9W.ext E743
    have hk := Nat.le_trans hk E743.1
    have E_b743 := B743
    have V_b743 : Arv Z h743 b743 k743 .char (33 : Int32) [] (.int 0) := Arv.new A743 (by decide)
    show oF p e below (T743.setTop (mkF m 61 #[.val (.int p0), .val (.int p1), .val (.int p2), .val (.int p3), .val (.int 0), .val (.int f_), .val (.int c0), .val (.int c1), .val (.ref b9V), .unset, .unset] [(.ref b743)])) _
    refine oG (fun _ k => XS.astore X743.here hx rfl (B at_61) rfl rfl (l' := #[.val (.int p0), .val (.int p1), .val (.int p2), .val (.int p3), .val (.int 0), .val (.int f_), .val (.int c0), .val (.int c1), .val (.ref b9V), .val (.ref b743), .unset]) rfl (XS.goto X743.here hx rfl (pc0 := 63) (pc' := 136) rfl (B at_63) (by decide) (by decide) k)) ?_
    show oF p e below (T743.setTop (mkF m 136 #[.val (.int p0), .val (.int p1), .val (.int p2), .val (.int p3), .val (.int 0), .val (.int f_), .val (.int c0), .val (.int c1), .val (.ref b9V), .val (.ref b743), .unset] [])) _
    exact je _ _ _ _ _ b743 k743 _ X743 e743 N0 hS hk hZ hown HC CR j53_ O K744 j47_ j48_ V_b743 E_b743 g_b743 sz_b743 ne_b737_b743 (by rw [o_tl0 hc47_742]; rfl)
   ·refine oG (fun _ k => XS.ifNo X9V.here hx rfl (B at_47) rfl ((if0 _ _).trans (feq hc47_742).1) (XS.bipush X9V.here hx rfl (B at_50) k)) ?_
    show oF p e below (T9V.setTop (mkF m 52 #[.val (.int p0), .val (.int p1), .val (.int p2), .val (.int p3), .val (.int 0), .val (.int f_), .val (.int c0), .val (.int c1), .val (.ref b9V), .unset, .unset] [(.int 32)])) _
    obtain ⟨T745, h745, k745, X745, e745, E745, A745, B745, st745⟩ := newPE X9V hx hZ (ow hw 2) e9V (g := (mkF m 52 #[.val (.int p0), .val (.int p1), .val (.int p2), .val (.int p3), .val (.int 0), .val (.int f_), .val (.int c0), .val (.int c1), .val (.ref b9V), .unset, .unset] [(.int 32)])) rfl (B at_52) rfl (by decide) (cap := 35) (by decide) (by decide) (by decide) (by decide) (ad := "[C") (by decide)
    obtain ⟨b745, g745⟩ : ∃ z, z = h9V.size := ⟨_, rfl⟩
    rw [← g745] at A745 st745 B745
    refine oG st745 ?_
    have ne_b737_b745 : b9V ≠ b745 := Nat.ne_of_lt (Nat.lt_of_lt_of_le j47_.lt (Nat.le_of_eq g745.symm))
    have g_b745 : n0 ≤ b745 := Nat.le_trans (o_osz O) (Nat.le_of_eq g745.symm)
    have sz_b745 : h0.size ≤ b745 := Nat.le_trans K9W.1 (Nat.le_of_eq g745.symm)
    have CR := CR.trans (CHr.ext E745 HC)
    have j53_ := Safe.ext E745 HC j53_
    have S_b745 := Safe.ext E745 HC (Safe.new (Nat.le_of_eq g745.symm))
    have HC := CHv.ext E745 HC
    have j47_ := j47_.ext E745
    have j48_ := j48_.ext E745
    have O := O.ext E745
    have K746 := K9W.ext E745
    have hk := Nat.le_trans hk E745.1
    have E_b745 := B745
    have V_b745 : Arv Z h745 b745 k745 .char (32 : Int32) [] (.int 0) := Arv.new A745 (by decide)
    show oF p e below (T745.setTop (mkF m 54 #[.val (.int p0), .val (.int p1), .val (.int p2), .val (.int p3), .val (.int 0), .val (.int f_), .val (.int c0), .val (.int c1), .val (.ref b9V), .unset, .unset] [(.ref b745)])) _
    refine oG (fun _ k => XS.goto X745.here hx rfl (pc0 := 54) (pc' := 61) rfl (B at_54) (by decide) (by decide) (XS.astore X745.here hx rfl (B at_61) rfl rfl (l' := #[.val (.int p0), .val (.int p1), .val (.int p2), .val (.int p3), .val (.int 0), .val (.int f_), .val (.int c0), .val (.int c1), .val (.ref b9V), .val (.ref b745), .unset]) rfl (XS.goto X745.here hx rfl (pc0 := 63) (pc' := 136) rfl (B at_63) (by decide) (by decide) k))) ?_
    show oF p e below (T745.setTop (mkF m 136 #[.val (.int p0), .val (.int p1), .val (.int p2), .val (.int p3), .val (.int 0), .val (.int f_), .val (.int c0), .val (.int c1), .val (.ref b9V), .val (.ref b745), .unset] [])) _
    exact je _ _ _ _ _ b745 k745 _ X745 e745 N0 hS hk hZ hown HC CR j53_ O K746 j47_ j48_ V_b745 E_b745 g_b745 sz_b745 ne_b737_b745 (by rw [o_tl1 hc47_742]; rfl)
  show oF p e below (s₁.setTop (mkF m 8 #[.val (.int p0), .val (.int p1), .val (.int p2), .val (.int p3), .val (.int 0), .unset, .unset, .unset, .unset, .unset, .unset] [])) _
  refine oG (fun _ k => XS.iloadN X0.here hx rfl (B at_8) rfl (XS.iconst X0.here hx rfl (B at_9) (XS.iand X0.here hx rfl (B at_10) rfl k))) ?_
  show oF p e below (s₁.setTop (mkF m 11 #[.val (.int p0), .val (.int p1), .val (.int p2), .val (.int p3), .val (.int 0), .unset, .unset, .unset, .unset, .unset, .unset] [(.int (p1 &&& (1 : Int32)))])) _
  by_cases hc11_747 : (p1 &&& (1 : Int32)) = (0 : Int32)
  ·refine oG (fun _ k => XS.ifYes X0.here hx rfl (pc0 := 11) (pc' := 18) rfl (B at_11) rfl ((if0 _ _).trans (teq hc11_747).1) (by decide) (by decide) (XS.iconst X0.here hx rfl (B at_18) k)) ?_
   show oF p e below (s₁.setTop (mkF m 19 #[.val (.int p0), .val (.int p1), .val (.int p2), .val (.int p3), .val (.int 0), .unset, .unset, .unset, .unset, .unset, .unset] [(.int 0)])) _
   exact jf _ (Or.inl rfl)
  ·refine oG (fun _ k => XS.ifNo X0.here hx rfl (B at_11) rfl ((if0 _ _).trans (feq hc11_747).1) (XS.iconst X0.here hx rfl (B at_14) (XS.goto X0.here hx rfl (pc0 := 15) (pc' := 19) rfl (B at_15) (by decide) (by decide) k))) ?_
   show oF p e below (s₁.setTop (mkF m 19 #[.val (.int p0), .val (.int p1), .val (.int p2), .val (.int p3), .val (.int 0), .unset, .unset, .unset, .unset, .unset, .unset] [(.int 1)])) _
   exact jf _ (Or.inr rfl)
 ·rw [hk3]
  show oF p e below (s₁.setTop (mkF m 8 #[.val (.int p0), .val (.int p1), .val (.int p2), .val (.int p3), .val (.int 1), .unset, .unset, .unset, .unset, .unset, .unset] [])) _
  have jf : ∀ (f_ : Int32), (f_ = (0 : Int32) ∨ f_ = (1 : Int32)) → oF p e below (s₁.setTop (mkF m 19 #[.val (.int p0), .val (.int p1), .val (.int p2), .val (.int p3), .val (.int 1), .unset, .unset, .unset, .unset, .unset, .unset] [(.int f_)])) (fun o' t' => ∃ v' L', o' = .returned v' ∧ Qrm0 Z  h0 n0 v' t'.heap L' ∧ CHr Z o_EL s.vm s.heap t'.vm t'.heap ∧ ReturnedEndW s o' t' L' 30 2315) := by
   intro f_ hf
   show oF p e below (s₁.setTop (mkF m 19 #[.val (.int p0), .val (.int p1), .val (.int p2), .val (.int p3), .val (.int 1), .unset, .unset, .unset, .unset, .unset, .unset] [(.int f_)])) _
   refine oG (fun _ k => XS.istore X0.here hx rfl (B at_19) rfl (l' := #[.val (.int p0), .val (.int p1), .val (.int p2), .val (.int p3), .val (.int 1), .val (.int f_), .unset, .unset, .unset, .unset, .unset]) rfl (XS.iloadN X0.here hx rfl (B at_21) rfl k)) ?_
   show oF p e below (s₁.setTop (mkF m 22 #[.val (.int p0), .val (.int p1), .val (.int p2), .val (.int p3), .val (.int 1), .val (.int f_), .unset, .unset, .unset, .unset, .unset] [(.int p2)])) _
   refine oG (fun _ k => X0.ldcInt hx hown (mo hZ hw 1) (g := (mkF m 22 #[.val (.int p0), .val (.int p1), .val (.int p2), .val (.int p3), .val (.int 1), .val (.int f_), .unset, .unset, .unset, .unset, .unset] [(.int p2)])) rfl (B at_22) _ k) ?_
   show oF p e below (s₁.setTop (mkF m 24 #[.val (.int p0), .val (.int p1), .val (.int p2), .val (.int p3), .val (.int 1), .val (.int f_), .unset, .unset, .unset, .unset, .unset] [(.int 65535), (.int p2)])) _
   refine oG (fun _ k => XS.iand X0.here hx rfl (B at_24) rfl (XS.i2c X0.here hx rfl (B at_25) rfl (XS.istore X0.here hx rfl (B at_26) rfl (l' := #[.val (.int p0), .val (.int p1), .val (.int p2), .val (.int p3), .val (.int 1), .val (.int f_), .val (.int ((p2 &&& (65535 : Int32)).toUInt32.toUInt16.toUInt32.toInt32)), .unset, .unset, .unset, .unset]) rfl (XS.iloadN X0.here hx rfl (B at_28) rfl k)))) ?_
   show oF p e below (s₁.setTop (mkF m 29 #[.val (.int p0), .val (.int p1), .val (.int p2), .val (.int p3), .val (.int 1), .val (.int f_), .val (.int ((p2 &&& (65535 : Int32)).toUInt32.toUInt16.toUInt32.toInt32)), .unset, .unset, .unset, .unset] [(.int p3)])) _
   refine oG (fun _ k => X0.ldcInt hx hown (mo hZ hw 1) (g := (mkF m 29 #[.val (.int p0), .val (.int p1), .val (.int p2), .val (.int p3), .val (.int 1), .val (.int f_), .val (.int ((p2 &&& (65535 : Int32)).toUInt32.toUInt16.toUInt32.toInt32)), .unset, .unset, .unset, .unset] [(.int p3)])) rfl (B at_29) _ k) ?_
   show oF p e below (s₁.setTop (mkF m 31 #[.val (.int p0), .val (.int p1), .val (.int p2), .val (.int p3), .val (.int 1), .val (.int f_), .val (.int ((p2 &&& (65535 : Int32)).toUInt32.toUInt16.toUInt32.toInt32)), .unset, .unset, .unset, .unset] [(.int 65535), (.int p3)])) _
   refine oG (fun _ k => XS.iand X0.here hx rfl (B at_31) rfl (XS.i2c X0.here hx rfl (B at_32) rfl (XS.istore X0.here hx rfl (B at_33) rfl (l' := #[.val (.int p0), .val (.int p1), .val (.int p2), .val (.int p3), .val (.int 1), .val (.int f_), .val (.int ((p2 &&& (65535 : Int32)).toUInt32.toUInt16.toUInt32.toInt32)), .val (.int ((p3 &&& (65535 : Int32)).toUInt32.toUInt16.toUInt32.toInt32)), .unset, .unset, .unset]) rfl k))) ?_
   show oF p e below (s₁.setTop (mkF m 35 #[.val (.int p0), .val (.int p1), .val (.int p2), .val (.int p3), .val (.int 1), .val (.int f_), .val (.int ((p2 &&& (65535 : Int32)).toUInt32.toUInt16.toUInt32.toInt32)), .val (.int ((p3 &&& (65535 : Int32)).toUInt32.toUInt16.toUInt32.toInt32)), .unset, .unset, .unset] [])) _
   obtain ⟨c0, hc0⟩ : ∃ z, z = ((p2 &&& (65535 : Int32)).toUInt32.toUInt16.toUInt32.toInt32) := ⟨_, rfl⟩
   rw [← hc0]
   have rc0 : o_rng [c0] := by rw [hc0]; exact o_rng1 (o_i2cr _).1 (o_i2cr _).2
   obtain ⟨c1, hc1⟩ : ∃ z, z = ((p3 &&& (65535 : Int32)).toUInt32.toUInt16.toUInt32.toInt32) := ⟨_, rfl⟩
   rw [← hc1]
   have rc1 : o_rng [c1] := by rw [hc1]; exact o_rng1 (o_i2cr _).1 (o_i2cr _).2
   show oF p e below (s₁.setTop (mkF m 35 #[.val (.int p0), .val (.int p1), .val (.int p2), .val (.int p3), .val (.int 1), .val (.int f_), .val (.int c0), .val (.int c1), .unset, .unset, .unset] [])) _
   refine oG (fun _ k => XS.iload X0.here hx rfl (B at_35) rfl (XS.ifYes X0.here hx rfl (pc0 := 37) (pc' := 66) rfl (B at_37) rfl ((if0 _ _).trans (feq (by decide : ¬ ((1 : Int32) = (0 : Int32)))).2) (by decide) (by decide) (XS.iload X0.here hx rfl (B at_66) rfl (XS.iconst X0.here hx rfl (B at_68) (XS.icmpNo X0.here hx rfl (B at_69) rfl (teq (by decide : (1 : Int32) = (1 : Int32))).2 (XS.iconst X0.here hx rfl (B at_72) k)))))) ?_
   show oF p e below (s₁.setTop (mkF m 73 #[.val (.int p0), .val (.int p1), .val (.int p2), .val (.int p3), .val (.int 1), .val (.int f_), .val (.int c0), .val (.int c1), .unset, .unset, .unset] [(.int 1)])) _
   obtain ⟨T748, h748, k748, X748, e748, E748, A748, B748, st748⟩ := newPE X0 hx hZ (ow hw 2) e0 (g := (mkF m 73 #[.val (.int p0), .val (.int p1), .val (.int p2), .val (.int p3), .val (.int 1), .val (.int f_), .val (.int c0), .val (.int c1), .unset, .unset, .unset] [(.int 1)])) rfl (B at_73) rfl (by decide) (cap := 1) (by decide) (by decide) (by decide) (by decide) (ad := "[C") (by decide)
   obtain ⟨b748, g748⟩ : ∃ z, z = h0.size := ⟨_, rfl⟩
   rw [← g748] at A748 st748 B748
   refine oG st748 ?_
   have j143_ : n0 ≤ b748 := Nat.le_trans (o_osz O) (Nat.le_of_eq g748.symm)
   have j211_ : h0.size ≤ b748 := Nat.le_trans K0.1 (Nat.le_of_eq g748.symm)
   have CR := CR.trans (CHr.ext E748 HC)
   have j43_ := Safe.ext E748 HC (Safe.new (Nat.le_of_eq g748.symm))
   have HC := CHv.ext E748 HC
   have O := O.ext E748
   have K749 := K0.ext E748
   have hk := Nat.le_trans hk E748.1
   have j40_ := B748
   have j36_ : Arv Z h748 b748 k748 .char (1 : Int32) [(.int 0)] (.int 0) := (Arv.new A748 (by decide)).pad (pad_rep [] (.int 0) 1)
   show oF p e below (T748.setTop (mkF m 75 #[.val (.int p0), .val (.int p1), .val (.int p2), .val (.int p3), .val (.int 1), .val (.int f_), .val (.int c0), .val (.int c1), .unset, .unset, .unset] [(.ref b748)])) _
   refine oG (fun _ k => XS.dup X748.here hx rfl (B at_75) rfl rfl (XS.iconst X748.here hx rfl (B at_76) (XS.iload X748.here hx rfl (B at_77) rfl k))) ?_
   show oF p e below (T748.setTop (mkF m 79 #[.val (.int p0), .val (.int p1), .val (.int p2), .val (.int p3), .val (.int 1), .val (.int f_), .val (.int c0), .val (.int c1), .unset, .unset, .unset] [(.int c0), (.int 0), (.ref b748), (.ref b748)])) _
   obtain ⟨cl750, A750, q750, S750, M750, H750, G750⟩ := id j36_
   have hin750 : ¬ ((0 : Int32) < 0 ∨ cl750.slots.size ≤ ((0 : Int32)).toNatClampNeg) := inb_of S750 ⟨by decide, by decide⟩
   obtain ⟨T750, h750, X750, e750, W750, st750⟩ := stC X748 hx hZ e748 A750 (j := (0 : Int32)) hin750 (g := (mkF m 79 #[.val (.int p0), .val (.int p1), .val (.int p2), .val (.int p3), .val (.int 1), .val (.int f_), .val (.int c0), .val (.int c1), .unset, .unset, .unset] [(.int c0), (.int 0), (.ref b748), (.ref b748)])) rfl rfl (B at_79)
   refine oG st750 ?_
   have Sq := j43_
   have CR := CR.trans (CHr.wr W750 Sq HC)
   have j43_ := Safe.wr W750 Sq HC j43_
   have HC := CHv.wr W750 Sq HC
   have j40_ := j40_.wr W750
   have O := O.wr W750 j143_
   have K751 := K749.wr W750 (Or.inr j211_)
   have hk := Nat.le_trans hk (Nat.le_of_eq (Wr.size W750).symm)
   have j36_ : Arv Z h750 b748 k748 .char (1 : Int32) [(.int (nar .char c0))] (.int 0) := Arv.set A750 q750 S750 M750 H750 G750 (fits_nar_char _) W750 0 rfl (Nat.le_of_ble_eq_true rfl)
   have N750 := Fr.snoc X750 N0 j143_
   show oF p e below (T750.setTop (mkF m 80 #[.val (.int p0), .val (.int p1), .val (.int p2), .val (.int p3), .val (.int 1), .val (.int f_), .val (.int c0), .val (.int c1), .unset, .unset, .unset] [(.ref b748)])) _
   refine oG (fun _ k => XS.astore X750.here hx rfl (B at_80) rfl rfl (l' := #[.val (.int p0), .val (.int p1), .val (.int p2), .val (.int p3), .val (.int 1), .val (.int f_), .val (.int c0), .val (.int c1), .val (.ref b748), .unset, .unset]) rfl k) ?_
   show oF p e below (T750.setTop (mkF m 82 #[.val (.int p0), .val (.int p1), .val (.int p2), .val (.int p3), .val (.int 1), .val (.int f_), .val (.int c0), .val (.int c1), .val (.ref b748), .unset, .unset] [])) _
   have je : ∀ (T752 : State) (L752 : List Loc) (h752 : Heap) (vm752 : Vm) (kS752 : Nat) (eA : Addr) (kE : ClassId) (M : Int32), Stand p l e room_1 (s.setVm vm752) m #[(.int p0), (.int p1), (.int p2), (.int p3)] below meth c T752 L752 2 36 → T752.heap = h752 → Fr n0 L752 → s.Since vm752 kS752 → kS752 ≤ h752.size → Z.Warmed39 (s.setVm vm752).vm → (s.setVm vm752).vm.findClass "com/example/holdfast/holdfast/RenewalToStringPinLaw" = some m.cls → CHv Z o_EL vm752 h752 → CHr Z o_EL s.vm h0 vm752 h752 → Safe Z o_EL vm752 h752 b748 → Old Z n0 h752 → Keep h0 h752 [] → eX4 Z h752 b748 → Arv Z h752 b748 k748 .char (1 : Int32) [(.int (nar .char c0))] (.int 0) → Arv Z h752 eA kE .char M [] (.int 0) → eX4 Z h752 eA → n0 ≤ eA → h0.size ≤ eA → b748 ≠ eA → M.toInt = ((17 + 1 + (o_TL f_).length : Nat) : Int) → oF p e below (T752.setTop (mkF m 136 #[.val (.int p0), .val (.int p1), .val (.int p2), .val (.int p3), .val (.int 1), .val (.int f_), .val (.int c0), .val (.int c1), .val (.ref b748), .val (.ref eA), .unset] [])) (fun o' t' => ∃ v' L', o' = .returned v' ∧ Qrm0 Z  h0 n0 v' t'.heap L' ∧ CHr Z o_EL s.vm s.heap t'.vm t'.heap ∧ ReturnedEndW s o' t' L' 30 2315) := by
    intro T752 L752 h752 vm752 kS752 eA kE M X752 e752 N752 hS hk hZ hown HC CR j43_ O K752 j40_ j36_ V_eA E_eA g_eA sz_eA j45_ hM
    have htl := o_tll f_
    show oF p e below (T752.setTop (mkF m 136 #[.val (.int p0), .val (.int p1), .val (.int p2), .val (.int p3), .val (.int 1), .val (.int f_), .val (.int c0), .val (.int c1), .val (.ref b748), .val (.ref eA), .unset] [])) _
    refine oG (fun _ k => XS.aload X752.here hx rfl (B at_136) rfl rfl k) ?_
    show oF p e below (T752.setTop (mkF m 138 #[.val (.int p0), .val (.int p1), .val (.int p2), .val (.int p3), .val (.int 1), .val (.int f_), .val (.int c0), .val (.int c1), .val (.ref b748), .val (.ref eA), .unset] [(.ref eA)])) _
    obtain ⟨_, _, ⟨T753, L753, k753, n753⟩, -, X753, ⟨Lc753, hQ753, l753, y753, z753⟩, st753⟩ := Jvm.LawKit.callS X752 hx (y := mN49) hown (mo hZ hw 3) (mo hZ hw 4) (mo hZ hw 5) (mo hZ hw 6) (by decide) (backOf (W := 0) (hd l Z a0 hw [] eA kE M h752 n0 O V_eA g_eA (by omega)) hZ (ow hw 6) (ow hw 5) (by decide) (by decide)) (g := (mkF m 138 #[.val (.int p0), .val (.int p1), .val (.int p2), .val (.int p3), .val (.int 1), .val (.int f_), .val (.int c0), .val (.int c1), .val (.ref b748), .val (.ref eA), .unset] [(.ref eA)])) rfl (by rw [hml]; rfl) (argsL := [(.ref eA)]) (rest := []) (lenOf pd_39 rfl) rfl (by show 2 * 0 + _ ≤ _; exact Nat.le_of_eq rfl) (B at_138) (fun _ _ => ⟨rfl, e752, (by decide : 2 + 0 ≤ _), (by decide : 36 + 0 ≤ _)⟩)
    dsimp only [Pt.U, Pt.locs, Pt.cells, Pt.slots] at X753 l753 y753 z753 st753 hQ753
    subst y753 z753
    obtain ⟨rfl, N753q, Kq753, P753_0⟩ := hQ753
    refine oG st753 ?_
    have N753 := oL l753 (Fr.app N752 N753q)
    have Sq := (sfS (Safe.exa (EL := o_EL) hZ.alike E_eA (by decide) (by decide)) sf0)
    have CR := CR.trans (CHr.keep Kq753 Sq HC)
    have j43_ := Safe.keep Kq753 Sq HC j43_
    have HC := CHv.keep Kq753 Sq HC
    have j40_ := j40_.keep Kq753
    have j36_ := j36_.keep Kq753 (ninS j45_ nin0)
    clear V_eA
    have E_eA := E_eA.keep Kq753
    have O := O.keep Kq753 (allS g_eA all0)
    have K754 := K752.trans Kq753 (allS (Or.inr sz_eA) all0)
    have hk := Nat.le_trans hk Kq753.1
    have V_eA := P753_0
    show oF p e below (T753.setTop (mkF m 141 #[.val (.int p0), .val (.int p1), .val (.int p2), .val (.int p3), .val (.int 1), .val (.int f_), .val (.int c0), .val (.int c1), .val (.ref b748), .val (.ref eA), .unset] [])) _
    refine oG (fun _ k => XS.iload X753.here hx rfl (B at_141) rfl (XS.iconst X753.here hx rfl (B at_143) (XS.icmpNo X753.here hx rfl (B at_144) rfl (flt (by decide : ¬ ((1 : Int32) < (1 : Int32)))).1 (XS.aload X753.here hx rfl (B at_147) rfl rfl (XS.bipush X753.here hx rfl (B at_149) (XS.iload X753.here hx rfl (B at_151) rfl k)))))) ?_
    show oF p e below (T753.setTop (mkF m 153 #[.val (.int p0), .val (.int p1), .val (.int p2), .val (.int p3), .val (.int 1), .val (.int f_), .val (.int c0), .val (.int c1), .val (.ref b748), .val (.ref eA), .unset] [(.int c0), (.int 17), (.ref eA)])) _
    obtain ⟨T755, h755, X755, e755, W755, Vq755, st755⟩ := o_sC X753 hx hZ rfl V_eA (j := (17 : Int32)) (o_h0 17 (K := 17) (by decide) rfl) (o_hm (K := 17) rfl (by omega)) (g := (mkF m 153 #[.val (.int p0), .val (.int p1), .val (.int p2), .val (.int p3), .val (.int 1), .val (.int f_), .val (.int c0), .val (.int c1), .val (.ref b748), .val (.ref eA), .unset] [(.int c0), (.int 17), (.ref eA)])) rfl rfl (B at_153)
    refine oG st755 ?_
    have Sq := (Safe.exa (EL := o_EL) hZ.alike E_eA (by decide) (by decide))
    have CR := CR.trans (CHr.wr W755 Sq HC)
    have j43_ := Safe.wr W755 Sq HC j43_
    have HC := CHv.wr W755 Sq HC
    have j40_ := j40_.wr W755
    have j36_ := j36_.other W755 j45_
    have E_eA := E_eA.wr W755
    have O := O.wr W755 g_eA
    have K756 := K754.wr W755 (Or.inr sz_eA)
    have hk := Nat.le_trans hk (Nat.le_of_eq (Wr.size W755).symm)
    have V_eA : Arv Z h755 eA kE .char M (o_ch (o_HD ++ [c0])) (.int 0) := by rw [o_narc (rc0 _ (List.mem_singleton.mpr rfl)).1 (rc0 _ (List.mem_singleton.mpr rfl)).2, o_chc] at Vq755; exact Vq755
    have N755 := Fr.snoc X755 N753 g_eA
    show oF p e below (T755.setTop (mkF m 154 #[.val (.int p0), .val (.int p1), .val (.int p2), .val (.int p3), .val (.int 1), .val (.int f_), .val (.int c0), .val (.int c1), .val (.ref b748), .val (.ref eA), .unset] [])) _
    refine oG (fun _ k => XS.iload X755.here hx rfl (B at_154) rfl (XS.iconst X755.here hx rfl (B at_156) (XS.icmpYes X755.here hx rfl (pc0 := 157) (pc' := 167) rfl (B at_157) rfl (tlt (by decide : (1 : Int32) < (2 : Int32))).1 (by decide) (by decide) k))) ?_
    show oF p e below (T755.setTop (mkF m 167 #[.val (.int p0), .val (.int p1), .val (.int p2), .val (.int p3), .val (.int 1), .val (.int f_), .val (.int c0), .val (.int c1), .val (.ref b748), .val (.ref eA), .unset] [])) _
    have j36_ : Arv Z h755 b748 k748 .char (1 : Int32) (o_ch [c0]) (.int 0) := by rw [o_narc (rc0 _ (List.mem_singleton.mpr rfl)).1 (rc0 _ (List.mem_singleton.mpr rfl)).2] at j36_; exact j36_
    have V_eA : Arv Z h755 eA kE .char M (o_ch (o_HD ++ [c0])) (.int 0) := by exact V_eA
    exact mn _ _ _ _ _ b748 eA _ _ _ _ _ _ [c0] _ _ (X755.more (by decide) (by decide)) e755 N755 hS hk hZ hown HC CR O K756 j36_ V_eA j40_ E_eA rc0 (Nat.le_of_ble_eq_true rfl) rfl rfl hf hM j143_ g_eA j211_ sz_eA j45_
   show oF p e below (T750.setTop (mkF m 82 #[.val (.int p0), .val (.int p1), .val (.int p2), .val (.int p3), .val (.int 1), .val (.int f_), .val (.int c0), .val (.int c1), .val (.ref b748), .unset, .unset] [])) _
   refine oG (fun _ k => XS.iload X750.here hx rfl (B at_82) rfl k) ?_
   show oF p e below (T750.setTop (mkF m 84 #[.val (.int p0), .val (.int p1), .val (.int p2), .val (.int p3), .val (.int 1), .val (.int f_), .val (.int c0), .val (.int c1), .val (.ref b748), .unset, .unset] [(.int f_)])) _
   by_cases hc84_757 : f_ = (0 : Int32)
   ·refine oG (fun _ k => XS.ifYes X750.here hx rfl (pc0 := 84) (pc' := 94) rfl (B at_84) rfl ((if0 _ _).trans (teq hc84_757).1) (by decide) (by decide) (XS.bipush X750.here hx rfl (B at_94) k)) ?_
    show oF p e below (T750.setTop (mkF m 96 #[.val (.int p0), .val (.int p1), .val (.int p2), .val (.int p3), .val (.int 1), .val (.int f_), .val (.int c0), .val (.int c1), .val (.ref b748), .unset, .unset] [(.int 34)])) _
    obtain ⟨T758, h758, k758, X758, e758, E758, A758, B758, st758⟩ := newPE X750 hx hZ (ow hw 2) e750 (g := (mkF m 96 #[.val (.int p0), .val (.int p1), .val (.int p2), .val (.int p3), .val (.int 1), .val (.int f_), .val (.int c0), .val (.int c1), .val (.ref b748), .unset, .unset] [(.int 34)])) rfl (B at_96) rfl (by decide) (cap := 35) (by decide) (by decide) (by decide) (by decide) (ad := "[C") (by decide)
    obtain ⟨b758, g758⟩ : ∃ z, z = h750.size := ⟨_, rfl⟩
    rw [← g758] at A758 st758 B758
    refine oG st758 ?_
    have ne_b748_b758 : b748 ≠ b758 := Nat.ne_of_lt (Nat.lt_of_lt_of_le j40_.lt (Nat.le_of_eq g758.symm))
    have g_b758 : n0 ≤ b758 := Nat.le_trans (o_osz O) (Nat.le_of_eq g758.symm)
    have sz_b758 : h0.size ≤ b758 := Nat.le_trans K751.1 (Nat.le_of_eq g758.symm)
    have CR := CR.trans (CHr.ext E758 HC)
    have j43_ := Safe.ext E758 HC j43_
    have S_b758 := Safe.ext E758 HC (Safe.new (Nat.le_of_eq g758.symm))
    have HC := CHv.ext E758 HC
    have j40_ := j40_.ext E758
    have j36_ := j36_.ext E758
    have O := O.ext E758
    have K759 := K751.ext E758
    have hk := Nat.le_trans hk E758.1
    have E_b758 := B758
    have V_b758 : Arv Z h758 b758 k758 .char (34 : Int32) [] (.int 0) := Arv.new A758 (by decide)
    show oF p e below (T758.setTop (mkF m 98 #[.val (.int p0), .val (.int p1), .val (.int p2), .val (.int p3), .val (.int 1), .val (.int f_), .val (.int c0), .val (.int c1), .val (.ref b748), .unset, .unset] [(.ref b758)])) _
    refine oG (fun _ k => XS.astore X758.here hx rfl (B at_98) rfl rfl (l' := #[.val (.int p0), .val (.int p1), .val (.int p2), .val (.int p3), .val (.int 1), .val (.int f_), .val (.int c0), .val (.int c1), .val (.ref b748), .val (.ref b758), .unset]) rfl (XS.goto X758.here hx rfl (pc0 := 100) (pc' := 136) rfl (B at_100) (by decide) (by decide) k)) ?_
    show oF p e below (T758.setTop (mkF m 136 #[.val (.int p0), .val (.int p1), .val (.int p2), .val (.int p3), .val (.int 1), .val (.int f_), .val (.int c0), .val (.int c1), .val (.ref b748), .val (.ref b758), .unset] [])) _
    exact je _ _ _ _ _ b758 k758 _ X758 e758 N750 hS hk hZ hown HC CR j43_ O K759 j40_ j36_ V_b758 E_b758 g_b758 sz_b758 ne_b748_b758 (by rw [o_tl0 hc84_757]; rfl)
   ·refine oG (fun _ k => XS.ifNo X750.here hx rfl (B at_84) rfl ((if0 _ _).trans (feq hc84_757).1) (XS.bipush X750.here hx rfl (B at_87) k)) ?_
    show oF p e below (T750.setTop (mkF m 89 #[.val (.int p0), .val (.int p1), .val (.int p2), .val (.int p3), .val (.int 1), .val (.int f_), .val (.int c0), .val (.int c1), .val (.ref b748), .unset, .unset] [(.int 33)])) _
    obtain ⟨T760, h760, k760, X760, e760, E760, A760, B760, st760⟩ := newPE X750 hx hZ (ow hw 2) e750 (g := (mkF m 89 #[.val (.int p0), .val (.int p1), .val (.int p2), .val (.int p3), .val (.int 1), .val (.int f_), .val (.int c0), .val (.int c1), .val (.ref b748), .unset, .unset] [(.int 33)])) rfl (B at_89) rfl (by decide) (cap := 35) (by decide) (by decide) (by decide) (by decide) (ad := "[C") (by decide)
    obtain ⟨b760, g760⟩ : ∃ z, z = h750.size := ⟨_, rfl⟩
    rw [← g760] at A760 st760 B760
    refine oG st760 ?_
    have ne_b748_b760 : b748 ≠ b760 := Nat.ne_of_lt (Nat.lt_of_lt_of_le j40_.lt (Nat.le_of_eq g760.symm))
    have g_b760 : n0 ≤ b760 := Nat.le_trans (o_osz O) (Nat.le_of_eq g760.symm)
    have sz_b760 : h0.size ≤ b760 := Nat.le_trans K751.1 (Nat.le_of_eq g760.symm)
    have CR := CR.trans (CHr.ext E760 HC)
    have j43_ := Safe.ext E760 HC j43_
    have S_b760 := Safe.ext E760 HC (Safe.new (Nat.le_of_eq g760.symm))
    have HC := CHv.ext E760 HC
    have j40_ := j40_.ext E760
    have j36_ := j36_.ext E760
    have O := O.ext E760
    have K761 := K751.ext E760
    have hk := Nat.le_trans hk E760.1
    have E_b760 := B760
    have V_b760 : Arv Z h760 b760 k760 .char (33 : Int32) [] (.int 0) := Arv.new A760 (by decide)
    show oF p e below (T760.setTop (mkF m 91 #[.val (.int p0), .val (.int p1), .val (.int p2), .val (.int p3), .val (.int 1), .val (.int f_), .val (.int c0), .val (.int c1), .val (.ref b748), .unset, .unset] [(.ref b760)])) _
    refine oG (fun _ k => XS.goto X760.here hx rfl (pc0 := 91) (pc' := 98) rfl (B at_91) (by decide) (by decide) (XS.astore X760.here hx rfl (B at_98) rfl rfl (l' := #[.val (.int p0), .val (.int p1), .val (.int p2), .val (.int p3), .val (.int 1), .val (.int f_), .val (.int c0), .val (.int c1), .val (.ref b748), .val (.ref b760), .unset]) rfl (XS.goto X760.here hx rfl (pc0 := 100) (pc' := 136) rfl (B at_100) (by decide) (by decide) k))) ?_
    show oF p e below (T760.setTop (mkF m 136 #[.val (.int p0), .val (.int p1), .val (.int p2), .val (.int p3), .val (.int 1), .val (.int f_), .val (.int c0), .val (.int c1), .val (.ref b748), .val (.ref b760), .unset] [])) _
    exact je _ _ _ _ _ b760 k760 _ X760 e760 N750 hS hk hZ hown HC CR j43_ O K761 j40_ j36_ V_b760 E_b760 g_b760 sz_b760 ne_b748_b760 (by rw [o_tl1 hc84_757]; rfl)
  show oF p e below (s₁.setTop (mkF m 8 #[.val (.int p0), .val (.int p1), .val (.int p2), .val (.int p3), .val (.int 1), .unset, .unset, .unset, .unset, .unset, .unset] [])) _
  refine oG (fun _ k => XS.iloadN X0.here hx rfl (B at_8) rfl (XS.iconst X0.here hx rfl (B at_9) (XS.iand X0.here hx rfl (B at_10) rfl k))) ?_
  show oF p e below (s₁.setTop (mkF m 11 #[.val (.int p0), .val (.int p1), .val (.int p2), .val (.int p3), .val (.int 1), .unset, .unset, .unset, .unset, .unset, .unset] [(.int (p1 &&& (1 : Int32)))])) _
  by_cases hc11_762 : (p1 &&& (1 : Int32)) = (0 : Int32)
  ·refine oG (fun _ k => XS.ifYes X0.here hx rfl (pc0 := 11) (pc' := 18) rfl (B at_11) rfl ((if0 _ _).trans (teq hc11_762).1) (by decide) (by decide) (XS.iconst X0.here hx rfl (B at_18) k)) ?_
   show oF p e below (s₁.setTop (mkF m 19 #[.val (.int p0), .val (.int p1), .val (.int p2), .val (.int p3), .val (.int 1), .unset, .unset, .unset, .unset, .unset, .unset] [(.int 0)])) _
   exact jf _ (Or.inl rfl)
  ·refine oG (fun _ k => XS.ifNo X0.here hx rfl (B at_11) rfl ((if0 _ _).trans (feq hc11_762).1) (XS.iconst X0.here hx rfl (B at_14) (XS.goto X0.here hx rfl (pc0 := 15) (pc' := 19) rfl (B at_15) (by decide) (by decide) k))) ?_
   show oF p e below (s₁.setTop (mkF m 19 #[.val (.int p0), .val (.int p1), .val (.int p2), .val (.int p3), .val (.int 1), .unset, .unset, .unset, .unset, .unset, .unset] [(.int 1)])) _
   exact jf _ (Or.inr rfl)
 ·rw [hk3]
  show oF p e below (s₁.setTop (mkF m 8 #[.val (.int p0), .val (.int p1), .val (.int p2), .val (.int p3), .val (.int 2), .unset, .unset, .unset, .unset, .unset, .unset] [])) _
  have jf : ∀ (f_ : Int32), (f_ = (0 : Int32) ∨ f_ = (1 : Int32)) → oF p e below (s₁.setTop (mkF m 19 #[.val (.int p0), .val (.int p1), .val (.int p2), .val (.int p3), .val (.int 2), .unset, .unset, .unset, .unset, .unset, .unset] [(.int f_)])) (fun o' t' => ∃ v' L', o' = .returned v' ∧ Qrm0 Z  h0 n0 v' t'.heap L' ∧ CHr Z o_EL s.vm s.heap t'.vm t'.heap ∧ ReturnedEndW s o' t' L' 30 2315) := by
   intro f_ hf
   show oF p e below (s₁.setTop (mkF m 19 #[.val (.int p0), .val (.int p1), .val (.int p2), .val (.int p3), .val (.int 2), .unset, .unset, .unset, .unset, .unset, .unset] [(.int f_)])) _
   refine oG (fun _ k => XS.istore X0.here hx rfl (B at_19) rfl (l' := #[.val (.int p0), .val (.int p1), .val (.int p2), .val (.int p3), .val (.int 2), .val (.int f_), .unset, .unset, .unset, .unset, .unset]) rfl (XS.iloadN X0.here hx rfl (B at_21) rfl k)) ?_
   show oF p e below (s₁.setTop (mkF m 22 #[.val (.int p0), .val (.int p1), .val (.int p2), .val (.int p3), .val (.int 2), .val (.int f_), .unset, .unset, .unset, .unset, .unset] [(.int p2)])) _
   refine oG (fun _ k => X0.ldcInt hx hown (mo hZ hw 1) (g := (mkF m 22 #[.val (.int p0), .val (.int p1), .val (.int p2), .val (.int p3), .val (.int 2), .val (.int f_), .unset, .unset, .unset, .unset, .unset] [(.int p2)])) rfl (B at_22) _ k) ?_
   show oF p e below (s₁.setTop (mkF m 24 #[.val (.int p0), .val (.int p1), .val (.int p2), .val (.int p3), .val (.int 2), .val (.int f_), .unset, .unset, .unset, .unset, .unset] [(.int 65535), (.int p2)])) _
   refine oG (fun _ k => XS.iand X0.here hx rfl (B at_24) rfl (XS.i2c X0.here hx rfl (B at_25) rfl (XS.istore X0.here hx rfl (B at_26) rfl (l' := #[.val (.int p0), .val (.int p1), .val (.int p2), .val (.int p3), .val (.int 2), .val (.int f_), .val (.int ((p2 &&& (65535 : Int32)).toUInt32.toUInt16.toUInt32.toInt32)), .unset, .unset, .unset, .unset]) rfl (XS.iloadN X0.here hx rfl (B at_28) rfl k)))) ?_
   show oF p e below (s₁.setTop (mkF m 29 #[.val (.int p0), .val (.int p1), .val (.int p2), .val (.int p3), .val (.int 2), .val (.int f_), .val (.int ((p2 &&& (65535 : Int32)).toUInt32.toUInt16.toUInt32.toInt32)), .unset, .unset, .unset, .unset] [(.int p3)])) _
   refine oG (fun _ k => X0.ldcInt hx hown (mo hZ hw 1) (g := (mkF m 29 #[.val (.int p0), .val (.int p1), .val (.int p2), .val (.int p3), .val (.int 2), .val (.int f_), .val (.int ((p2 &&& (65535 : Int32)).toUInt32.toUInt16.toUInt32.toInt32)), .unset, .unset, .unset, .unset] [(.int p3)])) rfl (B at_29) _ k) ?_
   show oF p e below (s₁.setTop (mkF m 31 #[.val (.int p0), .val (.int p1), .val (.int p2), .val (.int p3), .val (.int 2), .val (.int f_), .val (.int ((p2 &&& (65535 : Int32)).toUInt32.toUInt16.toUInt32.toInt32)), .unset, .unset, .unset, .unset] [(.int 65535), (.int p3)])) _
   refine oG (fun _ k => XS.iand X0.here hx rfl (B at_31) rfl (XS.i2c X0.here hx rfl (B at_32) rfl (XS.istore X0.here hx rfl (B at_33) rfl (l' := #[.val (.int p0), .val (.int p1), .val (.int p2), .val (.int p3), .val (.int 2), .val (.int f_), .val (.int ((p2 &&& (65535 : Int32)).toUInt32.toUInt16.toUInt32.toInt32)), .val (.int ((p3 &&& (65535 : Int32)).toUInt32.toUInt16.toUInt32.toInt32)), .unset, .unset, .unset]) rfl k))) ?_
   show oF p e below (s₁.setTop (mkF m 35 #[.val (.int p0), .val (.int p1), .val (.int p2), .val (.int p3), .val (.int 2), .val (.int f_), .val (.int ((p2 &&& (65535 : Int32)).toUInt32.toUInt16.toUInt32.toInt32)), .val (.int ((p3 &&& (65535 : Int32)).toUInt32.toUInt16.toUInt32.toInt32)), .unset, .unset, .unset] [])) _
   obtain ⟨c0, hc0⟩ : ∃ z, z = ((p2 &&& (65535 : Int32)).toUInt32.toUInt16.toUInt32.toInt32) := ⟨_, rfl⟩
   rw [← hc0]
   have rc0 : o_rng [c0] := by rw [hc0]; exact o_rng1 (o_i2cr _).1 (o_i2cr _).2
   obtain ⟨c1, hc1⟩ : ∃ z, z = ((p3 &&& (65535 : Int32)).toUInt32.toUInt16.toUInt32.toInt32) := ⟨_, rfl⟩
   rw [← hc1]
   have rc1 : o_rng [c1] := by rw [hc1]; exact o_rng1 (o_i2cr _).1 (o_i2cr _).2
   show oF p e below (s₁.setTop (mkF m 35 #[.val (.int p0), .val (.int p1), .val (.int p2), .val (.int p3), .val (.int 2), .val (.int f_), .val (.int c0), .val (.int c1), .unset, .unset, .unset] [])) _
   refine oG (fun _ k => XS.iload X0.here hx rfl (B at_35) rfl (XS.ifYes X0.here hx rfl (pc0 := 37) (pc' := 66) rfl (B at_37) rfl ((if0 _ _).trans (feq (by decide : ¬ ((2 : Int32) = (0 : Int32)))).2) (by decide) (by decide) (XS.iload X0.here hx rfl (B at_66) rfl (XS.iconst X0.here hx rfl (B at_68) (XS.icmpYes X0.here hx rfl (pc0 := 69) (pc' := 103) rfl (B at_69) rfl (feq (by decide : ¬ ((2 : Int32) = (1 : Int32)))).2 (by decide) (by decide) (XS.iconst X0.here hx rfl (B at_103) k)))))) ?_
   show oF p e below (s₁.setTop (mkF m 104 #[.val (.int p0), .val (.int p1), .val (.int p2), .val (.int p3), .val (.int 2), .val (.int f_), .val (.int c0), .val (.int c1), .unset, .unset, .unset] [(.int 2)])) _
   obtain ⟨T763, h763, k763, X763, e763, E763, A763, B763, st763⟩ := newPE X0 hx hZ (ow hw 2) e0 (g := (mkF m 104 #[.val (.int p0), .val (.int p1), .val (.int p2), .val (.int p3), .val (.int 2), .val (.int f_), .val (.int c0), .val (.int c1), .unset, .unset, .unset] [(.int 2)])) rfl (B at_104) rfl (by decide) (cap := 2) (by decide) (by decide) (by decide) (by decide) (ad := "[C") (by decide)
   obtain ⟨b763, g763⟩ : ∃ z, z = h0.size := ⟨_, rfl⟩
   rw [← g763] at A763 st763 B763
   refine oG st763 ?_
   have j95_ : n0 ≤ b763 := Nat.le_trans (o_osz O) (Nat.le_of_eq g763.symm)
   have j144_ : h0.size ≤ b763 := Nat.le_trans K0.1 (Nat.le_of_eq g763.symm)
   have CR := CR.trans (CHr.ext E763 HC)
   have j32_ := Safe.ext E763 HC (Safe.new (Nat.le_of_eq g763.symm))
   have HC := CHv.ext E763 HC
   have O := O.ext E763
   have K764 := K0.ext E763
   have hk := Nat.le_trans hk E763.1
   have j30_ := B763
   have j26_ : Arv Z h763 b763 k763 .char (2 : Int32) [(.int 0), (.int 0)] (.int 0) := (Arv.new A763 (by decide)).pad (pad_rep [] (.int 0) 2)
   show oF p e below (T763.setTop (mkF m 106 #[.val (.int p0), .val (.int p1), .val (.int p2), .val (.int p3), .val (.int 2), .val (.int f_), .val (.int c0), .val (.int c1), .unset, .unset, .unset] [(.ref b763)])) _
   refine oG (fun _ k => XS.dup X763.here hx rfl (B at_106) rfl rfl (XS.iconst X763.here hx rfl (B at_107) (XS.iload X763.here hx rfl (B at_108) rfl k))) ?_
   show oF p e below (T763.setTop (mkF m 110 #[.val (.int p0), .val (.int p1), .val (.int p2), .val (.int p3), .val (.int 2), .val (.int f_), .val (.int c0), .val (.int c1), .unset, .unset, .unset] [(.int c0), (.int 0), (.ref b763), (.ref b763)])) _
   obtain ⟨cl765, A765, q765, S765, M765, H765, G765⟩ := id j26_
   have hin765 : ¬ ((0 : Int32) < 0 ∨ cl765.slots.size ≤ ((0 : Int32)).toNatClampNeg) := inb_of S765 ⟨by decide, by decide⟩
   obtain ⟨T765, h765, X765, e765, W765, st765⟩ := stC X763 hx hZ e763 A765 (j := (0 : Int32)) hin765 (g := (mkF m 110 #[.val (.int p0), .val (.int p1), .val (.int p2), .val (.int p3), .val (.int 2), .val (.int f_), .val (.int c0), .val (.int c1), .unset, .unset, .unset] [(.int c0), (.int 0), (.ref b763), (.ref b763)])) rfl rfl (B at_110)
   refine oG st765 ?_
   have Sq := j32_
   have CR := CR.trans (CHr.wr W765 Sq HC)
   have j32_ := Safe.wr W765 Sq HC j32_
   have HC := CHv.wr W765 Sq HC
   have j30_ := j30_.wr W765
   have O := O.wr W765 j95_
   have K766 := K764.wr W765 (Or.inr j144_)
   have hk := Nat.le_trans hk (Nat.le_of_eq (Wr.size W765).symm)
   have j26_ : Arv Z h765 b763 k763 .char (2 : Int32) [(.int (nar .char c0)), (.int 0)] (.int 0) := Arv.set A765 q765 S765 M765 H765 G765 (fits_nar_char _) W765 0 rfl (Nat.le_of_ble_eq_true rfl)
   have N765 := Fr.snoc X765 N0 j95_
   show oF p e below (T765.setTop (mkF m 111 #[.val (.int p0), .val (.int p1), .val (.int p2), .val (.int p3), .val (.int 2), .val (.int f_), .val (.int c0), .val (.int c1), .unset, .unset, .unset] [(.ref b763)])) _
   refine oG (fun _ k => XS.dup X765.here hx rfl (B at_111) rfl rfl (XS.iconst X765.here hx rfl (B at_112) (XS.iload X765.here hx rfl (B at_113) rfl k))) ?_
   show oF p e below (T765.setTop (mkF m 115 #[.val (.int p0), .val (.int p1), .val (.int p2), .val (.int p3), .val (.int 2), .val (.int f_), .val (.int c0), .val (.int c1), .unset, .unset, .unset] [(.int c1), (.int 1), (.ref b763), (.ref b763)])) _
   obtain ⟨cl767, A767, q767, S767, M767, H767, G767⟩ := id j26_
   have hin767 : ¬ ((1 : Int32) < 0 ∨ cl767.slots.size ≤ ((1 : Int32)).toNatClampNeg) := inb_of S767 ⟨by decide, by decide⟩
   obtain ⟨T767, h767, X767, e767, W767, st767⟩ := stC X765 hx hZ e765 A767 (j := (1 : Int32)) hin767 (g := (mkF m 115 #[.val (.int p0), .val (.int p1), .val (.int p2), .val (.int p3), .val (.int 2), .val (.int f_), .val (.int c0), .val (.int c1), .unset, .unset, .unset] [(.int c1), (.int 1), (.ref b763), (.ref b763)])) rfl rfl (B at_115)
   refine oG st767 ?_
   have Sq := j32_
   have CR := CR.trans (CHr.wr W767 Sq HC)
   have j32_ := Safe.wr W767 Sq HC j32_
   have HC := CHv.wr W767 Sq HC
   have j30_ := j30_.wr W767
   have O := O.wr W767 j95_
   have K768 := K766.wr W767 (Or.inr j144_)
   have hk := Nat.le_trans hk (Nat.le_of_eq (Wr.size W767).symm)
   have j26_ : Arv Z h767 b763 k763 .char (2 : Int32) [(.int (nar .char c0)), (.int (nar .char c1))] (.int 0) := Arv.set A767 q767 S767 M767 H767 G767 (fits_nar_char _) W767 1 rfl (Nat.le_of_ble_eq_true rfl)
   have N767 := Fr.snoc X767 N765 j95_
   show oF p e below (T767.setTop (mkF m 116 #[.val (.int p0), .val (.int p1), .val (.int p2), .val (.int p3), .val (.int 2), .val (.int f_), .val (.int c0), .val (.int c1), .unset, .unset, .unset] [(.ref b763)])) _
   refine oG (fun _ k => XS.astore X767.here hx rfl (B at_116) rfl rfl (l' := #[.val (.int p0), .val (.int p1), .val (.int p2), .val (.int p3), .val (.int 2), .val (.int f_), .val (.int c0), .val (.int c1), .val (.ref b763), .unset, .unset]) rfl k) ?_
   show oF p e below (T767.setTop (mkF m 118 #[.val (.int p0), .val (.int p1), .val (.int p2), .val (.int p3), .val (.int 2), .val (.int f_), .val (.int c0), .val (.int c1), .val (.ref b763), .unset, .unset] [])) _
   have je : ∀ (T769 : State) (L769 : List Loc) (h769 : Heap) (vm769 : Vm) (kS769 : Nat) (eA : Addr) (kE : ClassId) (M : Int32), Stand p l e room_1 (s.setVm vm769) m #[(.int p0), (.int p1), (.int p2), (.int p3)] below meth c T769 L769 2 37 → T769.heap = h769 → Fr n0 L769 → s.Since vm769 kS769 → kS769 ≤ h769.size → Z.Warmed39 (s.setVm vm769).vm → (s.setVm vm769).vm.findClass "com/example/holdfast/holdfast/RenewalToStringPinLaw" = some m.cls → CHv Z o_EL vm769 h769 → CHr Z o_EL s.vm h0 vm769 h769 → Safe Z o_EL vm769 h769 b763 → Old Z n0 h769 → Keep h0 h769 [] → eX4 Z h769 b763 → Arv Z h769 b763 k763 .char (2 : Int32) [(.int (nar .char c0)), (.int (nar .char c1))] (.int 0) → Arv Z h769 eA kE .char M [] (.int 0) → eX4 Z h769 eA → n0 ≤ eA → h0.size ≤ eA → b763 ≠ eA → M.toInt = ((17 + 2 + (o_TL f_).length : Nat) : Int) → oF p e below (T769.setTop (mkF m 136 #[.val (.int p0), .val (.int p1), .val (.int p2), .val (.int p3), .val (.int 2), .val (.int f_), .val (.int c0), .val (.int c1), .val (.ref b763), .val (.ref eA), .unset] [])) (fun o' t' => ∃ v' L', o' = .returned v' ∧ Qrm0 Z  h0 n0 v' t'.heap L' ∧ CHr Z o_EL s.vm s.heap t'.vm t'.heap ∧ ReturnedEndW s o' t' L' 30 2315) := by
    intro T769 L769 h769 vm769 kS769 eA kE M X769 e769 N769 hS hk hZ hown HC CR j32_ O K769 j30_ j26_ V_eA E_eA g_eA sz_eA j45_ hM
    have htl := o_tll f_
    show oF p e below (T769.setTop (mkF m 136 #[.val (.int p0), .val (.int p1), .val (.int p2), .val (.int p3), .val (.int 2), .val (.int f_), .val (.int c0), .val (.int c1), .val (.ref b763), .val (.ref eA), .unset] [])) _
    refine oG (fun _ k => XS.aload X769.here hx rfl (B at_136) rfl rfl k) ?_
    show oF p e below (T769.setTop (mkF m 138 #[.val (.int p0), .val (.int p1), .val (.int p2), .val (.int p3), .val (.int 2), .val (.int f_), .val (.int c0), .val (.int c1), .val (.ref b763), .val (.ref eA), .unset] [(.ref eA)])) _
    obtain ⟨_, _, ⟨T770, L770, k770, n770⟩, -, X770, ⟨Lc770, hQ770, l770, y770, z770⟩, st770⟩ := Jvm.LawKit.callS X769 hx (y := mN49) hown (mo hZ hw 3) (mo hZ hw 4) (mo hZ hw 5) (mo hZ hw 6) (by decide) (backOf (W := 0) (hd l Z a0 hw [] eA kE M h769 n0 O V_eA g_eA (by omega)) hZ (ow hw 6) (ow hw 5) (by decide) (by decide)) (g := (mkF m 138 #[.val (.int p0), .val (.int p1), .val (.int p2), .val (.int p3), .val (.int 2), .val (.int f_), .val (.int c0), .val (.int c1), .val (.ref b763), .val (.ref eA), .unset] [(.ref eA)])) rfl (by rw [hml]; rfl) (argsL := [(.ref eA)]) (rest := []) (lenOf pd_39 rfl) rfl (by show 2 * 0 + _ ≤ _; exact Nat.le_of_eq rfl) (B at_138) (fun _ _ => ⟨rfl, e769, (by decide : 2 + 0 ≤ _), (by decide : 37 + 0 ≤ _)⟩)
    dsimp only [Pt.U, Pt.locs, Pt.cells, Pt.slots] at X770 l770 y770 z770 st770 hQ770
    subst y770 z770
    obtain ⟨rfl, N770q, Kq770, P770_0⟩ := hQ770
    refine oG st770 ?_
    have N770 := oL l770 (Fr.app N769 N770q)
    have Sq := (sfS (Safe.exa (EL := o_EL) hZ.alike E_eA (by decide) (by decide)) sf0)
    have CR := CR.trans (CHr.keep Kq770 Sq HC)
    have j32_ := Safe.keep Kq770 Sq HC j32_
    have HC := CHv.keep Kq770 Sq HC
    have j30_ := j30_.keep Kq770
    have j26_ := j26_.keep Kq770 (ninS j45_ nin0)
    clear V_eA
    have E_eA := E_eA.keep Kq770
    have O := O.keep Kq770 (allS g_eA all0)
    have K771 := K769.trans Kq770 (allS (Or.inr sz_eA) all0)
    have hk := Nat.le_trans hk Kq770.1
    have V_eA := P770_0
    show oF p e below (T770.setTop (mkF m 141 #[.val (.int p0), .val (.int p1), .val (.int p2), .val (.int p3), .val (.int 2), .val (.int f_), .val (.int c0), .val (.int c1), .val (.ref b763), .val (.ref eA), .unset] [])) _
    refine oG (fun _ k => XS.iload X770.here hx rfl (B at_141) rfl (XS.iconst X770.here hx rfl (B at_143) (XS.icmpNo X770.here hx rfl (B at_144) rfl (flt (by decide : ¬ ((2 : Int32) < (1 : Int32)))).1 (XS.aload X770.here hx rfl (B at_147) rfl rfl (XS.bipush X770.here hx rfl (B at_149) (XS.iload X770.here hx rfl (B at_151) rfl k)))))) ?_
    show oF p e below (T770.setTop (mkF m 153 #[.val (.int p0), .val (.int p1), .val (.int p2), .val (.int p3), .val (.int 2), .val (.int f_), .val (.int c0), .val (.int c1), .val (.ref b763), .val (.ref eA), .unset] [(.int c0), (.int 17), (.ref eA)])) _
    obtain ⟨T772, h772, X772, e772, W772, Vq772, st772⟩ := o_sC X770 hx hZ rfl V_eA (j := (17 : Int32)) (o_h0 17 (K := 17) (by decide) rfl) (o_hm (K := 17) rfl (by omega)) (g := (mkF m 153 #[.val (.int p0), .val (.int p1), .val (.int p2), .val (.int p3), .val (.int 2), .val (.int f_), .val (.int c0), .val (.int c1), .val (.ref b763), .val (.ref eA), .unset] [(.int c0), (.int 17), (.ref eA)])) rfl rfl (B at_153)
    refine oG st772 ?_
    have Sq := (Safe.exa (EL := o_EL) hZ.alike E_eA (by decide) (by decide))
    have CR := CR.trans (CHr.wr W772 Sq HC)
    have j32_ := Safe.wr W772 Sq HC j32_
    have HC := CHv.wr W772 Sq HC
    have j30_ := j30_.wr W772
    have j26_ := j26_.other W772 j45_
    have E_eA := E_eA.wr W772
    have O := O.wr W772 g_eA
    have K773 := K771.wr W772 (Or.inr sz_eA)
    have hk := Nat.le_trans hk (Nat.le_of_eq (Wr.size W772).symm)
    have V_eA : Arv Z h772 eA kE .char M (o_ch (o_HD ++ [c0])) (.int 0) := by rw [o_narc (rc0 _ (List.mem_singleton.mpr rfl)).1 (rc0 _ (List.mem_singleton.mpr rfl)).2, o_chc] at Vq772; exact Vq772
    have N772 := Fr.snoc X772 N770 g_eA
    show oF p e below (T772.setTop (mkF m 154 #[.val (.int p0), .val (.int p1), .val (.int p2), .val (.int p3), .val (.int 2), .val (.int f_), .val (.int c0), .val (.int c1), .val (.ref b763), .val (.ref eA), .unset] [])) _
    refine oG (fun _ k => XS.iload X772.here hx rfl (B at_154) rfl (XS.iconst X772.here hx rfl (B at_156) (XS.icmpNo X772.here hx rfl (B at_157) rfl (flt (by decide : ¬ ((2 : Int32) < (2 : Int32)))).1 (XS.aload X772.here hx rfl (B at_160) rfl rfl (XS.bipush X772.here hx rfl (B at_162) (XS.iload X772.here hx rfl (B at_164) rfl k)))))) ?_
    show oF p e below (T772.setTop (mkF m 166 #[.val (.int p0), .val (.int p1), .val (.int p2), .val (.int p3), .val (.int 2), .val (.int f_), .val (.int c0), .val (.int c1), .val (.ref b763), .val (.ref eA), .unset] [(.int c1), (.int 18), (.ref eA)])) _
    obtain ⟨T774, h774, X774, e774, W774, Vq774, st774⟩ := o_sC X772 hx hZ e772 V_eA (j := (18 : Int32)) (o_h0 18 (K := 18) (by decide) rfl) (o_hm (K := 18) rfl (by omega)) (g := (mkF m 166 #[.val (.int p0), .val (.int p1), .val (.int p2), .val (.int p3), .val (.int 2), .val (.int f_), .val (.int c0), .val (.int c1), .val (.ref b763), .val (.ref eA), .unset] [(.int c1), (.int 18), (.ref eA)])) rfl rfl (B at_166)
    refine oG st774 ?_
    have Sq := (Safe.exa (EL := o_EL) hZ.alike E_eA (by decide) (by decide))
    have CR := CR.trans (CHr.wr W774 Sq HC)
    have j32_ := Safe.wr W774 Sq HC j32_
    have HC := CHv.wr W774 Sq HC
    have j30_ := j30_.wr W774
    have j26_ := j26_.other W774 j45_
    have E_eA := E_eA.wr W774
    have O := O.wr W774 g_eA
    have K775 := K773.wr W774 (Or.inr sz_eA)
    have hk := Nat.le_trans hk (Nat.le_of_eq (Wr.size W774).symm)
    have V_eA : Arv Z h774 eA kE .char M (o_ch ((o_HD ++ [c0]) ++ [c1])) (.int 0) := by rw [o_narc (rc1 _ (List.mem_singleton.mpr rfl)).1 (rc1 _ (List.mem_singleton.mpr rfl)).2, o_chc] at Vq774; exact Vq774
    have N774 := Fr.snoc X774 N772 g_eA
    show oF p e below (T774.setTop (mkF m 167 #[.val (.int p0), .val (.int p1), .val (.int p2), .val (.int p3), .val (.int 2), .val (.int f_), .val (.int c0), .val (.int c1), .val (.ref b763), .val (.ref eA), .unset] [])) _
    have j26_ : Arv Z h774 b763 k763 .char (2 : Int32) (o_ch [c0, c1]) (.int 0) := by rw [o_narc (rc0 _ (List.mem_singleton.mpr rfl)).1 (rc0 _ (List.mem_singleton.mpr rfl)).2] at j26_; rw [o_narc (rc1 _ (List.mem_singleton.mpr rfl)).1 (rc1 _ (List.mem_singleton.mpr rfl)).2] at j26_; exact j26_
    have V_eA : Arv Z h774 eA kE .char M (o_ch (o_HD ++ [c0, c1])) (.int 0) := by exact V_eA
    exact mn _ _ _ _ _ b763 eA _ _ _ _ _ _ [c0, c1] _ _ X774 e774 N774 hS hk hZ hown HC CR O K775 j26_ V_eA j30_ E_eA (o_r2 rc0 rc1) (Nat.le_of_ble_eq_true rfl) rfl rfl hf hM j95_ g_eA j144_ sz_eA j45_
   show oF p e below (T767.setTop (mkF m 118 #[.val (.int p0), .val (.int p1), .val (.int p2), .val (.int p3), .val (.int 2), .val (.int f_), .val (.int c0), .val (.int c1), .val (.ref b763), .unset, .unset] [])) _
   refine oG (fun _ k => XS.iload X767.here hx rfl (B at_118) rfl k) ?_
   show oF p e below (T767.setTop (mkF m 120 #[.val (.int p0), .val (.int p1), .val (.int p2), .val (.int p3), .val (.int 2), .val (.int f_), .val (.int c0), .val (.int c1), .val (.ref b763), .unset, .unset] [(.int f_)])) _
   by_cases hc120_776 : f_ = (0 : Int32)
   ·refine oG (fun _ k => XS.ifYes X767.here hx rfl (pc0 := 120) (pc' := 130) rfl (B at_120) rfl ((if0 _ _).trans (teq hc120_776).1) (by decide) (by decide) (XS.bipush X767.here hx rfl (B at_130) k)) ?_
    show oF p e below (T767.setTop (mkF m 132 #[.val (.int p0), .val (.int p1), .val (.int p2), .val (.int p3), .val (.int 2), .val (.int f_), .val (.int c0), .val (.int c1), .val (.ref b763), .unset, .unset] [(.int 35)])) _
    obtain ⟨T777, h777, k777, X777, e777, E777, A777, B777, st777⟩ := newPE X767 hx hZ (ow hw 2) e767 (g := (mkF m 132 #[.val (.int p0), .val (.int p1), .val (.int p2), .val (.int p3), .val (.int 2), .val (.int f_), .val (.int c0), .val (.int c1), .val (.ref b763), .unset, .unset] [(.int 35)])) rfl (B at_132) rfl (by decide) (cap := 35) (by decide) (by decide) (by decide) (by decide) (ad := "[C") (by decide)
    obtain ⟨b777, g777⟩ : ∃ z, z = h767.size := ⟨_, rfl⟩
    rw [← g777] at A777 st777 B777
    refine oG st777 ?_
    have ne_b763_b777 : b763 ≠ b777 := Nat.ne_of_lt (Nat.lt_of_lt_of_le j30_.lt (Nat.le_of_eq g777.symm))
    have g_b777 : n0 ≤ b777 := Nat.le_trans (o_osz O) (Nat.le_of_eq g777.symm)
    have sz_b777 : h0.size ≤ b777 := Nat.le_trans K768.1 (Nat.le_of_eq g777.symm)
    have CR := CR.trans (CHr.ext E777 HC)
    have j32_ := Safe.ext E777 HC j32_
    have S_b777 := Safe.ext E777 HC (Safe.new (Nat.le_of_eq g777.symm))
    have HC := CHv.ext E777 HC
    have j30_ := j30_.ext E777
    have j26_ := j26_.ext E777
    have O := O.ext E777
    have K778 := K768.ext E777
    have hk := Nat.le_trans hk E777.1
    have E_b777 := B777
    have V_b777 : Arv Z h777 b777 k777 .char (35 : Int32) [] (.int 0) := Arv.new A777 (by decide)
    show oF p e below (T777.setTop (mkF m 134 #[.val (.int p0), .val (.int p1), .val (.int p2), .val (.int p3), .val (.int 2), .val (.int f_), .val (.int c0), .val (.int c1), .val (.ref b763), .unset, .unset] [(.ref b777)])) _
    refine oG (fun _ k => XS.astore X777.here hx rfl (B at_134) rfl rfl (l' := #[.val (.int p0), .val (.int p1), .val (.int p2), .val (.int p3), .val (.int 2), .val (.int f_), .val (.int c0), .val (.int c1), .val (.ref b763), .val (.ref b777), .unset]) rfl k) ?_
    show oF p e below (T777.setTop (mkF m 136 #[.val (.int p0), .val (.int p1), .val (.int p2), .val (.int p3), .val (.int 2), .val (.int f_), .val (.int c0), .val (.int c1), .val (.ref b763), .val (.ref b777), .unset] [])) _
    exact je _ _ _ _ _ b777 k777 _ X777 e777 N767 hS hk hZ hown HC CR j32_ O K778 j30_ j26_ V_b777 E_b777 g_b777 sz_b777 ne_b763_b777 (by rw [o_tl0 hc120_776]; rfl)
   ·refine oG (fun _ k => XS.ifNo X767.here hx rfl (B at_120) rfl ((if0 _ _).trans (feq hc120_776).1) (XS.bipush X767.here hx rfl (B at_123) k)) ?_
    show oF p e below (T767.setTop (mkF m 125 #[.val (.int p0), .val (.int p1), .val (.int p2), .val (.int p3), .val (.int 2), .val (.int f_), .val (.int c0), .val (.int c1), .val (.ref b763), .unset, .unset] [(.int 34)])) _
    obtain ⟨T779, h779, k779, X779, e779, E779, A779, B779, st779⟩ := newPE X767 hx hZ (ow hw 2) e767 (g := (mkF m 125 #[.val (.int p0), .val (.int p1), .val (.int p2), .val (.int p3), .val (.int 2), .val (.int f_), .val (.int c0), .val (.int c1), .val (.ref b763), .unset, .unset] [(.int 34)])) rfl (B at_125) rfl (by decide) (cap := 35) (by decide) (by decide) (by decide) (by decide) (ad := "[C") (by decide)
    obtain ⟨b779, g779⟩ : ∃ z, z = h767.size := ⟨_, rfl⟩
    rw [← g779] at A779 st779 B779
    refine oG st779 ?_
    have ne_b763_b779 : b763 ≠ b779 := Nat.ne_of_lt (Nat.lt_of_lt_of_le j30_.lt (Nat.le_of_eq g779.symm))
    have g_b779 : n0 ≤ b779 := Nat.le_trans (o_osz O) (Nat.le_of_eq g779.symm)
    have sz_b779 : h0.size ≤ b779 := Nat.le_trans K768.1 (Nat.le_of_eq g779.symm)
    have CR := CR.trans (CHr.ext E779 HC)
    have j32_ := Safe.ext E779 HC j32_
    have S_b779 := Safe.ext E779 HC (Safe.new (Nat.le_of_eq g779.symm))
    have HC := CHv.ext E779 HC
    have j30_ := j30_.ext E779
    have j26_ := j26_.ext E779
    have O := O.ext E779
    have K780 := K768.ext E779
    have hk := Nat.le_trans hk E779.1
    have E_b779 := B779
    have V_b779 : Arv Z h779 b779 k779 .char (34 : Int32) [] (.int 0) := Arv.new A779 (by decide)
    show oF p e below (T779.setTop (mkF m 127 #[.val (.int p0), .val (.int p1), .val (.int p2), .val (.int p3), .val (.int 2), .val (.int f_), .val (.int c0), .val (.int c1), .val (.ref b763), .unset, .unset] [(.ref b779)])) _
    refine oG (fun _ k => XS.goto X779.here hx rfl (pc0 := 127) (pc' := 134) rfl (B at_127) (by decide) (by decide) (XS.astore X779.here hx rfl (B at_134) rfl rfl (l' := #[.val (.int p0), .val (.int p1), .val (.int p2), .val (.int p3), .val (.int 2), .val (.int f_), .val (.int c0), .val (.int c1), .val (.ref b763), .val (.ref b779), .unset]) rfl k)) ?_
    show oF p e below (T779.setTop (mkF m 136 #[.val (.int p0), .val (.int p1), .val (.int p2), .val (.int p3), .val (.int 2), .val (.int f_), .val (.int c0), .val (.int c1), .val (.ref b763), .val (.ref b779), .unset] [])) _
    exact je _ _ _ _ _ b779 k779 _ X779 e779 N767 hS hk hZ hown HC CR j32_ O K780 j30_ j26_ V_b779 E_b779 g_b779 sz_b779 ne_b763_b779 (by rw [o_tl1 hc120_776]; rfl)
  show oF p e below (s₁.setTop (mkF m 8 #[.val (.int p0), .val (.int p1), .val (.int p2), .val (.int p3), .val (.int 2), .unset, .unset, .unset, .unset, .unset, .unset] [])) _
  refine oG (fun _ k => XS.iloadN X0.here hx rfl (B at_8) rfl (XS.iconst X0.here hx rfl (B at_9) (XS.iand X0.here hx rfl (B at_10) rfl k))) ?_
  show oF p e below (s₁.setTop (mkF m 11 #[.val (.int p0), .val (.int p1), .val (.int p2), .val (.int p3), .val (.int 2), .unset, .unset, .unset, .unset, .unset, .unset] [(.int (p1 &&& (1 : Int32)))])) _
  by_cases hc11_781 : (p1 &&& (1 : Int32)) = (0 : Int32)
  ·refine oG (fun _ k => XS.ifYes X0.here hx rfl (pc0 := 11) (pc' := 18) rfl (B at_11) rfl ((if0 _ _).trans (teq hc11_781).1) (by decide) (by decide) (XS.iconst X0.here hx rfl (B at_18) k)) ?_
   show oF p e below (s₁.setTop (mkF m 19 #[.val (.int p0), .val (.int p1), .val (.int p2), .val (.int p3), .val (.int 2), .unset, .unset, .unset, .unset, .unset, .unset] [(.int 0)])) _
   exact jf _ (Or.inl rfl)
  ·refine oG (fun _ k => XS.ifNo X0.here hx rfl (B at_11) rfl ((if0 _ _).trans (feq hc11_781).1) (XS.iconst X0.here hx rfl (B at_14) (XS.goto X0.here hx rfl (pc0 := 15) (pc' := 19) rfl (B at_15) (by decide) (by decide) k))) ?_
   show oF p e below (s₁.setTop (mkF m 19 #[.val (.int p0), .val (.int p1), .val (.int p2), .val (.int p3), .val (.int 2), .unset, .unset, .unset, .unset, .unset, .unset] [(.int 1)])) _
   exact jf _ (Or.inr rfl)
theorem comes_1 {Post : Tables → Env → Array Value → State → Outcome → State → Prop} (hpost : ∀ tb e args s v u, (limb_1_1.after args s (.returned v) u = true ∧ limb_1_2.after args s (.returned v) u = true ∧ True) → ReturnedEndW s (.returned v) u (Jvm.fieldLocs frame_1_writes args s ++ Jvm.arrayLocs frame_1_arrays args s ++ Jvm.staticLocs frame_1_statics s) 48 5184 → Post tb e args s (.returned v) u) :
   ArmFor flags0 classFile x code maxLocals ret World_1 tables_1 room_1 Calls_1 rest_1 Pre_1 Post := by
 intro l hfl _ _ p e ha hc hk s m args below hf hA hF happ hP
 obtain ⟨hcalls, hrest, hpre⟩ := hP
 obtain ⟨-, -, -, hnamed, -, -, -, hat⟩ := (Spec.applies_iff hf).mp happ
 obtain ⟨hg, hn⟩ := and_e (Cond.before_iff.mp (show (Jvm.Cond.and given_1 narrow_1).before args s = true from hpre))
 obtain ⟨g1, g2⟩ := and_e hg
 obtain ⟨g3, g4⟩ := and_e g2
 obtain ⟨g5, g6⟩ := and_e g4
 obtain ⟨g7, g8⟩ := and_e g6
 obtain ⟨w0, w1, w2, w3, rfl⟩ : ∃ w0 w1 w2 w3 : Value, args = #[w0, w1, w2, w3] := by
   have hs : args.size = 4 := by simpa [Cond.value, given_1] using g1
   obtain ⟨L⟩ := args
   match L, hs with
   | [w0, w1, w2, w3], _ => exact ⟨w0, w1, w2, w3, rfl⟩
 have hw := fun d (hd : d ∈ tables_1) => atoms_spec (ws := Jvm.Cond.code x code maxLocals ret :: tables_1) hat d (List.mem_cons_of_mem _ hd)
 have hfit : Fit s := fun {y c} hc i hi => by
   obtain ⟨ha, rfl⟩ := Array.getElem?_eq_some_iff.mp hc
   have q := List.all_eq_true.mp ((Array.all_eq_true_iff_forall_mem.mp hF) _ (Array.getElem_mem ha)) i (List.mem_range.mpr hi)
   simpa [Array.getElem?_eq_getElem hi] using q
 obtain ⟨hsets, hown0⟩ := atoms_of _ (rest_1_c_eq ▸ (show rest_1_c.before _ s = true from hrest))
 obtain ⟨i0, ei0⟩ := is_v g3
 obtain rfl : w0 = (.int i0) := Option.some.inj ei0
 obtain ⟨i1, ei1⟩ := is_v g5
 obtain rfl : w1 = (.int i1) := Option.some.inj ei1
 obtain ⟨i2, ei2⟩ := is_v g7
 obtain rfl : w2 = (.int i2) := Option.some.inj ei2
 obtain ⟨i3, ei3⟩ := is_v g8
 obtain rfl : w3 = (.int i3) := Option.some.inj ei3
 obtain ⟨st_COMPACT_STRINGS, ev_st_COMPACT_STRINGS⟩ := is_v (Cond.before_iff.mp (hsets _ (List.mem_of_getElem? (i := 1) rfl)))
 have S_st_COMPACT_STRINGS := Sta.start ev_st_COMPACT_STRINGS (Or.inl (hsets _ (List.mem_of_getElem? (i := 0) rfl)))
 have nz_st_COMPACT_STRINGS := o_nez ev_st_COMPACT_STRINGS (Cond.before_iff.mp (hsets _ (List.mem_of_getElem? (i := 2) rfl)))
 obtain ⟨st_SIOOBE_FORMATTER, ev_st_SIOOBE_FORMATTER, hr_st_SIOOBE_FORMATTER⟩ := isR_v (Cond.before_iff.mp (hsets _ (List.mem_of_getElem? (i := 8) rfl)))
 have S_st_SIOOBE_FORMATTER := Sta.start ev_st_SIOOBE_FORMATTER (Or.inl (hsets _ (List.mem_of_getElem? (i := 7) rfl)))
 have ev_st__assertionsDisabled := o_eqv (Cond.before_iff.mp (hsets _ (List.mem_of_getElem? (i := 12) rfl))) (Term.int_eval _) rfl
 have S_st__assertionsDisabled := Sta.start ev_st__assertionsDisabled (Or.inl (hsets _ (List.mem_of_getElem? (i := 11) rfl)))
 have ev_st_HI_BYTE_SHIFT := o_eqv (Cond.before_iff.mp (hsets _ (List.mem_of_getElem? (i := 15) rfl))) (Term.int_eval _) rfl
 have S_st_HI_BYTE_SHIFT := Sta.start ev_st_HI_BYTE_SHIFT (Or.inl (hsets _ (List.mem_of_getElem? (i := 14) rfl)))
 have ev_st_LO_BYTE_SHIFT := o_eqv (Cond.before_iff.mp (hsets _ (List.mem_of_getElem? (i := 18) rfl))) (Term.int_eval _) rfl
 have S_st_LO_BYTE_SHIFT := Sta.start ev_st_LO_BYTE_SHIFT (Or.inl (hsets _ (List.mem_of_getElem? (i := 17) rfl)))
 obtain ⟨n, o, h1, h2, h3, _, L, rfl, ⟨rfl, N, hK⟩, -, hq⟩ := rm0 l s _ hw tables_1 i0 i1 i2 i3 st_COMPACT_STRINGS st_SIOOBE_FORMATTER s.heap s.heap.size (Old.start s) S_st__assertionsDisabled S_st_HI_BYTE_SHIFT S_st_LO_BYTE_SHIFT S_st_SIOOBE_FORMATTER hr_st_SIOOBE_FORMATTER S_st_COMPACT_STRINGS nz_st_COMPACT_STRINGS p e ha hc hk s m _ below hf ((Spec.applies_iff_loose hf).mp happ).1 ⟨rfl, State.Warmed39.refl s, rfl, CHv.start (o_EW hw) hcalls.1 (hsets _ (List.mem_of_getElem? (i := 2) rfl)) (ow hw 27) (ow hw 14)⟩ trivial
 refine ⟨n, _, h1, h2, h3, hpost _ _ _ _ _ _ ⟨Cond.after_iff.mpr rfl, Cond.after_iff.mpr (eq_i res_at (Term.int_eval (1)) rfl), trivial⟩ ⟨hq.1, hq.2.1, hq.2.2.1, (hq.2.2.2.sift fun y hy => Or.inr (N y hy)).mono (by decide) (by decide)⟩⟩
theorem main_1_1 : Claimed_1_1 := comes_1 fun _ _ _ _ _ _ h hF => ⟨h.1, hF⟩
theorem main_1_2 : Claimed_1_2 := comes_1 fun _ _ _ _ _ _ h hF => ⟨h.2.1, hF⟩
end Jvm.Pilot.@@N@@
namespace Jvm.Pilot.@@N@@
open Jvm Jvm.ClassFile Sem Op Lib Jvm.Free Jvm.Stand Jvm.Pilot.@@N@@.Jvm.D
/-! MADE BY PROGRAM (witnessworld.py) out of the Statement's table words and the real class files: 26 classes; the members and pool entries that the words name. The judged class is class 1, her method 1. -/
namespace start1
open Jvm.ClassFile
def u (s : String) : CpInfo := .utf8 (stringToUtf16 s)
/-- a pool by its gaps: so many unusable entries, then the entry; so many at the end -/
def gap : Nat → List CpInfo → List CpInfo
  | 0, r => r
  | n + 1, r => .unusable :: gap n r
def poolList (es : List (Nat × CpInfo)) (last : Nat) : List CpInfo := es.foldr (fun e r => gap e.1 (e.2 :: r)) (gap last [])
def pool (es : List (Nat × CpInfo)) (last : Nat) : Array CpInfo := ⟨poolList es last⟩
def fileOf (pool : Array CpInfo) (this : Nat) (attrs : Array Attribute := #[]) (ms : Array MethodInfo := #[]) (fl : Nat := 33) (sup : Nat := 0) (ifs : Array Nat := #[]) (fds : Array FieldInfo := #[]) : ClassFile where
  minorVersion := 0
  majorVersion := 65
  constantPool := pool
  accessFlags := fl
  thisClass := this
  superClass := sup
  interfaces := ifs
  fields := fds
  methods := ms
  attributes := attrs
def plain (name : String) (sup : Option ClassId) : Class where
  name := name
  kind := .ordinary
  loader := none
  accessFlags := 33
  super := sup
  interfaces := #[]
  cf := none
  fields := #[]
  methods := #[]
  instanceTypes := #[]
  staticTypes := #[]
  resolved := #[]
  callSites := []
  init := .initialized
  statics := none
  mirror := none

def pool0 : Array CpInfo := pool [(5, u "<init>"), (0, u "()V"), (1, .class_ 10), (1, u "java/lang/Object"), (85, u "clone"), (0, u "()Ljava/lang/Object;")] 26

def k0c0 : Code := { maxStack := 0, maxLocals := 1, code := object_method_1_code, exceptionTable := #[], attributes := #[] }
def k0m0 : Method := { name := "<init>", desc := "()V", sig := { parameters := [], returnType := none }, accessFlags := 1, code := some k0c0 }
def k0m1 : Method := { name := "clone", desc := "()Ljava/lang/Object;", sig := { parameters := [], returnType := some (.object "java/lang/Object") }, accessFlags := 260, code := none }
/-- java/lang/Object -/
def k0 : Class := { plain "java/lang/Object" none with
  accessFlags := 33
  interfaces := #[]
  cf := some (fileOf pool0 8 #[] #[{ accessFlags := 1, nameIndex := 5, descriptorIndex := 6, attributes := #[] }, { accessFlags := 260, nameIndex := 96, descriptorIndex := 97, attributes := #[] }] 33 0 #[] #[])
  fields := #[]
  methods := #[k0m0, k0m1]
  instanceTypes := #[]
  staticTypes := #[]
  resolved := Array.replicate 124 none
  statics := none }

def pool1 : Array CpInfo := pool [(2, .class_ 4), (1, u "java/lang/Object"), (0, u "<init>"), (0, u "()V"), (0, .integer 2147483647), (0, .integer 65535), (0, .methodref 10 11), (0, .class_ 12), (0, .nameAndType 13 14), (0, u "com/example/holdfast/holdfast/RenewalToStringPinLaw"), (0, u "head"), (0, u "([C)V"), (0, .methodref 10 16), (0, .nameAndType 17 18), (0, u "tail"), (0, u "([CIZ)V"), (0, .class_ 20), (0, u "com/example/holdfast/holdfast/LockEventListener$Renewal"), (0, .class_ 22), (0, u "java/lang/String"), (0, .methodref 21 24), (0, .nameAndType 5 14), (0, .methodref 19 26), (0, .nameAndType 5 27), (0, u "(Ljava/lang/String;Z)V"), (0, .methodref 19 29), (0, .nameAndType 30 31), (0, u "toString"), (0, u "()Ljava/lang/String;"), (0, .methodref 21 33), (0, .nameAndType 34 35), (0, u "equals"), (0, u "(Ljava/lang/Object;)Z"), (2, u "law"), (0, u "(IIII)Z")] 9

def k1m0 : Method := { name := "<init>", desc := "()V", sig := { parameters := [], returnType := none }, accessFlags := 1, code := none }
def k1c1 : Code := { maxStack := 5, maxLocals := 11, code := code, exceptionTable := #[], attributes := #[] }
def k1m1 : Method := { name := "law", desc := "(IIII)Z", sig := { parameters := [.int, .int, .int, .int], returnType := some .boolean }, accessFlags := 9, code := some k1c1 }
def k1c2 : Code := { maxStack := 3, maxLocals := 1, code := method_3_code, exceptionTable := #[], attributes := #[] }
def k1m2 : Method := { name := "head", desc := "([C)V", sig := { parameters := [(.array .char)], returnType := none }, accessFlags := 10, code := some k1c2 }
def k1c3 : Code := { maxStack := 3, maxLocals := 3, code := method_4_code, exceptionTable := #[], attributes := #[] }
def k1m3 : Method := { name := "tail", desc := "([CIZ)V", sig := { parameters := [(.array .char), .int, .boolean], returnType := none }, accessFlags := 10, code := some k1c3 }
/-- com/example/holdfast/holdfast/RenewalToStringPinLaw -/
def k1 : Class := { plain "com/example/holdfast/holdfast/RenewalToStringPinLaw" (some 0) with
  accessFlags := 49
  interfaces := #[]
  cf := some (fileOf pool1 10 #[] #[{ accessFlags := 1, nameIndex := 5, descriptorIndex := 6, attributes := #[] }, { accessFlags := 9, nameIndex := 38, descriptorIndex := 39, attributes := #[] }, { accessFlags := 10, nameIndex := 13, descriptorIndex := 14, attributes := #[] }, { accessFlags := 10, nameIndex := 17, descriptorIndex := 18, attributes := #[] }] 49 2 #[] #[])
  fields := #[]
  methods := #[k1m0, k1m1, k1m2, k1m3]
  instanceTypes := #[]
  staticTypes := #[]
  resolved := Array.replicate 49 none
  statics := none }

def pool2 : Array CpInfo := pool [(1, .methodref 2 3), (0, .class_ 4), (0, .nameAndType 5 6), (0, u "java/lang/Object"), (0, u "<init>"), (0, u "()V"), (0, .fieldref 8 9), (0, .class_ 10), (0, .nameAndType 11 12), (0, u "com/example/holdfast/holdfast/LockEventListener$Renewal"), (0, u "lockName"), (0, u "Ljava/lang/String;"), (0, .fieldref 8 14), (0, .nameAndType 15 16), (0, u "granted"), (0, u "Z"), (0, .class_ 18), (0, u "java/lang/StringBuilder"), (0, .methodref 17 3), (0, .string 21), (0, u "Renewal[lockName="), (0, .methodref 17 23), (0, .nameAndType 24 25), (0, u "append"), (0, u "(Ljava/lang/String;)Ljava/lang/StringBuilder;"), (0, .string 27), (0, u ", granted="), (0, .methodref 17 29), (0, .nameAndType 24 30), (0, u "(Z)Ljava/lang/StringBuilder;"), (0, .string 32), (0, u "]"), (0, .methodref 17 34), (0, .nameAndType 35 36), (0, u "toString"), (0, u "()Ljava/lang/String;"), (0, u "(Ljava/lang/String;Z)V"), (6, .class_ 45), (0, u "com/example/holdfast/holdfast/LockEventListener")] 2

def k2c0 : Code := { maxStack := 2, maxLocals := 3, code := prog_11_method_1_code, exceptionTable := #[], attributes := #[] }
def k2m0 : Method := { name := "<init>", desc := "(Ljava/lang/String;Z)V", sig := { parameters := [(.object "java/lang/String"), .boolean], returnType := none }, accessFlags := 0, code := some k2c0 }
def k2c1 : Code := { maxStack := 2, maxLocals := 1, code := prog_11_method_4_code, exceptionTable := #[], attributes := #[] }
def k2m1 : Method := { name := "toString", desc := "()Ljava/lang/String;", sig := { parameters := [], returnType := some (.object "java/lang/String") }, accessFlags := 1, code := some k2c1 }
/-- com/example/holdfast/holdfast/LockEventListener$Renewal -/
def k2 : Class := { plain "com/example/holdfast/holdfast/LockEventListener$Renewal" (some 0) with
  accessFlags := 49
  interfaces := #[]
  cf := some (fileOf pool2 8 #[.nestHost 44] #[{ accessFlags := 0, nameIndex := 5, descriptorIndex := 37, attributes := #[] }, { accessFlags := 1, nameIndex := 35, descriptorIndex := 36, attributes := #[] }] 49 2 #[] #[{ accessFlags := 18, nameIndex := 11, descriptorIndex := 12, attributes := #[] }, { accessFlags := 18, nameIndex := 15, descriptorIndex := 16, attributes := #[] }])
  fields := #[{ name := "lockName", type := (.object "java/lang/String"), accessFlags := 18, slot := 0, constantValue := 0 }, { name := "granted", type := .boolean, accessFlags := 18, slot := 1, constantValue := 0 }]
  methods := #[k2m0, k2m1]
  instanceTypes := #[(.object "java/lang/String"), .boolean]
  staticTypes := #[]
  resolved := Array.replicate 48 none
  statics := none }

def pool3 : Array CpInfo := pool [(1, .class_ 2), (0, u "java/io/Serializable"), (0, .class_ 4), (0, u "java/lang/Object")] 2

/-- java/io/Serializable -/
def k3 : Class := { plain "java/io/Serializable" (some 0) with
  accessFlags := 1537
  interfaces := #[]
  cf := some (fileOf pool3 1 #[] #[] 1537 3 #[] #[])
  fields := #[]
  methods := #[]
  instanceTypes := #[]
  staticTypes := #[]
  resolved := Array.replicate 7 none
  statics := none }

def pool4 : Array CpInfo := pool [(1, .class_ 2), (0, u "java/lang/Comparable"), (0, .class_ 4), (0, u "java/lang/Object")] 7

/-- java/lang/Comparable -/
def k4 : Class := { plain "java/lang/Comparable" (some 0) with
  accessFlags := 1537
  interfaces := #[]
  cf := some (fileOf pool4 1 #[] #[] 1537 3 #[] #[])
  fields := #[]
  methods := #[]
  instanceTypes := #[]
  staticTypes := #[]
  resolved := Array.replicate 12 none
  statics := none }

def pool5 : Array CpInfo := pool [(2, .class_ 4), (1, u "java/lang/CharSequence"), (42, .class_ 48), (0, u "java/lang/CharSequence$1CodePointIterator"), (10, .class_ 60), (0, u "java/lang/CharSequence$1CharIterator"), (5, .class_ 67), (0, u "java/lang/Object")] 63

/-- java/lang/CharSequence -/
def k5 : Class := { plain "java/lang/CharSequence" (some 0) with
  accessFlags := 1537
  interfaces := #[]
  cf := some (fileOf pool5 2 #[.nestMembers #[47, 59]] #[] 1537 66 #[] #[])
  fields := #[]
  methods := #[]
  instanceTypes := #[]
  staticTypes := #[]
  resolved := Array.replicate 131 none
  statics := none }

def pool6 : Array CpInfo := pool [(1, .class_ 2), (0, u "java/lang/constant/Constable"), (0, .class_ 4), (0, u "java/lang/Object")] 6

/-- java/lang/constant/Constable -/
def k6 : Class := { plain "java/lang/constant/Constable" (some 0) with
  accessFlags := 1537
  interfaces := #[]
  cf := some (fileOf pool6 1 #[] #[] 1537 3 #[] #[])
  fields := #[]
  methods := #[]
  instanceTypes := #[]
  staticTypes := #[]
  resolved := Array.replicate 11 none
  statics := none }

def pool7 : Array CpInfo := pool [(1, .class_ 2), (0, u "java/lang/constant/ConstantDesc"), (0, .class_ 4), (0, u "java/lang/Object")] 32

/-- java/lang/constant/ConstantDesc -/
def k7 : Class := { plain "java/lang/constant/ConstantDesc" (some 0) with
  accessFlags := 1537
  interfaces := #[]
  cf := some (fileOf pool7 1 #[] #[] 1537 3 #[] #[])
  fields := #[]
  methods := #[]
  instanceTypes := #[]
  staticTypes := #[]
  resolved := Array.replicate 37 none
  statics := none }

def pool8 : Array CpInfo := pool [(1, .methodref 2 3), (0, .class_ 4), (0, .nameAndType 5 6), (0, u "java/lang/Object"), (0, u "<init>"), (0, u "()V"), (0, .string 8), (0, u ""), (0, .fieldref 10 11), (0, .class_ 12), (0, .nameAndType 13 14), (0, u "java/lang/String"), (0, u "value"), (0, u "[B"), (0, .fieldref 10 16), (0, .nameAndType 17 18), (0, u "coder"), (0, u "B"), (2, u "hash"), (0, u "I"), (2, u "hashIsZero"), (0, u "Z"), (0, .methodref 10 28), (0, .nameAndType 5 29), (0, u "([CIILjava/lang/Void;)V"), (6, u "checkBoundsOffCount"), (0, u "(III)I"), (0, .fieldref 10 39), (0, .nameAndType 40 26), (0, u "COMPACT_STRINGS"), (1, .class_ 44), (1, u "java/lang/StringUTF16"), (0, u "compress"), (1, .methodref 42 48), (0, .nameAndType 49 50), (0, u "coderFromArrayLen"), (0, u "([BI)B"), (3, .methodref 55 56), (0, .class_ 57), (0, .nameAndType 58 59), (0, u "java/util/Arrays"), (0, u "copyOfRange"), (0, u "([BII)[B"), (46, .methodref 107 108), (0, .class_ 109), (0, .nameAndType 110 111), (0, u "java/lang/StringLatin1"), (0, u "inflate"), (0, u "([BI[BII)V"), (30, u "()Z"), (34, .methodref 42 178), (0, .nameAndType 45 179), (0, u "([CII)[B"), (13, .class_ 195), (1, u "java/lang/System"), (16, .methodref 193 213), (0, .nameAndType 214 215), (0, u "arraycopy"), (0, u "(Ljava/lang/Object;ILjava/lang/Object;II)V"), (118, u "()I"), (0, .methodref 10 336), (0, .nameAndType 17 337), (0, u "()B"), (2, u "()[B"), (148, .methodref 10 490), (0, .nameAndType 5 491), (0, u "(Ljava/lang/AbstractStringBuilder;Ljava/lang/Void;)V"), (1, .nameAndType 494 142), (0, u "isLatin1"), (11, .nameAndType 507 334), (0, u "length"), (5, u "checkFromToIndex"), (9, u "checkBoundsBeginEnd"), (0, u "(III)V"), (7, u "getBytes"), (8, .methodref 107 542), (0, .nameAndType 543 544), (0, u "equals"), (0, u "([B[B)Z"), (4, .methodref 550 506), (0, .class_ 551), (0, u "java/lang/AbstractStringBuilder"), (0, .methodref 550 553), (0, .nameAndType 554 340), (0, u "getValue"), (18, u "(Ljava/lang/Object;)Z"), (1, .class_ 576), (0, u "java/lang/CharSequence"), (22, u "CASE_INSENSITIVE_ORDER"), (0, u "Ljava/util/Comparator;"), (220, u "([BIB)V"), (188, u "([C)V"), (36, .methodref 550 493), (0, .fieldref 550 1049), (0, .nameAndType 1050 26), (0, u "maybeLatin1"), (2, .fieldref 1054 1055), (0, .class_ 1056), (0, .nameAndType 1057 1058), (0, u "jdk/internal/util/Preconditions"), (0, u "SIOOBE_FORMATTER"), (0, u "Ljava/util/function/BiFunction;"), (3, .methodref 1054 1063), (0, .nameAndType 513 1064), (0, u "(IIILjava/util/function/BiFunction;)I"), (0, .methodref 1054 1066), (0, .nameAndType 1067 1064), (0, u "checkFromIndexSize"), (33, u "serialPersistentFields"), (0, u "[Ljava/io/ObjectStreamField;"), (0, .class_ 1104), (0, u "java/lang/String$CaseInsensitiveComparator"), (1, .class_ 1107), (0, u "java/io/Serializable"), (0, .class_ 1109), (0, u "java/lang/Comparable"), (0, .class_ 1111), (0, u "java/lang/constant/Constable"), (0, .class_ 1113), (0, u "java/lang/constant/ConstantDesc"), (2, u "serialVersionUID"), (0, u "J"), (3, u "REPL"), (0, u "C"), (2, u "LATIN1"), (1, u "UTF16"), (105, u "(Ljava/lang/StringBuilder;)V")] 217

def k8m0 : Method := { name := "<init>", desc := "()V", sig := { parameters := [], returnType := none }, accessFlags := 1, code := none }
def k8c1 : Code := { maxStack := 5, maxLocals := 2, code := jdk_42_method_3_code, exceptionTable := #[], attributes := #[] }
def k8m1 : Method := { name := "<init>", desc := "([C)V", sig := { parameters := [(.array .char)], returnType := none }, accessFlags := 1, code := some k8c1 }
def k8c2 : Code := { maxStack := 3, maxLocals := 2, code := jdk_42_method_53_code, exceptionTable := #[], attributes := #[] }
def k8m2 : Method := { name := "<init>", desc := "(Ljava/lang/StringBuilder;)V", sig := { parameters := [(.object "java/lang/StringBuilder")], returnType := none }, accessFlags := 1, code := some k8c2 }
def k8c3 : Code := { maxStack := 2, maxLocals := 1, code := jdk_42_method_54_code, exceptionTable := #[], attributes := #[] }
def k8m3 : Method := { name := "length", desc := "()I", sig := { parameters := [], returnType := some .int }, accessFlags := 1, code := some k8c3 }
def k8c4 : Code := { maxStack := 2, maxLocals := 3, code := jdk_42_method_66_code, exceptionTable := #[], attributes := #[] }
def k8m4 : Method := { name := "equals", desc := "(Ljava/lang/Object;)Z", sig := { parameters := [(.object "java/lang/Object")], returnType := some .boolean }, accessFlags := 1, code := some k8c4 }
def k8c5 : Code := { maxStack := 5, maxLocals := 4, code := jdk_42_method_147_code, exceptionTable := #[], attributes := #[] }
def k8m5 : Method := { name := "getBytes", desc := "([BIB)V", sig := { parameters := [(.array .byte), .int, .byte], returnType := none }, accessFlags := 0, code := some k8c5 }
def k8c6 : Code := { maxStack := 4, maxLocals := 6, code := jdk_42_method_149_code, exceptionTable := #[], attributes := #[] }
def k8m6 : Method := { name := "<init>", desc := "([CIILjava/lang/Void;)V", sig := { parameters := [(.array .char), .int, .int, (.object "java/lang/Void")], returnType := none }, accessFlags := 2, code := some k8c6 }
def k8c7 : Code := { maxStack := 5, maxLocals := 5, code := jdk_42_method_150_code, exceptionTable := #[], attributes := #[] }
def k8m7 : Method := { name := "<init>", desc := "(Ljava/lang/AbstractStringBuilder;Ljava/lang/Void;)V", sig := { parameters := [(.object "java/lang/AbstractStringBuilder"), (.object "java/lang/Void")], returnType := none }, accessFlags := 0, code := some k8c7 }
def k8c8 : Code := { maxStack := 1, maxLocals := 1, code := jdk_42_method_152_code, exceptionTable := #[], attributes := #[] }
def k8m8 : Method := { name := "coder", desc := "()B", sig := { parameters := [], returnType := some .byte }, accessFlags := 0, code := some k8c8 }
def k8c9 : Code := { maxStack := 4, maxLocals := 3, code := jdk_42_method_157_code, exceptionTable := #[], attributes := #[] }
def k8m9 : Method := { name := "checkBoundsOffCount", desc := "(III)I", sig := { parameters := [.int, .int, .int], returnType := some .int }, accessFlags := 8, code := some k8c9 }
def k8c10 : Code := { maxStack := 4, maxLocals := 3, code := jdk_42_method_158_code, exceptionTable := #[], attributes := #[] }
def k8m10 : Method := { name := "checkBoundsBeginEnd", desc := "(III)V", sig := { parameters := [.int, .int, .int], returnType := none }, accessFlags := 8, code := some k8c10 }
/-- java/lang/String -/
def k8 : Class := { plain "java/lang/String" (some 0) with
  accessFlags := 49
  interfaces := #[3, 4, 5, 6, 7]
  cf := some (fileOf pool8 10 #[.nestMembers #[1103]] #[{ accessFlags := 1, nameIndex := 5, descriptorIndex := 6, attributes := #[] }, { accessFlags := 1, nameIndex := 5, descriptorIndex := 1010, attributes := #[] }, { accessFlags := 1, nameIndex := 5, descriptorIndex := 1233, attributes := #[] }, { accessFlags := 1, nameIndex := 507, descriptorIndex := 334, attributes := #[] }, { accessFlags := 1, nameIndex := 543, descriptorIndex := 573, attributes := #[] }, { accessFlags := 0, nameIndex := 532, descriptorIndex := 821, attributes := #[] }, { accessFlags := 2, nameIndex := 5, descriptorIndex := 29, attributes := #[] }, { accessFlags := 0, nameIndex := 5, descriptorIndex := 491, attributes := #[] }, { accessFlags := 0, nameIndex := 17, descriptorIndex := 337, attributes := #[] }, { accessFlags := 8, nameIndex := 36, descriptorIndex := 37, attributes := #[] }, { accessFlags := 8, nameIndex := 523, descriptorIndex := 524, attributes := #[] }] 49 2 #[1106, 1108, 575, 1110, 1112] #[{ accessFlags := 18, nameIndex := 13, descriptorIndex := 14, attributes := #[] }, { accessFlags := 18, nameIndex := 17, descriptorIndex := 18, attributes := #[] }, { accessFlags := 2, nameIndex := 21, descriptorIndex := 22, attributes := #[] }, { accessFlags := 2, nameIndex := 25, descriptorIndex := 26, attributes := #[] }, { accessFlags := 26, nameIndex := 1116, descriptorIndex := 1117, attributes := #[] }, { accessFlags := 24, nameIndex := 40, descriptorIndex := 26, attributes := #[] }, { accessFlags := 26, nameIndex := 1101, descriptorIndex := 1102, attributes := #[] }, { accessFlags := 26, nameIndex := 1121, descriptorIndex := 1122, attributes := #[] }, { accessFlags := 25, nameIndex := 599, descriptorIndex := 600, attributes := #[] }, { accessFlags := 24, nameIndex := 1125, descriptorIndex := 18, attributes := #[] }, { accessFlags := 24, nameIndex := 1127, descriptorIndex := 18, attributes := #[] }])
  fields := #[{ name := "value", type := (.array .byte), accessFlags := 18, slot := 0, constantValue := 0 }, { name := "coder", type := .byte, accessFlags := 18, slot := 1, constantValue := 0 }, { name := "hash", type := .int, accessFlags := 2, slot := 2, constantValue := 0 }, { name := "hashIsZero", type := .boolean, accessFlags := 2, slot := 3, constantValue := 0 }, { name := "serialVersionUID", type := .long, accessFlags := 26, slot := 0, constantValue := 0 }, { name := "COMPACT_STRINGS", type := .boolean, accessFlags := 24, slot := 1, constantValue := 0 }, { name := "serialPersistentFields", type := (.array (.object "java/io/ObjectStreamField")), accessFlags := 26, slot := 2, constantValue := 0 }, { name := "REPL", type := .char, accessFlags := 26, slot := 3, constantValue := 0 }, { name := "CASE_INSENSITIVE_ORDER", type := (.object "java/util/Comparator"), accessFlags := 25, slot := 4, constantValue := 0 }, { name := "LATIN1", type := .byte, accessFlags := 24, slot := 5, constantValue := 0 }, { name := "UTF16", type := .byte, accessFlags := 24, slot := 6, constantValue := 0 }]
  methods := #[k8m0, k8m1, k8m2, k8m3, k8m4, k8m5, k8m6, k8m7, k8m8, k8m9, k8m10]
  instanceTypes := #[(.array .byte), .byte, .int, .boolean]
  staticTypes := #[.long, .boolean, (.array (.object "java/io/ObjectStreamField")), .char, (.object "java/util/Comparator"), .byte, .byte]
  resolved := Array.replicate 1451 none
  statics := some 0 }

def pool9 : Array CpInfo := pool [(1, .class_ 2), (0, u "java/lang/Appendable"), (0, .class_ 4), (0, u "java/lang/Object")] 9

/-- java/lang/Appendable -/
def k9 : Class := { plain "java/lang/Appendable" (some 0) with
  accessFlags := 1537
  interfaces := #[]
  cf := some (fileOf pool9 1 #[] #[] 1537 3 #[] #[])
  fields := #[]
  methods := #[]
  instanceTypes := #[]
  staticTypes := #[]
  resolved := Array.replicate 14 none
  statics := none }

def pool10 : Array CpInfo := pool [(1, .class_ 2), (0, u "java/lang/String"), (0, .methodref 4 5), (0, .class_ 6), (0, .nameAndType 7 8), (0, u "java/lang/Object"), (0, u "<init>"), (0, u "()V"), (1, .class_ 12), (1, u "java/lang/AbstractStringBuilder"), (0, u "EMPTYVALUE"), (0, u "[B"), (0, .fieldref 10 16), (0, .nameAndType 17 14), (0, u "value"), (0, .fieldref 1 19), (0, .nameAndType 20 21), (0, u "COMPACT_STRINGS"), (0, u "Z"), (0, .fieldref 10 23), (0, .nameAndType 24 25), (0, u "coder"), (0, u "B"), (0, .methodref 27 28), (0, .class_ 29), (0, .nameAndType 30 31), (0, u "java/lang/StringUTF16"), (0, u "newBytesFor"), (0, u "(I)[B"), (0, .methodref 1 33), (0, .nameAndType 34 35), (0, u "length"), (0, u "()I"), (3, .integer 2147483647), (0, .methodref 1 41), (0, .nameAndType 24 42), (0, u "()B"), (2, u "append"), (0, u "(Ljava/lang/String;)Ljava/lang/AbstractStringBuilder;"), (1, .class_ 49), (0, u "java/lang/CharSequence"), (19, u "(Ljava/lang/String;)V"), (5, u "maybeLatin1"), (3, .fieldref 10 80), (0, .nameAndType 81 82), (0, u "count"), (0, u "I"), (0, .methodref 10 84), (0, .nameAndType 85 86), (0, u "isLatin1"), (0, u "()Z"), (1, .class_ 90), (1, u "java/lang/StringLatin1"), (9, .methodref 10 101), (0, .nameAndType 102 103), (0, u "ensureCapacityInternal"), (0, u "(I)V"), (0, .methodref 10 105), (0, .nameAndType 106 107), (0, u "newCapacity"), (0, u "(I)I"), (0, .methodref 109 110), (0, .class_ 111), (0, .nameAndType 112 113), (0, u "java/util/Arrays"), (0, u "copyOf"), (0, u "([BI)[B"), (0, .methodref 115 116), (0, .class_ 117), (0, .nameAndType 118 119), (0, u "jdk/internal/util/ArraysSupport"), (0, u "newLength"), (0, u "(III)I"), (5, .methodref 88 126), (0, .nameAndType 127 128), (0, u "inflate"), (0, u "([BI[BII)V"), (66, .methodref 10 196), (0, .nameAndType 127 8), (11, .methodref 10 209), (0, .nameAndType 210 211), (0, u "putStringAt"), (0, u "(ILjava/lang/String;)V"), (5, u "inflateIfNeededFor"), (2, .nameAndType 221 222), (0, u "getBytes"), (0, u "([BIB)V"), (3, .methodref 27 227), (0, .nameAndType 228 229), (0, u "putCharsAt"), (0, u "([BICCCC)I"), (12, .methodref 27 243), (0, .nameAndType 228 244), (0, u "([BICCCCC)I"), (152, .methodref 10 398), (0, .nameAndType 217 69), (0, .methodref 1 220), (3, u "()[B"), (40, .class_ 445), (0, u "java/lang/Appendable"), (62, u "(Z)Ljava/lang/AbstractStringBuilder;"), (43, u "getValue")] 56

def k10m0 : Method := { name := "<init>", desc := "()V", sig := { parameters := [], returnType := none }, accessFlags := 0, code := none }
def k10c1 : Code := { maxStack := 2, maxLocals := 2, code := jdk_68_method_2_code, exceptionTable := #[], attributes := #[] }
def k10m1 : Method := { name := "<init>", desc := "(I)V", sig := { parameters := [.int], returnType := none }, accessFlags := 0, code := some k10c1 }
def k10c2 : Code := { maxStack := 1, maxLocals := 1, code := jdk_68_method_6_code, exceptionTable := #[], attributes := #[] }
def k10m2 : Method := { name := "length", desc := "()I", sig := { parameters := [], returnType := some .int }, accessFlags := 1, code := some k10c2 }
def k10c3 : Code := { maxStack := 4, maxLocals := 3, code := jdk_68_method_9_code, exceptionTable := #[], attributes := #[] }
def k10m3 : Method := { name := "ensureCapacityInternal", desc := "(I)V", sig := { parameters := [.int], returnType := none }, accessFlags := 2, code := some k10c3 }
def k10c4 : Code := { maxStack := 5, maxLocals := 6, code := jdk_68_method_10_code, exceptionTable := #[], attributes := #[] }
def k10m4 : Method := { name := "newCapacity", desc := "(I)I", sig := { parameters := [.int], returnType := some .int }, accessFlags := 2, code := some k10c4 }
def k10c5 : Code := { maxStack := 5, maxLocals := 2, code := jdk_68_method_11_code, exceptionTable := #[], attributes := #[] }
def k10m5 : Method := { name := "inflate", desc := "()V", sig := { parameters := [], returnType := none }, accessFlags := 2, code := some k10c5 }
def k10c6 : Code := { maxStack := 3, maxLocals := 3, code := jdk_68_method_22_code, exceptionTable := #[], attributes := #[] }
def k10m6 : Method := { name := "append", desc := "(Ljava/lang/String;)Ljava/lang/AbstractStringBuilder;", sig := { parameters := [(.object "java/lang/String")], returnType := some (.object "java/lang/AbstractStringBuilder") }, accessFlags := 1, code := some k10c6 }
def k10c7 : Code := { maxStack := 7, maxLocals := 4, code := jdk_68_method_30_code, exceptionTable := #[], attributes := #[] }
def k10m7 : Method := { name := "append", desc := "(Z)Ljava/lang/AbstractStringBuilder;", sig := { parameters := [.boolean], returnType := some (.object "java/lang/AbstractStringBuilder") }, accessFlags := 1, code := some k10c7 }
def k10c8 : Code := { maxStack := 1, maxLocals := 1, code := jdk_68_method_64_code, exceptionTable := #[], attributes := #[] }
def k10m8 : Method := { name := "getValue", desc := "()[B", sig := { parameters := [], returnType := some (.array .byte) }, accessFlags := 16, code := some k10c8 }
def k10c9 : Code := { maxStack := 1, maxLocals := 1, code := jdk_68_method_68_code, exceptionTable := #[], attributes := #[] }
def k10m9 : Method := { name := "isLatin1", desc := "()Z", sig := { parameters := [], returnType := some .boolean }, accessFlags := 16, code := some k10c9 }
def k10c10 : Code := { maxStack := 2, maxLocals := 2, code := jdk_68_method_71_code, exceptionTable := #[], attributes := #[] }
def k10m10 : Method := { name := "inflateIfNeededFor", desc := "(Ljava/lang/String;)V", sig := { parameters := [(.object "java/lang/String")], returnType := none }, accessFlags := 2, code := some k10c10 }
def k10c11 : Code := { maxStack := 4, maxLocals := 3, code := jdk_68_method_73_code, exceptionTable := #[], attributes := #[] }
def k10m11 : Method := { name := "putStringAt", desc := "(ILjava/lang/String;)V", sig := { parameters := [.int, (.object "java/lang/String")], returnType := none }, accessFlags := 2, code := some k10c11 }
/-- java/lang/AbstractStringBuilder -/
def k10 : Class := { plain "java/lang/AbstractStringBuilder" (some 0) with
  accessFlags := 1056
  interfaces := #[9, 5]
  cf := some (fileOf pool10 10 #[] #[{ accessFlags := 0, nameIndex := 7, descriptorIndex := 8, attributes := #[] }, { accessFlags := 0, nameIndex := 7, descriptorIndex := 103, attributes := #[] }, { accessFlags := 1, nameIndex := 34, descriptorIndex := 35, attributes := #[] }, { accessFlags := 2, nameIndex := 102, descriptorIndex := 103, attributes := #[] }, { accessFlags := 2, nameIndex := 106, descriptorIndex := 107, attributes := #[] }, { accessFlags := 2, nameIndex := 127, descriptorIndex := 8, attributes := #[] }, { accessFlags := 1, nameIndex := 45, descriptorIndex := 46, attributes := #[] }, { accessFlags := 1, nameIndex := 45, descriptorIndex := 508, attributes := #[] }, { accessFlags := 16, nameIndex := 552, descriptorIndex := 403, attributes := #[] }, { accessFlags := 16, nameIndex := 85, descriptorIndex := 86, attributes := #[] }, { accessFlags := 2, nameIndex := 217, descriptorIndex := 69, attributes := #[] }, { accessFlags := 2, nameIndex := 210, descriptorIndex := 211, attributes := #[] }] 1056 4 #[444, 48] #[{ accessFlags := 0, nameIndex := 17, descriptorIndex := 14, attributes := #[] }, { accessFlags := 0, nameIndex := 24, descriptorIndex := 25, attributes := #[] }, { accessFlags := 0, nameIndex := 75, descriptorIndex := 21, attributes := #[] }, { accessFlags := 0, nameIndex := 81, descriptorIndex := 82, attributes := #[] }, { accessFlags := 26, nameIndex := 13, descriptorIndex := 14, attributes := #[] }])
  fields := #[{ name := "value", type := (.array .byte), accessFlags := 0, slot := 0, constantValue := 0 }, { name := "coder", type := .byte, accessFlags := 0, slot := 1, constantValue := 0 }, { name := "maybeLatin1", type := .boolean, accessFlags := 0, slot := 2, constantValue := 0 }, { name := "count", type := .int, accessFlags := 0, slot := 3, constantValue := 0 }, { name := "EMPTYVALUE", type := (.array .byte), accessFlags := 26, slot := 0, constantValue := 0 }]
  methods := #[k10m0, k10m1, k10m2, k10m3, k10m4, k10m5, k10m6, k10m7, k10m8, k10m9, k10m10, k10m11]
  instanceTypes := #[(.array .byte), .byte, .boolean, .int]
  staticTypes := #[(.array .byte)]
  resolved := Array.replicate 609 none
  statics := none }

def pool11 : Array CpInfo := pool [(1, .methodref 2 3), (0, .class_ 4), (0, .nameAndType 5 6), (0, u "java/lang/AbstractStringBuilder"), (0, u "<init>"), (0, u "(I)V"), (11, .class_ 20), (1, u "java/lang/String"), (3, .class_ 26), (1, u "java/lang/StringBuilder"), (0, u "append"), (0, u "(Ljava/lang/String;)Ljava/lang/StringBuilder;"), (0, .methodref 2 30), (0, .nameAndType 27 31), (0, u "(Ljava/lang/String;)Ljava/lang/AbstractStringBuilder;"), (15, .methodref 2 48), (0, .nameAndType 27 49), (0, u "(Z)Ljava/lang/AbstractStringBuilder;"), (87, .methodref 18 138), (0, .nameAndType 5 139), (0, u "(Ljava/lang/StringBuilder;)V"), (5, u "()V"), (10, u "()I"), (132, u "(Z)Ljava/lang/StringBuilder;"), (53, .methodref 2 344), (0, .nameAndType 345 156), (0, u "length"), (3, .class_ 350), (0, u "java/lang/Appendable"), (0, .class_ 352), (0, u "java/io/Serializable"), (0, .class_ 354), (0, u "java/lang/Comparable"), (0, .class_ 356), (0, u "java/lang/CharSequence"), (0, u "serialVersionUID"), (0, u "J"), (40, u "toString"), (0, u "()Ljava/lang/String;")] 21

def k11c0 : Code := { maxStack := 2, maxLocals := 1, code := jdk_67_method_1_code, exceptionTable := #[], attributes := #[] }
def k11m0 : Method := { name := "<init>", desc := "()V", sig := { parameters := [], returnType := none }, accessFlags := 1, code := some k11c0 }
def k11c1 : Code := { maxStack := 2, maxLocals := 2, code := jdk_67_method_7_code, exceptionTable := #[], attributes := #[] }
def k11m1 : Method := { name := "append", desc := "(Ljava/lang/String;)Ljava/lang/StringBuilder;", sig := { parameters := [(.object "java/lang/String")], returnType := some (.object "java/lang/StringBuilder") }, accessFlags := 1, code := some k11c1 }
def k11c2 : Code := { maxStack := 2, maxLocals := 2, code := jdk_67_method_13_code, exceptionTable := #[], attributes := #[] }
def k11m2 : Method := { name := "append", desc := "(Z)Ljava/lang/StringBuilder;", sig := { parameters := [.boolean], returnType := some (.object "java/lang/StringBuilder") }, accessFlags := 1, code := some k11c2 }
def k11c3 : Code := { maxStack := 3, maxLocals := 1, code := jdk_67_method_42_code, exceptionTable := #[], attributes := #[] }
def k11m3 : Method := { name := "toString", desc := "()Ljava/lang/String;", sig := { parameters := [], returnType := some (.object "java/lang/String") }, accessFlags := 1, code := some k11c3 }
def k11c4 : Code := { maxStack := 1, maxLocals := 1, code := jdk_67_method_93_code, exceptionTable := #[], attributes := #[] }
def k11m4 : Method := { name := "length", desc := "()I", sig := { parameters := [], returnType := some .int }, accessFlags := 4161, code := some k11c4 }
/-- java/lang/StringBuilder -/
def k11 : Class := { plain "java/lang/StringBuilder" (some 10) with
  accessFlags := 49
  interfaces := #[9, 3, 4, 5]
  cf := some (fileOf pool11 24 #[] #[{ accessFlags := 1, nameIndex := 5, descriptorIndex := 145, attributes := #[] }, { accessFlags := 1, nameIndex := 27, descriptorIndex := 28, attributes := #[] }, { accessFlags := 1, nameIndex := 27, descriptorIndex := 289, attributes := #[] }, { accessFlags := 1, nameIndex := 399, descriptorIndex := 400, attributes := #[] }, { accessFlags := 4161, nameIndex := 345, descriptorIndex := 156, attributes := #[] }] 49 2 #[349, 351, 353, 355] #[{ accessFlags := 24, nameIndex := 357, descriptorIndex := 358, attributes := #[] }])
  fields := #[{ name := "serialVersionUID", type := .long, accessFlags := 24, slot := 0, constantValue := 0 }]
  methods := #[k11m0, k11m1, k11m2, k11m3, k11m4]
  instanceTypes := #[(.array .byte), .byte, .boolean, .int]
  staticTypes := #[.long]
  resolved := Array.replicate 422 none
  statics := none }

def pool12 : Array CpInfo := pool [(9, u "<init>"), (6, .class_ 18), (1, u "java/lang/Object"), (0, u "()V"), (1, .class_ 23), (1, u "jdk/internal/util/ArraysSupport"), (0, u "LOG2_ARRAY_LONG_INDEX_SCALE"), (0, u "I"), (2, u "U"), (0, u "Ljdk/internal/misc/Unsafe;"), (8, u "BIG_ENDIAN"), (0, u "Z"), (8, u "LOG2_BYTE_BIT_SIZE"), (4, u "LOG2_ARRAY_INT_INDEX_SCALE"), (54, u "JLA"), (0, u "Ljdk/internal/access/JavaLangAccess;"), (11, u "LOG2_ARRAY_BOOLEAN_INDEX_SCALE"), (9, u "LOG2_ARRAY_BYTE_INDEX_SCALE"), (5, u "LOG2_ARRAY_CHAR_INDEX_SCALE"), (5, u "LOG2_ARRAY_SHORT_INDEX_SCALE"), (18, u "LOG2_ARRAY_FLOAT_INDEX_SCALE"), (24, u "LOG2_ARRAY_DOUBLE_INDEX_SCALE"), (6, .methodref 195 196), (0, .class_ 197), (0, .nameAndType 198 199), (0, u "java/lang/Math"), (0, u "max"), (0, u "(II)I"), (0, .integer 2147483639), (76, u "T_BOOLEAN"), (2, u "T_CHAR"), (1, u "T_FLOAT"), (1, u "T_DOUBLE"), (1, u "T_BYTE"), (1, u "T_SHORT"), (1, u "T_INT"), (1, u "T_LONG"), (1, u "SOFT_MAX_ARRAY_LENGTH"), (56, u "newLength"), (0, u "(III)I")] 25

def k12m0 : Method := { name := "<init>", desc := "()V", sig := { parameters := [], returnType := none }, accessFlags := 2, code := none }
def k12c1 : Code := { maxStack := 3, maxLocals := 4, code := jdk_48_method_27_code, exceptionTable := #[], attributes := #[] }
def k12m1 : Method := { name := "newLength", desc := "(III)I", sig := { parameters := [.int, .int, .int], returnType := some .int }, accessFlags := 9, code := some k12c1 }
/-- jdk/internal/util/ArraysSupport -/
def k12 : Class := { plain "jdk/internal/util/ArraysSupport" (some 0) with
  accessFlags := 33
  interfaces := #[]
  cf := some (fileOf pool12 21 #[] #[{ accessFlags := 2, nameIndex := 9, descriptorIndex := 19, attributes := #[] }, { accessFlags := 9, nameIndex := 351, descriptorIndex := 352, attributes := #[] }] 33 16 #[] #[{ accessFlags := 24, nameIndex := 28, descriptorIndex := 29, attributes := #[] }, { accessFlags := 26, nameIndex := 38, descriptorIndex := 39, attributes := #[] }, { accessFlags := 25, nameIndex := 121, descriptorIndex := 25, attributes := #[] }, { accessFlags := 25, nameIndex := 131, descriptorIndex := 25, attributes := #[] }, { accessFlags := 25, nameIndex := 137, descriptorIndex := 25, attributes := #[] }, { accessFlags := 25, nameIndex := 143, descriptorIndex := 25, attributes := #[] }, { accessFlags := 25, nameIndex := 53, descriptorIndex := 25, attributes := #[] }, { accessFlags := 25, nameIndex := 24, descriptorIndex := 25, attributes := #[] }, { accessFlags := 25, nameIndex := 162, descriptorIndex := 25, attributes := #[] }, { accessFlags := 25, nameIndex := 187, descriptorIndex := 25, attributes := #[] }, { accessFlags := 26, nameIndex := 48, descriptorIndex := 25, attributes := #[] }, { accessFlags := 25, nameIndex := 277, descriptorIndex := 25, attributes := #[] }, { accessFlags := 25, nameIndex := 280, descriptorIndex := 25, attributes := #[] }, { accessFlags := 25, nameIndex := 282, descriptorIndex := 25, attributes := #[] }, { accessFlags := 25, nameIndex := 284, descriptorIndex := 25, attributes := #[] }, { accessFlags := 25, nameIndex := 286, descriptorIndex := 25, attributes := #[] }, { accessFlags := 25, nameIndex := 288, descriptorIndex := 25, attributes := #[] }, { accessFlags := 25, nameIndex := 290, descriptorIndex := 25, attributes := #[] }, { accessFlags := 25, nameIndex := 292, descriptorIndex := 25, attributes := #[] }, { accessFlags := 26, nameIndex := 108, descriptorIndex := 109, attributes := #[] }, { accessFlags := 25, nameIndex := 294, descriptorIndex := 25, attributes := #[] }])
  fields := #[{ name := "U", type := (.object "jdk/internal/misc/Unsafe"), accessFlags := 24, slot := 0, constantValue := 0 }, { name := "BIG_ENDIAN", type := .boolean, accessFlags := 26, slot := 1, constantValue := 0 }, { name := "LOG2_ARRAY_BOOLEAN_INDEX_SCALE", type := .int, accessFlags := 25, slot := 2, constantValue := 0 }, { name := "LOG2_ARRAY_BYTE_INDEX_SCALE", type := .int, accessFlags := 25, slot := 3, constantValue := 0 }, { name := "LOG2_ARRAY_CHAR_INDEX_SCALE", type := .int, accessFlags := 25, slot := 4, constantValue := 0 }, { name := "LOG2_ARRAY_SHORT_INDEX_SCALE", type := .int, accessFlags := 25, slot := 5, constantValue := 0 }, { name := "LOG2_ARRAY_INT_INDEX_SCALE", type := .int, accessFlags := 25, slot := 6, constantValue := 0 }, { name := "LOG2_ARRAY_LONG_INDEX_SCALE", type := .int, accessFlags := 25, slot := 7, constantValue := 0 }, { name := "LOG2_ARRAY_FLOAT_INDEX_SCALE", type := .int, accessFlags := 25, slot := 8, constantValue := 0 }, { name := "LOG2_ARRAY_DOUBLE_INDEX_SCALE", type := .int, accessFlags := 25, slot := 9, constantValue := 0 }, { name := "LOG2_BYTE_BIT_SIZE", type := .int, accessFlags := 26, slot := 10, constantValue := 0 }, { name := "T_BOOLEAN", type := .int, accessFlags := 25, slot := 11, constantValue := 0 }, { name := "T_CHAR", type := .int, accessFlags := 25, slot := 12, constantValue := 0 }, { name := "T_FLOAT", type := .int, accessFlags := 25, slot := 13, constantValue := 0 }, { name := "T_DOUBLE", type := .int, accessFlags := 25, slot := 14, constantValue := 0 }, { name := "T_BYTE", type := .int, accessFlags := 25, slot := 15, constantValue := 0 }, { name := "T_SHORT", type := .int, accessFlags := 25, slot := 16, constantValue := 0 }, { name := "T_INT", type := .int, accessFlags := 25, slot := 17, constantValue := 0 }, { name := "T_LONG", type := .int, accessFlags := 25, slot := 18, constantValue := 0 }, { name := "JLA", type := (.object "jdk/internal/access/JavaLangAccess"), accessFlags := 26, slot := 19, constantValue := 0 }, { name := "SOFT_MAX_ARRAY_LENGTH", type := .int, accessFlags := 25, slot := 20, constantValue := 0 }]
  methods := #[k12m0, k12m1]
  instanceTypes := #[]
  staticTypes := #[(.object "jdk/internal/misc/Unsafe"), .boolean, .int, .int, .int, .int, .int, .int, .int, .int, .int, .int, .int, .int, .int, .int, .int, .int, .int, (.object "jdk/internal/access/JavaLangAccess"), .int]
  resolved := Array.replicate 378 none
  statics := none }

def pool13 : Array CpInfo := pool [(1, .class_ 2), (0, u "java/lang/Math"), (1, .class_ 6), (1, u "java/lang/Object"), (0, u "<init>"), (0, u "()V"), (89, .class_ 100), (1, u "java/lang/Math$RandomNumberGeneratorHolder"), (71, u "negativeZeroFloatBits"), (0, u "J"), (2, u "negativeZeroDoubleBits"), (21, u "max"), (2, u "min"), (43, u "$assertionsDisabled"), (0, u "Z"), (88, u "(II)I"), (2, u "twoToTheDoubleScaleDown"), (0, u "D"), (4, u "twoToTheDoubleScaleUp"), (9, u "E"), (3, u "PI"), (2, u "TAU"), (2, u "DEGREES_TO_RADIANS"), (0, u "RADIANS_TO_DEGREES")] 94

def k13m0 : Method := { name := "<init>", desc := "()V", sig := { parameters := [], returnType := none }, accessFlags := 2, code := none }
def k13c1 : Code := { maxStack := 2, maxLocals := 2, code := jdk_29_method_65_code, exceptionTable := #[], attributes := #[] }
def k13m1 : Method := { name := "max", desc := "(II)I", sig := { parameters := [.int, .int], returnType := some .int }, accessFlags := 9, code := some k13c1 }
def k13c2 : Code := { maxStack := 2, maxLocals := 2, code := jdk_29_method_69_code, exceptionTable := #[], attributes := #[] }
def k13m2 : Method := { name := "min", desc := "(II)I", sig := { parameters := [.int, .int], returnType := some .int }, accessFlags := 9, code := some k13c2 }
/-- java/lang/Math -/
def k13 : Class := { plain "java/lang/Math" (some 0) with
  accessFlags := 49
  interfaces := #[]
  cf := some (fileOf pool13 1 #[.nestMembers #[98]] #[{ accessFlags := 2, nameIndex := 7, descriptorIndex := 8, attributes := #[] }, { accessFlags := 9, nameIndex := 198, descriptorIndex := 335, attributes := #[] }, { accessFlags := 9, nameIndex := 201, descriptorIndex := 335, attributes := #[] }] 49 4 #[] #[{ accessFlags := 25, nameIndex := 354, descriptorIndex := 339, attributes := #[] }, { accessFlags := 25, nameIndex := 358, descriptorIndex := 339, attributes := #[] }, { accessFlags := 25, nameIndex := 361, descriptorIndex := 339, attributes := #[] }, { accessFlags := 26, nameIndex := 364, descriptorIndex := 339, attributes := #[] }, { accessFlags := 26, nameIndex := 365, descriptorIndex := 339, attributes := #[] }, { accessFlags := 26, nameIndex := 172, descriptorIndex := 173, attributes := #[] }, { accessFlags := 26, nameIndex := 176, descriptorIndex := 173, attributes := #[] }, { accessFlags := 8, nameIndex := 344, descriptorIndex := 339, attributes := #[] }, { accessFlags := 8, nameIndex := 338, descriptorIndex := 339, attributes := #[] }, { accessFlags := 4120, nameIndex := 245, descriptorIndex := 246, attributes := #[] }])
  fields := #[{ name := "E", type := .double, accessFlags := 25, slot := 0, constantValue := 0 }, { name := "PI", type := .double, accessFlags := 25, slot := 1, constantValue := 0 }, { name := "TAU", type := .double, accessFlags := 25, slot := 2, constantValue := 0 }, { name := "DEGREES_TO_RADIANS", type := .double, accessFlags := 26, slot := 3, constantValue := 0 }, { name := "RADIANS_TO_DEGREES", type := .double, accessFlags := 26, slot := 4, constantValue := 0 }, { name := "negativeZeroFloatBits", type := .long, accessFlags := 26, slot := 5, constantValue := 0 }, { name := "negativeZeroDoubleBits", type := .long, accessFlags := 26, slot := 6, constantValue := 0 }, { name := "twoToTheDoubleScaleUp", type := .double, accessFlags := 8, slot := 7, constantValue := 0 }, { name := "twoToTheDoubleScaleDown", type := .double, accessFlags := 8, slot := 8, constantValue := 0 }, { name := "$assertionsDisabled", type := .boolean, accessFlags := 4120, slot := 9, constantValue := 0 }]
  methods := #[k13m0, k13m1, k13m2]
  instanceTypes := #[]
  staticTypes := #[.double, .double, .double, .double, .double, .long, .long, .double, .double, .boolean]
  resolved := Array.replicate 460 none
  statics := none }

def pool14 : Array CpInfo := pool [(2, .class_ 4), (1, u "java/lang/Object"), (0, u "<init>"), (0, u "()V"), (7, .class_ 16), (1, u "java/util/Arrays"), (57, .class_ 76), (1, u "java/util/Arrays$NaturalOrder"), (32, u "()Ljava/lang/Object;"), (3, .class_ 115), (1, u "java/util/Arrays$LegacyMergeSort"), (1, u "Z"), (10, .nameAndType 129 109), (0, u "clone"), (9, u "copyOfRange"), (10, .methodref 151 152), (0, .class_ 153), (0, .nameAndType 154 155), (0, u "java/lang/System"), (0, u "arraycopy"), (0, u "(Ljava/lang/Object;ILjava/lang/Object;II)V"), (146, u "copyOf"), (1, .methodref 305 306), (0, .class_ 307), (0, .nameAndType 308 309), (0, u "java/lang/Math"), (0, u "min"), (0, u "(II)I"), (0, .methodref 311 128), (0, .class_ 312), (0, u "[B"), (26, .methodref 14 340), (0, .nameAndType 341 342), (0, u "copyOfRangeByte"), (0, u "([BII)[B"), (0, .methodref 14 344), (0, .nameAndType 345 346), (0, u "checkLength"), (0, u "(II)V"), (28, .class_ 376), (0, u "java/util/Arrays$ArrayList"), (68, u "$assertionsDisabled"), (269, u "MIN_ARRAY_SORT_GRAN"), (0, u "I"), (2, u "INSERTIONSORT_THRESHOLD"), (149, u "([BI)[B"), (105, .class_ 976), (0, u "java/util/Arrays$ArrayItr")] 52

def k14m0 : Method := { name := "<init>", desc := "()V", sig := { parameters := [], returnType := none }, accessFlags := 2, code := none }
def k14c1 : Code := { maxStack := 6, maxLocals := 3, code := jdk_65_method_121_code, exceptionTable := #[], attributes := #[] }
def k14m1 : Method := { name := "copyOf", desc := "([BI)[B", sig := { parameters := [(.array .byte), .int], returnType := some (.array .byte) }, accessFlags := 9, code := some k14c1 }
def k14c2 : Code := { maxStack := 4, maxLocals := 2, code := jdk_65_method_131_code, exceptionTable := #[], attributes := #[] }
def k14m2 : Method := { name := "checkLength", desc := "(II)V", sig := { parameters := [.int, .int], returnType := none }, accessFlags := 10, code := some k14c2 }
def k14c3 : Code := { maxStack := 3, maxLocals := 3, code := jdk_65_method_132_code, exceptionTable := #[], attributes := #[] }
def k14m3 : Method := { name := "copyOfRange", desc := "([BII)[B", sig := { parameters := [(.array .byte), .int, .int], returnType := some (.array .byte) }, accessFlags := 9, code := some k14c3 }
def k14c4 : Code := { maxStack := 6, maxLocals := 5, code := jdk_65_method_133_code, exceptionTable := #[], attributes := #[] }
def k14m4 : Method := { name := "copyOfRangeByte", desc := "([BII)[B", sig := { parameters := [(.array .byte), .int, .int], returnType := some (.array .byte) }, accessFlags := 10, code := some k14c4 }
/-- java/util/Arrays -/
def k14 : Class := { plain "java/util/Arrays" (some 0) with
  accessFlags := 49
  interfaces := #[]
  cf := some (fileOf pool14 14 #[.nestMembers #[975, 375, 113, 74]] #[{ accessFlags := 2, nameIndex := 5, descriptorIndex := 6, attributes := #[] }, { accessFlags := 9, nameIndex := 302, descriptorIndex := 869, attributes := #[] }, { accessFlags := 10, nameIndex := 345, descriptorIndex := 346, attributes := #[] }, { accessFlags := 9, nameIndex := 139, descriptorIndex := 342, attributes := #[] }, { accessFlags := 10, nameIndex := 341, descriptorIndex := 342, attributes := #[] }] 49 2 #[] #[{ accessFlags := 26, nameIndex := 715, descriptorIndex := 716, attributes := #[] }, { accessFlags := 26, nameIndex := 719, descriptorIndex := 716, attributes := #[] }, { accessFlags := 4120, nameIndex := 445, descriptorIndex := 117, attributes := #[] }])
  fields := #[{ name := "MIN_ARRAY_SORT_GRAN", type := .int, accessFlags := 26, slot := 0, constantValue := 0 }, { name := "INSERTIONSORT_THRESHOLD", type := .int, accessFlags := 26, slot := 1, constantValue := 0 }, { name := "$assertionsDisabled", type := .boolean, accessFlags := 4120, slot := 2, constantValue := 0 }]
  methods := #[k14m0, k14m1, k14m2, k14m3, k14m4]
  instanceTypes := #[]
  staticTypes := #[.int, .int, .boolean]
  resolved := Array.replicate 1029 none
  statics := none }

def pool15 : Array CpInfo := pool [(2, .class_ 4), (1, u "java/lang/Object"), (0, u "<init>"), (0, u "()V"), (1, .class_ 10), (1, u "java/lang/System"), (0, u "allowSecurityManager"), (0, u "I"), (16, u "cons"), (0, u "Ljava/io/Console;"), (77, .class_ 110), (1, u "java/lang/System$CallersHolder"), (43, u "initialErrStream"), (0, u "Ljava/io/PrintStream;"), (19, u "security"), (0, u "Ljava/lang/SecurityManager;"), (31, .class_ 209), (0, u "java/lang/System$1"), (7, u "props"), (0, u "Ljava/util/Properties;"), (2, u "lineSeparator"), (0, u "Ljava/lang/String;"), (96, .class_ 321), (1, u "java/lang/System$LoggerFinder"), (5, .class_ 328), (0, u "java/lang/System$Logger"), (67, u "err"), (2, u "out"), (91, u "notSupportedJnuEncoding"), (15, u "in"), (17, u "initialIn"), (0, u "Ljava/io/InputStream;"), (35, u "bootLayer"), (0, u "Ljava/lang/ModuleLayer;"), (99, .class_ 664), (0, u "java/lang/System$2"), (9, u "NEVER"), (2, u "MAYBE"), (49, u "arraycopy"), (0, u "(Ljava/lang/Object;ILjava/lang/Object;II)V"), (72, .class_ 802), (0, u "java/lang/System$Logger$Level")] 31

def k15m0 : Method := { name := "<init>", desc := "()V", sig := { parameters := [], returnType := none }, accessFlags := 2, code := none }
def k15m1 : Method := { name := "arraycopy", desc := "(Ljava/lang/Object;ILjava/lang/Object;II)V", sig := { parameters := [(.object "java/lang/Object"), .int, (.object "java/lang/Object"), .int, .int], returnType := none }, accessFlags := 265, code := none }
/-- java/lang/System -/
def k15 : Class := { plain "java/lang/System" (some 0) with
  accessFlags := 49
  interfaces := #[]
  cf := some (fileOf pool15 8 #[.nestMembers #[319, 327, 801, 108, 663, 208]] #[{ accessFlags := 2, nameIndex := 5, descriptorIndex := 6, attributes := #[] }, { accessFlags := 265, nameIndex := 727, descriptorIndex := 728, attributes := #[] }] 49 2 #[] #[{ accessFlags := 25, nameIndex := 507, descriptorIndex := 526, attributes := #[] }, { accessFlags := 25, nameIndex := 399, descriptorIndex := 155, attributes := #[] }, { accessFlags := 25, nameIndex := 396, descriptorIndex := 155, attributes := #[] }, { accessFlags := 10, nameIndex := 525, descriptorIndex := 526, attributes := #[] }, { accessFlags := 26, nameIndex := 674, descriptorIndex := 12, attributes := #[] }, { accessFlags := 26, nameIndex := 677, descriptorIndex := 12, attributes := #[] }, { accessFlags := 10, nameIndex := 11, descriptorIndex := 12, attributes := #[] }, { accessFlags := 74, nameIndex := 175, descriptorIndex := 176, attributes := #[] }, { accessFlags := 10, nameIndex := 491, descriptorIndex := 222, attributes := #[] }, { accessFlags := 74, nameIndex := 29, descriptorIndex := 30, attributes := #[] }, { accessFlags := 74, nameIndex := 154, descriptorIndex := 155, attributes := #[] }, { accessFlags := 10, nameIndex := 217, descriptorIndex := 218, attributes := #[] }, { accessFlags := 10, nameIndex := 221, descriptorIndex := 222, attributes := #[] }, { accessFlags := 8, nameIndex := 562, descriptorIndex := 563, attributes := #[] }])
  fields := #[{ name := "in", type := (.object "java/io/InputStream"), accessFlags := 25, slot := 0, constantValue := 0 }, { name := "out", type := (.object "java/io/PrintStream"), accessFlags := 25, slot := 1, constantValue := 0 }, { name := "err", type := (.object "java/io/PrintStream"), accessFlags := 25, slot := 2, constantValue := 0 }, { name := "initialIn", type := (.object "java/io/InputStream"), accessFlags := 10, slot := 3, constantValue := 0 }, { name := "NEVER", type := .int, accessFlags := 26, slot := 4, constantValue := 0 }, { name := "MAYBE", type := .int, accessFlags := 26, slot := 5, constantValue := 0 }, { name := "allowSecurityManager", type := .int, accessFlags := 10, slot := 6, constantValue := 0 }, { name := "security", type := (.object "java/lang/SecurityManager"), accessFlags := 74, slot := 7, constantValue := 0 }, { name := "notSupportedJnuEncoding", type := (.object "java/lang/String"), accessFlags := 10, slot := 8, constantValue := 0 }, { name := "cons", type := (.object "java/io/Console"), accessFlags := 74, slot := 9, constantValue := 0 }, { name := "initialErrStream", type := (.object "java/io/PrintStream"), accessFlags := 74, slot := 10, constantValue := 0 }, { name := "props", type := (.object "java/util/Properties"), accessFlags := 10, slot := 11, constantValue := 0 }, { name := "lineSeparator", type := (.object "java/lang/String"), accessFlags := 10, slot := 12, constantValue := 0 }, { name := "bootLayer", type := (.object "java/lang/ModuleLayer"), accessFlags := 8, slot := 13, constantValue := 0 }]
  methods := #[k15m0, k15m1]
  instanceTypes := #[]
  staticTypes := #[(.object "java/io/InputStream"), (.object "java/io/PrintStream"), (.object "java/io/PrintStream"), (.object "java/io/InputStream"), .int, .int, .int, (.object "java/lang/SecurityManager"), (.object "java/lang/String"), (.object "java/io/Console"), (.object "java/io/PrintStream"), (.object "java/util/Properties"), (.object "java/lang/String"), (.object "java/lang/ModuleLayer")]
  resolved := Array.replicate 834 none
  statics := none }

def pool16 : Array CpInfo := pool [(3, .class_ 4), (0, u "java/lang/String"), (1, .class_ 8), (1, u "java/lang/Object"), (0, u "<init>"), (0, u "()V"), (0, .methodref 12 13), (0, .class_ 14), (0, .nameAndType 15 16), (0, u "java/lang/StringUTF16"), (0, u "newBytesLength"), (0, u "(I)I"), (3, .integer 1073741823), (23, .fieldref 12 45), (0, .nameAndType 46 47), (0, u "$assertionsDisabled"), (0, u "Z"), (0, .methodref 12 49), (0, .nameAndType 50 51), (0, u "length"), (0, u "([B)I"), (7, .fieldref 12 60), (0, .nameAndType 61 62), (0, u "HI_BYTE_SHIFT"), (0, u "I"), (0, .fieldref 12 64), (0, .nameAndType 65 62), (0, u "LO_BYTE_SHIFT"), (5, .methodref 12 72), (0, .nameAndType 73 74), (0, u "getChar"), (0, u "([BI)C"), (21, .methodref 12 97), (0, .nameAndType 98 99), (0, u "checkBoundsBeginEnd"), (0, u "(II[B)V"), (7, .methodref 12 108), (0, .nameAndType 109 110), (0, u "newBytesFor"), (0, u "(I)[B"), (0, .methodref 12 112), (0, .nameAndType 113 114), (0, u "putChar"), (0, u "([BII)V"), (0, .methodref 12 116), (0, .nameAndType 117 118), (0, u "compress"), (0, u "([CI[BII)I"), (0, .methodref 12 120), (0, .nameAndType 121 122), (0, u "toBytes"), (0, u "([CII)[B"), (17, u "inflate"), (0, u "([BI[BII)V"), (31, .methodref 12 174), (0, .nameAndType 175 99), (0, u "checkBoundsOffCount"), (65, .methodref 3 242), (0, .nameAndType 98 243), (0, u "(III)V"), (17, u "coderFromArrayLen"), (0, u "([BI)B"), (18, u "(III)I"), (87, .class_ 371), (1, u "java/lang/StringUTF16$LinesSpliterator"), (47, .methodref 3 420), (0, .nameAndType 175 281), (9, u "MAX_LENGTH"), (175, u "putCharsAt"), (0, u "([BICCCC)I"), (2, u "([BICCCCC)I"), (16, .class_ 628), (0, u "java/lang/StringUTF16$CodePointsSpliterator"), (0, .class_ 630), (0, u "java/lang/StringUTF16$CharsSpliterator")] 4

def k16m0 : Method := { name := "<init>", desc := "()V", sig := { parameters := [], returnType := none }, accessFlags := 0, code := none }
def k16c1 : Code := { maxStack := 1, maxLocals := 1, code := jdk_52_method_2_code, exceptionTable := #[], attributes := #[] }
def k16m1 : Method := { name := "newBytesFor", desc := "(I)[B", sig := { parameters := [.int], returnType := some (.array .byte) }, accessFlags := 9, code := some k16c1 }
def k16c2 : Code := { maxStack := 4, maxLocals := 1, code := jdk_52_method_3_code, exceptionTable := #[], attributes := #[] }
def k16m2 : Method := { name := "newBytesLength", desc := "(I)I", sig := { parameters := [.int], returnType := some .int }, accessFlags := 9, code := some k16c2 }
def k16c3 : Code := { maxStack := 4, maxLocals := 3, code := jdk_52_method_4_code, exceptionTable := #[], attributes := #[] }
def k16m3 : Method := { name := "putChar", desc := "([BII)V", sig := { parameters := [(.array .byte), .int, .int], returnType := none }, accessFlags := 8, code := some k16c3 }
def k16c4 : Code := { maxStack := 3, maxLocals := 2, code := jdk_52_method_5_code, exceptionTable := #[], attributes := #[] }
def k16m4 : Method := { name := "getChar", desc := "([BI)C", sig := { parameters := [(.array .byte), .int], returnType := some .char }, accessFlags := 8, code := some k16c4 }
def k16c5 : Code := { maxStack := 2, maxLocals := 1, code := jdk_52_method_6_code, exceptionTable := #[], attributes := #[] }
def k16m5 : Method := { name := "length", desc := "([B)I", sig := { parameters := [(.array .byte)], returnType := some .int }, accessFlags := 9, code := some k16c5 }
def k16c6 : Code := { maxStack := 4, maxLocals := 5, code := jdk_52_method_14_code, exceptionTable := #[], attributes := #[] }
def k16m6 : Method := { name := "toBytes", desc := "([CII)[B", sig := { parameters := [(.array .char), .int, .int], returnType := some (.array .byte) }, accessFlags := 9, code := some k16c6 }
def k16c7 : Code := { maxStack := 2, maxLocals := 2, code := jdk_52_method_15_code, exceptionTable := #[], attributes := #[] }
def k16m7 : Method := { name := "coderFromArrayLen", desc := "([BI)B", sig := { parameters := [(.array .byte), .int], returnType := some .byte }, accessFlags := 8, code := some k16c7 }
def k16c8 : Code := { maxStack := 5, maxLocals := 6, code := jdk_52_method_16_code, exceptionTable := #[], attributes := #[] }
def k16m8 : Method := { name := "compress", desc := "([CII)[B", sig := { parameters := [(.array .char), .int, .int], returnType := some (.array .byte) }, accessFlags := 9, code := some k16c8 }
def k16c9 : Code := { maxStack := 3, maxLocals := 7, code := jdk_52_method_21_code, exceptionTable := #[], attributes := #[] }
def k16m9 : Method := { name := "compress", desc := "([CI[BII)I", sig := { parameters := [(.array .char), .int, (.array .byte), .int, .int], returnType := some .int }, accessFlags := 9, code := some k16c9 }
def k16c10 : Code := { maxStack := 3, maxLocals := 7, code := jdk_52_method_81_code, exceptionTable := #[], attributes := #[] }
def k16m10 : Method := { name := "putCharsAt", desc := "([BICCCC)I", sig := { parameters := [(.array .byte), .int, .char, .char, .char, .char], returnType := some .int }, accessFlags := 9, code := some k16c10 }
def k16c11 : Code := { maxStack := 3, maxLocals := 8, code := jdk_52_method_82_code, exceptionTable := #[], attributes := #[] }
def k16m11 : Method := { name := "putCharsAt", desc := "([BICCCCC)I", sig := { parameters := [(.array .byte), .int, .char, .char, .char, .char, .char], returnType := some .int }, accessFlags := 9, code := some k16c11 }
def k16c12 : Code := { maxStack := 4, maxLocals := 6, code := jdk_52_method_86_code, exceptionTable := #[], attributes := #[] }
def k16m12 : Method := { name := "inflate", desc := "([BI[BII)V", sig := { parameters := [(.array .byte), .int, (.array .byte), .int, .int], returnType := none }, accessFlags := 9, code := some k16c12 }
def k16c13 : Code := { maxStack := 3, maxLocals := 3, code := jdk_52_method_93_code, exceptionTable := #[], attributes := #[] }
def k16m13 : Method := { name := "checkBoundsBeginEnd", desc := "(II[B)V", sig := { parameters := [.int, .int, (.array .byte)], returnType := none }, accessFlags := 9, code := some k16c13 }
def k16c14 : Code := { maxStack := 3, maxLocals := 3, code := jdk_52_method_94_code, exceptionTable := #[], attributes := #[] }
def k16m14 : Method := { name := "checkBoundsOffCount", desc := "(II[B)V", sig := { parameters := [.int, .int, (.array .byte)], returnType := none }, accessFlags := 9, code := some k16c14 }
/-- java/lang/StringUTF16 -/
def k16 : Class := { plain "java/lang/StringUTF16" (some 0) with
  accessFlags := 48
  interfaces := #[]
  cf := some (fileOf pool16 12 #[.nestMembers #[627, 629, 369]] #[{ accessFlags := 0, nameIndex := 9, descriptorIndex := 10, attributes := #[] }, { accessFlags := 9, nameIndex := 109, descriptorIndex := 110, attributes := #[] }, { accessFlags := 9, nameIndex := 15, descriptorIndex := 16, attributes := #[] }, { accessFlags := 8, nameIndex := 113, descriptorIndex := 114, attributes := #[] }, { accessFlags := 8, nameIndex := 73, descriptorIndex := 74, attributes := #[] }, { accessFlags := 9, nameIndex := 50, descriptorIndex := 51, attributes := #[] }, { accessFlags := 9, nameIndex := 121, descriptorIndex := 122, attributes := #[] }, { accessFlags := 8, nameIndex := 261, descriptorIndex := 262, attributes := #[] }, { accessFlags := 9, nameIndex := 117, descriptorIndex := 122, attributes := #[] }, { accessFlags := 9, nameIndex := 117, descriptorIndex := 118, attributes := #[] }, { accessFlags := 9, nameIndex := 606, descriptorIndex := 607, attributes := #[] }, { accessFlags := 9, nameIndex := 606, descriptorIndex := 610, attributes := #[] }, { accessFlags := 9, nameIndex := 140, descriptorIndex := 141, attributes := #[] }, { accessFlags := 9, nameIndex := 98, descriptorIndex := 99, attributes := #[] }, { accessFlags := 9, nameIndex := 175, descriptorIndex := 99, attributes := #[] }] 48 6 #[] #[{ accessFlags := 26, nameIndex := 61, descriptorIndex := 62, attributes := #[] }, { accessFlags := 26, nameIndex := 65, descriptorIndex := 62, attributes := #[] }, { accessFlags := 24, nameIndex := 430, descriptorIndex := 62, attributes := #[] }, { accessFlags := 4120, nameIndex := 46, descriptorIndex := 47, attributes := #[] }])
  fields := #[{ name := "HI_BYTE_SHIFT", type := .int, accessFlags := 26, slot := 0, constantValue := 0 }, { name := "LO_BYTE_SHIFT", type := .int, accessFlags := 26, slot := 1, constantValue := 0 }, { name := "MAX_LENGTH", type := .int, accessFlags := 24, slot := 2, constantValue := 0 }, { name := "$assertionsDisabled", type := .boolean, accessFlags := 4120, slot := 3, constantValue := 0 }]
  methods := #[k16m0, k16m1, k16m2, k16m3, k16m4, k16m5, k16m6, k16m7, k16m8, k16m9, k16m10, k16m11, k16m12, k16m13, k16m14]
  instanceTypes := #[]
  staticTypes := #[.int, .int, .int, .boolean]
  resolved := Array.replicate 635 none
  statics := some 1 }

def pool17 : Array CpInfo := pool [(4, .class_ 6), (1, u "java/lang/Object"), (0, u "<init>"), (0, u "()V"), (5, .class_ 16), (1, u "java/lang/StringLatin1"), (0, u "inflate"), (2, .class_ 22), (1, u "java/lang/StringUTF16"), (3, .nameAndType 17 27), (0, u "([BI[BII)V"), (93, u "$assertionsDisabled"), (0, u "Z"), (98, .class_ 223), (1, u "java/lang/StringLatin1$LinesSpliterator"), (16, .methodref 20 26), (40, u "equals"), (0, u "([B[B)Z"), (107, .class_ 391), (0, u "java/lang/StringLatin1$CharsSpliterator")] 3

def k17m0 : Method := { name := "<init>", desc := "()V", sig := { parameters := [], returnType := none }, accessFlags := 0, code := none }
def k17c1 : Code := { maxStack := 3, maxLocals := 3, code := jdk_43_method_13_code, exceptionTable := #[], attributes := #[] }
def k17m1 : Method := { name := "equals", desc := "([B[B)Z", sig := { parameters := [(.array .byte), (.array .byte)], returnType := some .boolean }, accessFlags := 9, code := some k17c1 }
def k17c2 : Code := { maxStack := 5, maxLocals := 5, code := jdk_43_method_50_code, exceptionTable := #[], attributes := #[] }
def k17m2 : Method := { name := "inflate", desc := "([BI[BII)V", sig := { parameters := [(.array .byte), .int, (.array .byte), .int, .int], returnType := none }, accessFlags := 9, code := some k17c2 }
/-- java/lang/StringLatin1 -/
def k17 : Class := { plain "java/lang/StringLatin1" (some 0) with
  accessFlags := 48
  interfaces := #[]
  cf := some (fileOf pool17 14 #[.nestMembers #[390, 221]] #[{ accessFlags := 0, nameIndex := 7, descriptorIndex := 8, attributes := #[] }, { accessFlags := 9, nameIndex := 281, descriptorIndex := 282, attributes := #[] }, { accessFlags := 9, nameIndex := 17, descriptorIndex := 27, attributes := #[] }] 48 4 #[] #[{ accessFlags := 4120, nameIndex := 121, descriptorIndex := 122, attributes := #[] }])
  fields := #[{ name := "$assertionsDisabled", type := .boolean, accessFlags := 4120, slot := 0, constantValue := 0 }]
  methods := #[k17m0, k17m1, k17m2]
  instanceTypes := #[]
  staticTypes := #[.boolean]
  resolved := Array.replicate 395 none
  statics := none }

def pool18 : Array CpInfo := pool [(2, .class_ 4), (1, u "java/lang/Object"), (0, u "<init>"), (0, u "()V"), (17, .class_ 26), (1, u "jdk/internal/util/Preconditions"), (20, u "checkFromToIndex"), (1, u "checkFromIndexSize"), (5, .class_ 56), (0, u "jdk/internal/util/Preconditions$4"), (57, .class_ 115), (0, u "jdk/internal/util/Preconditions$1"), (7, u "SIOOBE_FORMATTER"), (0, u "Ljava/util/function/BiFunction;"), (0, .class_ 126), (0, u "jdk/internal/util/Preconditions$2"), (3, u "AIOOBE_FORMATTER"), (0, .class_ 132), (0, u "jdk/internal/util/Preconditions$3"), (3, u "IOOBE_FORMATTER"), (46, u "(IIILjava/util/function/BiFunction;)I")] 10

def k18m0 : Method := { name := "<init>", desc := "()V", sig := { parameters := [], returnType := none }, accessFlags := 1, code := none }
def k18c1 : Code := { maxStack := 4, maxLocals := 4, code := jdk_41_method_12_code, exceptionTable := #[], attributes := #[] }
def k18m1 : Method := { name := "checkFromToIndex", desc := "(IIILjava/util/function/BiFunction;)I", sig := { parameters := [.int, .int, .int, (.object "java/util/function/BiFunction")], returnType := some .int }, accessFlags := 9, code := some k18c1 }
def k18c2 : Code := { maxStack := 4, maxLocals := 4, code := jdk_41_method_13_code, exceptionTable := #[], attributes := #[] }
def k18m2 : Method := { name := "checkFromIndexSize", desc := "(IIILjava/util/function/BiFunction;)I", sig := { parameters := [.int, .int, .int, (.object "java/util/function/BiFunction")], returnType := some .int }, accessFlags := 9, code := some k18c2 }
/-- jdk/internal/util/Preconditions -/
def k18 : Class := { plain "jdk/internal/util/Preconditions" (some 0) with
  accessFlags := 33
  interfaces := #[]
  cf := some (fileOf pool18 24 #[.nestMembers #[55, 131, 125, 114]] #[{ accessFlags := 1, nameIndex := 5, descriptorIndex := 6, attributes := #[] }, { accessFlags := 9, nameIndex := 47, descriptorIndex := 183, attributes := #[] }, { accessFlags := 9, nameIndex := 49, descriptorIndex := 183, attributes := #[] }] 33 2 #[] #[{ accessFlags := 25, nameIndex := 123, descriptorIndex := 124, attributes := #[] }, { accessFlags := 25, nameIndex := 130, descriptorIndex := 124, attributes := #[] }, { accessFlags := 25, nameIndex := 136, descriptorIndex := 124, attributes := #[] }])
  fields := #[{ name := "SIOOBE_FORMATTER", type := (.object "java/util/function/BiFunction"), accessFlags := 25, slot := 0, constantValue := 0 }, { name := "AIOOBE_FORMATTER", type := (.object "java/util/function/BiFunction"), accessFlags := 25, slot := 1, constantValue := 0 }, { name := "IOOBE_FORMATTER", type := (.object "java/util/function/BiFunction"), accessFlags := 25, slot := 2, constantValue := 0 }]
  methods := #[k18m0, k18m1, k18m2]
  instanceTypes := #[]
  staticTypes := #[(.object "java/util/function/BiFunction"), (.object "java/util/function/BiFunction"), (.object "java/util/function/BiFunction")]
  resolved := Array.replicate 194 none
  statics := some 2 }

def pool19 : Array CpInfo := pool [(1, .class_ 2), (0, u "java/lang/Cloneable"), (0, .class_ 4), (0, u "java/lang/Object")] 2

/-- java/lang/Cloneable -/
def k19 : Class := { plain "java/lang/Cloneable" (some 0) with
  accessFlags := 1537
  interfaces := #[]
  cf := some (fileOf pool19 1 #[] #[] 1537 3 #[] #[])
  fields := #[]
  methods := #[]
  instanceTypes := #[]
  staticTypes := #[]
  resolved := Array.replicate 7 none
  statics := none }

/-- the primitive byte -/
def k20 : Class := { plain "byte" none with kind := .primitive 'B', accessFlags := 0x411 }
/-- [B -/
def k21 : Class := { plain "[B" (some 0) with kind := .array 20 .byte, interfaces := #[19, 3], accessFlags := 1041 }

/-- the primitive char -/
def k22 : Class := { plain "char" none with kind := .primitive 'C', accessFlags := 0x411 }
/-- [C -/
def k23 : Class := { plain "[C" (some 0) with kind := .array 22 .char, interfaces := #[19, 3], accessFlags := 1041 }

/-- the primitive int -/
def k24 : Class := { plain "int" none with kind := .primitive 'I', accessFlags := 0x411 }
/-- [I -/
def k25 : Class := { plain "[I" (some 0) with kind := .array 24 .int, interfaces := #[19, 3], accessFlags := 1041 }

def heap : Heap := #[{ cls := 8, slots := #[.long 0, .int 1, .null, .int 0, .null, .int 0, .int 0], vm := .statics 8 },
  { cls := 16, slots := #[.int 0, .int 8, .int 0, .int 1], vm := .statics 16 },
  { cls := 18, slots := #[.null, .null, .null], vm := .statics 18 }]
def classes : Array Class := #[k0, k1, k2, k3, k4, k5, k6, k7, k8, k9, k10, k11, k12, k13, k14, k15, k16, k17, k18, k19, k20, k21, k22, k23, k24, k25]
def interned : List (Array UInt16 × Addr) := []
def slotsUsed : Nat := 14
def theMethod : MethodId := ⟨1, 1⟩
def args0 : Array Value := #[.int 1, .int 1, .int 1, .int 1]
def aboutOver (below : List Frame) : State where
  vm := { classes := classes, interned := interned.toArray }
  heap := heap
  slotsUsed := slotsUsed
  threads := #[{ frames := .invoking theMethod args0 :: below }]
def below0 : List Frame := [.native { method := ⟨0, 0⟩, args := #[] }]
def about1 : State := aboutOver below0
def p0 : Program := .bare "" "" ""
def e0 : Env := launch0.env 0 0 0
theorem w_frames : about1.frames = Frame.invoking theMethod args0 :: below0 := rfl
set_option maxRecDepth 65536 in
theorem w_args : argsFit about1.vm theMethod args0 = true := by decide +kernel
set_option maxRecDepth 65536 in
theorem w_heap : heapFits about1 = true := by decide +kernel
set_option maxRecDepth 65536 in
theorem w_runnable : about1.curStatus? = some .runnable := by decide +kernel
set_option maxRecDepth 65536 in
theorem w_alone : about1.alone = true := by decide +kernel
set_option maxRecDepth 65536 in
theorem w_named : about1.methodNamed? x = some theMethod := by decide +kernel
set_option maxRecDepth 65536 in
theorem w_hears : about1.hears theMethod below0 = true := by decide +kernel
set_option maxRecDepth 65536 in
theorem w_ripe : about1.ripe theMethod args0 below0 = true := by decide +kernel
theorem w_running : about1.status = .running := rfl
set_option maxRecDepth 65536 in
theorem w_room : about1.hasRoom e0.platform room_1 = true :=
  launch0.hasRoom_least _ room_1 (by decide +kernel) (by decide +kernel) (by decide +kernel) (by decide +kernel) (by decide +kernel) (by decide +kernel)
theorem allAtoms_all (ts : List Jvm.Cond) (a : Array Jvm.Value) (st : Jvm.State) : (allAtoms ts).before a st = ts.all (fun c => c.before a st) := by
  induction ts with
  | nil => rfl
  | cons c t ih =>
    show (Jvm.Cond.and c (allAtoms t)).before a st = _
    rw [Jvm.Cond.before_and, ih, List.all_cons]
def words1 : List Jvm.Cond := Jvm.Cond.code x code maxLocals ret :: tables_1
/-- a 'code' word, met by the world's own term for the bytes: nothing is compared byte by byte -/
theorem code_word {y : MethodName} {bytes : ByteArray} {mx : Nat} {rt : Option FieldType} {a : Array Value} {s : State} {m : MethodId} {meth : Method} {c : Code} (h1 : s.methodNamed? y = some m) (h2 : s.vm.method? m = some meth) (h3 : meth.code = some c) (h4 : c.code = bytes)
    (h5 : (c.maxLocals == mx && c.exceptionTable.isEmpty && decide (c.maxStack ≤ mostOperands) && decide (meth.sig.returnType = rt) && !meth.locks && decide (parseMethodDescriptor y.desc = some meth.sig)) = true) : (Jvm.Cond.code y bytes mx rt).before a s = true := by
  simp only [Bool.and_eq_true, beq_iff_eq, Bool.not_eq_true', decide_eq_true_eq] at h5
  obtain ⟨⟨⟨⟨⟨g1, g2⟩, g3⟩, g4⟩, g5⟩, g6⟩ := h5
  simp [Cond.before, Cond.holds, Cond.value, h1, h2, h3, h4, g1, g2, g3, g4, g5, g6]
def isCode : Jvm.Cond → Bool
  | .code _ _ _ _ => true
  | _ => false
theorem all_split {L : List Jvm.Cond} {P : Jvm.Cond → Bool} (h1 : L.all (fun c => isCode c || P c) = true) (h2 : ∀ c ∈ L.filter isCode, P c = true) : L.all P = true := by
  refine List.all_eq_true.mpr fun c hc => ?_
  have h := List.all_eq_true.mp h1 c hc
  rcases Bool.eq_false_or_eq_true (isCode c) with hi | hi
  · exact h2 c (List.mem_filter.mpr ⟨hc, hi⟩)
  · simpa [hi] using h
set_option maxRecDepth 65536 in
theorem w_c0 : (Jvm.Cond.code x code maxLocals ret).before args0 about1 = true := code_word (m := ⟨1, 1⟩) (meth := k1m1) (c := k1c1) (by decide +kernel) rfl rfl rfl (by decide +kernel)
set_option maxRecDepth 65536 in
theorem w_c1 : (Jvm.Cond.code ({ cls := "com/example/holdfast/holdfast/RenewalToStringPinLaw", name := "head", desc := "([C)V" } : Jvm.MethodName) method_3_code (1 : Nat) (Option.none : Option Jvm.ClassFile.FieldType)).before args0 about1 = true := code_word (m := ⟨1, 2⟩) (meth := k1m2) (c := k1c2) (by decide +kernel) rfl rfl rfl (by decide +kernel)
set_option maxRecDepth 65536 in
theorem w_c2 : (Jvm.Cond.code ({ cls := "com/example/holdfast/holdfast/RenewalToStringPinLaw", name := "tail", desc := "([CIZ)V" } : Jvm.MethodName) method_4_code (3 : Nat) (Option.none : Option Jvm.ClassFile.FieldType)).before args0 about1 = true := code_word (m := ⟨1, 3⟩) (meth := k1m3) (c := k1c3) (by decide +kernel) rfl rfl rfl (by decide +kernel)
set_option maxRecDepth 65536 in
theorem w_c3 : (Jvm.Cond.code ({ cls := "java/lang/String", name := "<init>", desc := "([C)V" } : Jvm.MethodName) jdk_42_method_3_code (2 : Nat) (Option.none : Option Jvm.ClassFile.FieldType)).before args0 about1 = true := code_word (m := ⟨8, 1⟩) (meth := k8m1) (c := k8c1) (by decide +kernel) rfl rfl rfl (by decide +kernel)
set_option maxRecDepth 65536 in
theorem w_c4 : (Jvm.Cond.code ({ cls := "java/lang/String", name := "<init>", desc := "([CIILjava/lang/Void;)V" } : Jvm.MethodName) jdk_42_method_149_code (6 : Nat) (Option.none : Option Jvm.ClassFile.FieldType)).before args0 about1 = true := code_word (m := ⟨8, 6⟩) (meth := k8m6) (c := k8c6) (by decide +kernel) rfl rfl rfl (by decide +kernel)
set_option maxRecDepth 65536 in
theorem w_c5 : (Jvm.Cond.code ({ cls := "java/lang/Object", name := "<init>", desc := "()V" } : Jvm.MethodName) object_method_1_code (1 : Nat) (Option.none : Option Jvm.ClassFile.FieldType)).before args0 about1 = true := code_word (m := ⟨0, 0⟩) (meth := k0m0) (c := k0c0) (by decide +kernel) rfl rfl rfl (by decide +kernel)
set_option maxRecDepth 65536 in
theorem w_c6 : (Jvm.Cond.code ({ cls := "com/example/holdfast/holdfast/LockEventListener$Renewal", name := "<init>", desc := "(Ljava/lang/String;Z)V" } : Jvm.MethodName) prog_11_method_1_code (3 : Nat) (Option.none : Option Jvm.ClassFile.FieldType)).before args0 about1 = true := code_word (m := ⟨2, 0⟩) (meth := k2m0) (c := k2c0) (by decide +kernel) rfl rfl rfl (by decide +kernel)
set_option maxRecDepth 65536 in
theorem w_c7 : (Jvm.Cond.code ({ cls := "com/example/holdfast/holdfast/LockEventListener$Renewal", name := "toString", desc := "()Ljava/lang/String;" } : Jvm.MethodName) prog_11_method_4_code (1 : Nat) (Option.some (Jvm.ClassFile.FieldType.object "java/lang/String"))).before args0 about1 = true := code_word (m := ⟨2, 1⟩) (meth := k2m1) (c := k2c1) (by decide +kernel) rfl rfl rfl (by decide +kernel)
set_option maxRecDepth 65536 in
theorem w_c8 : (Jvm.Cond.code ({ cls := "java/lang/StringBuilder", name := "<init>", desc := "()V" } : Jvm.MethodName) jdk_67_method_1_code (1 : Nat) (Option.none : Option Jvm.ClassFile.FieldType)).before args0 about1 = true := code_word (m := ⟨11, 0⟩) (meth := k11m0) (c := k11c0) (by decide +kernel) rfl rfl rfl (by decide +kernel)
set_option maxRecDepth 65536 in
theorem w_c9 : (Jvm.Cond.code ({ cls := "java/lang/AbstractStringBuilder", name := "<init>", desc := "(I)V" } : Jvm.MethodName) jdk_68_method_2_code (2 : Nat) (Option.none : Option Jvm.ClassFile.FieldType)).before args0 about1 = true := code_word (m := ⟨10, 1⟩) (meth := k10m1) (c := k10c1) (by decide +kernel) rfl rfl rfl (by decide +kernel)
set_option maxRecDepth 65536 in
theorem w_c10 : (Jvm.Cond.code ({ cls := "java/lang/StringBuilder", name := "append", desc := "(Ljava/lang/String;)Ljava/lang/StringBuilder;" } : Jvm.MethodName) jdk_67_method_7_code (2 : Nat) (Option.some (Jvm.ClassFile.FieldType.object "java/lang/StringBuilder"))).before args0 about1 = true := code_word (m := ⟨11, 1⟩) (meth := k11m1) (c := k11c1) (by decide +kernel) rfl rfl rfl (by decide +kernel)
set_option maxRecDepth 65536 in
theorem w_c11 : (Jvm.Cond.code ({ cls := "java/lang/AbstractStringBuilder", name := "append", desc := "(Ljava/lang/String;)Ljava/lang/AbstractStringBuilder;" } : Jvm.MethodName) jdk_68_method_22_code (3 : Nat) (Option.some (Jvm.ClassFile.FieldType.object "java/lang/AbstractStringBuilder"))).before args0 about1 = true := code_word (m := ⟨10, 6⟩) (meth := k10m6) (c := k10c6) (by decide +kernel) rfl rfl rfl (by decide +kernel)
set_option maxRecDepth 65536 in
theorem w_c12 : (Jvm.Cond.code ({ cls := "java/lang/String", name := "length", desc := "()I" } : Jvm.MethodName) jdk_42_method_54_code (1 : Nat) (Option.some Jvm.ClassFile.FieldType.int)).before args0 about1 = true := code_word (m := ⟨8, 3⟩) (meth := k8m3) (c := k8c3) (by decide +kernel) rfl rfl rfl (by decide +kernel)
set_option maxRecDepth 65536 in
theorem w_c13 : (Jvm.Cond.code ({ cls := "java/lang/String", name := "coder", desc := "()B" } : Jvm.MethodName) jdk_42_method_152_code (1 : Nat) (Option.some Jvm.ClassFile.FieldType.byte)).before args0 about1 = true := code_word (m := ⟨8, 8⟩) (meth := k8m8) (c := k8c8) (by decide +kernel) rfl rfl rfl (by decide +kernel)
set_option maxRecDepth 65536 in
theorem w_c14 : (Jvm.Cond.code ({ cls := "java/lang/AbstractStringBuilder", name := "ensureCapacityInternal", desc := "(I)V" } : Jvm.MethodName) jdk_68_method_9_code (3 : Nat) (Option.none : Option Jvm.ClassFile.FieldType)).before args0 about1 = true := code_word (m := ⟨10, 3⟩) (meth := k10m3) (c := k10c3) (by decide +kernel) rfl rfl rfl (by decide +kernel)
set_option maxRecDepth 65536 in
theorem w_c15 : (Jvm.Cond.code ({ cls := "java/lang/AbstractStringBuilder", name := "newCapacity", desc := "(I)I" } : Jvm.MethodName) jdk_68_method_10_code (6 : Nat) (Option.some Jvm.ClassFile.FieldType.int)).before args0 about1 = true := code_word (m := ⟨10, 4⟩) (meth := k10m4) (c := k10c4) (by decide +kernel) rfl rfl rfl (by decide +kernel)
set_option maxRecDepth 65536 in
theorem w_c16 : (Jvm.Cond.code ({ cls := "jdk/internal/util/ArraysSupport", name := "newLength", desc := "(III)I" } : Jvm.MethodName) jdk_48_method_27_code (4 : Nat) (Option.some Jvm.ClassFile.FieldType.int)).before args0 about1 = true := code_word (m := ⟨12, 1⟩) (meth := k12m1) (c := k12c1) (by decide +kernel) rfl rfl rfl (by decide +kernel)
set_option maxRecDepth 65536 in
theorem w_c17 : (Jvm.Cond.code ({ cls := "java/lang/Math", name := "max", desc := "(II)I" } : Jvm.MethodName) jdk_29_method_65_code (2 : Nat) (Option.some Jvm.ClassFile.FieldType.int)).before args0 about1 = true := code_word (m := ⟨13, 1⟩) (meth := k13m1) (c := k13c1) (by decide +kernel) rfl rfl rfl (by decide +kernel)
set_option maxRecDepth 65536 in
theorem w_c18 : (Jvm.Cond.code ({ cls := "java/util/Arrays", name := "copyOf", desc := "([BI)[B" } : Jvm.MethodName) jdk_65_method_121_code (3 : Nat) (Option.some (Jvm.ClassFile.FieldType.array Jvm.ClassFile.FieldType.byte))).before args0 about1 = true := code_word (m := ⟨14, 1⟩) (meth := k14m1) (c := k14c1) (by decide +kernel) rfl rfl rfl (by decide +kernel)
set_option maxRecDepth 65536 in
theorem w_c19 : (Jvm.Cond.code ({ cls := "java/lang/Math", name := "min", desc := "(II)I" } : Jvm.MethodName) jdk_29_method_69_code (2 : Nat) (Option.some Jvm.ClassFile.FieldType.int)).before args0 about1 = true := code_word (m := ⟨13, 2⟩) (meth := k13m2) (c := k13c2) (by decide +kernel) rfl rfl rfl (by decide +kernel)
set_option maxRecDepth 65536 in
theorem w_c20 : (Jvm.Cond.code ({ cls := "java/lang/AbstractStringBuilder", name := "putStringAt", desc := "(ILjava/lang/String;)V" } : Jvm.MethodName) jdk_68_method_73_code (3 : Nat) (Option.none : Option Jvm.ClassFile.FieldType)).before args0 about1 = true := code_word (m := ⟨10, 11⟩) (meth := k10m11) (c := k10c11) (by decide +kernel) rfl rfl rfl (by decide +kernel)
set_option maxRecDepth 65536 in
theorem w_c21 : (Jvm.Cond.code ({ cls := "java/lang/AbstractStringBuilder", name := "inflateIfNeededFor", desc := "(Ljava/lang/String;)V" } : Jvm.MethodName) jdk_68_method_71_code (2 : Nat) (Option.none : Option Jvm.ClassFile.FieldType)).before args0 about1 = true := code_word (m := ⟨10, 10⟩) (meth := k10m10) (c := k10c10) (by decide +kernel) rfl rfl rfl (by decide +kernel)
set_option maxRecDepth 65536 in
theorem w_c22 : (Jvm.Cond.code ({ cls := "java/lang/String", name := "getBytes", desc := "([BIB)V" } : Jvm.MethodName) jdk_42_method_147_code (4 : Nat) (Option.none : Option Jvm.ClassFile.FieldType)).before args0 about1 = true := code_word (m := ⟨8, 5⟩) (meth := k8m5) (c := k8c5) (by decide +kernel) rfl rfl rfl (by decide +kernel)
set_option maxRecDepth 65536 in
theorem w_c23 : (Jvm.Cond.code ({ cls := "java/lang/StringBuilder", name := "append", desc := "(Z)Ljava/lang/StringBuilder;" } : Jvm.MethodName) jdk_67_method_13_code (2 : Nat) (Option.some (Jvm.ClassFile.FieldType.object "java/lang/StringBuilder"))).before args0 about1 = true := code_word (m := ⟨11, 2⟩) (meth := k11m2) (c := k11c2) (by decide +kernel) rfl rfl rfl (by decide +kernel)
set_option maxRecDepth 65536 in
theorem w_c24 : (Jvm.Cond.code ({ cls := "java/lang/AbstractStringBuilder", name := "append", desc := "(Z)Ljava/lang/AbstractStringBuilder;" } : Jvm.MethodName) jdk_68_method_30_code (4 : Nat) (Option.some (Jvm.ClassFile.FieldType.object "java/lang/AbstractStringBuilder"))).before args0 about1 = true := code_word (m := ⟨10, 7⟩) (meth := k10m7) (c := k10c7) (by decide +kernel) rfl rfl rfl (by decide +kernel)
set_option maxRecDepth 65536 in
theorem w_c25 : (Jvm.Cond.code ({ cls := "java/lang/AbstractStringBuilder", name := "isLatin1", desc := "()Z" } : Jvm.MethodName) jdk_68_method_68_code (1 : Nat) (Option.some Jvm.ClassFile.FieldType.boolean)).before args0 about1 = true := code_word (m := ⟨10, 9⟩) (meth := k10m9) (c := k10c9) (by decide +kernel) rfl rfl rfl (by decide +kernel)
set_option maxRecDepth 65536 in
theorem w_c26 : (Jvm.Cond.code ({ cls := "java/lang/StringBuilder", name := "toString", desc := "()Ljava/lang/String;" } : Jvm.MethodName) jdk_67_method_42_code (1 : Nat) (Option.some (Jvm.ClassFile.FieldType.object "java/lang/String"))).before args0 about1 = true := code_word (m := ⟨11, 3⟩) (meth := k11m3) (c := k11c3) (by decide +kernel) rfl rfl rfl (by decide +kernel)
set_option maxRecDepth 65536 in
theorem w_c27 : (Jvm.Cond.code ({ cls := "java/lang/String", name := "<init>", desc := "(Ljava/lang/StringBuilder;)V" } : Jvm.MethodName) jdk_42_method_53_code (2 : Nat) (Option.none : Option Jvm.ClassFile.FieldType)).before args0 about1 = true := code_word (m := ⟨8, 2⟩) (meth := k8m2) (c := k8c2) (by decide +kernel) rfl rfl rfl (by decide +kernel)
set_option maxRecDepth 65536 in
theorem w_c28 : (Jvm.Cond.code ({ cls := "java/lang/String", name := "<init>", desc := "(Ljava/lang/AbstractStringBuilder;Ljava/lang/Void;)V" } : Jvm.MethodName) jdk_42_method_150_code (5 : Nat) (Option.none : Option Jvm.ClassFile.FieldType)).before args0 about1 = true := code_word (m := ⟨8, 7⟩) (meth := k8m7) (c := k8c7) (by decide +kernel) rfl rfl rfl (by decide +kernel)
set_option maxRecDepth 65536 in
theorem w_c29 : (Jvm.Cond.code ({ cls := "java/lang/AbstractStringBuilder", name := "getValue", desc := "()[B" } : Jvm.MethodName) jdk_68_method_64_code (1 : Nat) (Option.some (Jvm.ClassFile.FieldType.array Jvm.ClassFile.FieldType.byte))).before args0 about1 = true := code_word (m := ⟨10, 8⟩) (meth := k10m8) (c := k10c8) (by decide +kernel) rfl rfl rfl (by decide +kernel)
set_option maxRecDepth 65536 in
theorem w_c30 : (Jvm.Cond.code ({ cls := "java/lang/StringBuilder", name := "length", desc := "()I" } : Jvm.MethodName) jdk_67_method_93_code (1 : Nat) (Option.some Jvm.ClassFile.FieldType.int)).before args0 about1 = true := code_word (m := ⟨11, 4⟩) (meth := k11m4) (c := k11c4) (by decide +kernel) rfl rfl rfl (by decide +kernel)
set_option maxRecDepth 65536 in
theorem w_c31 : (Jvm.Cond.code ({ cls := "java/lang/AbstractStringBuilder", name := "length", desc := "()I" } : Jvm.MethodName) jdk_68_method_6_code (1 : Nat) (Option.some Jvm.ClassFile.FieldType.int)).before args0 about1 = true := code_word (m := ⟨10, 2⟩) (meth := k10m2) (c := k10c2) (by decide +kernel) rfl rfl rfl (by decide +kernel)
set_option maxRecDepth 65536 in
theorem w_c32 : (Jvm.Cond.code ({ cls := "java/util/Arrays", name := "copyOfRange", desc := "([BII)[B" } : Jvm.MethodName) jdk_65_method_132_code (3 : Nat) (Option.some (Jvm.ClassFile.FieldType.array Jvm.ClassFile.FieldType.byte))).before args0 about1 = true := code_word (m := ⟨14, 3⟩) (meth := k14m3) (c := k14c3) (by decide +kernel) rfl rfl rfl (by decide +kernel)
set_option maxRecDepth 65536 in
theorem w_c33 : (Jvm.Cond.code ({ cls := "java/util/Arrays", name := "copyOfRangeByte", desc := "([BII)[B" } : Jvm.MethodName) jdk_65_method_133_code (5 : Nat) (Option.some (Jvm.ClassFile.FieldType.array Jvm.ClassFile.FieldType.byte))).before args0 about1 = true := code_word (m := ⟨14, 4⟩) (meth := k14m4) (c := k14c4) (by decide +kernel) rfl rfl rfl (by decide +kernel)
set_option maxRecDepth 65536 in
theorem w_c34 : (Jvm.Cond.code ({ cls := "java/util/Arrays", name := "checkLength", desc := "(II)V" } : Jvm.MethodName) jdk_65_method_131_code (2 : Nat) (Option.none : Option Jvm.ClassFile.FieldType)).before args0 about1 = true := code_word (m := ⟨14, 2⟩) (meth := k14m2) (c := k14c2) (by decide +kernel) rfl rfl rfl (by decide +kernel)
set_option maxRecDepth 65536 in
theorem w_c35 : (Jvm.Cond.code ({ cls := "java/lang/StringUTF16", name := "compress", desc := "([CII)[B" } : Jvm.MethodName) jdk_52_method_16_code (6 : Nat) (Option.some (Jvm.ClassFile.FieldType.array Jvm.ClassFile.FieldType.byte))).before args0 about1 = true := code_word (m := ⟨16, 8⟩) (meth := k16m8) (c := k16c8) (by decide +kernel) rfl rfl rfl (by decide +kernel)
set_option maxRecDepth 65536 in
theorem w_c36 : (Jvm.Cond.code ({ cls := "java/lang/StringUTF16", name := "compress", desc := "([CI[BII)I" } : Jvm.MethodName) jdk_52_method_21_code (7 : Nat) (Option.some Jvm.ClassFile.FieldType.int)).before args0 about1 = true := code_word (m := ⟨16, 9⟩) (meth := k16m9) (c := k16c9) (by decide +kernel) rfl rfl rfl (by decide +kernel)
set_option maxRecDepth 65536 in
theorem w_c37 : (Jvm.Cond.code ({ cls := "java/lang/StringUTF16", name := "coderFromArrayLen", desc := "([BI)B" } : Jvm.MethodName) jdk_52_method_15_code (2 : Nat) (Option.some Jvm.ClassFile.FieldType.byte)).before args0 about1 = true := code_word (m := ⟨16, 7⟩) (meth := k16m7) (c := k16c7) (by decide +kernel) rfl rfl rfl (by decide +kernel)
set_option maxRecDepth 65536 in
theorem w_c38 : (Jvm.Cond.code ({ cls := "java/lang/String", name := "equals", desc := "(Ljava/lang/Object;)Z" } : Jvm.MethodName) jdk_42_method_66_code (3 : Nat) (Option.some Jvm.ClassFile.FieldType.boolean)).before args0 about1 = true := code_word (m := ⟨8, 4⟩) (meth := k8m4) (c := k8c4) (by decide +kernel) rfl rfl rfl (by decide +kernel)
set_option maxRecDepth 65536 in
theorem w_c39 : (Jvm.Cond.code ({ cls := "java/lang/StringLatin1", name := "equals", desc := "([B[B)Z" } : Jvm.MethodName) jdk_43_method_13_code (3 : Nat) (Option.some Jvm.ClassFile.FieldType.boolean)).before args0 about1 = true := code_word (m := ⟨17, 1⟩) (meth := k17m1) (c := k17c1) (by decide +kernel) rfl rfl rfl (by decide +kernel)
set_option maxRecDepth 65536 in
theorem w_c40 : (Jvm.Cond.code ({ cls := "java/lang/StringUTF16", name := "toBytes", desc := "([CII)[B" } : Jvm.MethodName) jdk_52_method_14_code (5 : Nat) (Option.some (Jvm.ClassFile.FieldType.array Jvm.ClassFile.FieldType.byte))).before args0 about1 = true := code_word (m := ⟨16, 6⟩) (meth := k16m6) (c := k16c6) (by decide +kernel) rfl rfl rfl (by decide +kernel)
set_option maxRecDepth 65536 in
theorem w_c41 : (Jvm.Cond.code ({ cls := "java/lang/StringUTF16", name := "newBytesFor", desc := "(I)[B" } : Jvm.MethodName) jdk_52_method_2_code (1 : Nat) (Option.some (Jvm.ClassFile.FieldType.array Jvm.ClassFile.FieldType.byte))).before args0 about1 = true := code_word (m := ⟨16, 1⟩) (meth := k16m1) (c := k16c1) (by decide +kernel) rfl rfl rfl (by decide +kernel)
set_option maxRecDepth 65536 in
theorem w_c42 : (Jvm.Cond.code ({ cls := "java/lang/StringUTF16", name := "newBytesLength", desc := "(I)I" } : Jvm.MethodName) jdk_52_method_3_code (1 : Nat) (Option.some Jvm.ClassFile.FieldType.int)).before args0 about1 = true := code_word (m := ⟨16, 2⟩) (meth := k16m2) (c := k16c2) (by decide +kernel) rfl rfl rfl (by decide +kernel)
set_option maxRecDepth 65536 in
theorem w_c43 : (Jvm.Cond.code ({ cls := "java/lang/StringUTF16", name := "putChar", desc := "([BII)V" } : Jvm.MethodName) jdk_52_method_4_code (3 : Nat) (Option.none : Option Jvm.ClassFile.FieldType)).before args0 about1 = true := code_word (m := ⟨16, 3⟩) (meth := k16m3) (c := k16c3) (by decide +kernel) rfl rfl rfl (by decide +kernel)
set_option maxRecDepth 65536 in
theorem w_c44 : (Jvm.Cond.code ({ cls := "java/lang/StringUTF16", name := "getChar", desc := "([BI)C" } : Jvm.MethodName) jdk_52_method_5_code (2 : Nat) (Option.some Jvm.ClassFile.FieldType.char)).before args0 about1 = true := code_word (m := ⟨16, 4⟩) (meth := k16m4) (c := k16c4) (by decide +kernel) rfl rfl rfl (by decide +kernel)
set_option maxRecDepth 65536 in
theorem w_c45 : (Jvm.Cond.code ({ cls := "java/lang/AbstractStringBuilder", name := "inflate", desc := "()V" } : Jvm.MethodName) jdk_68_method_11_code (2 : Nat) (Option.none : Option Jvm.ClassFile.FieldType)).before args0 about1 = true := code_word (m := ⟨10, 5⟩) (meth := k10m5) (c := k10c5) (by decide +kernel) rfl rfl rfl (by decide +kernel)
set_option maxRecDepth 65536 in
theorem w_c46 : (Jvm.Cond.code ({ cls := "java/lang/StringLatin1", name := "inflate", desc := "([BI[BII)V" } : Jvm.MethodName) jdk_43_method_50_code (5 : Nat) (Option.none : Option Jvm.ClassFile.FieldType)).before args0 about1 = true := code_word (m := ⟨17, 2⟩) (meth := k17m2) (c := k17c2) (by decide +kernel) rfl rfl rfl (by decide +kernel)
set_option maxRecDepth 65536 in
theorem w_c47 : (Jvm.Cond.code ({ cls := "java/lang/StringUTF16", name := "inflate", desc := "([BI[BII)V" } : Jvm.MethodName) jdk_52_method_86_code (6 : Nat) (Option.none : Option Jvm.ClassFile.FieldType)).before args0 about1 = true := code_word (m := ⟨16, 12⟩) (meth := k16m12) (c := k16c12) (by decide +kernel) rfl rfl rfl (by decide +kernel)
set_option maxRecDepth 65536 in
theorem w_c48 : (Jvm.Cond.code ({ cls := "java/lang/StringUTF16", name := "checkBoundsOffCount", desc := "(II[B)V" } : Jvm.MethodName) jdk_52_method_94_code (3 : Nat) (Option.none : Option Jvm.ClassFile.FieldType)).before args0 about1 = true := code_word (m := ⟨16, 14⟩) (meth := k16m14) (c := k16c14) (by decide +kernel) rfl rfl rfl (by decide +kernel)
set_option maxRecDepth 65536 in
theorem w_c49 : (Jvm.Cond.code ({ cls := "java/lang/StringUTF16", name := "length", desc := "([B)I" } : Jvm.MethodName) jdk_52_method_6_code (1 : Nat) (Option.some Jvm.ClassFile.FieldType.int)).before args0 about1 = true := code_word (m := ⟨16, 5⟩) (meth := k16m5) (c := k16c5) (by decide +kernel) rfl rfl rfl (by decide +kernel)
set_option maxRecDepth 65536 in
theorem w_c50 : (Jvm.Cond.code ({ cls := "java/lang/String", name := "checkBoundsOffCount", desc := "(III)I" } : Jvm.MethodName) jdk_42_method_157_code (3 : Nat) (Option.some Jvm.ClassFile.FieldType.int)).before args0 about1 = true := code_word (m := ⟨8, 9⟩) (meth := k8m9) (c := k8c9) (by decide +kernel) rfl rfl rfl (by decide +kernel)
set_option maxRecDepth 65536 in
theorem w_c51 : (Jvm.Cond.code ({ cls := "jdk/internal/util/Preconditions", name := "checkFromIndexSize", desc := "(IIILjava/util/function/BiFunction;)I" } : Jvm.MethodName) jdk_41_method_13_code (4 : Nat) (Option.some Jvm.ClassFile.FieldType.int)).before args0 about1 = true := code_word (m := ⟨18, 2⟩) (meth := k18m2) (c := k18c2) (by decide +kernel) rfl rfl rfl (by decide +kernel)
set_option maxRecDepth 65536 in
theorem w_c52 : (Jvm.Cond.code ({ cls := "java/lang/StringUTF16", name := "putCharsAt", desc := "([BICCCCC)I" } : Jvm.MethodName) jdk_52_method_82_code (8 : Nat) (Option.some Jvm.ClassFile.FieldType.int)).before args0 about1 = true := code_word (m := ⟨16, 11⟩) (meth := k16m11) (c := k16c11) (by decide +kernel) rfl rfl rfl (by decide +kernel)
set_option maxRecDepth 65536 in
theorem w_c53 : (Jvm.Cond.code ({ cls := "java/lang/StringUTF16", name := "checkBoundsBeginEnd", desc := "(II[B)V" } : Jvm.MethodName) jdk_52_method_93_code (3 : Nat) (Option.none : Option Jvm.ClassFile.FieldType)).before args0 about1 = true := code_word (m := ⟨16, 13⟩) (meth := k16m13) (c := k16c13) (by decide +kernel) rfl rfl rfl (by decide +kernel)
set_option maxRecDepth 65536 in
theorem w_c54 : (Jvm.Cond.code ({ cls := "java/lang/String", name := "checkBoundsBeginEnd", desc := "(III)V" } : Jvm.MethodName) jdk_42_method_158_code (3 : Nat) (Option.none : Option Jvm.ClassFile.FieldType)).before args0 about1 = true := code_word (m := ⟨8, 10⟩) (meth := k8m10) (c := k8c10) (by decide +kernel) rfl rfl rfl (by decide +kernel)
set_option maxRecDepth 65536 in
theorem w_c55 : (Jvm.Cond.code ({ cls := "jdk/internal/util/Preconditions", name := "checkFromToIndex", desc := "(IIILjava/util/function/BiFunction;)I" } : Jvm.MethodName) jdk_41_method_12_code (4 : Nat) (Option.some Jvm.ClassFile.FieldType.int)).before args0 about1 = true := code_word (m := ⟨18, 1⟩) (meth := k18m1) (c := k18c1) (by decide +kernel) rfl rfl rfl (by decide +kernel)
set_option maxRecDepth 65536 in
theorem w_c56 : (Jvm.Cond.code ({ cls := "java/lang/StringUTF16", name := "putCharsAt", desc := "([BICCCC)I" } : Jvm.MethodName) jdk_52_method_81_code (7 : Nat) (Option.some Jvm.ClassFile.FieldType.int)).before args0 about1 = true := code_word (m := ⟨16, 10⟩) (meth := k16m10) (c := k16c10) (by decide +kernel) rfl rfl rfl (by decide +kernel)
def codes1 : List Jvm.Cond := [Jvm.Cond.code x code maxLocals ret, Jvm.Cond.code ({ cls := "com/example/holdfast/holdfast/RenewalToStringPinLaw", name := "head", desc := "([C)V" } : Jvm.MethodName) method_3_code (1 : Nat) (Option.none : Option Jvm.ClassFile.FieldType), Jvm.Cond.code ({ cls := "com/example/holdfast/holdfast/RenewalToStringPinLaw", name := "tail", desc := "([CIZ)V" } : Jvm.MethodName) method_4_code (3 : Nat) (Option.none : Option Jvm.ClassFile.FieldType), Jvm.Cond.code ({ cls := "java/lang/String", name := "<init>", desc := "([C)V" } : Jvm.MethodName) jdk_42_method_3_code (2 : Nat) (Option.none : Option Jvm.ClassFile.FieldType), Jvm.Cond.code ({ cls := "java/lang/String", name := "<init>", desc := "([CIILjava/lang/Void;)V" } : Jvm.MethodName) jdk_42_method_149_code (6 : Nat) (Option.none : Option Jvm.ClassFile.FieldType), Jvm.Cond.code ({ cls := "java/lang/Object", name := "<init>", desc := "()V" } : Jvm.MethodName) object_method_1_code (1 : Nat) (Option.none : Option Jvm.ClassFile.FieldType), Jvm.Cond.code ({ cls := "com/example/holdfast/holdfast/LockEventListener$Renewal", name := "<init>", desc := "(Ljava/lang/String;Z)V" } : Jvm.MethodName) prog_11_method_1_code (3 : Nat) (Option.none : Option Jvm.ClassFile.FieldType), Jvm.Cond.code ({ cls := "com/example/holdfast/holdfast/LockEventListener$Renewal", name := "toString", desc := "()Ljava/lang/String;" } : Jvm.MethodName) prog_11_method_4_code (1 : Nat) (Option.some (Jvm.ClassFile.FieldType.object "java/lang/String")), Jvm.Cond.code ({ cls := "java/lang/StringBuilder", name := "<init>", desc := "()V" } : Jvm.MethodName) jdk_67_method_1_code (1 : Nat) (Option.none : Option Jvm.ClassFile.FieldType), Jvm.Cond.code ({ cls := "java/lang/AbstractStringBuilder", name := "<init>", desc := "(I)V" } : Jvm.MethodName) jdk_68_method_2_code (2 : Nat) (Option.none : Option Jvm.ClassFile.FieldType), Jvm.Cond.code ({ cls := "java/lang/StringBuilder", name := "append", desc := "(Ljava/lang/String;)Ljava/lang/StringBuilder;" } : Jvm.MethodName) jdk_67_method_7_code (2 : Nat) (Option.some (Jvm.ClassFile.FieldType.object "java/lang/StringBuilder")), Jvm.Cond.code ({ cls := "java/lang/AbstractStringBuilder", name := "append", desc := "(Ljava/lang/String;)Ljava/lang/AbstractStringBuilder;" } : Jvm.MethodName) jdk_68_method_22_code (3 : Nat) (Option.some (Jvm.ClassFile.FieldType.object "java/lang/AbstractStringBuilder")), Jvm.Cond.code ({ cls := "java/lang/String", name := "length", desc := "()I" } : Jvm.MethodName) jdk_42_method_54_code (1 : Nat) (Option.some Jvm.ClassFile.FieldType.int), Jvm.Cond.code ({ cls := "java/lang/String", name := "coder", desc := "()B" } : Jvm.MethodName) jdk_42_method_152_code (1 : Nat) (Option.some Jvm.ClassFile.FieldType.byte), Jvm.Cond.code ({ cls := "java/lang/AbstractStringBuilder", name := "ensureCapacityInternal", desc := "(I)V" } : Jvm.MethodName) jdk_68_method_9_code (3 : Nat) (Option.none : Option Jvm.ClassFile.FieldType), Jvm.Cond.code ({ cls := "java/lang/AbstractStringBuilder", name := "newCapacity", desc := "(I)I" } : Jvm.MethodName) jdk_68_method_10_code (6 : Nat) (Option.some Jvm.ClassFile.FieldType.int), Jvm.Cond.code ({ cls := "jdk/internal/util/ArraysSupport", name := "newLength", desc := "(III)I" } : Jvm.MethodName) jdk_48_method_27_code (4 : Nat) (Option.some Jvm.ClassFile.FieldType.int), Jvm.Cond.code ({ cls := "java/lang/Math", name := "max", desc := "(II)I" } : Jvm.MethodName) jdk_29_method_65_code (2 : Nat) (Option.some Jvm.ClassFile.FieldType.int), Jvm.Cond.code ({ cls := "java/util/Arrays", name := "copyOf", desc := "([BI)[B" } : Jvm.MethodName) jdk_65_method_121_code (3 : Nat) (Option.some (Jvm.ClassFile.FieldType.array Jvm.ClassFile.FieldType.byte)), Jvm.Cond.code ({ cls := "java/lang/Math", name := "min", desc := "(II)I" } : Jvm.MethodName) jdk_29_method_69_code (2 : Nat) (Option.some Jvm.ClassFile.FieldType.int), Jvm.Cond.code ({ cls := "java/lang/AbstractStringBuilder", name := "putStringAt", desc := "(ILjava/lang/String;)V" } : Jvm.MethodName) jdk_68_method_73_code (3 : Nat) (Option.none : Option Jvm.ClassFile.FieldType), Jvm.Cond.code ({ cls := "java/lang/AbstractStringBuilder", name := "inflateIfNeededFor", desc := "(Ljava/lang/String;)V" } : Jvm.MethodName) jdk_68_method_71_code (2 : Nat) (Option.none : Option Jvm.ClassFile.FieldType), Jvm.Cond.code ({ cls := "java/lang/String", name := "getBytes", desc := "([BIB)V" } : Jvm.MethodName) jdk_42_method_147_code (4 : Nat) (Option.none : Option Jvm.ClassFile.FieldType), Jvm.Cond.code ({ cls := "java/lang/StringBuilder", name := "append", desc := "(Z)Ljava/lang/StringBuilder;" } : Jvm.MethodName) jdk_67_method_13_code (2 : Nat) (Option.some (Jvm.ClassFile.FieldType.object "java/lang/StringBuilder")), Jvm.Cond.code ({ cls := "java/lang/AbstractStringBuilder", name := "append", desc := "(Z)Ljava/lang/AbstractStringBuilder;" } : Jvm.MethodName) jdk_68_method_30_code (4 : Nat) (Option.some (Jvm.ClassFile.FieldType.object "java/lang/AbstractStringBuilder")), Jvm.Cond.code ({ cls := "java/lang/AbstractStringBuilder", name := "isLatin1", desc := "()Z" } : Jvm.MethodName) jdk_68_method_68_code (1 : Nat) (Option.some Jvm.ClassFile.FieldType.boolean), Jvm.Cond.code ({ cls := "java/lang/StringBuilder", name := "toString", desc := "()Ljava/lang/String;" } : Jvm.MethodName) jdk_67_method_42_code (1 : Nat) (Option.some (Jvm.ClassFile.FieldType.object "java/lang/String")), Jvm.Cond.code ({ cls := "java/lang/String", name := "<init>", desc := "(Ljava/lang/StringBuilder;)V" } : Jvm.MethodName) jdk_42_method_53_code (2 : Nat) (Option.none : Option Jvm.ClassFile.FieldType), Jvm.Cond.code ({ cls := "java/lang/String", name := "<init>", desc := "(Ljava/lang/AbstractStringBuilder;Ljava/lang/Void;)V" } : Jvm.MethodName) jdk_42_method_150_code (5 : Nat) (Option.none : Option Jvm.ClassFile.FieldType), Jvm.Cond.code ({ cls := "java/lang/AbstractStringBuilder", name := "getValue", desc := "()[B" } : Jvm.MethodName) jdk_68_method_64_code (1 : Nat) (Option.some (Jvm.ClassFile.FieldType.array Jvm.ClassFile.FieldType.byte)), Jvm.Cond.code ({ cls := "java/lang/StringBuilder", name := "length", desc := "()I" } : Jvm.MethodName) jdk_67_method_93_code (1 : Nat) (Option.some Jvm.ClassFile.FieldType.int), Jvm.Cond.code ({ cls := "java/lang/AbstractStringBuilder", name := "length", desc := "()I" } : Jvm.MethodName) jdk_68_method_6_code (1 : Nat) (Option.some Jvm.ClassFile.FieldType.int), Jvm.Cond.code ({ cls := "java/util/Arrays", name := "copyOfRange", desc := "([BII)[B" } : Jvm.MethodName) jdk_65_method_132_code (3 : Nat) (Option.some (Jvm.ClassFile.FieldType.array Jvm.ClassFile.FieldType.byte)), Jvm.Cond.code ({ cls := "java/util/Arrays", name := "copyOfRangeByte", desc := "([BII)[B" } : Jvm.MethodName) jdk_65_method_133_code (5 : Nat) (Option.some (Jvm.ClassFile.FieldType.array Jvm.ClassFile.FieldType.byte)), Jvm.Cond.code ({ cls := "java/util/Arrays", name := "checkLength", desc := "(II)V" } : Jvm.MethodName) jdk_65_method_131_code (2 : Nat) (Option.none : Option Jvm.ClassFile.FieldType), Jvm.Cond.code ({ cls := "java/lang/StringUTF16", name := "compress", desc := "([CII)[B" } : Jvm.MethodName) jdk_52_method_16_code (6 : Nat) (Option.some (Jvm.ClassFile.FieldType.array Jvm.ClassFile.FieldType.byte)), Jvm.Cond.code ({ cls := "java/lang/StringUTF16", name := "compress", desc := "([CI[BII)I" } : Jvm.MethodName) jdk_52_method_21_code (7 : Nat) (Option.some Jvm.ClassFile.FieldType.int), Jvm.Cond.code ({ cls := "java/lang/StringUTF16", name := "coderFromArrayLen", desc := "([BI)B" } : Jvm.MethodName) jdk_52_method_15_code (2 : Nat) (Option.some Jvm.ClassFile.FieldType.byte), Jvm.Cond.code ({ cls := "java/lang/String", name := "equals", desc := "(Ljava/lang/Object;)Z" } : Jvm.MethodName) jdk_42_method_66_code (3 : Nat) (Option.some Jvm.ClassFile.FieldType.boolean), Jvm.Cond.code ({ cls := "java/lang/StringLatin1", name := "equals", desc := "([B[B)Z" } : Jvm.MethodName) jdk_43_method_13_code (3 : Nat) (Option.some Jvm.ClassFile.FieldType.boolean), Jvm.Cond.code ({ cls := "java/lang/StringUTF16", name := "toBytes", desc := "([CII)[B" } : Jvm.MethodName) jdk_52_method_14_code (5 : Nat) (Option.some (Jvm.ClassFile.FieldType.array Jvm.ClassFile.FieldType.byte)), Jvm.Cond.code ({ cls := "java/lang/StringUTF16", name := "newBytesFor", desc := "(I)[B" } : Jvm.MethodName) jdk_52_method_2_code (1 : Nat) (Option.some (Jvm.ClassFile.FieldType.array Jvm.ClassFile.FieldType.byte)), Jvm.Cond.code ({ cls := "java/lang/StringUTF16", name := "newBytesLength", desc := "(I)I" } : Jvm.MethodName) jdk_52_method_3_code (1 : Nat) (Option.some Jvm.ClassFile.FieldType.int), Jvm.Cond.code ({ cls := "java/lang/StringUTF16", name := "putChar", desc := "([BII)V" } : Jvm.MethodName) jdk_52_method_4_code (3 : Nat) (Option.none : Option Jvm.ClassFile.FieldType), Jvm.Cond.code ({ cls := "java/lang/StringUTF16", name := "getChar", desc := "([BI)C" } : Jvm.MethodName) jdk_52_method_5_code (2 : Nat) (Option.some Jvm.ClassFile.FieldType.char), Jvm.Cond.code ({ cls := "java/lang/AbstractStringBuilder", name := "inflate", desc := "()V" } : Jvm.MethodName) jdk_68_method_11_code (2 : Nat) (Option.none : Option Jvm.ClassFile.FieldType), Jvm.Cond.code ({ cls := "java/lang/StringLatin1", name := "inflate", desc := "([BI[BII)V" } : Jvm.MethodName) jdk_43_method_50_code (5 : Nat) (Option.none : Option Jvm.ClassFile.FieldType), Jvm.Cond.code ({ cls := "java/lang/StringUTF16", name := "inflate", desc := "([BI[BII)V" } : Jvm.MethodName) jdk_52_method_86_code (6 : Nat) (Option.none : Option Jvm.ClassFile.FieldType), Jvm.Cond.code ({ cls := "java/lang/StringUTF16", name := "checkBoundsOffCount", desc := "(II[B)V" } : Jvm.MethodName) jdk_52_method_94_code (3 : Nat) (Option.none : Option Jvm.ClassFile.FieldType), Jvm.Cond.code ({ cls := "java/lang/StringUTF16", name := "length", desc := "([B)I" } : Jvm.MethodName) jdk_52_method_6_code (1 : Nat) (Option.some Jvm.ClassFile.FieldType.int), Jvm.Cond.code ({ cls := "java/lang/String", name := "checkBoundsOffCount", desc := "(III)I" } : Jvm.MethodName) jdk_42_method_157_code (3 : Nat) (Option.some Jvm.ClassFile.FieldType.int), Jvm.Cond.code ({ cls := "jdk/internal/util/Preconditions", name := "checkFromIndexSize", desc := "(IIILjava/util/function/BiFunction;)I" } : Jvm.MethodName) jdk_41_method_13_code (4 : Nat) (Option.some Jvm.ClassFile.FieldType.int), Jvm.Cond.code ({ cls := "java/lang/StringUTF16", name := "putCharsAt", desc := "([BICCCCC)I" } : Jvm.MethodName) jdk_52_method_82_code (8 : Nat) (Option.some Jvm.ClassFile.FieldType.int), Jvm.Cond.code ({ cls := "java/lang/StringUTF16", name := "checkBoundsBeginEnd", desc := "(II[B)V" } : Jvm.MethodName) jdk_52_method_93_code (3 : Nat) (Option.none : Option Jvm.ClassFile.FieldType), Jvm.Cond.code ({ cls := "java/lang/String", name := "checkBoundsBeginEnd", desc := "(III)V" } : Jvm.MethodName) jdk_42_method_158_code (3 : Nat) (Option.none : Option Jvm.ClassFile.FieldType), Jvm.Cond.code ({ cls := "jdk/internal/util/Preconditions", name := "checkFromToIndex", desc := "(IIILjava/util/function/BiFunction;)I" } : Jvm.MethodName) jdk_41_method_12_code (4 : Nat) (Option.some Jvm.ClassFile.FieldType.int), Jvm.Cond.code ({ cls := "java/lang/StringUTF16", name := "putCharsAt", desc := "([BICCCC)I" } : Jvm.MethodName) jdk_52_method_81_code (7 : Nat) (Option.some Jvm.ClassFile.FieldType.int)]
set_option maxRecDepth 65536 in
theorem codes_eq : words1.filter isCode = codes1 := rfl
theorem w_codes : ∀ c ∈ words1.filter isCode, c.before args0 about1 = true := by
  rw [codes_eq]
  intro c hc
  simp only [codes1, List.mem_cons, List.not_mem_nil, or_false] at hc
  rcases hc with rfl | rfl | rfl | rfl | rfl | rfl | rfl | rfl | rfl | rfl | rfl | rfl | rfl | rfl | rfl | rfl | rfl | rfl | rfl | rfl | rfl | rfl | rfl | rfl | rfl | rfl | rfl | rfl | rfl | rfl | rfl | rfl | rfl | rfl | rfl | rfl | rfl | rfl | rfl | rfl | rfl | rfl | rfl | rfl | rfl | rfl | rfl | rfl | rfl | rfl | rfl | rfl | rfl | rfl | rfl | rfl | rfl
  · exact w_c0
  · exact w_c1
  · exact w_c2
  · exact w_c3
  · exact w_c4
  · exact w_c5
  · exact w_c6
  · exact w_c7
  · exact w_c8
  · exact w_c9
  · exact w_c10
  · exact w_c11
  · exact w_c12
  · exact w_c13
  · exact w_c14
  · exact w_c15
  · exact w_c16
  · exact w_c17
  · exact w_c18
  · exact w_c19
  · exact w_c20
  · exact w_c21
  · exact w_c22
  · exact w_c23
  · exact w_c24
  · exact w_c25
  · exact w_c26
  · exact w_c27
  · exact w_c28
  · exact w_c29
  · exact w_c30
  · exact w_c31
  · exact w_c32
  · exact w_c33
  · exact w_c34
  · exact w_c35
  · exact w_c36
  · exact w_c37
  · exact w_c38
  · exact w_c39
  · exact w_c40
  · exact w_c41
  · exact w_c42
  · exact w_c43
  · exact w_c44
  · exact w_c45
  · exact w_c46
  · exact w_c47
  · exact w_c48
  · exact w_c49
  · exact w_c50
  · exact w_c51
  · exact w_c52
  · exact w_c53
  · exact w_c54
  · exact w_c55
  · exact w_c56
set_option maxRecDepth 65536 in
theorem w_t1 : (words1.take 24).all (fun c => isCode c || c.before args0 about1) = true := by decide +kernel
set_option maxRecDepth 65536 in
theorem w_t2 : ((words1.drop 24).take 24).all (fun c => isCode c || c.before args0 about1) = true := by decide +kernel
set_option maxRecDepth 65536 in
theorem w_t3 : (((words1.drop 24).drop 24).take 24).all (fun c => isCode c || c.before args0 about1) = true := by decide +kernel
set_option maxRecDepth 65536 in
theorem w_t4 : ((((words1.drop 24).drop 24).drop 24).take 24).all (fun c => isCode c || c.before args0 about1) = true := by decide +kernel
set_option maxRecDepth 65536 in
theorem w_t5 : (((((words1.drop 24).drop 24).drop 24).drop 24).take 24).all (fun c => isCode c || c.before args0 about1) = true := by decide +kernel
set_option maxRecDepth 65536 in
theorem w_t6 : ((((((words1.drop 24).drop 24).drop 24).drop 24).drop 24).take 24).all (fun c => isCode c || c.before args0 about1) = true := by decide +kernel
set_option maxRecDepth 65536 in
theorem w_t7 : (((((((words1.drop 24).drop 24).drop 24).drop 24).drop 24).drop 24).take 24).all (fun c => isCode c || c.before args0 about1) = true := by decide +kernel
set_option maxRecDepth 65536 in
theorem w_t8 : ((((((((words1.drop 24).drop 24).drop 24).drop 24).drop 24).drop 24).drop 24).take 24).all (fun c => isCode c || c.before args0 about1) = true := by decide +kernel
set_option maxRecDepth 65536 in
theorem w_t9 : (((((((((words1.drop 24).drop 24).drop 24).drop 24).drop 24).drop 24).drop 24).drop 24).take 24).all (fun c => isCode c || c.before args0 about1) = true := by decide +kernel
set_option maxRecDepth 65536 in
theorem w_t10 : ((((((((((words1.drop 24).drop 24).drop 24).drop 24).drop 24).drop 24).drop 24).drop 24).drop 24).take 24).all (fun c => isCode c || c.before args0 about1) = true := by decide +kernel
set_option maxRecDepth 65536 in
theorem w_t11 : (((((((((((words1.drop 24).drop 24).drop 24).drop 24).drop 24).drop 24).drop 24).drop 24).drop 24).drop 24).take 24).all (fun c => isCode c || c.before args0 about1) = true := by decide +kernel
set_option maxRecDepth 65536 in
theorem w_t12 : (((((((((((words1.drop 24).drop 24).drop 24).drop 24).drop 24).drop 24).drop 24).drop 24).drop 24).drop 24).drop 24).all (fun c => isCode c || c.before args0 about1) = true := by decide +kernel
theorem w_tables : (allAtoms (Jvm.Cond.code x code maxLocals ret :: tables_1)).before args0 about1 = true := by
  rw [allAtoms_all]
  show words1.all (fun c => c.before args0 about1) = true
  refine all_split ?_ w_codes
  rw [← List.take_append_drop 24 words1, List.all_append, w_t1, ← List.take_append_drop 24 (words1.drop 24), List.all_append, w_t2, ← List.take_append_drop 24 ((words1.drop 24).drop 24), List.all_append, w_t3, ← List.take_append_drop 24 (((words1.drop 24).drop 24).drop 24), List.all_append, w_t4, ← List.take_append_drop 24 ((((words1.drop 24).drop 24).drop 24).drop 24), List.all_append, w_t5, ← List.take_append_drop 24 (((((words1.drop 24).drop 24).drop 24).drop 24).drop 24), List.all_append, w_t6, ← List.take_append_drop 24 ((((((words1.drop 24).drop 24).drop 24).drop 24).drop 24).drop 24), List.all_append, w_t7, ← List.take_append_drop 24 (((((((words1.drop 24).drop 24).drop 24).drop 24).drop 24).drop 24).drop 24), List.all_append, w_t8, ← List.take_append_drop 24 ((((((((words1.drop 24).drop 24).drop 24).drop 24).drop 24).drop 24).drop 24).drop 24), List.all_append, w_t9, ← List.take_append_drop 24 (((((((((words1.drop 24).drop 24).drop 24).drop 24).drop 24).drop 24).drop 24).drop 24).drop 24), List.all_append, w_t10, ← List.take_append_drop 24 ((((((((((words1.drop 24).drop 24).drop 24).drop 24).drop 24).drop 24).drop 24).drop 24).drop 24).drop 24), List.all_append, w_t11, w_t12]
  rfl
set_option maxRecDepth 65536 in
theorem w_rest : rest_1_c.before args0 about1 = true := by decide +kernel
set_option maxRecDepth 65536 in
theorem w_case : (Jvm.Cond.and given_1 narrow_1).before args0 about1 = true := by decide +kernel
set_option maxRecDepth 65536 in
theorem w_consts : constsHeld consts_1 about1 := Jvm.Lit.constsHeldB_iff.mp (by decide +kernel)
theorem w_applies : (headSpec (Jvm.Cond.code x code maxLocals ret :: tables_1) room_1).applies x e0.platform about1 = true :=
  (Spec.applies_iff w_frames).mpr ⟨w_running, w_runnable, w_alone, w_named, w_hears, w_ripe, w_room, w_tables⟩
theorem atStart : AtStart classFile x code maxLocals ret World_1 tables_1 room_1 Calls_1 rest_1 Pre_1 launch0 p0 e0 about1 theMethod args0 below0 :=
  ⟨lists_1, trivial, launch0.admits_env _ _ _, launch0.least_env, fairChoices_fair.cas, fairChoices_fair.clock, w_frames, w_args, w_heap, w_applies, ⟨w_consts, trivial⟩, w_rest, w_case⟩
end start1
theorem witness_1 : WitnessClaimed_1 := ⟨start1.p0, start1.e0, start1.about1, start1.theMethod, start1.args0, start1.below0, start1.atStart⟩
end Jvm.Pilot.@@N@@
