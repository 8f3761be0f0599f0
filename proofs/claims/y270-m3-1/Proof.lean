import JvmDerived
import JvmDerived.Pilot.@@N@@Statement
import JvmDerived.Pilot.@@N@@Code
set_option linter.unusedVariables false
set_option linter.unusedSimpArgs false
namespace Jvm.RoadKit
open Sem ClassFile Op Lib Jvm.Stand Jvm.Free Jvm.LawKit
section New
variable {p : Program} {l : Launch} {e : Env} {R : Room} {s : State} {m : MethodId} {args : Array Value} {below : List Frame} {meth : Method} {c : Code} {T : State} {locs : List Loc} {cells slots : Nat}
theorem own_retI (X : Stand p l e R s m args below meth c T locs cells slots) (hx : p.tables.exec = Jvm.exec) {pc : Nat} {Ls : Array Slot} {z : Int32} {rest : List Value} (hret : meth.sig.returnType = some .int) (hd : decode c.code pc = .ok (.ireturn, 1)) {fs : List Frame}
    (hl : ∀ (f : JFrame) (acts : List Action), f.method = m → f.locked = none → f.entered = [] → (doReturn e (T.setTop f) acts (some (.int z))).1 = T.setFrames fs) : Steps p.tables e below (T.setTop (mkF m pc Ls (.int z :: rest))) (T.setFrames fs) :=
  retOut X hx hret rfl (Or.inl ⟨rfl, Or.inl rfl, z, rfl⟩) hd hl
theorem own_retJ (X : Stand p l e R s m args below meth c T locs cells slots) (hx : p.tables.exec = Jvm.exec) {pc : Nat} {Ls : Array Slot} {z : Int64} {rest : List Value} (hret : meth.sig.returnType = some .long) (hd : decode c.code pc = .ok (.lreturn, 1)) {fs : List Frame}
    (hl : ∀ (f : JFrame) (acts : List Action), f.method = m → f.locked = none → f.entered = [] → (doReturn e (T.setTop f) acts (some (.long z))).1 = T.setFrames fs) : Steps p.tables e below (T.setTop (mkF m pc Ls (.long z :: rest))) (T.setFrames fs) :=
  retOut X hx hret rfl (Or.inr (Or.inl ⟨rfl, rfl, z, rfl⟩)) hd hl
end New
/-- the rest of a walk: from here the run comes to an end with Q -/
def oF (p : Program) (e : Env) (below : List Frame) (A : State) (Q : Outcome → State → Prop) : Prop :=
  ∃ t o, Steps p.tables e below A t ∧ t.status = .running ∧ Ended t below o ∧ Q o t
theorem oG {p : Program} {e : Env} {below : List Frame} {A B : State} {Q : Outcome → State → Prop} (st : ∀ t, Steps p.tables e below A t → Steps p.tables e below B t) (k : oF p e below A Q) : oF p e below B Q := by
  obtain ⟨t, o, h, r⟩ := k; exact ⟨t, o, st t h, r⟩
theorem own_start {p : Program} {e : Env} {below : List Frame} {T : State} {g g' : JFrame} {Q : Outcome → State → Prop} (q : g = g') (k : oF p e below (T.setTop g') Q) :
    ∃ t o, Steps p.tables e below (T.setTop g) t ∧ t.status = .running ∧ Ended t below o ∧ Q o t := by subst q; exact k
theorem own_cat {v : Value} (h : v.isRef = true) : v.category = 1 := by cases v <;> simp [Value.isRef] at h <;> rfl
theorem own_st1 {l l' : Array Slot} {i : Nat} {v : Value} (hold : (match l[i]? with | some .unset => true | some (.val w) => w.category == 1 | _ => false) = true) (hv : v.isRef = true) (e : l.setIfInBounds i (.val v) = l') : storeLocals l i v = some l' := by
  subst e
  cases h : l[i]? with
  | none => simp [h] at hold
  | some o =>
    refine Jvm.Free.XS.store1 h ?_ (own_cat hv)
    cases o with
    | unset => exact Or.inl rfl
    | second => simp [h] at hold
    | val w => simp [h] at hold; exact Or.inr ⟨w, rfl, hold⟩
theorem own_st2 {l l' : Array Slot} {i : Nat} {v : Value} {o : Slot} (hold : l[i]? = some o) (ho : One o) (hv : v.category = 1) (e : l.setIfInBounds i (.val v) = l') : storeLocals l i v = some l' := by
  subst e; exact Jvm.Free.XS.store1 hold ho hv
theorem own_fitR {v : Value} {C : String} (h : v.isRef = true) : fits (.object C) v = true := by cases v <;> simp [Value.isRef, fits] at h ⊢
theorem own_osz {Z : State} {n0 : Nat} {h : Heap} (O : Old Z n0 h) : n0 ≤ h.size := O.1 ▸ O.2.1
def own_bi (P : Prop) [Decidable P] : Int32 := if P then 1 else 0
theorem own_bi1 {P : Prop} [Decidable P] (h : P) : own_bi P = 1 := if_pos h
theorem own_bi0 {P : Prop} [Decidable P] (h : ¬ P) : own_bi P = 0 := if_neg h
theorem own_bz {P : Prop} [Decidable P] (h : ¬ P) : own_bi P = 0 := if_neg h
theorem own_bn {P : Prop} [Decidable P] (h : P) : ¬ own_bi P = 0 := by rw [own_bi1 h]; decide
theorem own_narb {P : Prop} [Decidable P] : nar .boolean (own_bi P) = own_bi P := by unfold own_bi; split <;> decide
theorem own_narbi (P : Prop) [Decidable P] : narrow .boolean (.int (own_bi P)) = .int (own_bi P) := by unfold own_bi; split <;> rfl
theorem own_fitbi (P : Prop) [Decidable P] : fits .boolean (.int (own_bi P)) = true := by unfold own_bi; split <;> rfl
theorem own_e1 {P : Prop} [Decidable P] (h : P) : ¬ own_bi P = 0 := by rw [own_bi1 h]; decide
theorem own_e0 {P : Prop} [Decidable P] (h : ¬ P) : ¬ own_bi P = 1 := by rw [own_bi0 h]; decide
theorem own_retB {p : Program} {l : Launch} {e : Env} {R : Room} {s : State} {m : MethodId} {args : Array Value} {below : List Frame} {meth : Method} {c : Code} {T : State} {locs : List Loc} {cells slots : Nat} (X : Stand p l e R s m args below meth c T locs cells slots) (hx : p.tables.exec = Jvm.exec) {pc : Nat} {Ls : Array Slot} {P : Prop} [Decidable P] {rest : List Value} (hret : meth.sig.returnType = some .boolean) (hd : decode c.code pc = .ok (.ireturn, 1)) {fs : List Frame}
    (hl : ∀ (f : JFrame) (acts : List Action), f.method = m → f.locked = none → f.entered = [] → (doReturn e (T.setTop f) acts (some (.int (own_bi P)))).1 = T.setFrames fs) : Steps p.tables e below (T.setTop (mkF m pc Ls (.int (own_bi P) :: rest))) (T.setFrames fs) :=
  retN X hx (t := .boolean) hret (by simp) hd (by rw [own_narb]; exact hl)
theorem own_eqv {args : Array Value} {f s : State} {o : Option Outcome} {idx : List Nat} {a b : Term} {v : Value} (h : (Cond.eq a b).value args f o s idx = some true) (hb : b.eval args f o idx s = some v) (hk : (match v with | .int _ => true | .long _ => true | .ref _ => true | .null => true | _ => false) = true) : a.eval args f o idx s = some v := by
  obtain ⟨x, y, h1, h2, h3, h4⟩ := cmp_v (Or.inl h)
  rw [hb] at h2; cases h2
  rw [h1]
  cases x <;> cases v <;> simp [Kin, Value.isRef] at h3 h4 hk <;> simp [Cond.value, h1, hb] at h ⊢ <;> exact h
theorem own_eqBi {v : Option Value} {P : Prop} [Decidable P] (h : (v = some (.int 1) ∧ P) ∨ (v = some (.int 0) ∧ ¬ P)) : v = some (.int (own_bi P)) := by
  rcases h with ⟨h, q⟩ | ⟨h, q⟩
  · rw [h, own_bi1 q]
  · rw [h, own_bi0 q]
theorem own_up {cs : List Int32} (h : ∀ c ∈ cs, ¬ c < 0 ∧ ¬ (255 : Int32) < c) : ∀ c ∈ cs, ¬ c < 0 ∧ ¬ (65535 : Int32) < c := fun c hc => ⟨(h c hc).1, fun q => (h c hc).2 (by
  rw [Int32.lt_iff_toInt_lt] at q ⊢
  have e1 : (65535 : Int32).toInt = 65535 := by decide
  have e2 : (255 : Int32).toInt = 255 := by decide
  omega)⟩
theorem own_narid {a : Int32} (h : ¬ a < 0 ∧ ¬ (255 : Int32) < a) : nar .char a = a := by
  have e0 : (0 : Int32).toInt = 0 := by decide
  have e2 : (255 : Int32).toInt = 255 := by decide
  obtain ⟨h1, h2⟩ := h
  rw [Int32.lt_iff_toInt_lt] at h1 h2
  have q := c_i2c a
  rw [← Int32.toInt_inj]
  show a.toUInt32.toUInt16.toUInt32.toInt32.toInt = a.toInt
  omega
theorem own_nez {args : Array Value} {f s : State} {o : Option Outcome} {idx : List Nat} {t : Term} {z : Int32} (ev : t.eval args f o idx s = some (.int z)) (h : (Cond.not (Cond.eq t (Term.int 0))).value args f o s idx = some true) : ¬ z = 0 := by
  intro q; subst q; have h' := not_v h; simp [Cond.value, ev, Term.eval] at h'
theorem own_notOf {Z : State} {a0 : Array Value} {C O K : String} {n : Nat} (w : (Cond.superclass C O).before a0 Z = true) (w0 : (Cond.noSuperclass O).before a0 Z = true) (wi : (Cond.instantiable K n).before a0 Z = true) (hn : C ≠ K) (ho : O ≠ K) : ∃ c t, Z.vm.findClass C = some c ∧ Z.vm.findClass K = some t ∧ Z.vm.assignable c t = false := by
  obtain ⟨t, kt, g0, g2, g5, g7, -⟩ := Cond.instantiable_spec wi
  obtain ⟨c, h0⟩ := found_sup w
  obtain ⟨p, k, kp, h1, h2, h3, h4, h5, -, h7⟩ := Cond.superclass_spec h0 w
  obtain ⟨c', k', j1, j2, j3, -, -⟩ := Cond.noSuperclass_spec w0
  cases j1.symm.trans h1
  have ne := ids_ne h0 g0 hn
  have neo := ids_ne h1 g0 ho
  have g7' : kt.isInterface = false := by cases h : kt.isInterface <;> simp [h] at g7 ⊢
  have hs : ∀ fuel, Z.vm.isSubclassAux fuel c t = false := by
    intro fuel
    cases fuel with
    | zero => rfl
    | succ f =>
      cases f with
      | zero => simp [Vm.isSubclassAux, ne, h2, h4]
      | succ f => simp [Vm.isSubclassAux, ne, h2, h4, neo, j2, j3]
  refine ⟨c, t, h0, g0, ?_⟩
  show Z.vm.assignableAux (255 + 1) c t = false
  simp [Vm.assignableAux, ne, h2, g2, h5, g5, g7', Vm.isSubclass, hs]
theorem own_selS {args : Array Value} {s : State} {y w z : MethodName} {C : String} (h : (Cond.selects C w z).before args s = true) (e : z.cls = y.cls) (hpriv : s.PrivateAt y) (hinst : (Cond.instanceMethod y).before args s = true) (hy : y.cls ≠ "java/lang/invoke/MethodHandle" ∧ y.cls ≠ "java/lang/invoke/VarHandle") : (Cond.selects y.cls y y).before args s = true := by
  obtain ⟨c2, r2, m2, q1, q2, q3, q4, kP, hkP, hkPi⟩ := Cond.selects_spec h
  exact selects_self_of_private (c := m2.cls) (by rw [← e]; exact findClass_of_methodNamed q3) hkP hkPi hpriv hinst hy
theorem own_same {args : Array Value} {s : State} {y w z : MethodName} {C : String} (hinst : (Cond.instanceMethod y).before args s = true) (h : (Cond.selects C w z).before args s = true) (e : z.cls = y.cls) (hy : y.cls ≠ "java/lang/invoke/MethodHandle" ∧ y.cls ≠ "java/lang/invoke/VarHandle") : (Cond.sameMethod y.cls y.cls y.name y.desc).before args s = true := by
  obtain ⟨c2, r2, m2, q1, q2, q3, q4, kP, hkP, hkPi⟩ := Cond.selects_spec h
  obtain ⟨mk, methM, hnamed, hmethM, -, -⟩ := Cond.instanceMethod_spec hinst
  have hf : s.methodFound? y.cls y.name y.desc = some mk := State.methodFound?_of_named hnamed hy
  have hc : s.vm.findClass y.cls = some m2.cls := by rw [← e]; exact findClass_of_methodNamed q3
  have hn : s.methodNamed? ⟨y.cls, y.name, y.desc⟩ = some mk := hnamed
  simp [Cond.before, Cond.holds, Cond.value, hc, hf, hn, hkP, hkPi]
theorem own_eqE {T h : Heap} {a : Addr} {c : Cell} (e : T = h) (q : h[a]? = some c) : T[a]? = some c := by rw [e]; exact q
theorem own_nf {args : Array Value} {s : State} {y w z : MethodName} {C : String} (h : (Cond.selects C w z).before args s = true) (e : z.cls = y.cls) : NotFace s y := fun r0 h0 => by
  obtain ⟨c2, r2, m2, q1, q2, q3, q4, kP, hkP, hkPi⟩ := Cond.selects_spec h
  have a := findClass_of_methodNamed q3
  have b := findClass_of_methodNamed h0
  rw [e] at a
  have hc : m2.cls = r0.cls := Option.some.inj (a.symm.trans b)
  exact ⟨kP, by rw [← hc]; exact hkP, hkPi⟩
theorem own_selI {args : Array Value} {s : State} {y : MethodName} {n : Nat} (h : (Cond.instantiable y.cls n).before args s = true) (hpriv : s.PrivateAt y) (hinst : (Cond.instanceMethod y).before args s = true) (hy : y.cls ≠ "java/lang/invoke/MethodHandle" ∧ y.cls ≠ "java/lang/invoke/VarHandle") : (Cond.selects y.cls y y).before args s = true := by
  obtain ⟨c, k, h1, h2, h3, h4, -⟩ := Cond.instantiable_spec h
  exact selects_self_of_private h1 h2 (by cases hq : k.isInterface <;> simp [hq] at h4 ⊢) hpriv hinst hy
theorem own_selP {args : Array Value} {s : State} {y : MethodName} {S : String} (h : (Cond.superclass y.cls S).before args s = true) (hpriv : s.PrivateAt y) (hinst : (Cond.instanceMethod y).before args s = true) (hy : y.cls ≠ "java/lang/invoke/MethodHandle" ∧ y.cls ≠ "java/lang/invoke/VarHandle") : (Cond.selects y.cls y y).before args s = true := by
  obtain ⟨c, hc⟩ := found_sup h
  obtain ⟨p, k, kp, h1, h2, h3, h4, h5, h6, h7⟩ := Cond.superclass_spec hc h
  exact selects_self_of_private hc h2 h7 hpriv hinst hy
end Jvm.RoadKit
namespace Jvm.Pilot.@@N@@
open Jvm Jvm.ClassFile Sem Op Lib Jvm.Free Jvm.Stand Jvm.LawKit Jvm.RoadKit Bundle Jvm.Pilot.@@N@@.Jvm.D
theorem oL {n0 : Nat} {L L' : List Loc} (h : L = L') (q : Fr n0 L') : Fr n0 L := h ▸ q
set_option maxRecDepth 65536
set_option maxHeartbeats 40000000
abbrev mN0 : MethodName := ⟨"java/lang/StringUTF16", "length", "([B)I"⟩
abbrev mN1 : MethodName := ⟨"java/lang/StringUTF16", "putChar", "([BII)V"⟩
abbrev mN2 : MethodName := ⟨"jdk/internal/util/Preconditions", "checkIndex", "(IILjava/util/function/BiFunction;)I"⟩
abbrev mN3 : MethodName := ⟨"java/lang/String", "checkIndex", "(II)V"⟩
abbrev mN4 : MethodName := ⟨"java/lang/StringUTF16", "checkIndex", "(I[B)V"⟩
abbrev mN5 : MethodName := ⟨"java/lang/StringUTF16", "putCharSB", "([BII)V"⟩
abbrev mN6 : MethodName := ⟨"jdk/internal/util/Preconditions", "checkFromIndexSize", "(IIILjava/util/function/BiFunction;)I"⟩
abbrev mN7 : MethodName := ⟨"java/lang/String", "checkBoundsOffCount", "(III)I"⟩
abbrev mN8 : MethodName := ⟨"jdk/internal/util/Preconditions", "checkFromToIndex", "(IIILjava/util/function/BiFunction;)I"⟩
abbrev mN9 : MethodName := ⟨"java/lang/String", "checkBoundsBeginEnd", "(III)V"⟩
abbrev mN10 : MethodName := ⟨"java/lang/StringUTF16", "checkBoundsOffCount", "(II[B)V"⟩
abbrev mN11 : MethodName := ⟨"java/lang/StringUTF16", "inflate", "([BI[BII)V"⟩
abbrev mN12 : MethodName := ⟨"java/lang/StringLatin1", "inflate", "([BI[BII)V"⟩
abbrev mN13 : MethodName := ⟨"java/lang/StringUTF16", "newBytesLength", "(I)I"⟩
abbrev mN14 : MethodName := ⟨"java/lang/StringUTF16", "newBytesFor", "(I)[B"⟩
abbrev mN15 : MethodName := ⟨"java/lang/AbstractStringBuilder", "isLatin1", "()Z"⟩
abbrev mN16 : MethodName := ⟨"java/lang/AbstractStringBuilder", "inflate", "()V"⟩
abbrev mN17 : MethodName := ⟨"java/lang/AbstractStringBuilder", "ensureCapacityInternal", "(I)V"⟩
abbrev mN18 : MethodName := ⟨"java/lang/StringLatin1", "canEncode", "(C)Z"⟩
abbrev mN19 : MethodName := ⟨"java/lang/AbstractStringBuilder", "append", "(C)Ljava/lang/AbstractStringBuilder;"⟩
abbrev mN20 : MethodName := ⟨"java/lang/StringUTF16", "putChars", "([BI[CII)V"⟩
abbrev mN21 : MethodName := ⟨"java/lang/StringUTF16", "checkBoundsBeginEnd", "(II[B)V"⟩
abbrev mN22 : MethodName := ⟨"java/lang/StringUTF16", "putCharsSB", "([BI[CII)V"⟩
abbrev mN23 : MethodName := ⟨"java/lang/AbstractStringBuilder", "appendChars", "([CII)V"⟩
abbrev mN24 : MethodName := ⟨"java/lang/AbstractStringBuilder", "append", "([C)Ljava/lang/AbstractStringBuilder;"⟩
abbrev mN25 : MethodName := ⟨"java/lang/StringBuilder", "append", "(C)Ljava/lang/StringBuilder;"⟩
abbrev mN26 : MethodName := ⟨"java/lang/StringBuilder", "append", "(C)Ljava/lang/AbstractStringBuilder;"⟩
abbrev mN27 : MethodName := ⟨"java/lang/StringBuilder", "append", "([C)Ljava/lang/StringBuilder;"⟩
abbrev mN28 : MethodName := ⟨"java/lang/StringBuilder", "append", "([C)Ljava/lang/AbstractStringBuilder;"⟩
abbrev mN29 : MethodName := ⟨"java/lang/Character", "isBmpCodePoint", "(I)Z"⟩
abbrev mN30 : MethodName := ⟨"java/lang/Character", "isValidCodePoint", "(I)Z"⟩
abbrev mN31 : MethodName := ⟨"java/lang/Character", "lowSurrogate", "(I)C"⟩
abbrev mN32 : MethodName := ⟨"java/lang/Character", "highSurrogate", "(I)C"⟩
abbrev mN33 : MethodName := ⟨"java/lang/Character", "toSurrogates", "(I[CI)V"⟩
abbrev mN34 : MethodName := ⟨"java/lang/Character", "toChars", "(I)[C"⟩
abbrev mN35 : MethodName := ⟨"java/lang/AbstractStringBuilder", "appendCodePoint", "(I)Ljava/lang/AbstractStringBuilder;"⟩
abbrev mN36 : MethodName := ⟨"java/lang/StringBuilder", "appendCodePoint", "(I)Ljava/lang/StringBuilder;"⟩
abbrev mN37 : MethodName := ⟨"java/lang/AbstractStringBuilder", "<init>", "(I)V"⟩
abbrev mN38 : MethodName := ⟨"java/lang/StringBuilder", "<init>", "(I)V"⟩
abbrev mN39 : MethodName := ⟨"java/lang/AbstractStringBuilder", "getValue", "()[B"⟩
abbrev mN40 : MethodName := ⟨"java/lang/AbstractStringBuilder", "length", "()I"⟩
abbrev mN41 : MethodName := ⟨"java/lang/StringBuilder", "length", "()I"⟩
abbrev mN42 : MethodName := ⟨"java/lang/Math", "min", "(II)I"⟩
abbrev mN43 : MethodName := ⟨"java/util/Arrays", "checkLength", "(II)V"⟩
abbrev mN44 : MethodName := ⟨"java/util/Arrays", "copyOfRangeByte", "([BII)[B"⟩
abbrev mN45 : MethodName := ⟨"java/util/Arrays", "copyOfRange", "([BII)[B"⟩
abbrev mN46 : MethodName := ⟨"java/lang/String", "<init>", "(Ljava/lang/AbstractStringBuilder;Ljava/lang/Void;)V"⟩
abbrev mN47 : MethodName := ⟨"java/lang/String", "<init>", "(Ljava/lang/StringBuilder;)V"⟩
abbrev mN48 : MethodName := ⟨"java/lang/StringBuilder", "toString", "()Ljava/lang/String;"⟩
abbrev mN49 : MethodName := ⟨"java/lang/String", "coder", "()B"⟩
abbrev mN50 : MethodName := ⟨"java/lang/String", "isLatin1", "()Z"⟩
abbrev mN51 : MethodName := ⟨"java/lang/String", "length", "()I"⟩
abbrev mN52 : MethodName := ⟨"java/lang/StringLatin1", "charAt", "([BI)C"⟩
abbrev mN53 : MethodName := ⟨"java/lang/StringUTF16", "getChar", "([BI)C"⟩
abbrev mN54 : MethodName := ⟨"java/lang/StringUTF16", "charAt", "([BI)C"⟩
abbrev mN55 : MethodName := ⟨"java/lang/String", "charAt", "(I)C"⟩
abbrev mN56 : MethodName := ⟨"com/example/espalier/espalier/EntriesIdPinLaw", "hasUnits", "(Ljava/lang/String;II)Z"⟩
abbrev mN57 : MethodName := ⟨"com/example/espalier/espalier/EntriesIdPinLaw", "utf8Length", "(I)I"⟩
abbrev mN58 : MethodName := ⟨"com/example/espalier/espalier/EntriesIdPinLaw", "utf16Length", "(I)I"⟩
abbrev mN59 : MethodName := ⟨"com/example/espalier/espalier/EntriesIdPinLaw", "put", "([BII)V"⟩
abbrev mN60 : MethodName := ⟨"com/example/espalier/espalier/Entries", "id", "([B)Ljava/lang/String;"⟩
abbrev rM0 : Room := { frames := 0, cells := 0, slots := 0, locals := 0 }
abbrev rM1 : Room := { frames := 1, cells := 0, slots := 0, locals := 14 }
abbrev rM2 : Room := { frames := 2, cells := 0, slots := 0, locals := 27 }
abbrev rM3 : Room := { frames := 3, cells := 0, slots := 0, locals := 40 }
abbrev rM4 : Room := { frames := 1, cells := 0, slots := 0, locals := 15 }
abbrev rM5 : Room := { frames := 2, cells := 0, slots := 0, locals := 29 }
abbrev rM6 : Room := { frames := 3, cells := 0, slots := 0, locals := 43 }
abbrev rM7 : Room := { frames := 4, cells := 0, slots := 0, locals := 60 }
abbrev rM8 : Room := { frames := 1, cells := 1, slots := 16, locals := 12 }
abbrev rM9 : Room := { frames := 5, cells := 1, slots := 16, locals := 76 }
abbrev rM10 : Room := { frames := 6, cells := 1, slots := 16, locals := 89 }
abbrev rM11 : Room := { frames := 4, cells := 0, slots := 0, locals := 54 }
abbrev rM12 : Room := { frames := 7, cells := 1, slots := 16, locals := 109 }
abbrev rM13 : Room := { frames := 4, cells := 0, slots := 0, locals := 59 }
abbrev rM14 : Room := { frames := 5, cells := 0, slots := 0, locals := 79 }
abbrev rM15 : Room := { frames := 7, cells := 1, slots := 16, locals := 102 }
abbrev rM16 : Room := { frames := 8, cells := 1, slots := 16, locals := 115 }
abbrev rM17 : Room := { frames := 8, cells := 1, slots := 16, locals := 123 }
abbrev rM18 : Room := { frames := 9, cells := 1, slots := 16, locals := 136 }
abbrev rM19 : Room := { frames := 2, cells := 1, slots := 2, locals := 28 }
abbrev rM20 : Room := { frames := 10, cells := 2, slots := 18, locals := 149 }
abbrev rM21 : Room := { frames := 11, cells := 2, slots := 18, locals := 162 }
abbrev rM22 : Room := { frames := 1, cells := 1, slots := 8, locals := 12 }
abbrev rM23 : Room := { frames := 2, cells := 1, slots := 8, locals := 25 }
abbrev rM24 : Room := { frames := 1, cells := 0, slots := 0, locals := 12 }
abbrev rM25 : Room := { frames := 1, cells := 1, slots := 9, locals := 18 }
abbrev rM26 : Room := { frames := 2, cells := 1, slots := 9, locals := 34 }
abbrev rM27 : Room := { frames := 1, cells := 1, slots := 9, locals := 14 }
abbrev rM28 : Room := { frames := 3, cells := 1, slots := 9, locals := 49 }
abbrev rM29 : Room := { frames := 4, cells := 1, slots := 9, locals := 65 }
abbrev rM30 : Room := { frames := 5, cells := 2, slots := 13, locals := 79 }
abbrev rM31 : Room := { frames := 1, cells := 0, slots := 0, locals := 13 }
abbrev rM32 : Room := { frames := 4, cells := 0, slots := 0, locals := 53 }
abbrev rM33 : Room := { frames := 5, cells := 0, slots := 0, locals := 66 }
abbrev rM34 : Room := { frames := 12, cells := 8, slots := 61, locals := 175 }
abbrev fL0 (Z : State) (h : Heap) (a : Addr) (v : Value) : Prop := Fld Z h a "java/lang/AbstractStringBuilder" "coder" "B" v
abbrev fL1 (Z : State) (h : Heap) (a : Addr) (v : Value) : Prop := Fld Z h a "java/lang/AbstractStringBuilder" "value" "[B" v
abbrev fL2 (Z : State) (h : Heap) (a : Addr) (v : Value) : Prop := Fld Z h a "java/lang/AbstractStringBuilder" "count" "I" v
abbrev fL3 (Z : State) (h : Heap) (a : Addr) (v : Value) : Prop := Fld Z h a "java/lang/AbstractStringBuilder" "maybeLatin1" "Z" v
abbrev fL4 (Z : State) (h : Heap) (a : Addr) (v : Value) : Prop := Fld Z h a "java/lang/String" "value" "[B" v
abbrev fL5 (Z : State) (h : Heap) (a : Addr) (v : Value) : Prop := Fld Z h a "java/lang/String" "coder" "B" v
abbrev sT0 (Z : State) (v : Value) : Prop := Sta Z Z.heap "java/lang/StringUTF16" "$assertionsDisabled" "Z" v
abbrev sT1 (Z : State) (v : Value) : Prop := Sta Z Z.heap "java/lang/StringUTF16" "HI_BYTE_SHIFT" "I" v
abbrev sT2 (Z : State) (v : Value) : Prop := Sta Z Z.heap "java/lang/StringUTF16" "LO_BYTE_SHIFT" "I" v
abbrev sT3 (Z : State) (v : Value) : Prop := Sta Z Z.heap "jdk/internal/util/Preconditions" "SIOOBE_FORMATTER" "Ljava/util/function/BiFunction;" v
abbrev sT4 (Z : State) (v : Value) : Prop := Sta Z Z.heap "java/lang/String" "COMPACT_STRINGS" "Z" v
abbrev eX0 (Z : State) (h : Heap) (a : Addr) : Prop := Exa Z h a "[B"
abbrev eX1 (Z : State) (h : Heap) (a : Addr) : Prop := Exa Z h a "java/lang/StringBuilder"
abbrev eX2 (Z : State) (h : Heap) (a : Addr) : Prop := Exa Z h a "java/lang/String"
abbrev k0_ := jdk_52_method_6_code
abbrev k1_ := jdk_52_method_4_code
abbrev k2_ := jdk_41_method_11_code
abbrev k3_ := jdk_42_method_155_code
abbrev k4_ := jdk_52_method_91_code
abbrev k5_ := jdk_52_method_71_code
abbrev k6_ := jdk_41_method_13_code
abbrev k7_ := jdk_42_method_157_code
abbrev k8_ := jdk_41_method_12_code
abbrev k9_ := jdk_42_method_158_code
abbrev k10_ := jdk_52_method_94_code
abbrev k11_ := jdk_52_method_86_code
abbrev k12_ := jdk_43_method_50_code
abbrev k13_ := jdk_52_method_3_code
abbrev k14_ := jdk_52_method_2_code
abbrev k15_ := jdk_68_method_68_code
abbrev k16_ := jdk_68_method_11_code
abbrev k17_ := jdk_68_method_9_code
abbrev k18_ := jdk_43_method_3_code
abbrev k19_ := jdk_68_method_31_code
abbrev k20_ := jdk_52_method_68_code
abbrev k21_ := jdk_52_method_93_code
abbrev k22_ := jdk_52_method_72_code
abbrev k23_ := jdk_68_method_74_code
abbrev k24_ := jdk_68_method_28_code
abbrev k25_ := jdk_67_method_14_code
abbrev k26_ := jdk_67_method_73_code
abbrev k27_ := jdk_67_method_11_code
abbrev k28_ := jdk_67_method_76_code
abbrev k29_ := jdk_89_method_12_code
abbrev k30_ := jdk_89_method_11_code
abbrev k31_ := jdk_89_method_29_code
abbrev k32_ := jdk_89_method_28_code
abbrev k33_ := jdk_89_method_32_code
abbrev k34_ := jdk_89_method_31_code
abbrev k35_ := jdk_68_method_37_code
abbrev k36_ := jdk_67_method_19_code
abbrev k37_ := jdk_68_method_2_code
abbrev k38_ := jdk_67_method_2_code
abbrev k39_ := jdk_68_method_64_code
abbrev k40_ := jdk_68_method_6_code
abbrev k41_ := jdk_67_method_93_code
abbrev k42_ := jdk_29_method_69_code
abbrev k43_ := jdk_65_method_131_code
abbrev k44_ := jdk_65_method_133_code
abbrev k45_ := jdk_65_method_132_code
abbrev k46_ := jdk_42_method_150_code
abbrev k47_ := jdk_42_method_53_code
abbrev k48_ := jdk_67_method_42_code
abbrev k49_ := jdk_42_method_152_code
abbrev k50_ := jdk_42_method_154_code
abbrev k51_ := jdk_42_method_54_code
abbrev k52_ := jdk_43_method_2_code
abbrev k53_ := jdk_52_method_5_code
abbrev k54_ := jdk_52_method_83_code
abbrev k55_ := jdk_42_method_56_code
abbrev k56_ := method_6_code
abbrev k57_ := method_3_code
abbrev k58_ := method_4_code
abbrev k59_ := method_5_code
abbrev k60_ := prog_6_method_6_code
abbrev own_MF (l : Launch) (Z : State) (y : MethodName) (code : ByteArray) (n : Nat) (ret : Option ClassFile.FieldType) (ws : List Jvm.Cond) (R : Room) (A : Array Value) (h0 : Heap) (Q : Option Value → Heap → List Loc → Prop) : Prop := MetFree l y (head1 (Jvm.Cond.code y code n ret :: ws) R) (fun a' U' => a' = A ∧ Z.Warmed39 U'.vm ∧ U'.heap = h0) (fun _ _ _ _ _ => True) (fun _ U' o' W' => ∃ v' L', o' = .returned v' ∧ Q v' W'.heap L' ∧ FrameEnd U' o' W' L' R.cells R.slots)
abbrev own_QE (s : State) (R : Room) (Q : Option Value → Heap → List Loc → Prop) : Outcome → State → Prop := fun o' t' => ∃ v' L', o' = .returned v' ∧ Q v' t'.heap L' ∧ FrameEnd s o' t' L' R.cells R.slots
theorem ow {Z : State} {a0 : Array Value} (hw : ∀ d ∈ tables_1, d.before a0 Z = true) (i : Nat) {d : Jvm.Cond} (h : tables_1[i]? = some d := by rfl) : d.before a0 Z = true := hw d (List.mem_of_getElem? h)
theorem mo {Z s : State} {a0 args : Array Value} {d : Jvm.Cond} (hZ : Z.Warmed39 s.vm) (hw : ∀ d ∈ tables_1, d.before a0 Z = true) (i : Nat) (h : tables_1[i]? = some d := by rfl) (hd : (d.onTables && d.keepsFace) = true := by first | rfl | simp [Cond.onTables, Cond.keepsFace, Cond.keeps, Cond.steady]) : d.before args s = true := mvT hZ (ow hw i h) hd
def own_lo (c : Int32) : Int32 := nar .byte ((c >>> ((0 : Int32) &&& 31)).toInt8.toInt32)
def own_hi (c : Int32) : Int32 := nar .byte ((c >>> ((8 : Int32) &&& 31)).toInt8.toInt32)
def own_by (c : Int32) : Int32 := nar .byte (c.toInt8.toInt32)
abbrev own_x2 (N : Int32) : Int32 := N <<< ((1 : Int32) &&& 31)
theorem own_x2i {N : Int32} (h0 : 0 ≤ N.toInt) (h8 : N.toInt ≤ 8) : (own_x2 N).toInt = 2 * N.toInt := by
 have h := c_ishl N 1 1 (by decide)
 have r := rng32 (own_x2 N)
 show (N <<< ((1 : Int32) &&& 31)).toInt = _
 have r' := rng32 (N <<< ((1 : Int32) &&& 31))
 omega
theorem own_hf {M : Int32} : (M >>> ((1 : Int32) &&& 31)).toInt = M.toInt / 2 := by
 have h := c_ishr M 1 1 (by decide)
 omega
theorem own_nn {N : Int32} (h : 0 ≤ N.toInt) : ¬ (N < 0) := by
 have e : (0 : Int32).toInt = 0 := by decide
 rw [Int32.lt_iff_toInt_lt]; omega
theorem own_cn {N : Int32} (h : 0 ≤ N.toInt) : (N.toNatClampNeg : Int) = N.toInt := by
 have := nat_of (own_nn h); omega
theorem own_k0 : (0 : Int32).toInt = 0 := by decide
theorem own_k1 : (1 : Int32).toInt = 1 := by decide
theorem own_k2 : (2 : Int32).toInt = 2 := by decide
theorem own_k3 : (3 : Int32).toInt = 3 := by decide
theorem own_k4 : (4 : Int32).toInt = 4 := by decide
theorem own_k5 : (5 : Int32).toInt = 5 := by decide
theorem own_k6 : (6 : Int32).toInt = 6 := by decide
theorem own_k7 : (7 : Int32).toInt = 7 := by decide
theorem own_k8 : (8 : Int32).toInt = 8 := by decide
theorem d50_0 : decode k0_ 0 = .ok (.aload_n 0, 1) := by decide +kernel
theorem d50_1 : decode k0_ 1 = .ok (.arraylength, 1) := by decide +kernel
theorem d50_2 : decode k0_ 2 = .ok (.iconst 1, 1) := by decide +kernel
theorem d50_3 : decode k0_ 3 = .ok (.ishr, 1) := by decide +kernel
theorem d50_4 : decode k0_ 4 = .ok (.ireturn, 1) := by decide +kernel
theorem pn_0 : plainName "java/lang/StringUTF16" = true := by first | (simp [plainName, overriddenIn]; done) | decide +kernel
theorem ef_ul (m : MethodId) (x0 : Addr) : entryFrame m #[(.ref x0)] 1 = mkF m 0 #[.val (.ref x0)] [] := by first | (simp [entryFrame, mkF, argsToLocals, Value.category]; done) | rfl
def Qul (Z : State) (M : Int32) (h0 : Heap) (n0 : Nat) (v : Option Value) (h : Heap) (L : List Loc) : Prop := v = some (.int (M >>> ((1 : Int32) &&& 31))) ∧ Fr n0 L ∧ h = h0
theorem ul (l : Launch) (Z : State) (a0 : Array Value) (hw : ∀ d ∈ tables_1, d.before a0 Z = true) (ws : List Jvm.Cond) (t : Addr) (kt : ClassId) (M : Int32) (vs : List Value) (h0 : Heap) (n0 : Nat) (O : Old Z n0 h0) (V_t : Arv Z h0 t kt .byte M vs (.int 0)) :
   own_MF l Z mN0 jdk_52_method_6_code 1 (some .int) ws rM0 #[(.ref t)] h0 (Qul Z M h0 n0) := by
 refine MetFree.of_bodySF (plainFor_of_name pn_0) hisR ?_
 intro p e s m args below meth c s₁ Bd hml0 hP hK
 obtain ⟨rfl, hZ, hh⟩ := hP
 have hx := Bd.exec
 have hby := Bd.bytes
 have B := @hb _ _ hby
 have hml : c.maxLocals = 1 := hml0
 have hown : s.vm.findClass "java/lang/StringUTF16" = some m.cls := findClass_of_methodNamed Bd.named
 have X0 : Stand p l e rM0 s m #[(.ref t)] below meth c s₁ [] 0 0 := Stand.of_body Bd
 have e0 : s₁.heap = h0 := by rw [← hh, Bd.state]; rfl
 have N0 := Fr.nil n0
 refine own_start (ef_ul m t) (Q := own_QE s rM0 (Qul Z M h0 n0)) ?_
 show oF p e below (s₁.setTop (mkF m 0 #[.val (.ref t)] [])) _
 refine oG (fun _ k => XS.aloadN X0.here hx rfl (B d50_0) rfl rfl k) ?_
 show oF p e below (s₁.setTop (mkF m 1 #[.val (.ref t)] [(.ref t)])) _
 obtain ⟨cl1, A1, -, S1, M1, -, -⟩ := id V_t
 refine oG (fun _ k => X0.arraylength hx (own_eqE e0 A1.1) (State.isArrayOf_alike hZ.alike A1.2.1) (g := (mkF m 1 #[.val (.ref t)] [(.ref t)])) rfl rfl (B d50_1) _ (by rw [len_of S1 M1]; exact k)) ?_
 show oF p e below (s₁.setTop (mkF m 2 #[.val (.ref t)] [(.int M)])) _
 refine oG (fun _ k => XS.iconst X0.here hx rfl (B d50_2) (XS.ishr X0.here hx rfl (B d50_3) rfl k)) ?_
 show oF p e below (s₁.setTop (mkF m 4 #[.val (.ref t)] [(.int (M >>> ((1 : Int32) &&& 31)))])) _
 obtain ⟨fs, hr, r1, r2, hW, r3⟩ := X0.leave (v := some (.int (M >>> ((1 : Int32) &&& 31)))) (fun h => by rw [Bd.returns] at h; cases h)
 refine ⟨_, _, ?_, r1, r2, _, _, rfl, ?_, ⟨_, rfl⟩, hW, r3.mono (by decide) (by decide)⟩
 ·exact own_retI X0 hx Bd.returns (B d50_4) hr
 ·show Qul Z M h0 n0 _ s₁.heap _
  rw [e0]
  exact ⟨rfl, N0, rfl⟩
theorem own_inj {j M : Int32} {n : Nat} (h : j.toInt = (n : Int)) (hl : (n : Int) < M.toInt) : ¬ j < 0 ∧ j < M :=
 ⟨own_nn (by omega), by rw [Int32.lt_iff_toInt_lt]; omega⟩
theorem own_set1 {vs : List Value} {y x : Value} {i : Int32} (h : i.toInt = vs.length) : List.set (vs ++ [y]) i.toNatClampNeg x = vs ++ [x] := by
 have e : i.toNatClampNeg = vs.length := by have := own_cn (N := i) (by omega); omega
 rw [e, List.set_append_right _ _ (Nat.le_refl _), Nat.sub_self]; rfl
theorem own_snl (vs : List Value) (x : Value) (i : Int32) (h : i.toInt = vs.length) : i.toNatClampNeg < (vs ++ [x]).length := by
 have e : i.toNatClampNeg = vs.length := by have := own_cn (N := i) (by omega); omega
 rw [e, List.length_append]; simp
theorem own_pi0 {i M : Int32} {vs : List Value} (hn : (vs.length : Int) = 2 * i.toInt) (hM : (vs.length : Int) + 2 ≤ M.toInt) (h16 : M.toInt ≤ 16) : (i <<< ((1 : Int32) &&& 31)).toInt = (vs.length : Int) := by
 have h := c_ishl i 1 1 (by decide)
 have r := rng32 (i <<< ((1 : Int32) &&& 31))
 omega
theorem own_pi1 {i M : Int32} {vs : List Value} (hn : (vs.length : Int) = 2 * i.toInt) (hM : (vs.length : Int) + 2 ≤ M.toInt) (h16 : M.toInt ≤ 16) : ((i <<< ((1 : Int32) &&& 31)) + (1 : Int32)).toInt = (vs.length : Int) + 1 := by
 have h := own_pi0 hn hM h16
 have b := c_iadd (i <<< ((1 : Int32) &&& 31)) 1
 have r := rng32 ((i <<< ((1 : Int32) &&& 31)) + 1)
 have d : (1 : Int32).toInt = 1 := by decide
 omega
theorem own_pq0 {i : Int32} {vs : List Value} (hn : (vs.length : Int) = 2 * i.toInt) : ¬ (i < (0 : Int32)) := own_nn (by omega)
theorem own_pq1 {i M : Int32} {vs : List Value} (hn : (vs.length : Int) = 2 * i.toInt) (hM : (vs.length : Int) + 2 ≤ M.toInt) : i < (M >>> ((1 : Int32) &&& 31)) := by
 rw [Int32.lt_iff_toInt_lt, own_hf]; omega
theorem own_pj2 {i M : Int32} {vs : List Value} (hn : (vs.length : Int) = 2 * i.toInt) (hM : (vs.length : Int) + 4 ≤ M.toInt) (h16 : M.toInt ≤ 16) : ((i + (2 : Int32)) - (0 : Int32)).toInt = i.toInt + 2 := by
 rw [Int32.sub_zero]
 have b := c_iadd i 2
 have r := rng32 (i + 2)
 have d : (2 : Int32).toInt = 2 := by decide
 omega
theorem own_pq2 {i M : Int32} {vs : List Value} (hn : (vs.length : Int) = 2 * i.toInt) (hM : (vs.length : Int) + 4 ≤ M.toInt) (h16 : M.toInt ≤ 16) : ¬ (((i + (2 : Int32)) - (0 : Int32)) < i) := by
 rw [Int32.lt_iff_toInt_lt, own_pj2 hn hM h16]; omega
theorem own_pq3 {i M : Int32} {vs : List Value} (hn : (vs.length : Int) = 2 * i.toInt) (hM : (vs.length : Int) + 4 ≤ M.toInt) (h16 : M.toInt ≤ 16) : ¬ ((M >>> ((1 : Int32) &&& 31)) < ((i + (2 : Int32)) - (0 : Int32))) := by
 rw [Int32.lt_iff_toInt_lt, own_pj2 hn hM h16, own_hf]; omega
theorem own_pn {i M : Int32} {vs : List Value} (x y : Value) (hn : (vs.length : Int) = 2 * i.toInt) (hM : (vs.length : Int) + 4 ≤ M.toInt) (h16 : M.toInt ≤ 16) : ((vs ++ [x, y]).length : Int) = 2 * (i + (1 : Int32)).toInt := by
 have b := c_iadd i 1
 have r := rng32 (i + 1)
 have d : (1 : Int32).toInt = 1 := by decide
 simp only [List.length_append, List.length_cons, List.length_nil]; omega
theorem d58_0 : decode k1_ 0 = .ok (.getstatic 44, 3) := by decide +kernel
theorem d58_3 : decode k1_ 3 = .ok (.ifCond .ne 25, 3) := by decide +kernel
theorem d58_28 : decode k1_ 28 = .ok (.iload_n 1, 1) := by decide +kernel
theorem d58_29 : decode k1_ 29 = .ok (.iconst 1, 1) := by decide +kernel
theorem d58_30 : decode k1_ 30 = .ok (.ishl, 1) := by decide +kernel
theorem d58_31 : decode k1_ 31 = .ok (.istore_n 1, 1) := by decide +kernel
theorem d58_32 : decode k1_ 32 = .ok (.aload_n 0, 1) := by decide +kernel
theorem d58_33 : decode k1_ 33 = .ok (.iload_n 1, 1) := by decide +kernel
theorem d58_34 : decode k1_ 34 = .ok (.iinc 1 1, 3) := by decide +kernel
theorem d58_37 : decode k1_ 37 = .ok (.iload_n 2, 1) := by decide +kernel
theorem d58_38 : decode k1_ 38 = .ok (.getstatic 59, 3) := by decide +kernel
theorem d58_41 : decode k1_ 41 = .ok (.ishr, 1) := by decide +kernel
theorem d58_42 : decode k1_ 42 = .ok (.i2b, 1) := by decide +kernel
theorem d58_43 : decode k1_ 43 = .ok (.bastore, 1) := by decide +kernel
theorem d58_44 : decode k1_ 44 = .ok (.aload_n 0, 1) := by decide +kernel
theorem d58_45 : decode k1_ 45 = .ok (.iload_n 1, 1) := by decide +kernel
theorem d58_46 : decode k1_ 46 = .ok (.iload_n 2, 1) := by decide +kernel
theorem d58_47 : decode k1_ 47 = .ok (.getstatic 63, 3) := by decide +kernel
theorem d58_50 : decode k1_ 50 = .ok (.ishr, 1) := by decide +kernel
theorem d58_51 : decode k1_ 51 = .ok (.i2b, 1) := by decide +kernel
theorem d58_52 : decode k1_ 52 = .ok (.bastore, 1) := by decide +kernel
theorem d58_53 : decode k1_ 53 = .ok (.return_, 1) := by decide +kernel
theorem ef_pt (m : MethodId) (x0 : Addr) (x1 : Int32) (x2 : Int32) : entryFrame m #[(.ref x0), (.int x1), (.int x2)] 3 = mkF m 0 #[.val (.ref x0), .val (.int x1), .val (.int x2)] [] := by first | (simp [entryFrame, mkF, argsToLocals, Value.category]; done) | rfl
def Qpt (Z : State) (t : Addr) (c_ : Int32) (kt : ClassId) (M : Int32) (vs : List Value) (h0 : Heap) (n0 : Nat) (v : Option Value) (h : Heap) (L : List Loc) : Prop := v = none ∧ Fr n0 L ∧ Keep h0 h [t] ∧ Arv Z h t kt .byte M (vs ++ [(.int (own_lo c_)), (.int (own_hi c_))]) (.int 0)
theorem pt (l : Launch) (Z : State) (a0 : Array Value) (hw : ∀ d ∈ tables_1, d.before a0 Z = true) (ws : List Jvm.Cond) (t : Addr) (i : Int32) (c_ : Int32) (kt : ClassId) (M : Int32) (vs : List Value) (h0 : Heap) (n0 : Nat) (O : Old Z n0 h0) (j6_ : sT0 Z (.int 1)) (j7_ : sT1 Z (.int 0)) (j8_ : sT2 Z (.int 8)) (V_t : Arv Z h0 t kt .byte M vs (.int 0)) (g_t : n0 ≤ t) (hn : (vs.length : Int) = 2 * i.toInt) (hM : (vs.length : Int) + 2 ≤ M.toInt) (h16 : M.toInt ≤ 16) :
   own_MF l Z mN1 jdk_52_method_4_code 3 none ws rM0 #[(.ref t), (.int i), (.int c_)] h0 (Qpt Z t c_ kt M vs h0 n0) := by
 refine MetFree.of_bodySF (plainFor_of_name pn_0) hisR ?_
 intro p e s m args below meth c s₁ Bd hml0 hP hK
 obtain ⟨rfl, hZ, hh⟩ := hP
 have hx := Bd.exec
 have hby := Bd.bytes
 have B := @hb _ _ hby
 have hml : c.maxLocals = 3 := hml0
 have hown : s.vm.findClass "java/lang/StringUTF16" = some m.cls := findClass_of_methodNamed Bd.named
 have X0 : Stand p l e rM0 s m #[(.ref t), (.int i), (.int c_)] below meth c s₁ [] 0 0 := Stand.of_body Bd
 have e0 : s₁.heap = h0 := by rw [← hh, Bd.state]; rfl
 have N0 := Fr.nil n0
 have K0 := Keep.refl h0 [t]
 refine own_start (ef_pt m t i c_) (Q := own_QE s rM0 (Qpt Z t c_ kt M vs h0 n0)) ?_
 show oF p e below (s₁.setTop (mkF m 0 #[.val (.ref t), .val (.int i), .val (.int c_)] [])) _
 obtain ⟨T3, X3, e3, st3⟩ := getS2 X0 hx hZ hown (host := "") (Or.inl (ow hw 264)) Via.refl e0 (j6_.ext O.2) (g := (mkF m 0 #[.val (.ref t), .val (.int i), .val (.int c_)] [])) rfl (B d58_0)
 refine oG st3 ?_
 show oF p e below (T3.setTop (mkF m 3 #[.val (.ref t), .val (.int i), .val (.int c_)] [(.int 1)])) _
 refine oG (fun _ k => XS.ifYes X3.here hx rfl (pc0 := 3) (pc' := 28) rfl (B d58_3) rfl ((if0 _ _).trans (feq (by decide : ¬ ((1 : Int32) = (0 : Int32)))).2) (by decide) (by decide) (XS.iloadN X3.here hx rfl (B d58_28) rfl (XS.iconst X3.here hx rfl (B d58_29) (XS.ishl X3.here hx rfl (B d58_30) rfl (XS.istoreN X3.here hx rfl (B d58_31) rfl (l' := #[.val (.ref t), .val (.int (i <<< ((1 : Int32) &&& 31))), .val (.int c_)]) rfl (XS.aloadN X3.here hx rfl (B d58_32) rfl rfl (XS.iloadN X3.here hx rfl (B d58_33) rfl (XS.iinc X3.here hx rfl (B d58_34) rfl (l' := #[.val (.ref t), .val (.int ((i <<< ((1 : Int32) &&& 31)) + (1 : Int32))), .val (.int c_)]) rfl (XS.iloadN X3.here hx rfl (B d58_37) rfl k))))))))) ?_
 show oF p e below (T3.setTop (mkF m 38 #[.val (.ref t), .val (.int ((i <<< ((1 : Int32) &&& 31)) + (1 : Int32))), .val (.int c_)] [(.int c_), (.int (i <<< ((1 : Int32) &&& 31))), (.ref t)])) _
 obtain ⟨T4, X4, e4, st4⟩ := getS2 X3 hx hZ hown (host := "") (Or.inl (ow hw 265)) Via.refl e3 (j7_.ext O.2) (g := (mkF m 38 #[.val (.ref t), .val (.int ((i <<< ((1 : Int32) &&& 31)) + (1 : Int32))), .val (.int c_)] [(.int c_), (.int (i <<< ((1 : Int32) &&& 31))), (.ref t)])) rfl (B d58_38)
 refine oG st4 ?_
 show oF p e below (T4.setTop (mkF m 41 #[.val (.ref t), .val (.int ((i <<< ((1 : Int32) &&& 31)) + (1 : Int32))), .val (.int c_)] [(.int 0), (.int c_), (.int (i <<< ((1 : Int32) &&& 31))), (.ref t)])) _
 refine oG (fun _ k => XS.ishr X4.here hx rfl (B d58_41) rfl (XS.i2b X4.here hx rfl (B d58_42) rfl k)) ?_
 show oF p e below (T4.setTop (mkF m 43 #[.val (.ref t), .val (.int ((i <<< ((1 : Int32) &&& 31)) + (1 : Int32))), .val (.int c_)] [(.int ((c_ >>> ((0 : Int32) &&& 31)).toInt8.toInt32)), (.int (i <<< ((1 : Int32) &&& 31))), (.ref t)])) _
 have hj0 : (i <<< ((1 : Int32) &&& 31)).toInt = (vs.length : Int) := own_pi0 hn hM h16
 have V_t : Arv Z h0 t kt .byte M (vs ++ [(.int 0)]) (.int 0) := V_t.pad (pad_rep vs (.int 0) 1)
 show oF p e below (T4.setTop (mkF m 43 #[.val (.ref t), .val (.int ((i <<< ((1 : Int32) &&& 31)) + (1 : Int32))), .val (.int c_)] [(.int ((c_ >>> ((0 : Int32) &&& 31)).toInt8.toInt32)), (.int (i <<< ((1 : Int32) &&& 31))), (.ref t)])) _
 obtain ⟨cl5, A5, q5, S5, M5, H5, G5⟩ := id V_t
 have hin5 : ¬ ((i <<< ((1 : Int32) &&& 31)) < 0 ∨ cl5.slots.size ≤ ((i <<< ((1 : Int32) &&& 31))).toNatClampNeg) := inb_of S5 (own_inj hj0 (by omega))
 obtain ⟨T5, h5, X5, e5, W5, st5⟩ := stB X4 hx hZ e4 A5 (j := (i <<< ((1 : Int32) &&& 31))) hin5 (g := (mkF m 43 #[.val (.ref t), .val (.int ((i <<< ((1 : Int32) &&& 31)) + (1 : Int32))), .val (.int c_)] [(.int ((c_ >>> ((0 : Int32) &&& 31)).toInt8.toInt32)), (.int (i <<< ((1 : Int32) &&& 31))), (.ref t)])) rfl rfl (B d58_43)
 refine oG st5 ?_
 have O := O.wr W5 g_t
 have K6 := K0.wr W5 (Or.inl (List.mem_of_getElem? (i := 0) rfl))
 have V_t : Arv Z h5 t kt .byte M (vs ++ [(.int (nar .byte ((c_ >>> ((0 : Int32) &&& 31)).toInt8.toInt32)))]) (.int 0) := by have q_ := Arv.set A5 q5 S5 M5 H5 G5 (fits_nar_byte _) W5 _ rfl (own_snl vs (.int 0) (i <<< ((1 : Int32) &&& 31)) hj0); rw [own_set1 hj0] at q_; exact q_
 have N5 := Fr.snoc X5 N0 g_t
 show oF p e below (T5.setTop (mkF m 44 #[.val (.ref t), .val (.int ((i <<< ((1 : Int32) &&& 31)) + (1 : Int32))), .val (.int c_)] [])) _
 refine oG (fun _ k => XS.aloadN X5.here hx rfl (B d58_44) rfl rfl (XS.iloadN X5.here hx rfl (B d58_45) rfl (XS.iloadN X5.here hx rfl (B d58_46) rfl k))) ?_
 show oF p e below (T5.setTop (mkF m 47 #[.val (.ref t), .val (.int ((i <<< ((1 : Int32) &&& 31)) + (1 : Int32))), .val (.int c_)] [(.int c_), (.int ((i <<< ((1 : Int32) &&& 31)) + (1 : Int32))), (.ref t)])) _
 obtain ⟨T7, X7, e7, st7⟩ := getS2 X5 hx hZ hown (host := "") (Or.inl (ow hw 266)) Via.refl e5 (j8_.ext O.2) (g := (mkF m 47 #[.val (.ref t), .val (.int ((i <<< ((1 : Int32) &&& 31)) + (1 : Int32))), .val (.int c_)] [(.int c_), (.int ((i <<< ((1 : Int32) &&& 31)) + (1 : Int32))), (.ref t)])) rfl (B d58_47)
 refine oG st7 ?_
 show oF p e below (T7.setTop (mkF m 50 #[.val (.ref t), .val (.int ((i <<< ((1 : Int32) &&& 31)) + (1 : Int32))), .val (.int c_)] [(.int 8), (.int c_), (.int ((i <<< ((1 : Int32) &&& 31)) + (1 : Int32))), (.ref t)])) _
 refine oG (fun _ k => XS.ishr X7.here hx rfl (B d58_50) rfl (XS.i2b X7.here hx rfl (B d58_51) rfl k)) ?_
 show oF p e below (T7.setTop (mkF m 52 #[.val (.ref t), .val (.int ((i <<< ((1 : Int32) &&& 31)) + (1 : Int32))), .val (.int c_)] [(.int ((c_ >>> ((8 : Int32) &&& 31)).toInt8.toInt32)), (.int ((i <<< ((1 : Int32) &&& 31)) + (1 : Int32))), (.ref t)])) _
 have hj1 : ((i <<< ((1 : Int32) &&& 31)) + (1 : Int32)).toInt = (((vs ++ [(.int (nar .byte ((c_ >>> ((0 : Int32) &&& 31)).toInt8.toInt32)))]) : List Value).length : Int) := by have q_ := own_pi1 hn hM h16; simp only [List.length_append, List.length_cons, List.length_nil]; omega
 have V_t : Arv Z h5 t kt .byte M ((vs ++ [(.int (nar .byte ((c_ >>> ((0 : Int32) &&& 31)).toInt8.toInt32)))]) ++ [(.int 0)]) (.int 0) := V_t.pad (pad_rep (vs ++ [(.int (nar .byte ((c_ >>> ((0 : Int32) &&& 31)).toInt8.toInt32)))]) (.int 0) 1)
 show oF p e below (T7.setTop (mkF m 52 #[.val (.ref t), .val (.int ((i <<< ((1 : Int32) &&& 31)) + (1 : Int32))), .val (.int c_)] [(.int ((c_ >>> ((8 : Int32) &&& 31)).toInt8.toInt32)), (.int ((i <<< ((1 : Int32) &&& 31)) + (1 : Int32))), (.ref t)])) _
 obtain ⟨cl8, A8, q8, S8, M8, H8, G8⟩ := id V_t
 have hin8 : ¬ (((i <<< ((1 : Int32) &&& 31)) + (1 : Int32)) < 0 ∨ cl8.slots.size ≤ (((i <<< ((1 : Int32) &&& 31)) + (1 : Int32))).toNatClampNeg) := inb_of S8 (own_inj hj1 (by simp only [List.length_append, List.length_cons, List.length_nil]; omega))
 obtain ⟨T8, h8, X8, e8, W8, st8⟩ := stB X7 hx hZ e7 A8 (j := ((i <<< ((1 : Int32) &&& 31)) + (1 : Int32))) hin8 (g := (mkF m 52 #[.val (.ref t), .val (.int ((i <<< ((1 : Int32) &&& 31)) + (1 : Int32))), .val (.int c_)] [(.int ((c_ >>> ((8 : Int32) &&& 31)).toInt8.toInt32)), (.int ((i <<< ((1 : Int32) &&& 31)) + (1 : Int32))), (.ref t)])) rfl rfl (B d58_52)
 refine oG st8 ?_
 have O := O.wr W8 g_t
 have K9 := K6.wr W8 (Or.inl (List.mem_of_getElem? (i := 0) rfl))
 have V_t : Arv Z h8 t kt .byte M ((vs ++ [(.int (nar .byte ((c_ >>> ((0 : Int32) &&& 31)).toInt8.toInt32)))]) ++ [(.int (nar .byte ((c_ >>> ((8 : Int32) &&& 31)).toInt8.toInt32)))]) (.int 0) := by have q_ := Arv.set A8 q8 S8 M8 H8 G8 (fits_nar_byte _) W8 _ rfl (own_snl (vs ++ [(.int (nar .byte ((c_ >>> ((0 : Int32) &&& 31)).toInt8.toInt32)))]) (.int 0) ((i <<< ((1 : Int32) &&& 31)) + (1 : Int32)) hj1); rw [own_set1 hj1] at q_; exact q_
 have N8 := Fr.snoc X8 N5 g_t
 show oF p e below (T8.setTop (mkF m 53 #[.val (.ref t), .val (.int ((i <<< ((1 : Int32) &&& 31)) + (1 : Int32))), .val (.int c_)] [])) _
 obtain ⟨fs, hr, r1, r2, hW, r3⟩ := X8.leave (v := none) (fun _ => rfl)
 refine ⟨_, _, ?_, r1, r2, _, _, rfl, ?_, ⟨_, rfl⟩, hW, r3.mono (by decide) (by decide)⟩
 ·exact X8.returnOut hx Bd.returns (B d58_53) hr
 ·show Qpt Z t c_ kt M vs h0 n0 _ T8.heap _
  rw [e8]
  exact ⟨rfl, N8, K9, (by rw [List.append_assoc] at V_t; exact V_t)⟩
theorem d31_0 : decode k2_ 0 = .ok (.iload_n 0, 1) := by decide +kernel
theorem d31_1 : decode k2_ 1 = .ok (.ifCond .lt 8, 3) := by decide +kernel
theorem d31_4 : decode k2_ 4 = .ok (.iload_n 0, 1) := by decide +kernel
theorem d31_5 : decode k2_ 5 = .ok (.iload_n 1, 1) := by decide +kernel
theorem d31_6 : decode k2_ 6 = .ok (.if_icmp .lt 10, 3) := by decide +kernel
theorem d31_16 : decode k2_ 16 = .ok (.iload_n 0, 1) := by decide +kernel
theorem d31_17 : decode k2_ 17 = .ok (.ireturn, 1) := by decide +kernel
theorem pn_1 : plainName "jdk/internal/util/Preconditions" = true := by first | (simp [plainName, overriddenIn]; done) | decide +kernel
theorem ef_pci (m : MethodId) (x0 : Int32) (x1 : Int32) (x2 : Value) (hr2 : x2.isRef = true) : entryFrame m #[(.int x0), (.int x1), x2] 3 = mkF m 0 #[.val (.int x0), .val (.int x1), .val x2] [] := by (cases x2 <;> first | (cases hr2; done) | (simp [Value.isRef] at hr2; done) | skip); all_goals first | (simp [entryFrame, mkF, argsToLocals, Value.category]; done) | rfl
def Qpci (Z : State) (i : Int32) (h0 : Heap) (n0 : Nat) (v : Option Value) (h : Heap) (L : List Loc) : Prop := v = some (.int i) ∧ Fr n0 L ∧ h = h0
theorem pci (l : Launch) (Z : State) (a0 : Array Value) (hw : ∀ d ∈ tables_1, d.before a0 Z = true) (ws : List Jvm.Cond) (i : Int32) (N : Int32) (fm : Value) (h0 : Heap) (n0 : Nat) (hfm : fm.isRef = true) (hi0 : ¬ (i < (0 : Int32))) (hi1 : i < N) :
   own_MF l Z mN2 jdk_41_method_11_code 3 (some .int) ws rM0 #[(.int i), (.int N), fm] h0 (Qpci Z i h0 n0) := by
 refine MetFree.of_bodySF (plainFor_of_name pn_1) hisR ?_
 intro p e s m args below meth c s₁ Bd hml0 hP hK
 obtain ⟨rfl, hZ, hh⟩ := hP
 have hx := Bd.exec
 have hby := Bd.bytes
 have B := @hb _ _ hby
 have hml : c.maxLocals = 3 := hml0
 have hown : s.vm.findClass "jdk/internal/util/Preconditions" = some m.cls := findClass_of_methodNamed Bd.named
 have X0 : Stand p l e rM0 s m #[(.int i), (.int N), fm] below meth c s₁ [] 0 0 := Stand.of_body Bd
 have e0 : s₁.heap = h0 := by rw [← hh, Bd.state]; rfl
 have N0 := Fr.nil n0
 refine own_start (ef_pci m i N fm hfm) (Q := own_QE s rM0 (Qpci Z i h0 n0)) ?_
 show oF p e below (s₁.setTop (mkF m 0 #[.val (.int i), .val (.int N), .val fm] [])) _
 refine oG (fun _ k => XS.iloadN X0.here hx rfl (B d31_0) rfl (XS.ifNo X0.here hx rfl (B d31_1) rfl ((if0 _ _).trans (flt hi0).1) (XS.iloadN X0.here hx rfl (B d31_4) rfl (XS.iloadN X0.here hx rfl (B d31_5) rfl (XS.icmpYes X0.here hx rfl (pc0 := 6) (pc' := 16) rfl (B d31_6) rfl (tlt hi1).1 (by decide) (by decide) (XS.iloadN X0.here hx rfl (B d31_16) rfl k)))))) ?_
 show oF p e below (s₁.setTop (mkF m 17 #[.val (.int i), .val (.int N), .val fm] [(.int i)])) _
 obtain ⟨fs, hr, r1, r2, hW, r3⟩ := X0.leave (v := some (.int i)) (fun h => by rw [Bd.returns] at h; cases h)
 refine ⟨_, _, ?_, r1, r2, _, _, rfl, ?_, ⟨_, rfl⟩, hW, r3.mono (by decide) (by decide)⟩
 ·exact own_retI X0 hx Bd.returns (B d31_17) hr
 ·show Qpci Z i h0 n0 _ s₁.heap _
  rw [e0]
  exact ⟨rfl, N0, rfl⟩
theorem d30_0 : decode k3_ 0 = .ok (.iload_n 0, 1) := by decide +kernel
theorem d30_1 : decode k3_ 1 = .ok (.iload_n 1, 1) := by decide +kernel
theorem d30_2 : decode k3_ 2 = .ok (.getstatic 1053, 3) := by decide +kernel
theorem d30_5 : decode k3_ 5 = .ok (.invokestatic 1059, 3) := by decide +kernel
theorem pd_0 : parseMethodDescriptor "(IILjava/util/function/BiFunction;)I" = some ⟨[.int, .int, (.object "java/util/function/BiFunction")], some .int⟩ := by decide +kernel
theorem d30_8 : decode k3_ 8 = .ok (.pop, 1) := by decide +kernel
theorem d30_9 : decode k3_ 9 = .ok (.return_, 1) := by decide +kernel
theorem pn_2 : plainName "java/lang/String" = true := by first | (simp [plainName, overriddenIn]; done) | decide +kernel
theorem ef_sci (m : MethodId) (x0 : Int32) (x1 : Int32) : entryFrame m #[(.int x0), (.int x1)] 2 = mkF m 0 #[.val (.int x0), .val (.int x1)] [] := by first | (simp [entryFrame, mkF, argsToLocals, Value.category]; done) | rfl
def Qsci (Z : State)  (h0 : Heap) (n0 : Nat) (v : Option Value) (h : Heap) (L : List Loc) : Prop := v = none ∧ Fr n0 L ∧ h = h0
theorem sci (l : Launch) (Z : State) (a0 : Array Value) (hw : ∀ d ∈ tables_1, d.before a0 Z = true) (ws : List Jvm.Cond) (i : Int32) (N : Int32) (fm : Value) (h0 : Heap) (n0 : Nat) (O : Old Z n0 h0) (j5_ : sT3 Z fm) (hfm : fm.isRef = true) (hi0 : ¬ (i < (0 : Int32))) (hi1 : i < N) :
   own_MF l Z mN3 jdk_42_method_155_code 2 none ws rM1 #[(.int i), (.int N)] h0 (Qsci Z  h0 n0) := by
 refine MetFree.of_bodySF (plainFor_of_name pn_2) hisR ?_
 intro p e s m args below meth c s₁ Bd hml0 hP hK
 obtain ⟨rfl, hZ, hh⟩ := hP
 have hx := Bd.exec
 have hby := Bd.bytes
 have B := @hb _ _ hby
 have hml : c.maxLocals = 2 := hml0
 have hown : s.vm.findClass "java/lang/String" = some m.cls := findClass_of_methodNamed Bd.named
 have X0 : Stand p l e rM1 s m #[(.int i), (.int N)] below meth c s₁ [] 0 0 := Stand.of_body Bd
 have e0 : s₁.heap = h0 := by rw [← hh, Bd.state]; rfl
 have N0 := Fr.nil n0
 refine own_start (ef_sci m i N) (Q := own_QE s rM1 (Qsci Z  h0 n0)) ?_
 show oF p e below (s₁.setTop (mkF m 0 #[.val (.int i), .val (.int N)] [])) _
 refine oG (fun _ k => XS.iloadN X0.here hx rfl (B d30_0) rfl (XS.iloadN X0.here hx rfl (B d30_1) rfl k)) ?_
 show oF p e below (s₁.setTop (mkF m 2 #[.val (.int i), .val (.int N)] [(.int N), (.int i)])) _
 obtain ⟨T12, X12, e12, st12⟩ := getS2 X0 hx hZ hown (host := "") (Or.inl (ow hw 158)) Via.refl e0 (j5_.ext O.2) (g := (mkF m 2 #[.val (.int i), .val (.int N)] [(.int N), (.int i)])) rfl (B d30_2)
 refine oG st12 ?_
 obtain ⟨_, _, ⟨T13, L13, k13, n13⟩, -, X13, ⟨Lc13, hQ13, l13, y13, z13⟩, st13⟩ := Jvm.LawKit.callS X12 hx (y := mN2) hown (mo hZ hw 160) (mo hZ hw 161) (mo hZ hw 159) (mo hZ hw 162) (by decide) (backOf (W := 0) (pci l Z a0 hw [] i N fm h0 n0 hfm hi0 hi1) hZ (ow hw 162) (ow hw 159) (by decide) (by decide)) (g := (mkF m 5 #[.val (.int i), .val (.int N)] [fm, (.int N), (.int i)])) rfl (by rw [hml]; rfl) (argsL := [(.int i), (.int N), fm]) (rest := []) (lenOf pd_0 rfl) rfl (by show 2 * 0 + _ ≤ _; exact Nat.le_of_eq rfl) (B d30_5) (fun _ _ => ⟨rfl, e12, (by decide : 0 + 0 ≤ _), (by decide : 0 + 0 ≤ _)⟩)
 dsimp only [Pt.U, Pt.locs, Pt.cells, Pt.slots] at X13 l13 y13 z13 st13 hQ13
 subst y13 z13
 obtain ⟨rfl, N13q, e13⟩ := hQ13
 refine oG st13 ?_
 have N13 := oL l13 (Fr.app N0 N13q)
 show oF p e below (T13.setTop (mkF m 8 #[.val (.int i), .val (.int N)] [(.int i)])) _
 refine oG (fun _ k => XS.pop X13.here hx rfl (B d30_8) rfl rfl k) ?_
 show oF p e below (T13.setTop (mkF m 9 #[.val (.int i), .val (.int N)] [])) _
 obtain ⟨fs, hr, r1, r2, hW, r3⟩ := X13.leave (v := none) (fun _ => rfl)
 refine ⟨_, _, ?_, r1, r2, _, _, rfl, ?_, ⟨_, rfl⟩, hW, r3.mono (by decide) (by decide)⟩
 ·exact X13.returnOut hx Bd.returns (B d30_9) hr
 ·show Qsci Z  h0 n0 _ T13.heap _
  rw [e13]
  exact ⟨rfl, N13, rfl⟩
theorem d60_0 : decode k4_ 0 = .ok (.iload_n 0, 1) := by decide +kernel
theorem d60_1 : decode k4_ 1 = .ok (.aload_n 1, 1) := by decide +kernel
theorem d60_2 : decode k4_ 2 = .ok (.invokestatic 48, 3) := by decide +kernel
theorem pd_1 : parseMethodDescriptor "([B)I" = some ⟨[(.array .byte)], some .int⟩ := by decide +kernel
theorem d60_5 : decode k4_ 5 = .ok (.invokestatic 414, 3) := by decide +kernel
theorem pd_2 : parseMethodDescriptor "(II)V" = some ⟨[.int, .int], none⟩ := by decide +kernel
theorem d60_8 : decode k4_ 8 = .ok (.return_, 1) := by decide +kernel
theorem ef_uci (m : MethodId) (x0 : Int32) (x1 : Addr) : entryFrame m #[(.int x0), (.ref x1)] 2 = mkF m 0 #[.val (.int x0), .val (.ref x1)] [] := by first | (simp [entryFrame, mkF, argsToLocals, Value.category]; done) | rfl
def Quci (Z : State)  (h0 : Heap) (n0 : Nat) (v : Option Value) (h : Heap) (L : List Loc) : Prop := v = none ∧ Fr n0 L ∧ h = h0
theorem uci (l : Launch) (Z : State) (a0 : Array Value) (hw : ∀ d ∈ tables_1, d.before a0 Z = true) (ws : List Jvm.Cond) (i : Int32) (t : Addr) (kt : ClassId) (M : Int32) (vs : List Value) (fm : Value) (h0 : Heap) (n0 : Nat) (O : Old Z n0 h0) (j5_ : sT3 Z fm) (hfm : fm.isRef = true) (V_t : Arv Z h0 t kt .byte M vs (.int 0)) (hi0 : ¬ (i < (0 : Int32))) (hi1 : i < (M >>> ((1 : Int32) &&& 31))) :
   own_MF l Z mN4 jdk_52_method_91_code 2 none ws rM2 #[(.int i), (.ref t)] h0 (Quci Z  h0 n0) := by
 refine MetFree.of_bodySF (plainFor_of_name pn_0) hisR ?_
 intro p e s m args below meth c s₁ Bd hml0 hP hK
 obtain ⟨rfl, hZ, hh⟩ := hP
 have hx := Bd.exec
 have hby := Bd.bytes
 have B := @hb _ _ hby
 have hml : c.maxLocals = 2 := hml0
 have hown : s.vm.findClass "java/lang/StringUTF16" = some m.cls := findClass_of_methodNamed Bd.named
 have X0 : Stand p l e rM2 s m #[(.int i), (.ref t)] below meth c s₁ [] 0 0 := Stand.of_body Bd
 have e0 : s₁.heap = h0 := by rw [← hh, Bd.state]; rfl
 have N0 := Fr.nil n0
 refine own_start (ef_uci m i t) (Q := own_QE s rM2 (Quci Z  h0 n0)) ?_
 show oF p e below (s₁.setTop (mkF m 0 #[.val (.int i), .val (.ref t)] [])) _
 refine oG (fun _ k => XS.iloadN X0.here hx rfl (B d60_0) rfl (XS.aloadN X0.here hx rfl (B d60_1) rfl rfl k)) ?_
 show oF p e below (s₁.setTop (mkF m 2 #[.val (.int i), .val (.ref t)] [(.ref t), (.int i)])) _
 obtain ⟨_, _, ⟨T15, L15, k15, n15⟩, -, X15, ⟨Lc15, hQ15, l15, y15, z15⟩, st15⟩ := Jvm.LawKit.callS X0 hx (y := mN0) hown (mo hZ hw 237) (mo hZ hw 238) (mo hZ hw 222) (mo hZ hw 239) (by decide) (backOf (W := 1) (ul l Z a0 hw [] t kt M vs h0 n0 O V_t) hZ (ow hw 239) (ow hw 222) (by decide) (by decide)) (g := (mkF m 2 #[.val (.int i), .val (.ref t)] [(.ref t), (.int i)])) rfl (by rw [hml]; rfl) (argsL := [(.ref t)]) (rest := [(.int i)]) (lenOf pd_1 rfl) rfl (by show 2 * 0 + _ ≤ _; exact Nat.le_of_eq rfl) (B d60_2) (fun _ _ => ⟨rfl, e0, (by decide : 0 + 0 ≤ _), (by decide : 0 + 0 ≤ _)⟩)
 dsimp only [Pt.U, Pt.locs, Pt.cells, Pt.slots] at X15 l15 y15 z15 st15 hQ15
 subst y15 z15
 obtain ⟨rfl, N15q, e15⟩ := hQ15
 refine oG st15 ?_
 have N15 := oL l15 (Fr.app N0 N15q)
 obtain ⟨_, _, ⟨T16, L16, k16, n16⟩, -, X16, ⟨Lc16, hQ16, l16, y16, z16⟩, st16⟩ := Jvm.LawKit.callS X15 hx (y := mN3) hown (mo hZ hw 275) (mo hZ hw 156) (mo hZ hw 30) (mo hZ hw 157) (by decide) (backOf (W := 0) (sci l Z a0 hw [] i (M >>> ((1 : Int32) &&& 31)) fm h0 n0 O j5_ hfm hi0 hi1) hZ (ow hw 157) (ow hw 30) (by decide) (by decide)) (g := (mkF m 5 #[.val (.int i), .val (.ref t)] [(.int (M >>> ((1 : Int32) &&& 31))), (.int i)])) rfl (by rw [hml]; rfl) (argsL := [(.int i), (.int (M >>> ((1 : Int32) &&& 31)))]) (rest := []) (lenOf pd_2 rfl) rfl (by show 2 * 0 + _ ≤ _; exact Nat.le_of_eq rfl) (B d60_5) (fun _ _ => ⟨rfl, e15, (by decide : 0 + 0 ≤ _), (by decide : 0 + 0 ≤ _)⟩)
 dsimp only [Pt.U, Pt.locs, Pt.cells, Pt.slots] at X16 l16 y16 z16 st16 hQ16
 subst y16 z16
 obtain ⟨rfl, N16q, e16⟩ := hQ16
 refine oG st16 ?_
 have N16 := oL l16 (Fr.app N15 N16q)
 show oF p e below (T16.setTop (mkF m 8 #[.val (.int i), .val (.ref t)] [])) _
 obtain ⟨fs, hr, r1, r2, hW, r3⟩ := X16.leave (v := none) (fun _ => rfl)
 refine ⟨_, _, ?_, r1, r2, _, _, rfl, ?_, ⟨_, rfl⟩, hW, r3.mono (by decide) (by decide)⟩
 ·exact X16.returnOut hx Bd.returns (B d60_8) hr
 ·show Quci Z  h0 n0 _ T16.heap _
  rw [e16]
  exact ⟨rfl, N16, rfl⟩
theorem d62_0 : decode k5_ 0 = .ok (.iload_n 1, 1) := by decide +kernel
theorem d62_1 : decode k5_ 1 = .ok (.aload_n 0, 1) := by decide +kernel
theorem d62_2 : decode k5_ 2 = .ok (.invokestatic 67, 3) := by decide +kernel
theorem pd_3 : parseMethodDescriptor "(I[B)V" = some ⟨[.int, (.array .byte)], none⟩ := by decide +kernel
theorem d62_5 : decode k5_ 5 = .ok (.aload_n 0, 1) := by decide +kernel
theorem d62_6 : decode k5_ 6 = .ok (.iload_n 1, 1) := by decide +kernel
theorem d62_7 : decode k5_ 7 = .ok (.iload_n 2, 1) := by decide +kernel
theorem d62_8 : decode k5_ 8 = .ok (.invokestatic 111, 3) := by decide +kernel
theorem pd_4 : parseMethodDescriptor "([BII)V" = some ⟨[(.array .byte), .int, .int], none⟩ := by decide +kernel
theorem d62_11 : decode k5_ 11 = .ok (.return_, 1) := by decide +kernel
def Qps (Z : State) (t : Addr) (c_ : Int32) (kt : ClassId) (M : Int32) (vs : List Value) (h0 : Heap) (n0 : Nat) (v : Option Value) (h : Heap) (L : List Loc) : Prop := v = none ∧ Fr n0 L ∧ Keep h0 h [t] ∧ Arv Z h t kt .byte M (vs ++ [(.int (own_lo c_)), (.int (own_hi c_))]) (.int 0)
theorem ps (l : Launch) (Z : State) (a0 : Array Value) (hw : ∀ d ∈ tables_1, d.before a0 Z = true) (ws : List Jvm.Cond) (t : Addr) (i : Int32) (c_ : Int32) (kt : ClassId) (M : Int32) (vs : List Value) (fm : Value) (h0 : Heap) (n0 : Nat) (O : Old Z n0 h0) (j6_ : sT0 Z (.int 1)) (j7_ : sT1 Z (.int 0)) (j8_ : sT2 Z (.int 8)) (j5_ : sT3 Z fm) (hfm : fm.isRef = true) (V_t : Arv Z h0 t kt .byte M vs (.int 0)) (g_t : n0 ≤ t) (hn : (vs.length : Int) = 2 * i.toInt) (hM : (vs.length : Int) + 2 ≤ M.toInt) (h16 : M.toInt ≤ 16) :
   own_MF l Z mN5 jdk_52_method_71_code 3 none ws rM3 #[(.ref t), (.int i), (.int c_)] h0 (Qps Z t c_ kt M vs h0 n0) := by
 refine MetFree.of_bodySF (plainFor_of_name pn_0) hisR ?_
 intro p e s m args below meth c s₁ Bd hml0 hP hK
 obtain ⟨rfl, hZ, hh⟩ := hP
 have hx := Bd.exec
 have hby := Bd.bytes
 have B := @hb _ _ hby
 have hml : c.maxLocals = 3 := hml0
 have hown : s.vm.findClass "java/lang/StringUTF16" = some m.cls := findClass_of_methodNamed Bd.named
 have X0 : Stand p l e rM3 s m #[(.ref t), (.int i), (.int c_)] below meth c s₁ [] 0 0 := Stand.of_body Bd
 have e0 : s₁.heap = h0 := by rw [← hh, Bd.state]; rfl
 have N0 := Fr.nil n0
 have K0 := Keep.refl h0 [t]
 refine own_start (ef_pt m t i c_) (Q := own_QE s rM3 (Qps Z t c_ kt M vs h0 n0)) ?_
 show oF p e below (s₁.setTop (mkF m 0 #[.val (.ref t), .val (.int i), .val (.int c_)] [])) _
 refine oG (fun _ k => XS.iloadN X0.here hx rfl (B d62_0) rfl (XS.aloadN X0.here hx rfl (B d62_1) rfl rfl k)) ?_
 show oF p e below (s₁.setTop (mkF m 2 #[.val (.ref t), .val (.int i), .val (.int c_)] [(.ref t), (.int i)])) _
 obtain ⟨_, _, ⟨T18, L18, k18, n18⟩, -, X18, ⟨Lc18, hQ18, l18, y18, z18⟩, st18⟩ := Jvm.LawKit.callS X0 hx (y := mN4) hown (mo hZ hw 272) (mo hZ hw 273) (mo hZ hw 222) (mo hZ hw 274) (by decide) (backOf (W := 0) (uci l Z a0 hw [] i t kt M vs fm h0 n0 O j5_ hfm V_t (own_pq0 hn) (own_pq1 hn hM)) hZ (ow hw 274) (ow hw 222) (by decide) (by decide)) (g := (mkF m 2 #[.val (.ref t), .val (.int i), .val (.int c_)] [(.ref t), (.int i)])) rfl (by rw [hml]; rfl) (argsL := [(.int i), (.ref t)]) (rest := []) (lenOf pd_3 rfl) rfl (by show 2 * 0 + _ ≤ _; exact Nat.le_of_eq rfl) (B d62_2) (fun _ _ => ⟨rfl, e0, (by decide : 0 + 0 ≤ _), (by decide : 0 + 0 ≤ _)⟩)
 dsimp only [Pt.U, Pt.locs, Pt.cells, Pt.slots] at X18 l18 y18 z18 st18 hQ18
 subst y18 z18
 obtain ⟨rfl, N18q, e18⟩ := hQ18
 refine oG st18 ?_
 have N18 := oL l18 (Fr.app N0 N18q)
 show oF p e below (T18.setTop (mkF m 5 #[.val (.ref t), .val (.int i), .val (.int c_)] [])) _
 refine oG (fun _ k => XS.aloadN X18.here hx rfl (B d62_5) rfl rfl (XS.iloadN X18.here hx rfl (B d62_6) rfl (XS.iloadN X18.here hx rfl (B d62_7) rfl k))) ?_
 show oF p e below (T18.setTop (mkF m 8 #[.val (.ref t), .val (.int i), .val (.int c_)] [(.int c_), (.int i), (.ref t)])) _
 obtain ⟨_, _, ⟨T19, L19, k19, n19⟩, -, X19, ⟨Lc19, hQ19, l19, y19, z19⟩, st19⟩ := Jvm.LawKit.callS X18 hx (y := mN1) hown (mo hZ hw 261) (mo hZ hw 262) (mo hZ hw 222) (mo hZ hw 263) (by decide) (backOf (W := 0) (pt l Z a0 hw [] t i c_ kt M vs h0 n0 O j6_ j7_ j8_ V_t g_t hn hM h16) hZ (ow hw 263) (ow hw 222) (by decide) (by decide)) (g := (mkF m 8 #[.val (.ref t), .val (.int i), .val (.int c_)] [(.int c_), (.int i), (.ref t)])) rfl (by rw [hml]; rfl) (argsL := [(.ref t), (.int i), (.int c_)]) (rest := []) (lenOf pd_4 rfl) rfl (by show 2 * 0 + _ ≤ _; exact Nat.le_of_eq rfl) (B d62_8) (fun _ _ => ⟨rfl, e18, (by decide : 0 + 0 ≤ _), (by decide : 0 + 0 ≤ _)⟩)
 dsimp only [Pt.U, Pt.locs, Pt.cells, Pt.slots] at X19 l19 y19 z19 st19 hQ19
 subst y19 z19
 obtain ⟨rfl, N19q, Kq19, P19_0⟩ := hQ19
 refine oG st19 ?_
 have N19 := oL l19 (Fr.app N18 N19q)
 clear V_t
 have O := O.keep Kq19 (allS g_t all0)
 have K20 := K0.trans Kq19 (allS (Or.inl (List.mem_of_getElem? (i := 0) rfl)) all0)
 have V_t := P19_0
 show oF p e below (T19.setTop (mkF m 11 #[.val (.ref t), .val (.int i), .val (.int c_)] [])) _
 obtain ⟨fs, hr, r1, r2, hW, r3⟩ := X19.leave (v := none) (fun _ => rfl)
 refine ⟨_, _, ?_, r1, r2, _, _, rfl, ?_, ⟨_, rfl⟩, hW, r3.mono (by decide) (by decide)⟩
 ·exact X19.returnOut hx Bd.returns (B d62_11) hr
 ·show Qps Z t c_ kt M vs h0 n0 _ T19.heap _
  exact ⟨rfl, N19, K20, V_t⟩
theorem d52_0 : decode k6_ 0 = .ok (.iload_n 2, 1) := by decide +kernel
theorem d52_1 : decode k6_ 1 = .ok (.iload_n 0, 1) := by decide +kernel
theorem d52_2 : decode k6_ 2 = .ok (.ior, 1) := by decide +kernel
theorem d52_3 : decode k6_ 3 = .ok (.iload_n 1, 1) := by decide +kernel
theorem d52_4 : decode k6_ 4 = .ok (.ior, 1) := by decide +kernel
theorem d52_5 : decode k6_ 5 = .ok (.ifCond .lt 10, 3) := by decide +kernel
theorem d52_8 : decode k6_ 8 = .ok (.iload_n 1, 1) := by decide +kernel
theorem d52_9 : decode k6_ 9 = .ok (.iload_n 2, 1) := by decide +kernel
theorem d52_10 : decode k6_ 10 = .ok (.iload_n 0, 1) := by decide +kernel
theorem d52_11 : decode k6_ 11 = .ok (.isub, 1) := by decide +kernel
theorem d52_12 : decode k6_ 12 = .ok (.if_icmp .le 11, 3) := by decide +kernel
theorem d52_23 : decode k6_ 23 = .ok (.iload_n 0, 1) := by decide +kernel
theorem d52_24 : decode k6_ 24 = .ok (.ireturn, 1) := by decide +kernel
theorem ef_cfs (m : MethodId) (x0 : Int32) (x1 : Int32) (x2 : Int32) (x3 : Value) (hr3 : x3.isRef = true) : entryFrame m #[(.int x0), (.int x1), (.int x2), x3] 4 = mkF m 0 #[.val (.int x0), .val (.int x1), .val (.int x2), .val x3] [] := by (cases x3 <;> first | (cases hr3; done) | (simp [Value.isRef] at hr3; done) | skip); all_goals first | (simp [entryFrame, mkF, argsToLocals, Value.category]; done) | rfl
def Qcfs (Z : State) (i : Int32) (h0 : Heap) (n0 : Nat) (v : Option Value) (h : Heap) (L : List Loc) : Prop := v = some (.int i) ∧ Fr n0 L ∧ h = h0
theorem cfs (l : Launch) (Z : State) (a0 : Array Value) (hw : ∀ d ∈ tables_1, d.before a0 Z = true) (ws : List Jvm.Cond) (i : Int32) (j : Int32) (N : Int32) (fm : Value) (h0 : Heap) (n0 : Nat) (hfm : fm.isRef = true) (h1 : ¬ (((N ||| i) ||| j) < (0 : Int32))) (h2 : ¬ ((N - i) < j)) :
   own_MF l Z mN6 jdk_41_method_13_code 4 (some .int) ws rM0 #[(.int i), (.int j), (.int N), fm] h0 (Qcfs Z i h0 n0) := by
 refine MetFree.of_bodySF (plainFor_of_name pn_1) hisR ?_
 intro p e s m args below meth c s₁ Bd hml0 hP hK
 obtain ⟨rfl, hZ, hh⟩ := hP
 have hx := Bd.exec
 have hby := Bd.bytes
 have B := @hb _ _ hby
 have hml : c.maxLocals = 4 := hml0
 have hown : s.vm.findClass "jdk/internal/util/Preconditions" = some m.cls := findClass_of_methodNamed Bd.named
 have X0 : Stand p l e rM0 s m #[(.int i), (.int j), (.int N), fm] below meth c s₁ [] 0 0 := Stand.of_body Bd
 have e0 : s₁.heap = h0 := by rw [← hh, Bd.state]; rfl
 have N0 := Fr.nil n0
 refine own_start (ef_cfs m i j N fm hfm) (Q := own_QE s rM0 (Qcfs Z i h0 n0)) ?_
 show oF p e below (s₁.setTop (mkF m 0 #[.val (.int i), .val (.int j), .val (.int N), .val fm] [])) _
 refine oG (fun _ k => XS.iloadN X0.here hx rfl (B d52_0) rfl (XS.iloadN X0.here hx rfl (B d52_1) rfl (XS.ior X0.here hx rfl (B d52_2) rfl (XS.iloadN X0.here hx rfl (B d52_3) rfl (XS.ior X0.here hx rfl (B d52_4) rfl (XS.ifNo X0.here hx rfl (B d52_5) rfl ((if0 _ _).trans (flt h1).1) (XS.iloadN X0.here hx rfl (B d52_8) rfl (XS.iloadN X0.here hx rfl (B d52_9) rfl (XS.iloadN X0.here hx rfl (B d52_10) rfl (XS.isub X0.here hx rfl (B d52_11) rfl k)))))))))) ?_
 show oF p e below (s₁.setTop (mkF m 12 #[.val (.int i), .val (.int j), .val (.int N), .val fm] [(.int (N - i)), (.int j)])) _
 refine oG (fun _ k => XS.icmpYes X0.here hx rfl (pc0 := 12) (pc' := 23) rfl (B d52_12) rfl (flt h2).2.2.2 (by decide) (by decide) (XS.iloadN X0.here hx rfl (B d52_23) rfl k)) ?_
 show oF p e below (s₁.setTop (mkF m 24 #[.val (.int i), .val (.int j), .val (.int N), .val fm] [(.int i)])) _
 obtain ⟨fs, hr, r1, r2, hW, r3⟩ := X0.leave (v := some (.int i)) (fun h => by rw [Bd.returns] at h; cases h)
 refine ⟨_, _, ?_, r1, r2, _, _, rfl, ?_, ⟨_, rfl⟩, hW, r3.mono (by decide) (by decide)⟩
 ·exact own_retI X0 hx Bd.returns (B d52_24) hr
 ·show Qcfs Z i h0 n0 _ s₁.heap _
  rw [e0]
  exact ⟨rfl, N0, rfl⟩
theorem d51_0 : decode k7_ 0 = .ok (.iload_n 0, 1) := by decide +kernel
theorem d51_1 : decode k7_ 1 = .ok (.iload_n 1, 1) := by decide +kernel
theorem d51_2 : decode k7_ 2 = .ok (.iload_n 2, 1) := by decide +kernel
theorem d51_3 : decode k7_ 3 = .ok (.getstatic 1053, 3) := by decide +kernel
theorem d51_6 : decode k7_ 6 = .ok (.invokestatic 1065, 3) := by decide +kernel
theorem pd_5 : parseMethodDescriptor "(IIILjava/util/function/BiFunction;)I" = some ⟨[.int, .int, .int, (.object "java/util/function/BiFunction")], some .int⟩ := by decide +kernel
theorem d51_9 : decode k7_ 9 = .ok (.ireturn, 1) := by decide +kernel
theorem ef_cbo (m : MethodId) (x0 : Int32) (x1 : Int32) (x2 : Int32) : entryFrame m #[(.int x0), (.int x1), (.int x2)] 3 = mkF m 0 #[.val (.int x0), .val (.int x1), .val (.int x2)] [] := by first | (simp [entryFrame, mkF, argsToLocals, Value.category]; done) | rfl
def Qcbo (Z : State) (i : Int32) (h0 : Heap) (n0 : Nat) (v : Option Value) (h : Heap) (L : List Loc) : Prop := v = some (.int i) ∧ Fr n0 L ∧ h = h0
theorem cbo (l : Launch) (Z : State) (a0 : Array Value) (hw : ∀ d ∈ tables_1, d.before a0 Z = true) (ws : List Jvm.Cond) (i : Int32) (j : Int32) (N : Int32) (fm : Value) (h0 : Heap) (n0 : Nat) (O : Old Z n0 h0) (j5_ : sT3 Z fm) (hfm : fm.isRef = true) (h1 : ¬ (((N ||| i) ||| j) < (0 : Int32))) (h2 : ¬ ((N - i) < j)) :
   own_MF l Z mN7 jdk_42_method_157_code 3 (some .int) ws rM4 #[(.int i), (.int j), (.int N)] h0 (Qcbo Z i h0 n0) := by
 refine MetFree.of_bodySF (plainFor_of_name pn_2) hisR ?_
 intro p e s m args below meth c s₁ Bd hml0 hP hK
 obtain ⟨rfl, hZ, hh⟩ := hP
 have hx := Bd.exec
 have hby := Bd.bytes
 have B := @hb _ _ hby
 have hml : c.maxLocals = 3 := hml0
 have hown : s.vm.findClass "java/lang/String" = some m.cls := findClass_of_methodNamed Bd.named
 have X0 : Stand p l e rM4 s m #[(.int i), (.int j), (.int N)] below meth c s₁ [] 0 0 := Stand.of_body Bd
 have e0 : s₁.heap = h0 := by rw [← hh, Bd.state]; rfl
 have N0 := Fr.nil n0
 refine own_start (ef_cbo m i j N) (Q := own_QE s rM4 (Qcbo Z i h0 n0)) ?_
 show oF p e below (s₁.setTop (mkF m 0 #[.val (.int i), .val (.int j), .val (.int N)] [])) _
 refine oG (fun _ k => XS.iloadN X0.here hx rfl (B d51_0) rfl (XS.iloadN X0.here hx rfl (B d51_1) rfl (XS.iloadN X0.here hx rfl (B d51_2) rfl k))) ?_
 show oF p e below (s₁.setTop (mkF m 3 #[.val (.int i), .val (.int j), .val (.int N)] [(.int N), (.int j), (.int i)])) _
 obtain ⟨T23, X23, e23, st23⟩ := getS2 X0 hx hZ hown (host := "") (Or.inl (ow hw 158)) Via.refl e0 (j5_.ext O.2) (g := (mkF m 3 #[.val (.int i), .val (.int j), .val (.int N)] [(.int N), (.int j), (.int i)])) rfl (B d51_3)
 refine oG st23 ?_
 obtain ⟨_, _, ⟨T24, L24, k24, n24⟩, -, X24, ⟨Lc24, hQ24, l24, y24, z24⟩, st24⟩ := Jvm.LawKit.callS X23 hx (y := mN6) hown (mo hZ hw 243) (mo hZ hw 244) (mo hZ hw 159) (mo hZ hw 245) (by decide) (backOf (W := 0) (cfs l Z a0 hw [] i j N fm h0 n0 hfm h1 h2) hZ (ow hw 245) (ow hw 159) (by decide) (by decide)) (g := (mkF m 6 #[.val (.int i), .val (.int j), .val (.int N)] [fm, (.int N), (.int j), (.int i)])) rfl (by rw [hml]; rfl) (argsL := [(.int i), (.int j), (.int N), fm]) (rest := []) (lenOf pd_5 rfl) rfl (by show 2 * 0 + _ ≤ _; exact Nat.le_of_eq rfl) (B d51_6) (fun _ _ => ⟨rfl, e23, (by decide : 0 + 0 ≤ _), (by decide : 0 + 0 ≤ _)⟩)
 dsimp only [Pt.U, Pt.locs, Pt.cells, Pt.slots] at X24 l24 y24 z24 st24 hQ24
 subst y24 z24
 obtain ⟨rfl, N24q, e24⟩ := hQ24
 refine oG st24 ?_
 have N24 := oL l24 (Fr.app N0 N24q)
 show oF p e below (T24.setTop (mkF m 9 #[.val (.int i), .val (.int j), .val (.int N)] [(.int i)])) _
 obtain ⟨fs, hr, r1, r2, hW, r3⟩ := X24.leave (v := some (.int i)) (fun h => by rw [Bd.returns] at h; cases h)
 refine ⟨_, _, ?_, r1, r2, _, _, rfl, ?_, ⟨_, rfl⟩, hW, r3.mono (by decide) (by decide)⟩
 ·exact own_retI X24 hx Bd.returns (B d51_9) hr
 ·show Qcbo Z i h0 n0 _ T24.heap _
  rw [e24]
  exact ⟨rfl, N24, rfl⟩
theorem d56_0 : decode k8_ 0 = .ok (.iload_n 0, 1) := by decide +kernel
theorem d56_1 : decode k8_ 1 = .ok (.ifCond .lt 13, 3) := by decide +kernel
theorem d56_4 : decode k8_ 4 = .ok (.iload_n 0, 1) := by decide +kernel
theorem d56_5 : decode k8_ 5 = .ok (.iload_n 1, 1) := by decide +kernel
theorem d56_6 : decode k8_ 6 = .ok (.if_icmp .gt 8, 3) := by decide +kernel
theorem d56_9 : decode k8_ 9 = .ok (.iload_n 1, 1) := by decide +kernel
theorem d56_10 : decode k8_ 10 = .ok (.iload_n 2, 1) := by decide +kernel
theorem d56_11 : decode k8_ 11 = .ok (.if_icmp .le 11, 3) := by decide +kernel
theorem d56_22 : decode k8_ 22 = .ok (.iload_n 0, 1) := by decide +kernel
theorem d56_23 : decode k8_ 23 = .ok (.ireturn, 1) := by decide +kernel
def Qcft (Z : State) (i : Int32) (h0 : Heap) (n0 : Nat) (v : Option Value) (h : Heap) (L : List Loc) : Prop := v = some (.int i) ∧ Fr n0 L ∧ h = h0
theorem cft (l : Launch) (Z : State) (a0 : Array Value) (hw : ∀ d ∈ tables_1, d.before a0 Z = true) (ws : List Jvm.Cond) (i : Int32) (j : Int32) (N : Int32) (fm : Value) (h0 : Heap) (n0 : Nat) (hfm : fm.isRef = true) (h1 : ¬ (i < (0 : Int32))) (h2 : ¬ (j < i)) (h3 : ¬ (N < j)) :
   own_MF l Z mN8 jdk_41_method_12_code 4 (some .int) ws rM0 #[(.int i), (.int j), (.int N), fm] h0 (Qcft Z i h0 n0) := by
 refine MetFree.of_bodySF (plainFor_of_name pn_1) hisR ?_
 intro p e s m args below meth c s₁ Bd hml0 hP hK
 obtain ⟨rfl, hZ, hh⟩ := hP
 have hx := Bd.exec
 have hby := Bd.bytes
 have B := @hb _ _ hby
 have hml : c.maxLocals = 4 := hml0
 have hown : s.vm.findClass "jdk/internal/util/Preconditions" = some m.cls := findClass_of_methodNamed Bd.named
 have X0 : Stand p l e rM0 s m #[(.int i), (.int j), (.int N), fm] below meth c s₁ [] 0 0 := Stand.of_body Bd
 have e0 : s₁.heap = h0 := by rw [← hh, Bd.state]; rfl
 have N0 := Fr.nil n0
 refine own_start (ef_cfs m i j N fm hfm) (Q := own_QE s rM0 (Qcft Z i h0 n0)) ?_
 show oF p e below (s₁.setTop (mkF m 0 #[.val (.int i), .val (.int j), .val (.int N), .val fm] [])) _
 refine oG (fun _ k => XS.iloadN X0.here hx rfl (B d56_0) rfl (XS.ifNo X0.here hx rfl (B d56_1) rfl ((if0 _ _).trans (flt h1).1) (XS.iloadN X0.here hx rfl (B d56_4) rfl (XS.iloadN X0.here hx rfl (B d56_5) rfl (XS.icmpNo X0.here hx rfl (B d56_6) rfl (flt h2).2.2.1 (XS.iloadN X0.here hx rfl (B d56_9) rfl (XS.iloadN X0.here hx rfl (B d56_10) rfl (XS.icmpYes X0.here hx rfl (pc0 := 11) (pc' := 22) rfl (B d56_11) rfl (flt h3).2.2.2 (by decide) (by decide) (XS.iloadN X0.here hx rfl (B d56_22) rfl k))))))))) ?_
 show oF p e below (s₁.setTop (mkF m 23 #[.val (.int i), .val (.int j), .val (.int N), .val fm] [(.int i)])) _
 obtain ⟨fs, hr, r1, r2, hW, r3⟩ := X0.leave (v := some (.int i)) (fun h => by rw [Bd.returns] at h; cases h)
 refine ⟨_, _, ?_, r1, r2, _, _, rfl, ?_, ⟨_, rfl⟩, hW, r3.mono (by decide) (by decide)⟩
 ·exact own_retI X0 hx Bd.returns (B d56_23) hr
 ·show Qcft Z i h0 n0 _ s₁.heap _
  rw [e0]
  exact ⟨rfl, N0, rfl⟩
theorem d55_0 : decode k9_ 0 = .ok (.iload_n 0, 1) := by decide +kernel
theorem d55_1 : decode k9_ 1 = .ok (.iload_n 1, 1) := by decide +kernel
theorem d55_2 : decode k9_ 2 = .ok (.iload_n 2, 1) := by decide +kernel
theorem d55_3 : decode k9_ 3 = .ok (.getstatic 1053, 3) := by decide +kernel
theorem d55_6 : decode k9_ 6 = .ok (.invokestatic 1062, 3) := by decide +kernel
theorem d55_9 : decode k9_ 9 = .ok (.pop, 1) := by decide +kernel
theorem d55_10 : decode k9_ 10 = .ok (.return_, 1) := by decide +kernel
def Qcbb (Z : State)  (h0 : Heap) (n0 : Nat) (v : Option Value) (h : Heap) (L : List Loc) : Prop := v = none ∧ Fr n0 L ∧ h = h0
theorem cbb (l : Launch) (Z : State) (a0 : Array Value) (hw : ∀ d ∈ tables_1, d.before a0 Z = true) (ws : List Jvm.Cond) (i : Int32) (j : Int32) (N : Int32) (fm : Value) (h0 : Heap) (n0 : Nat) (O : Old Z n0 h0) (j5_ : sT3 Z fm) (hfm : fm.isRef = true) (h1 : ¬ (i < (0 : Int32))) (h2 : ¬ (j < i)) (h3 : ¬ (N < j)) :
   own_MF l Z mN9 jdk_42_method_158_code 3 none ws rM4 #[(.int i), (.int j), (.int N)] h0 (Qcbb Z  h0 n0) := by
 refine MetFree.of_bodySF (plainFor_of_name pn_2) hisR ?_
 intro p e s m args below meth c s₁ Bd hml0 hP hK
 obtain ⟨rfl, hZ, hh⟩ := hP
 have hx := Bd.exec
 have hby := Bd.bytes
 have B := @hb _ _ hby
 have hml : c.maxLocals = 3 := hml0
 have hown : s.vm.findClass "java/lang/String" = some m.cls := findClass_of_methodNamed Bd.named
 have X0 : Stand p l e rM4 s m #[(.int i), (.int j), (.int N)] below meth c s₁ [] 0 0 := Stand.of_body Bd
 have e0 : s₁.heap = h0 := by rw [← hh, Bd.state]; rfl
 have N0 := Fr.nil n0
 refine own_start (ef_cbo m i j N) (Q := own_QE s rM4 (Qcbb Z  h0 n0)) ?_
 show oF p e below (s₁.setTop (mkF m 0 #[.val (.int i), .val (.int j), .val (.int N)] [])) _
 refine oG (fun _ k => XS.iloadN X0.here hx rfl (B d55_0) rfl (XS.iloadN X0.here hx rfl (B d55_1) rfl (XS.iloadN X0.here hx rfl (B d55_2) rfl k))) ?_
 show oF p e below (s₁.setTop (mkF m 3 #[.val (.int i), .val (.int j), .val (.int N)] [(.int N), (.int j), (.int i)])) _
 obtain ⟨T27, X27, e27, st27⟩ := getS2 X0 hx hZ hown (host := "") (Or.inl (ow hw 158)) Via.refl e0 (j5_.ext O.2) (g := (mkF m 3 #[.val (.int i), .val (.int j), .val (.int N)] [(.int N), (.int j), (.int i)])) rfl (B d55_3)
 refine oG st27 ?_
 obtain ⟨_, _, ⟨T28, L28, k28, n28⟩, -, X28, ⟨Lc28, hQ28, l28, y28, z28⟩, st28⟩ := Jvm.LawKit.callS X27 hx (y := mN8) hown (mo hZ hw 255) (mo hZ hw 256) (mo hZ hw 159) (mo hZ hw 257) (by decide) (backOf (W := 0) (cft l Z a0 hw [] i j N fm h0 n0 hfm h1 h2 h3) hZ (ow hw 257) (ow hw 159) (by decide) (by decide)) (g := (mkF m 6 #[.val (.int i), .val (.int j), .val (.int N)] [fm, (.int N), (.int j), (.int i)])) rfl (by rw [hml]; rfl) (argsL := [(.int i), (.int j), (.int N), fm]) (rest := []) (lenOf pd_5 rfl) rfl (by show 2 * 0 + _ ≤ _; exact Nat.le_of_eq rfl) (B d55_6) (fun _ _ => ⟨rfl, e27, (by decide : 0 + 0 ≤ _), (by decide : 0 + 0 ≤ _)⟩)
 dsimp only [Pt.U, Pt.locs, Pt.cells, Pt.slots] at X28 l28 y28 z28 st28 hQ28
 subst y28 z28
 obtain ⟨rfl, N28q, e28⟩ := hQ28
 refine oG st28 ?_
 have N28 := oL l28 (Fr.app N0 N28q)
 show oF p e below (T28.setTop (mkF m 9 #[.val (.int i), .val (.int j), .val (.int N)] [(.int i)])) _
 refine oG (fun _ k => XS.pop X28.here hx rfl (B d55_9) rfl rfl k) ?_
 show oF p e below (T28.setTop (mkF m 10 #[.val (.int i), .val (.int j), .val (.int N)] [])) _
 obtain ⟨fs, hr, r1, r2, hW, r3⟩ := X28.leave (v := none) (fun _ => rfl)
 refine ⟨_, _, ?_, r1, r2, _, _, rfl, ?_, ⟨_, rfl⟩, hW, r3.mono (by decide) (by decide)⟩
 ·exact X28.returnOut hx Bd.returns (B d55_10) hr
 ·show Qcbb Z  h0 n0 _ T28.heap _
  rw [e28]
  exact ⟨rfl, N28, rfl⟩
theorem own_or {M : Int32} (k : Int32) (hk : k = 0 ∨ k = 1 ∨ k = 2) (h0 : 0 ≤ M.toInt) (h16 : M.toInt ≤ 16) : ¬ ((((M >>> ((1 : Int32) &&& 31)) ||| (0 : Int32)) ||| k) < (0 : Int32)) := by
 have hh := own_hf (M := M)
 generalize M >>> ((1 : Int32) &&& 31) = Q at *
 have e : Q = Int32.ofInt (M.toInt / 2) := by rw [← hh, Int32.ofInt_toInt]
 have hr : M.toInt / 2 = 0 ∨ M.toInt / 2 = 1 ∨ M.toInt / 2 = 2 ∨ M.toInt / 2 = 3 ∨ M.toInt / 2 = 4 ∨ M.toInt / 2 = 5 ∨ M.toInt / 2 = 6 ∨ M.toInt / 2 = 7 ∨ M.toInt / 2 = 8 := by omega
 rw [e]
 rcases hr with h | h | h | h | h | h | h | h | h <;> rw [h] <;> rcases hk with rfl | rfl | rfl <;> decide
theorem own_sb {M : Int32} (k : Int32) (h0 : 0 ≤ M.toInt) (h : 2 * k.toInt ≤ M.toInt) : ¬ (((M >>> ((1 : Int32) &&& 31)) - (0 : Int32)) < k) := by
 rw [Int32.sub_zero, Int32.lt_iff_toInt_lt, own_hf]; omega
theorem d49_0 : decode k10_ 0 = .ok (.iload_n 0, 1) := by decide +kernel
theorem d49_1 : decode k10_ 1 = .ok (.iload_n 1, 1) := by decide +kernel
theorem d49_2 : decode k10_ 2 = .ok (.aload_n 2, 1) := by decide +kernel
theorem d49_3 : decode k10_ 3 = .ok (.invokestatic 48, 3) := by decide +kernel
theorem d49_6 : decode k10_ 6 = .ok (.invokestatic 419, 3) := by decide +kernel
theorem pd_6 : parseMethodDescriptor "(III)I" = some ⟨[.int, .int, .int], some .int⟩ := by decide +kernel
theorem d49_9 : decode k10_ 9 = .ok (.pop, 1) := by decide +kernel
theorem d49_10 : decode k10_ 10 = .ok (.return_, 1) := by decide +kernel
theorem ef_ubo0 (m : MethodId) (x0 : Int32) (x1 : Int32) (x2 : Addr) : entryFrame m #[(.int x0), (.int x1), (.ref x2)] 3 = mkF m 0 #[.val (.int x0), .val (.int x1), .val (.ref x2)] [] := by first | (simp [entryFrame, mkF, argsToLocals, Value.category]; done) | rfl
def Qubo0 (Z : State)  (h0 : Heap) (n0 : Nat) (v : Option Value) (h : Heap) (L : List Loc) : Prop := v = none ∧ Fr n0 L ∧ h = h0
theorem ubo0 (l : Launch) (Z : State) (a0 : Array Value) (hw : ∀ d ∈ tables_1, d.before a0 Z = true) (ws : List Jvm.Cond) (t : Addr) (kt : ClassId) (M : Int32) (vs : List Value) (fm : Value) (h0 : Heap) (n0 : Nat) (O : Old Z n0 h0) (j5_ : sT3 Z fm) (hfm : fm.isRef = true) (V_t : Arv Z h0 t kt .byte M vs (.int 0)) (h1 : ¬ ((((M >>> ((1 : Int32) &&& 31)) ||| (0 : Int32)) ||| (0 : Int32)) < (0 : Int32))) (h2 : ¬ (((M >>> ((1 : Int32) &&& 31)) - (0 : Int32)) < (0 : Int32))) :
   own_MF l Z mN10 jdk_52_method_94_code 3 none ws rM5 #[(.int 0), (.int 0), (.ref t)] h0 (Qubo0 Z  h0 n0) := by
 refine MetFree.of_bodySF (plainFor_of_name pn_0) hisR ?_
 intro p e s m args below meth c s₁ Bd hml0 hP hK
 obtain ⟨rfl, hZ, hh⟩ := hP
 have hx := Bd.exec
 have hby := Bd.bytes
 have B := @hb _ _ hby
 have hml : c.maxLocals = 3 := hml0
 have hown : s.vm.findClass "java/lang/StringUTF16" = some m.cls := findClass_of_methodNamed Bd.named
 have X0 : Stand p l e rM5 s m #[(.int 0), (.int 0), (.ref t)] below meth c s₁ [] 0 0 := Stand.of_body Bd
 have e0 : s₁.heap = h0 := by rw [← hh, Bd.state]; rfl
 have N0 := Fr.nil n0
 refine own_start (ef_ubo0 m (0 : Int32) (0 : Int32) t) (Q := own_QE s rM5 (Qubo0 Z  h0 n0)) ?_
 show oF p e below (s₁.setTop (mkF m 0 #[.val (.int 0), .val (.int 0), .val (.ref t)] [])) _
 refine oG (fun _ k => XS.iloadN X0.here hx rfl (B d49_0) rfl (XS.iloadN X0.here hx rfl (B d49_1) rfl (XS.aloadN X0.here hx rfl (B d49_2) rfl rfl k))) ?_
 show oF p e below (s₁.setTop (mkF m 3 #[.val (.int 0), .val (.int 0), .val (.ref t)] [(.ref t), (.int 0), (.int 0)])) _
 obtain ⟨_, _, ⟨T30, L30, k30, n30⟩, -, X30, ⟨Lc30, hQ30, l30, y30, z30⟩, st30⟩ := Jvm.LawKit.callS X0 hx (y := mN0) hown (mo hZ hw 237) (mo hZ hw 238) (mo hZ hw 222) (mo hZ hw 239) (by decide) (backOf (W := 2) (ul l Z a0 hw [] t kt M vs h0 n0 O V_t) hZ (ow hw 239) (ow hw 222) (by decide) (by decide)) (g := (mkF m 3 #[.val (.int 0), .val (.int 0), .val (.ref t)] [(.ref t), (.int 0), (.int 0)])) rfl (by rw [hml]; rfl) (argsL := [(.ref t)]) (rest := [(.int 0), (.int 0)]) (lenOf pd_1 rfl) rfl (by show 2 * 0 + _ ≤ _; exact Nat.le_of_eq rfl) (B d49_3) (fun _ _ => ⟨rfl, e0, (by decide : 0 + 0 ≤ _), (by decide : 0 + 0 ≤ _)⟩)
 dsimp only [Pt.U, Pt.locs, Pt.cells, Pt.slots] at X30 l30 y30 z30 st30 hQ30
 subst y30 z30
 obtain ⟨rfl, N30q, e30⟩ := hQ30
 refine oG st30 ?_
 have N30 := oL l30 (Fr.app N0 N30q)
 obtain ⟨_, _, ⟨T31, L31, k31, n31⟩, -, X31, ⟨Lc31, hQ31, l31, y31, z31⟩, st31⟩ := Jvm.LawKit.callS X30 hx (y := mN7) hown (mo hZ hw 240) (mo hZ hw 241) (mo hZ hw 30) (mo hZ hw 242) (by decide) (backOf (W := 0) (cbo l Z a0 hw [] (0 : Int32) (0 : Int32) (M >>> ((1 : Int32) &&& 31)) fm h0 n0 O j5_ hfm h1 h2) hZ (ow hw 242) (ow hw 30) (by decide) (by decide)) (g := (mkF m 6 #[.val (.int 0), .val (.int 0), .val (.ref t)] [(.int (M >>> ((1 : Int32) &&& 31))), (.int 0), (.int 0)])) rfl (by rw [hml]; rfl) (argsL := [(.int 0), (.int 0), (.int (M >>> ((1 : Int32) &&& 31)))]) (rest := []) (lenOf pd_6 rfl) rfl (by show 2 * 0 + _ ≤ _; exact Nat.le_of_eq rfl) (B d49_6) (fun _ _ => ⟨rfl, e30, (by decide : 0 + 0 ≤ _), (by decide : 0 + 0 ≤ _)⟩)
 dsimp only [Pt.U, Pt.locs, Pt.cells, Pt.slots] at X31 l31 y31 z31 st31 hQ31
 subst y31 z31
 obtain ⟨rfl, N31q, e31⟩ := hQ31
 refine oG st31 ?_
 have N31 := oL l31 (Fr.app N30 N31q)
 show oF p e below (T31.setTop (mkF m 9 #[.val (.int 0), .val (.int 0), .val (.ref t)] [(.int 0)])) _
 refine oG (fun _ k => XS.pop X31.here hx rfl (B d49_9) rfl rfl k) ?_
 show oF p e below (T31.setTop (mkF m 10 #[.val (.int 0), .val (.int 0), .val (.ref t)] [])) _
 obtain ⟨fs, hr, r1, r2, hW, r3⟩ := X31.leave (v := none) (fun _ => rfl)
 refine ⟨_, _, ?_, r1, r2, _, _, rfl, ?_, ⟨_, rfl⟩, hW, r3.mono (by decide) (by decide)⟩
 ·exact X31.returnOut hx Bd.returns (B d49_10) hr
 ·show Qubo0 Z  h0 n0 _ T31.heap _
  rw [e31]
  exact ⟨rfl, N31, rfl⟩
theorem d48_0 : decode k11_ 0 = .ok (.iload_n 3, 1) := by decide +kernel
theorem d48_1 : decode k11_ 1 = .ok (.iload 4, 2) := by decide +kernel
theorem d48_3 : decode k11_ 3 = .ok (.aload_n 2, 1) := by decide +kernel
theorem d48_4 : decode k11_ 4 = .ok (.invokestatic 173, 3) := by decide +kernel
theorem pd_7 : parseMethodDescriptor "(II[B)V" = some ⟨[.int, .int, (.array .byte)], none⟩ := by decide +kernel
theorem d48_7 : decode k11_ 7 = .ok (.iconst 0, 1) := by decide +kernel
theorem d48_8 : decode k11_ 8 = .ok (.istore 5, 2) := by decide +kernel
theorem d48_10 : decode k11_ 10 = .ok (.iload 5, 2) := by decide +kernel
theorem d48_12 : decode k11_ 12 = .ok (.iload 4, 2) := by decide +kernel
theorem d48_14 : decode k11_ 14 = .ok (.if_icmp .ge 27, 3) := by decide +kernel
theorem d48_41 : decode k11_ 41 = .ok (.return_, 1) := by decide +kernel
theorem ef_inf0 (m : MethodId) (x0 : Addr) (x1 : Int32) (x2 : Addr) (x3 : Int32) (x4 : Int32) : entryFrame m #[(.ref x0), (.int x1), (.ref x2), (.int x3), (.int x4)] 6 = mkF m 0 #[.val (.ref x0), .val (.int x1), .val (.ref x2), .val (.int x3), .val (.int x4), .unset] [] := by first | (simp [entryFrame, mkF, argsToLocals, Value.category]; done) | rfl
def Qinf0 (Z : State) (t2 : Addr) (k2 : ClassId) (M : Int32) (h0 : Heap) (n0 : Nat) (v : Option Value) (h : Heap) (L : List Loc) : Prop := v = none ∧ Fr n0 L ∧ Keep h0 h [t2] ∧ Arv Z h t2 k2 .byte M [] (.int 0)
theorem inf0 (l : Launch) (Z : State) (a0 : Array Value) (hw : ∀ d ∈ tables_1, d.before a0 Z = true) (ws : List Jvm.Cond) (t : Addr) (t2 : Addr) (kt : ClassId) (N : Int32) (k2 : ClassId) (M : Int32) (fm : Value) (h0 : Heap) (n0 : Nat) (O : Old Z n0 h0) (j6_ : sT0 Z (.int 1)) (j7_ : sT1 Z (.int 0)) (j8_ : sT2 Z (.int 8)) (j5_ : sT3 Z fm) (hfm : fm.isRef = true) (V_t : Arv Z h0 t kt .byte N [] (.int 0)) (V_t2 : Arv Z h0 t2 k2 .byte M [] (.int 0)) (g_t2 : n0 ≤ t2) (ntt : t ≠ t2) (hM0 : 0 ≤ M.toInt ∧ M.toInt ≤ 16) (hM : 0 ≤ M.toInt) (hN : 0 ≤ N.toInt) :
   own_MF l Z mN11 jdk_52_method_86_code 6 none ws rM6 #[(.ref t), (.int 0), (.ref t2), (.int 0), (.int 0)] h0 (Qinf0 Z t2 k2 M h0 n0) := by
 refine MetFree.of_bodySF (plainFor_of_name pn_0) hisR ?_
 intro p e s m args below meth c s₁ Bd hml0 hP hK
 obtain ⟨rfl, hZ, hh⟩ := hP
 have hx := Bd.exec
 have hby := Bd.bytes
 have B := @hb _ _ hby
 have hml : c.maxLocals = 6 := hml0
 have hown : s.vm.findClass "java/lang/StringUTF16" = some m.cls := findClass_of_methodNamed Bd.named
 have X0 : Stand p l e rM6 s m #[(.ref t), (.int 0), (.ref t2), (.int 0), (.int 0)] below meth c s₁ [] 0 0 := Stand.of_body Bd
 have e0 : s₁.heap = h0 := by rw [← hh, Bd.state]; rfl
 have N0 := Fr.nil n0
 have K0 := Keep.refl h0 [t2]
 refine own_start (ef_inf0 m t (0 : Int32) t2 (0 : Int32) (0 : Int32)) (Q := own_QE s rM6 (Qinf0 Z t2 k2 M h0 n0)) ?_
 show oF p e below (s₁.setTop (mkF m 0 #[.val (.ref t), .val (.int 0), .val (.ref t2), .val (.int 0), .val (.int 0), .unset] [])) _
 refine oG (fun _ k => XS.iloadN X0.here hx rfl (B d48_0) rfl (XS.iload X0.here hx rfl (B d48_1) rfl (XS.aloadN X0.here hx rfl (B d48_3) rfl rfl k))) ?_
 show oF p e below (s₁.setTop (mkF m 4 #[.val (.ref t), .val (.int 0), .val (.ref t2), .val (.int 0), .val (.int 0), .unset] [(.ref t2), (.int 0), (.int 0)])) _
 obtain ⟨_, _, ⟨T33, L33, k33, n33⟩, -, X33, ⟨Lc33, hQ33, l33, y33, z33⟩, st33⟩ := Jvm.LawKit.callS X0 hx (y := mN10) hown (mo hZ hw 234) (mo hZ hw 235) (mo hZ hw 222) (mo hZ hw 236) (by decide) (backOf (W := 0) (ubo0 l Z a0 hw [] t2 k2 M [] fm h0 n0 O j5_ hfm V_t2 (own_or _ (by decide) hM0.1 hM0.2) (own_sb _ hM0.1 (by rw [own_k0]; omega))) hZ (ow hw 236) (ow hw 222) (by decide) (by decide)) (g := (mkF m 4 #[.val (.ref t), .val (.int 0), .val (.ref t2), .val (.int 0), .val (.int 0), .unset] [(.ref t2), (.int 0), (.int 0)])) rfl (by rw [hml]; rfl) (argsL := [(.int 0), (.int 0), (.ref t2)]) (rest := []) (lenOf pd_7 rfl) rfl (by show 2 * 0 + _ ≤ _; exact Nat.le_of_eq rfl) (B d48_4) (fun _ _ => ⟨rfl, e0, (by decide : 0 + 0 ≤ _), (by decide : 0 + 0 ≤ _)⟩)
 dsimp only [Pt.U, Pt.locs, Pt.cells, Pt.slots] at X33 l33 y33 z33 st33 hQ33
 subst y33 z33
 obtain ⟨rfl, N33q, e33⟩ := hQ33
 refine oG st33 ?_
 have N33 := oL l33 (Fr.app N0 N33q)
 show oF p e below (T33.setTop (mkF m 7 #[.val (.ref t), .val (.int 0), .val (.ref t2), .val (.int 0), .val (.int 0), .unset] [])) _
 refine oG (fun _ k => XS.iconst X33.here hx rfl (B d48_7) (XS.istore X33.here hx rfl (B d48_8) rfl (l' := #[.val (.ref t), .val (.int 0), .val (.ref t2), .val (.int 0), .val (.int 0), .val (.int 0)]) rfl (XS.iload X33.here hx rfl (B d48_10) rfl (XS.iload X33.here hx rfl (B d48_12) rfl (XS.icmpYes X33.here hx rfl (pc0 := 14) (pc' := 41) rfl (B d48_14) rfl (flt (by decide : ¬ ((0 : Int32) < (0 : Int32)))).2.1 (by decide) (by decide) k))))) ?_
 show oF p e below (T33.setTop (mkF m 41 #[.val (.ref t), .val (.int 0), .val (.ref t2), .val (.int 0), .val (.int 0), .val (.int 0)] [])) _
 obtain ⟨fs, hr, r1, r2, hW, r3⟩ := X33.leave (v := none) (fun _ => rfl)
 refine ⟨_, _, ?_, r1, r2, _, _, rfl, ?_, ⟨_, rfl⟩, hW, r3.mono (by decide) (by decide)⟩
 ·exact X33.returnOut hx Bd.returns (B d48_41) hr
 ·show Qinf0 Z t2 k2 M h0 n0 _ T33.heap _
  rw [e33]
  exact ⟨rfl, N33, K0, V_t2⟩
theorem d47_0 : decode k12_ 0 = .ok (.aload_n 0, 1) := by decide +kernel
theorem d47_1 : decode k12_ 1 = .ok (.iload_n 1, 1) := by decide +kernel
theorem d47_2 : decode k12_ 2 = .ok (.aload_n 2, 1) := by decide +kernel
theorem d47_3 : decode k12_ 3 = .ok (.iload_n 3, 1) := by decide +kernel
theorem d47_4 : decode k12_ 4 = .ok (.iload 4, 2) := by decide +kernel
theorem d47_6 : decode k12_ 6 = .ok (.invokestatic 240, 3) := by decide +kernel
theorem pd_8 : parseMethodDescriptor "([BI[BII)V" = some ⟨[(.array .byte), .int, (.array .byte), .int, .int], none⟩ := by decide +kernel
theorem d47_9 : decode k12_ 9 = .ok (.return_, 1) := by decide +kernel
theorem pn_3 : plainName "java/lang/StringLatin1" = true := by first | (simp [plainName, overriddenIn]; done) | decide +kernel
theorem ef_lin0 (m : MethodId) (x0 : Addr) (x1 : Int32) (x2 : Addr) (x3 : Int32) (x4 : Int32) : entryFrame m #[(.ref x0), (.int x1), (.ref x2), (.int x3), (.int x4)] 5 = mkF m 0 #[.val (.ref x0), .val (.int x1), .val (.ref x2), .val (.int x3), .val (.int x4)] [] := by first | (simp [entryFrame, mkF, argsToLocals, Value.category]; done) | rfl
def Qlin0 (Z : State) (t2 : Addr) (k2 : ClassId) (M : Int32) (h0 : Heap) (n0 : Nat) (v : Option Value) (h : Heap) (L : List Loc) : Prop := v = none ∧ Fr n0 L ∧ Keep h0 h [t2] ∧ Arv Z h t2 k2 .byte M [] (.int 0)
theorem lin0 (l : Launch) (Z : State) (a0 : Array Value) (hw : ∀ d ∈ tables_1, d.before a0 Z = true) (ws : List Jvm.Cond) (t : Addr) (t2 : Addr) (kt : ClassId) (N : Int32) (k2 : ClassId) (M : Int32) (fm : Value) (h0 : Heap) (n0 : Nat) (O : Old Z n0 h0) (j6_ : sT0 Z (.int 1)) (j7_ : sT1 Z (.int 0)) (j8_ : sT2 Z (.int 8)) (j5_ : sT3 Z fm) (hfm : fm.isRef = true) (V_t : Arv Z h0 t kt .byte N [] (.int 0)) (V_t2 : Arv Z h0 t2 k2 .byte M [] (.int 0)) (g_t2 : n0 ≤ t2) (ntt : t ≠ t2) (hM0 : 0 ≤ M.toInt ∧ M.toInt ≤ 16) (hM : 0 ≤ M.toInt) (hN : 0 ≤ N.toInt) :
   own_MF l Z mN12 jdk_43_method_50_code 5 none ws rM7 #[(.ref t), (.int 0), (.ref t2), (.int 0), (.int 0)] h0 (Qlin0 Z t2 k2 M h0 n0) := by
 refine MetFree.of_bodySF (plainFor_of_name pn_3) hisR ?_
 intro p e s m args below meth c s₁ Bd hml0 hP hK
 obtain ⟨rfl, hZ, hh⟩ := hP
 have hx := Bd.exec
 have hby := Bd.bytes
 have B := @hb _ _ hby
 have hml : c.maxLocals = 5 := hml0
 have hown : s.vm.findClass "java/lang/StringLatin1" = some m.cls := findClass_of_methodNamed Bd.named
 have X0 : Stand p l e rM7 s m #[(.ref t), (.int 0), (.ref t2), (.int 0), (.int 0)] below meth c s₁ [] 0 0 := Stand.of_body Bd
 have e0 : s₁.heap = h0 := by rw [← hh, Bd.state]; rfl
 have N0 := Fr.nil n0
 have K0 := Keep.refl h0 [t2]
 refine own_start (ef_lin0 m t (0 : Int32) t2 (0 : Int32) (0 : Int32)) (Q := own_QE s rM7 (Qlin0 Z t2 k2 M h0 n0)) ?_
 show oF p e below (s₁.setTop (mkF m 0 #[.val (.ref t), .val (.int 0), .val (.ref t2), .val (.int 0), .val (.int 0)] [])) _
 refine oG (fun _ k => XS.aloadN X0.here hx rfl (B d47_0) rfl rfl (XS.iloadN X0.here hx rfl (B d47_1) rfl (XS.aloadN X0.here hx rfl (B d47_2) rfl rfl (XS.iloadN X0.here hx rfl (B d47_3) rfl (XS.iload X0.here hx rfl (B d47_4) rfl k))))) ?_
 show oF p e below (s₁.setTop (mkF m 6 #[.val (.ref t), .val (.int 0), .val (.ref t2), .val (.int 0), .val (.int 0)] [(.int 0), (.int 0), (.ref t2), (.int 0), (.ref t)])) _
 obtain ⟨_, _, ⟨T35, L35, k35, n35⟩, -, X35, ⟨Lc35, hQ35, l35, y35, z35⟩, st35⟩ := Jvm.LawKit.callS X0 hx (y := mN11) hown (mo hZ hw 231) (mo hZ hw 232) (mo hZ hw 222) (mo hZ hw 233) (by decide) (backOf (W := 0) (inf0 l Z a0 hw [] t t2 kt N k2 M fm h0 n0 O j6_ j7_ j8_ j5_ hfm V_t V_t2 g_t2 ntt hM0 hM hN) hZ (ow hw 233) (ow hw 222) (by decide) (by decide)) (g := (mkF m 6 #[.val (.ref t), .val (.int 0), .val (.ref t2), .val (.int 0), .val (.int 0)] [(.int 0), (.int 0), (.ref t2), (.int 0), (.ref t)])) rfl (by rw [hml]; rfl) (argsL := [(.ref t), (.int 0), (.ref t2), (.int 0), (.int 0)]) (rest := []) (lenOf pd_8 rfl) rfl (by show 2 * 0 + _ ≤ _; exact Nat.le_of_eq rfl) (B d47_6) (fun _ _ => ⟨rfl, e0, (by decide : 0 + 0 ≤ _), (by decide : 0 + 0 ≤ _)⟩)
 dsimp only [Pt.U, Pt.locs, Pt.cells, Pt.slots] at X35 l35 y35 z35 st35 hQ35
 subst y35 z35
 obtain ⟨rfl, N35q, Kq35, P35_0⟩ := hQ35
 refine oG st35 ?_
 have N35 := oL l35 (Fr.app N0 N35q)
 have V_t := V_t.keep Kq35 (ninS ntt nin0)
 clear V_t2
 have O := O.keep Kq35 (allS g_t2 all0)
 have K36 := K0.trans Kq35 (allS (Or.inl (List.mem_of_getElem? (i := 0) rfl)) all0)
 have V_t2 := P35_0
 show oF p e below (T35.setTop (mkF m 9 #[.val (.ref t), .val (.int 0), .val (.ref t2), .val (.int 0), .val (.int 0)] [])) _
 obtain ⟨fs, hr, r1, r2, hW, r3⟩ := X35.leave (v := none) (fun _ => rfl)
 refine ⟨_, _, ?_, r1, r2, _, _, rfl, ?_, ⟨_, rfl⟩, hW, r3.mono (by decide) (by decide)⟩
 ·exact X35.returnOut hx Bd.returns (B d47_9) hr
 ·show Qlin0 Z t2 k2 M h0 n0 _ T35.heap _
  exact ⟨rfl, N35, K36, V_t2⟩
def Qubo1 (Z : State)  (h0 : Heap) (n0 : Nat) (v : Option Value) (h : Heap) (L : List Loc) : Prop := v = none ∧ Fr n0 L ∧ h = h0
theorem ubo1 (l : Launch) (Z : State) (a0 : Array Value) (hw : ∀ d ∈ tables_1, d.before a0 Z = true) (ws : List Jvm.Cond) (t : Addr) (kt : ClassId) (M : Int32) (vs : List Value) (fm : Value) (h0 : Heap) (n0 : Nat) (O : Old Z n0 h0) (j5_ : sT3 Z fm) (hfm : fm.isRef = true) (V_t : Arv Z h0 t kt .byte M vs (.int 0)) (h1 : ¬ ((((M >>> ((1 : Int32) &&& 31)) ||| (0 : Int32)) ||| (1 : Int32)) < (0 : Int32))) (h2 : ¬ (((M >>> ((1 : Int32) &&& 31)) - (0 : Int32)) < (1 : Int32))) :
   own_MF l Z mN10 jdk_52_method_94_code 3 none ws rM5 #[(.int 0), (.int 1), (.ref t)] h0 (Qubo1 Z  h0 n0) := by
 refine MetFree.of_bodySF (plainFor_of_name pn_0) hisR ?_
 intro p e s m args below meth c s₁ Bd hml0 hP hK
 obtain ⟨rfl, hZ, hh⟩ := hP
 have hx := Bd.exec
 have hby := Bd.bytes
 have B := @hb _ _ hby
 have hml : c.maxLocals = 3 := hml0
 have hown : s.vm.findClass "java/lang/StringUTF16" = some m.cls := findClass_of_methodNamed Bd.named
 have X0 : Stand p l e rM5 s m #[(.int 0), (.int 1), (.ref t)] below meth c s₁ [] 0 0 := Stand.of_body Bd
 have e0 : s₁.heap = h0 := by rw [← hh, Bd.state]; rfl
 have N0 := Fr.nil n0
 refine own_start (ef_ubo0 m (0 : Int32) (1 : Int32) t) (Q := own_QE s rM5 (Qubo1 Z  h0 n0)) ?_
 show oF p e below (s₁.setTop (mkF m 0 #[.val (.int 0), .val (.int 1), .val (.ref t)] [])) _
 refine oG (fun _ k => XS.iloadN X0.here hx rfl (B d49_0) rfl (XS.iloadN X0.here hx rfl (B d49_1) rfl (XS.aloadN X0.here hx rfl (B d49_2) rfl rfl k))) ?_
 show oF p e below (s₁.setTop (mkF m 3 #[.val (.int 0), .val (.int 1), .val (.ref t)] [(.ref t), (.int 1), (.int 0)])) _
 obtain ⟨_, _, ⟨T38, L38, k38, n38⟩, -, X38, ⟨Lc38, hQ38, l38, y38, z38⟩, st38⟩ := Jvm.LawKit.callS X0 hx (y := mN0) hown (mo hZ hw 237) (mo hZ hw 238) (mo hZ hw 222) (mo hZ hw 239) (by decide) (backOf (W := 2) (ul l Z a0 hw [] t kt M vs h0 n0 O V_t) hZ (ow hw 239) (ow hw 222) (by decide) (by decide)) (g := (mkF m 3 #[.val (.int 0), .val (.int 1), .val (.ref t)] [(.ref t), (.int 1), (.int 0)])) rfl (by rw [hml]; rfl) (argsL := [(.ref t)]) (rest := [(.int 1), (.int 0)]) (lenOf pd_1 rfl) rfl (by show 2 * 0 + _ ≤ _; exact Nat.le_of_eq rfl) (B d49_3) (fun _ _ => ⟨rfl, e0, (by decide : 0 + 0 ≤ _), (by decide : 0 + 0 ≤ _)⟩)
 dsimp only [Pt.U, Pt.locs, Pt.cells, Pt.slots] at X38 l38 y38 z38 st38 hQ38
 subst y38 z38
 obtain ⟨rfl, N38q, e38⟩ := hQ38
 refine oG st38 ?_
 have N38 := oL l38 (Fr.app N0 N38q)
 obtain ⟨_, _, ⟨T39, L39, k39, n39⟩, -, X39, ⟨Lc39, hQ39, l39, y39, z39⟩, st39⟩ := Jvm.LawKit.callS X38 hx (y := mN7) hown (mo hZ hw 240) (mo hZ hw 241) (mo hZ hw 30) (mo hZ hw 242) (by decide) (backOf (W := 0) (cbo l Z a0 hw [] (0 : Int32) (1 : Int32) (M >>> ((1 : Int32) &&& 31)) fm h0 n0 O j5_ hfm h1 h2) hZ (ow hw 242) (ow hw 30) (by decide) (by decide)) (g := (mkF m 6 #[.val (.int 0), .val (.int 1), .val (.ref t)] [(.int (M >>> ((1 : Int32) &&& 31))), (.int 1), (.int 0)])) rfl (by rw [hml]; rfl) (argsL := [(.int 0), (.int 1), (.int (M >>> ((1 : Int32) &&& 31)))]) (rest := []) (lenOf pd_6 rfl) rfl (by show 2 * 0 + _ ≤ _; exact Nat.le_of_eq rfl) (B d49_6) (fun _ _ => ⟨rfl, e38, (by decide : 0 + 0 ≤ _), (by decide : 0 + 0 ≤ _)⟩)
 dsimp only [Pt.U, Pt.locs, Pt.cells, Pt.slots] at X39 l39 y39 z39 st39 hQ39
 subst y39 z39
 obtain ⟨rfl, N39q, e39⟩ := hQ39
 refine oG st39 ?_
 have N39 := oL l39 (Fr.app N38 N39q)
 show oF p e below (T39.setTop (mkF m 9 #[.val (.int 0), .val (.int 1), .val (.ref t)] [(.int 0)])) _
 refine oG (fun _ k => XS.pop X39.here hx rfl (B d49_9) rfl rfl k) ?_
 show oF p e below (T39.setTop (mkF m 10 #[.val (.int 0), .val (.int 1), .val (.ref t)] [])) _
 obtain ⟨fs, hr, r1, r2, hW, r3⟩ := X39.leave (v := none) (fun _ => rfl)
 refine ⟨_, _, ?_, r1, r2, _, _, rfl, ?_, ⟨_, rfl⟩, hW, r3.mono (by decide) (by decide)⟩
 ·exact X39.returnOut hx Bd.returns (B d49_10) hr
 ·show Qubo1 Z  h0 n0 _ T39.heap _
  rw [e39]
  exact ⟨rfl, N39, rfl⟩
theorem d48_17 : decode k11_ 17 = .ok (.aload_n 2, 1) := by decide +kernel
theorem d48_18 : decode k11_ 18 = .ok (.iload_n 3, 1) := by decide +kernel
theorem d48_19 : decode k11_ 19 = .ok (.iinc 3 1, 3) := by decide +kernel
theorem d48_22 : decode k11_ 22 = .ok (.aload_n 0, 1) := by decide +kernel
theorem d48_23 : decode k11_ 23 = .ok (.iload_n 1, 1) := by decide +kernel
theorem d48_24 : decode k11_ 24 = .ok (.iinc 1 1, 3) := by decide +kernel
theorem d48_27 : decode k11_ 27 = .ok (.baload, 1) := by decide +kernel
theorem d48_28 : decode k11_ 28 = .ok (.sipush 255, 3) := by decide +kernel
theorem d48_31 : decode k11_ 31 = .ok (.iand, 1) := by decide +kernel
theorem d48_32 : decode k11_ 32 = .ok (.invokestatic 111, 3) := by decide +kernel
theorem d48_35 : decode k11_ 35 = .ok (.iinc 5 1, 3) := by decide +kernel
theorem d48_38 : decode k11_ 38 = .ok (.goto (-28), 3) := by decide +kernel
def Qinf1 (Z : State) (t2 : Addr) (k2 : ClassId) (M : Int32) (i0_ : Int32) (h0 : Heap) (n0 : Nat) (v : Option Value) (h : Heap) (L : List Loc) : Prop := v = none ∧ Fr n0 L ∧ Keep h0 h [t2] ∧ Arv Z h t2 k2 .byte M [(.int (own_lo (i0_ &&& (255 : Int32)))), (.int (own_hi (i0_ &&& (255 : Int32))))] (.int 0)
theorem inf1 (l : Launch) (Z : State) (a0 : Array Value) (hw : ∀ d ∈ tables_1, d.before a0 Z = true) (ws : List Jvm.Cond) (t : Addr) (t2 : Addr) (kt : ClassId) (N : Int32) (k2 : ClassId) (M : Int32) (i0_ : Int32) (fm : Value) (h0 : Heap) (n0 : Nat) (O : Old Z n0 h0) (j6_ : sT0 Z (.int 1)) (j7_ : sT1 Z (.int 0)) (j8_ : sT2 Z (.int 8)) (j5_ : sT3 Z fm) (hfm : fm.isRef = true) (V_t : Arv Z h0 t kt .byte N [(.int i0_)] (.int 0)) (V_t2 : Arv Z h0 t2 k2 .byte M [] (.int 0)) (g_t2 : n0 ≤ t2) (ntt : t ≠ t2) (hM0 : 0 ≤ M.toInt ∧ M.toInt ≤ 16) (hM : 2 ≤ M.toInt) (hN : 1 ≤ N.toInt) :
   own_MF l Z mN11 jdk_52_method_86_code 6 none ws rM6 #[(.ref t), (.int 0), (.ref t2), (.int 0), (.int 1)] h0 (Qinf1 Z t2 k2 M i0_ h0 n0) := by
 refine MetFree.of_bodySF (plainFor_of_name pn_0) hisR ?_
 intro p e s m args below meth c s₁ Bd hml0 hP hK
 obtain ⟨rfl, hZ, hh⟩ := hP
 have hx := Bd.exec
 have hby := Bd.bytes
 have B := @hb _ _ hby
 have hml : c.maxLocals = 6 := hml0
 have hown : s.vm.findClass "java/lang/StringUTF16" = some m.cls := findClass_of_methodNamed Bd.named
 have X0 : Stand p l e rM6 s m #[(.ref t), (.int 0), (.ref t2), (.int 0), (.int 1)] below meth c s₁ [] 0 0 := Stand.of_body Bd
 have e0 : s₁.heap = h0 := by rw [← hh, Bd.state]; rfl
 have N0 := Fr.nil n0
 have K0 := Keep.refl h0 [t2]
 refine own_start (ef_inf0 m t (0 : Int32) t2 (0 : Int32) (1 : Int32)) (Q := own_QE s rM6 (Qinf1 Z t2 k2 M i0_ h0 n0)) ?_
 show oF p e below (s₁.setTop (mkF m 0 #[.val (.ref t), .val (.int 0), .val (.ref t2), .val (.int 0), .val (.int 1), .unset] [])) _
 refine oG (fun _ k => XS.iloadN X0.here hx rfl (B d48_0) rfl (XS.iload X0.here hx rfl (B d48_1) rfl (XS.aloadN X0.here hx rfl (B d48_3) rfl rfl k))) ?_
 show oF p e below (s₁.setTop (mkF m 4 #[.val (.ref t), .val (.int 0), .val (.ref t2), .val (.int 0), .val (.int 1), .unset] [(.ref t2), (.int 1), (.int 0)])) _
 obtain ⟨_, _, ⟨T41, L41, k41, n41⟩, -, X41, ⟨Lc41, hQ41, l41, y41, z41⟩, st41⟩ := Jvm.LawKit.callS X0 hx (y := mN10) hown (mo hZ hw 234) (mo hZ hw 235) (mo hZ hw 222) (mo hZ hw 236) (by decide) (backOf (W := 0) (ubo1 l Z a0 hw [] t2 k2 M [] fm h0 n0 O j5_ hfm V_t2 (own_or _ (by decide) hM0.1 hM0.2) (own_sb _ hM0.1 (by rw [own_k1]; omega))) hZ (ow hw 236) (ow hw 222) (by decide) (by decide)) (g := (mkF m 4 #[.val (.ref t), .val (.int 0), .val (.ref t2), .val (.int 0), .val (.int 1), .unset] [(.ref t2), (.int 1), (.int 0)])) rfl (by rw [hml]; rfl) (argsL := [(.int 0), (.int 1), (.ref t2)]) (rest := []) (lenOf pd_7 rfl) rfl (by show 2 * 0 + _ ≤ _; exact Nat.le_of_eq rfl) (B d48_4) (fun _ _ => ⟨rfl, e0, (by decide : 0 + 0 ≤ _), (by decide : 0 + 0 ≤ _)⟩)
 dsimp only [Pt.U, Pt.locs, Pt.cells, Pt.slots] at X41 l41 y41 z41 st41 hQ41
 subst y41 z41
 obtain ⟨rfl, N41q, e41⟩ := hQ41
 refine oG st41 ?_
 have N41 := oL l41 (Fr.app N0 N41q)
 show oF p e below (T41.setTop (mkF m 7 #[.val (.ref t), .val (.int 0), .val (.ref t2), .val (.int 0), .val (.int 1), .unset] [])) _
 refine oG (fun _ k => XS.iconst X41.here hx rfl (B d48_7) (XS.istore X41.here hx rfl (B d48_8) rfl (l' := #[.val (.ref t), .val (.int 0), .val (.ref t2), .val (.int 0), .val (.int 1), .val (.int 0)]) rfl (XS.iload X41.here hx rfl (B d48_10) rfl (XS.iload X41.here hx rfl (B d48_12) rfl (XS.icmpNo X41.here hx rfl (B d48_14) rfl (tlt (by decide : (0 : Int32) < (1 : Int32))).2.1 (XS.aloadN X41.here hx rfl (B d48_17) rfl rfl (XS.iloadN X41.here hx rfl (B d48_18) rfl (XS.iinc X41.here hx rfl (B d48_19) rfl (l' := #[.val (.ref t), .val (.int 0), .val (.ref t2), .val (.int 1), .val (.int 1), .val (.int 0)]) rfl (XS.aloadN X41.here hx rfl (B d48_22) rfl rfl (XS.iloadN X41.here hx rfl (B d48_23) rfl k)))))))))) ?_
 show oF p e below (T41.setTop (mkF m 24 #[.val (.ref t), .val (.int 0), .val (.ref t2), .val (.int 1), .val (.int 1), .val (.int 0)] [(.int 0), (.ref t), (.int 0), (.ref t2)])) _
 refine oG (fun _ k => XS.iinc X41.here hx rfl (B d48_24) rfl (l' := #[.val (.ref t), .val (.int 1), .val (.ref t2), .val (.int 1), .val (.int 1), .val (.int 0)]) rfl k) ?_
 show oF p e below (T41.setTop (mkF m 27 #[.val (.ref t), .val (.int 1), .val (.ref t2), .val (.int 1), .val (.int 1), .val (.int 0)] [(.int 0), (.ref t), (.int 0), (.ref t2)])) _
 obtain ⟨cl42, A42, q42, S42, M42, H42, G42⟩ := id V_t
 have hin42 : ¬ ((0 : Int32) < 0 ∨ cl42.slots.size ≤ ((0 : Int32)).toNatClampNeg) := inb_of S42 ⟨by decide, (by rw [Int32.lt_iff_toInt_lt, own_k0]; omega)⟩
 have hat42 : cl42.slots[((0 : Int32)).toNatClampNeg]? = some (.int i0_) := Has.at H42 hin42 rfl
 refine oG (fun _ k => X41.baloadBytes hx (j := (0 : Int32)) (v := (.int i0_)) (own_eqE e41 A42.1) (State.isArrayOf_alike hZ.alike A42.2.1) A42.2.2 hin42 hat42 (g := (mkF m 27 #[.val (.ref t), .val (.int 1), .val (.ref t2), .val (.int 1), .val (.int 1), .val (.int 0)] [(.int 0), (.ref t), (.int 0), (.ref t2)])) rfl rfl (B d48_27) _ k) ?_
 show oF p e below (T41.setTop (mkF m 28 #[.val (.ref t), .val (.int 1), .val (.ref t2), .val (.int 1), .val (.int 1), .val (.int 0)] [(.int i0_), (.int 0), (.ref t2)])) _
 refine oG (fun _ k => XS.sipush X41.here hx rfl (B d48_28) (XS.iand X41.here hx rfl (B d48_31) rfl k)) ?_
 show oF p e below (T41.setTop (mkF m 32 #[.val (.ref t), .val (.int 1), .val (.ref t2), .val (.int 1), .val (.int 1), .val (.int 0)] [(.int (i0_ &&& (255 : Int32))), (.int 0), (.ref t2)])) _
 obtain ⟨_, _, ⟨T43, L43, k43, n43⟩, -, X43, ⟨Lc43, hQ43, l43, y43, z43⟩, st43⟩ := Jvm.LawKit.callS X41 hx (y := mN1) hown (mo hZ hw 261) (mo hZ hw 262) (mo hZ hw 222) (mo hZ hw 263) (by decide) (backOf (W := 0) (pt l Z a0 hw [] t2 (0 : Int32) (i0_ &&& (255 : Int32)) k2 M [] h0 n0 O j6_ j7_ j8_ V_t2 g_t2 (by rw [own_k0] <;> rfl) (by simp only [List.length_append, List.length_cons, List.length_nil]; omega) hM0.2) hZ (ow hw 263) (ow hw 222) (by decide) (by decide)) (g := (mkF m 32 #[.val (.ref t), .val (.int 1), .val (.ref t2), .val (.int 1), .val (.int 1), .val (.int 0)] [(.int (i0_ &&& (255 : Int32))), (.int 0), (.ref t2)])) rfl (by rw [hml]; rfl) (argsL := [(.ref t2), (.int 0), (.int (i0_ &&& (255 : Int32)))]) (rest := []) (lenOf pd_4 rfl) rfl (by show 2 * 0 + _ ≤ _; exact Nat.le_of_eq rfl) (B d48_32) (fun _ _ => ⟨rfl, e41, (by decide : 0 + 0 ≤ _), (by decide : 0 + 0 ≤ _)⟩)
 dsimp only [Pt.U, Pt.locs, Pt.cells, Pt.slots] at X43 l43 y43 z43 st43 hQ43
 subst y43 z43
 obtain ⟨rfl, N43q, Kq43, P43_0⟩ := hQ43
 refine oG st43 ?_
 have N43 := oL l43 (Fr.app N41 N43q)
 have V_t := V_t.keep Kq43 (ninS ntt nin0)
 clear V_t2
 have O := O.keep Kq43 (allS g_t2 all0)
 have K44 := K0.trans Kq43 (allS (Or.inl (List.mem_of_getElem? (i := 0) rfl)) all0)
 have V_t2 := P43_0
 show oF p e below (T43.setTop (mkF m 35 #[.val (.ref t), .val (.int 1), .val (.ref t2), .val (.int 1), .val (.int 1), .val (.int 0)] [])) _
 refine oG (fun _ k => XS.iinc X43.here hx rfl (B d48_35) rfl (l' := #[.val (.ref t), .val (.int 1), .val (.ref t2), .val (.int 1), .val (.int 1), .val (.int 1)]) rfl (XS.goto X43.here hx rfl (pc0 := 38) (pc' := 10) rfl (B d48_38) (by decide) (by decide) (XS.iload X43.here hx rfl (B d48_10) rfl (XS.iload X43.here hx rfl (B d48_12) rfl (XS.icmpYes X43.here hx rfl (pc0 := 14) (pc' := 41) rfl (B d48_14) rfl (flt (by decide : ¬ ((1 : Int32) < (1 : Int32)))).2.1 (by decide) (by decide) k))))) ?_
 show oF p e below (T43.setTop (mkF m 41 #[.val (.ref t), .val (.int 1), .val (.ref t2), .val (.int 1), .val (.int 1), .val (.int 1)] [])) _
 obtain ⟨fs, hr, r1, r2, hW, r3⟩ := X43.leave (v := none) (fun _ => rfl)
 refine ⟨_, _, ?_, r1, r2, _, _, rfl, ?_, ⟨_, rfl⟩, hW, r3.mono (by decide) (by decide)⟩
 ·exact X43.returnOut hx Bd.returns (B d48_41) hr
 ·show Qinf1 Z t2 k2 M i0_ h0 n0 _ T43.heap _
  exact ⟨rfl, N43, K44, V_t2⟩
def Qlin1 (Z : State) (t2 : Addr) (k2 : ClassId) (M : Int32) (i0_ : Int32) (h0 : Heap) (n0 : Nat) (v : Option Value) (h : Heap) (L : List Loc) : Prop := v = none ∧ Fr n0 L ∧ Keep h0 h [t2] ∧ Arv Z h t2 k2 .byte M [(.int (own_lo (i0_ &&& (255 : Int32)))), (.int (own_hi (i0_ &&& (255 : Int32))))] (.int 0)
theorem lin1 (l : Launch) (Z : State) (a0 : Array Value) (hw : ∀ d ∈ tables_1, d.before a0 Z = true) (ws : List Jvm.Cond) (t : Addr) (t2 : Addr) (kt : ClassId) (N : Int32) (k2 : ClassId) (M : Int32) (i0_ : Int32) (fm : Value) (h0 : Heap) (n0 : Nat) (O : Old Z n0 h0) (j6_ : sT0 Z (.int 1)) (j7_ : sT1 Z (.int 0)) (j8_ : sT2 Z (.int 8)) (j5_ : sT3 Z fm) (hfm : fm.isRef = true) (V_t : Arv Z h0 t kt .byte N [(.int i0_)] (.int 0)) (V_t2 : Arv Z h0 t2 k2 .byte M [] (.int 0)) (g_t2 : n0 ≤ t2) (ntt : t ≠ t2) (hM0 : 0 ≤ M.toInt ∧ M.toInt ≤ 16) (hM : 2 ≤ M.toInt) (hN : 1 ≤ N.toInt) :
   own_MF l Z mN12 jdk_43_method_50_code 5 none ws rM7 #[(.ref t), (.int 0), (.ref t2), (.int 0), (.int 1)] h0 (Qlin1 Z t2 k2 M i0_ h0 n0) := by
 refine MetFree.of_bodySF (plainFor_of_name pn_3) hisR ?_
 intro p e s m args below meth c s₁ Bd hml0 hP hK
 obtain ⟨rfl, hZ, hh⟩ := hP
 have hx := Bd.exec
 have hby := Bd.bytes
 have B := @hb _ _ hby
 have hml : c.maxLocals = 5 := hml0
 have hown : s.vm.findClass "java/lang/StringLatin1" = some m.cls := findClass_of_methodNamed Bd.named
 have X0 : Stand p l e rM7 s m #[(.ref t), (.int 0), (.ref t2), (.int 0), (.int 1)] below meth c s₁ [] 0 0 := Stand.of_body Bd
 have e0 : s₁.heap = h0 := by rw [← hh, Bd.state]; rfl
 have N0 := Fr.nil n0
 have K0 := Keep.refl h0 [t2]
 refine own_start (ef_lin0 m t (0 : Int32) t2 (0 : Int32) (1 : Int32)) (Q := own_QE s rM7 (Qlin1 Z t2 k2 M i0_ h0 n0)) ?_
 show oF p e below (s₁.setTop (mkF m 0 #[.val (.ref t), .val (.int 0), .val (.ref t2), .val (.int 0), .val (.int 1)] [])) _
 refine oG (fun _ k => XS.aloadN X0.here hx rfl (B d47_0) rfl rfl (XS.iloadN X0.here hx rfl (B d47_1) rfl (XS.aloadN X0.here hx rfl (B d47_2) rfl rfl (XS.iloadN X0.here hx rfl (B d47_3) rfl (XS.iload X0.here hx rfl (B d47_4) rfl k))))) ?_
 show oF p e below (s₁.setTop (mkF m 6 #[.val (.ref t), .val (.int 0), .val (.ref t2), .val (.int 0), .val (.int 1)] [(.int 1), (.int 0), (.ref t2), (.int 0), (.ref t)])) _
 obtain ⟨_, _, ⟨T46, L46, k46, n46⟩, -, X46, ⟨Lc46, hQ46, l46, y46, z46⟩, st46⟩ := Jvm.LawKit.callS X0 hx (y := mN11) hown (mo hZ hw 231) (mo hZ hw 232) (mo hZ hw 222) (mo hZ hw 233) (by decide) (backOf (W := 0) (inf1 l Z a0 hw [] t t2 kt N k2 M i0_ fm h0 n0 O j6_ j7_ j8_ j5_ hfm V_t V_t2 g_t2 ntt hM0 hM hN) hZ (ow hw 233) (ow hw 222) (by decide) (by decide)) (g := (mkF m 6 #[.val (.ref t), .val (.int 0), .val (.ref t2), .val (.int 0), .val (.int 1)] [(.int 1), (.int 0), (.ref t2), (.int 0), (.ref t)])) rfl (by rw [hml]; rfl) (argsL := [(.ref t), (.int 0), (.ref t2), (.int 0), (.int 1)]) (rest := []) (lenOf pd_8 rfl) rfl (by show 2 * 0 + _ ≤ _; exact Nat.le_of_eq rfl) (B d47_6) (fun _ _ => ⟨rfl, e0, (by decide : 0 + 0 ≤ _), (by decide : 0 + 0 ≤ _)⟩)
 dsimp only [Pt.U, Pt.locs, Pt.cells, Pt.slots] at X46 l46 y46 z46 st46 hQ46
 subst y46 z46
 obtain ⟨rfl, N46q, Kq46, P46_0⟩ := hQ46
 refine oG st46 ?_
 have N46 := oL l46 (Fr.app N0 N46q)
 have V_t := V_t.keep Kq46 (ninS ntt nin0)
 clear V_t2
 have O := O.keep Kq46 (allS g_t2 all0)
 have K47 := K0.trans Kq46 (allS (Or.inl (List.mem_of_getElem? (i := 0) rfl)) all0)
 have V_t2 := P46_0
 show oF p e below (T46.setTop (mkF m 9 #[.val (.ref t), .val (.int 0), .val (.ref t2), .val (.int 0), .val (.int 1)] [])) _
 obtain ⟨fs, hr, r1, r2, hW, r3⟩ := X46.leave (v := none) (fun _ => rfl)
 refine ⟨_, _, ?_, r1, r2, _, _, rfl, ?_, ⟨_, rfl⟩, hW, r3.mono (by decide) (by decide)⟩
 ·exact X46.returnOut hx Bd.returns (B d47_9) hr
 ·show Qlin1 Z t2 k2 M i0_ h0 n0 _ T46.heap _
  exact ⟨rfl, N46, K47, V_t2⟩
theorem d46_0 : decode k13_ 0 = .ok (.iload_n 0, 1) := by decide +kernel
theorem d46_1 : decode k13_ 1 = .ok (.ifCond .ge 11, 3) := by decide +kernel
theorem d46_12 : decode k13_ 12 = .ok (.iload_n 0, 1) := by decide +kernel
theorem d46_13 : decode k13_ 13 = .ok (.ldc 20, 2) := by decide +kernel
theorem d46_15 : decode k13_ 15 = .ok (.if_icmp .lt 40, 3) := by decide +kernel
theorem d46_55 : decode k13_ 55 = .ok (.iload_n 0, 1) := by decide +kernel
theorem d46_56 : decode k13_ 56 = .ok (.iconst 1, 1) := by decide +kernel
theorem d46_57 : decode k13_ 57 = .ok (.ishl, 1) := by decide +kernel
theorem d46_58 : decode k13_ 58 = .ok (.ireturn, 1) := by decide +kernel
theorem ef_nbl (m : MethodId) (x0 : Int32) : entryFrame m #[(.int x0)] 1 = mkF m 0 #[.val (.int x0)] [] := by first | (simp [entryFrame, mkF, argsToLocals, Value.category]; done) | rfl
def Qnbl (Z : State) (N : Int32) (h0 : Heap) (n0 : Nat) (v : Option Value) (h : Heap) (L : List Loc) : Prop := v = some (.int (N <<< ((1 : Int32) &&& 31))) ∧ Fr n0 L ∧ h = h0
theorem nbl (l : Launch) (Z : State) (a0 : Array Value) (hw : ∀ d ∈ tables_1, d.before a0 Z = true) (ws : List Jvm.Cond) (N : Int32) (h0 : Heap) (n0 : Nat) (hq0 : ¬ (N < (0 : Int32))) (hq1 : N < (1073741823 : Int32)) :
   own_MF l Z mN13 jdk_52_method_3_code 1 (some .int) ws rM0 #[(.int N)] h0 (Qnbl Z N h0 n0) := by
 refine MetFree.of_bodySF (plainFor_of_name pn_0) hisR ?_
 intro p e s m args below meth c s₁ Bd hml0 hP hK
 obtain ⟨rfl, hZ, hh⟩ := hP
 have hx := Bd.exec
 have hby := Bd.bytes
 have B := @hb _ _ hby
 have hml : c.maxLocals = 1 := hml0
 have hown : s.vm.findClass "java/lang/StringUTF16" = some m.cls := findClass_of_methodNamed Bd.named
 have X0 : Stand p l e rM0 s m #[(.int N)] below meth c s₁ [] 0 0 := Stand.of_body Bd
 have e0 : s₁.heap = h0 := by rw [← hh, Bd.state]; rfl
 have N0 := Fr.nil n0
 refine own_start (ef_nbl m N) (Q := own_QE s rM0 (Qnbl Z N h0 n0)) ?_
 show oF p e below (s₁.setTop (mkF m 0 #[.val (.int N)] [])) _
 refine oG (fun _ k => XS.iloadN X0.here hx rfl (B d46_0) rfl (XS.ifYes X0.here hx rfl (pc0 := 1) (pc' := 12) rfl (B d46_1) rfl ((if0 _ _).trans (flt hq0).2.1) (by decide) (by decide) (XS.iloadN X0.here hx rfl (B d46_12) rfl k))) ?_
 show oF p e below (s₁.setTop (mkF m 13 #[.val (.int N)] [(.int N)])) _
 refine oG (fun _ k => X0.ldcInt hx hown (mo hZ hw 227) (g := (mkF m 13 #[.val (.int N)] [(.int N)])) rfl (B d46_13) _ k) ?_
 show oF p e below (s₁.setTop (mkF m 15 #[.val (.int N)] [(.int 1073741823), (.int N)])) _
 refine oG (fun _ k => XS.icmpYes X0.here hx rfl (pc0 := 15) (pc' := 55) rfl (B d46_15) rfl (tlt hq1).1 (by decide) (by decide) (XS.iloadN X0.here hx rfl (B d46_55) rfl (XS.iconst X0.here hx rfl (B d46_56) (XS.ishl X0.here hx rfl (B d46_57) rfl k)))) ?_
 show oF p e below (s₁.setTop (mkF m 58 #[.val (.int N)] [(.int (N <<< ((1 : Int32) &&& 31)))])) _
 obtain ⟨fs, hr, r1, r2, hW, r3⟩ := X0.leave (v := some (.int (N <<< ((1 : Int32) &&& 31)))) (fun h => by rw [Bd.returns] at h; cases h)
 refine ⟨_, _, ?_, r1, r2, _, _, rfl, ?_, ⟨_, rfl⟩, hW, r3.mono (by decide) (by decide)⟩
 ·exact own_retI X0 hx Bd.returns (B d46_58) hr
 ·show Qnbl Z N h0 n0 _ s₁.heap _
  rw [e0]
  exact ⟨rfl, N0, rfl⟩
theorem own_big {N : Int32} (h : N.toInt ≤ 8) : N < (1073741823 : Int32) := by
 rw [Int32.lt_iff_toInt_lt]; have e : (1073741823 : Int32).toInt = 1073741823 := by decide
 omega
theorem own_x2n {N : Int32} (h0 : 0 ≤ N.toInt) (h8 : N.toInt ≤ 8) : ¬ ((N <<< ((1 : Int32) &&& 31)) < 0) := own_nn (by have := own_x2i h0 h8; show 0 ≤ (own_x2 N).toInt; omega)
theorem own_x2c {N : Int32} (h0 : 0 ≤ N.toInt) (h8 : N.toInt ≤ 8) : (N <<< ((1 : Int32) &&& 31)).toNatClampNeg ≤ 16 := by
 have h := own_x2i h0 h8
 have q := own_cn (N := own_x2 N) (by omega)
 show (own_x2 N).toNatClampNeg ≤ 16
 omega
theorem d45_0 : decode k14_ 0 = .ok (.iload_n 0, 1) := by decide +kernel
theorem d45_1 : decode k14_ 1 = .ok (.invokestatic 11, 3) := by decide +kernel
theorem pd_9 : parseMethodDescriptor "(I)I" = some ⟨[.int], some .int⟩ := by decide +kernel
theorem d45_4 : decode k14_ 4 = .ok (.newarray .byte, 2) := by decide +kernel
theorem d45_6 : decode k14_ 6 = .ok (.areturn, 1) := by decide +kernel
def Qnbf (Z : State) (N : Int32) (h0 : Heap) (n0 : Nat) (v : Option Value) (h : Heap) (L : List Loc) : Prop := ∃ (b_ : Addr) (k_ : ClassId), v = some (.ref b_) ∧ Fr n0 L ∧ Keep h0 h [] ∧ h0.size ≤ b_ ∧ Arv Z h b_ k_ .byte (N <<< ((1 : Int32) &&& 31)) [] (.int 0) ∧ eX0 Z h b_
theorem nbf (l : Launch) (Z : State) (a0 : Array Value) (hw : ∀ d ∈ tables_1, d.before a0 Z = true) (ws : List Jvm.Cond) (N : Int32) (h0 : Heap) (n0 : Nat) (O : Old Z n0 h0) (hN0 : 0 ≤ N.toInt) (hN8 : N.toInt ≤ 8) :
   own_MF l Z mN14 jdk_52_method_2_code 1 (some (.array .byte)) ws rM8 #[(.int N)] h0 (Qnbf Z N h0 n0) := by
 refine MetFree.of_bodySF (plainFor_of_name pn_0) hisR ?_
 intro p e s m args below meth c s₁ Bd hml0 hP hK
 obtain ⟨rfl, hZ, hh⟩ := hP
 have hx := Bd.exec
 have hby := Bd.bytes
 have B := @hb _ _ hby
 have hml : c.maxLocals = 1 := hml0
 have hown : s.vm.findClass "java/lang/StringUTF16" = some m.cls := findClass_of_methodNamed Bd.named
 have X0 : Stand p l e rM8 s m #[(.int N)] below meth c s₁ [] 0 0 := Stand.of_body Bd
 have e0 : s₁.heap = h0 := by rw [← hh, Bd.state]; rfl
 have N0 := Fr.nil n0
 have K0 := Keep.refl h0 []
 refine own_start (ef_nbl m N) (Q := own_QE s rM8 (Qnbf Z N h0 n0)) ?_
 show oF p e below (s₁.setTop (mkF m 0 #[.val (.int N)] [])) _
 refine oG (fun _ k => XS.iloadN X0.here hx rfl (B d45_0) rfl k) ?_
 show oF p e below (s₁.setTop (mkF m 1 #[.val (.int N)] [(.int N)])) _
 obtain ⟨_, _, ⟨T50, L50, k50, n50⟩, -, X50, ⟨Lc50, hQ50, l50, y50, z50⟩, st50⟩ := Jvm.LawKit.callS X0 hx (y := mN13) hown (mo hZ hw 224) (mo hZ hw 225) (mo hZ hw 222) (mo hZ hw 226) (by decide) (backOf (W := 0) (nbl l Z a0 hw [] N h0 n0 (own_nn hN0) (own_big hN8)) hZ (ow hw 226) (ow hw 222) (by decide) (by decide)) (g := (mkF m 1 #[.val (.int N)] [(.int N)])) rfl (by rw [hml]; rfl) (argsL := [(.int N)]) (rest := []) (lenOf pd_9 rfl) rfl (by show 2 * 0 + _ ≤ _; exact Nat.le_of_eq rfl) (B d45_1) (fun _ _ => ⟨rfl, e0, (by decide : 0 + 0 ≤ _), (by decide : 0 + 0 ≤ _)⟩)
 dsimp only [Pt.U, Pt.locs, Pt.cells, Pt.slots] at X50 l50 y50 z50 st50 hQ50
 subst y50 z50
 obtain ⟨rfl, N50q, e50⟩ := hQ50
 refine oG st50 ?_
 have N50 := oL l50 (Fr.app N0 N50q)
 obtain ⟨T51, h51, k51, X51, e51, E51, A51, B51, st51⟩ := newPE X50 hx hZ (ow hw 6) e50 (g := (mkF m 4 #[.val (.int N)] [(.int (N <<< ((1 : Int32) &&& 31)))])) rfl (B d45_4) rfl (own_x2n hN0 hN8) (cap := 16) (own_x2c hN0 hN8) (by decide) (by decide) (by decide) (ad := "[B") (by decide)
 obtain ⟨b51, g51⟩ : ∃ z, z = h0.size := ⟨_, rfl⟩
 rw [← g51] at A51 st51 B51
 refine oG st51 ?_
 have g_b51 : n0 ≤ b51 := Nat.le_trans (own_osz O) (Nat.le_of_eq g51.symm)
 have sz_b51 : h0.size ≤ b51 := Nat.le_trans K0.1 (Nat.le_of_eq g51.symm)
 have O := O.ext E51
 have K52 := K0.ext E51
 have E_b51 := B51
 have V_b51 : Arv Z h51 b51 k51 .byte (N <<< ((1 : Int32) &&& 31)) [] (.int 0) := Arv.new A51 (own_x2n hN0 hN8)
 show oF p e below (T51.setTop (mkF m 6 #[.val (.int N)] [(.ref b51)])) _
 obtain ⟨fs, hr, r1, r2, hW, r3⟩ := X51.leave (v := some (.ref b51)) (fun h => by rw [Bd.returns] at h; cases h)
 refine ⟨_, _, ?_, r1, r2, _, _, rfl, ?_, ⟨_, rfl⟩, hW, r3.mono (by decide) (by decide)⟩
 ·exact X51.areturnOut hx rfl Bd.returns rfl (B d45_6) hr
 ·show Qnbf Z N h0 n0 _ T51.heap _
  rw [e51]
  exact ⟨b51, k51, rfl, N50, K52, sz_b51, V_b51, E_b51⟩
theorem own_m0 {N : Int32} (h : 1 ≤ N.toInt) (h8 : N.toInt ≤ 8) : 0 ≤ (N <<< ((1 : Int32) &&& 31)).toInt ∧ (N <<< ((1 : Int32) &&& 31)).toInt ≤ 16 := by
 have q := own_x2i (by omega) h8
 show 0 ≤ (own_x2 N).toInt ∧ (own_x2 N).toInt ≤ 16
 omega
theorem own_mk {N : Int32} {k : Int} (h : 1 ≤ N.toInt) (h8 : N.toInt ≤ 8) (hk : k ≤ 2 * N.toInt := by omega) : k ≤ (N <<< ((1 : Int32) &&& 31)).toInt := by
 have q := own_x2i (by omega) h8
 show k ≤ (own_x2 N).toInt
 omega
theorem d14_0 : decode k15_ 0 = .ok (.getstatic 18, 3) := by decide +kernel
theorem d14_3 : decode k15_ 3 = .ok (.ifCond .eq 14, 3) := by decide +kernel
theorem d14_6 : decode k15_ 6 = .ok (.aload_n 0, 1) := by decide +kernel
theorem d14_7 : decode k15_ 7 = .ok (.getfield 22, 3) := by decide +kernel
theorem d14_10 : decode k15_ 10 = .ok (.ifCond .ne 7, 3) := by decide +kernel
theorem d14_13 : decode k15_ 13 = .ok (.iconst 1, 1) := by decide +kernel
theorem d14_14 : decode k15_ 14 = .ok (.goto 4, 3) := by decide +kernel
theorem d14_18 : decode k15_ 18 = .ok (.ireturn, 1) := by decide +kernel
theorem pn_4 : plainName "java/lang/AbstractStringBuilder" = true := by first | (simp [plainName, overriddenIn]; done) | decide +kernel
def Qil0 (Z : State)  (h0 : Heap) (n0 : Nat) (v : Option Value) (h : Heap) (L : List Loc) : Prop := v = some (.int 1) ∧ Fr n0 L ∧ h = h0
theorem il0 (l : Launch) (Z : State) (a0 : Array Value) (hw : ∀ d ∈ tables_1, d.before a0 Z = true) (ws : List Jvm.Cond) (b : Addr) (z : Int32) (h0 : Heap) (n0 : Nat) (O : Old Z n0 h0) (j4_ : sT4 Z (.int z)) (hz : ¬ (z = (0 : Int32))) (j0_ : fL0 Z h0 b (.int 0)) :
   own_MF l Z mN15 jdk_68_method_68_code 1 (some .boolean) ws rM0 #[(.ref b)] h0 (Qil0 Z  h0 n0) := by
 refine MetFree.of_bodySF (plainFor_of_name pn_4) hisR ?_
 intro p e s m args below meth c s₁ Bd hml0 hP hK
 obtain ⟨rfl, hZ, hh⟩ := hP
 have hx := Bd.exec
 have hby := Bd.bytes
 have B := @hb _ _ hby
 have hml : c.maxLocals = 1 := hml0
 have hown : s.vm.findClass "java/lang/AbstractStringBuilder" = some m.cls := findClass_of_methodNamed Bd.named
 have X0 : Stand p l e rM0 s m #[(.ref b)] below meth c s₁ [] 0 0 := Stand.of_body Bd
 have e0 : s₁.heap = h0 := by rw [← hh, Bd.state]; rfl
 have N0 := Fr.nil n0
 refine own_start (ef_ul m b) (Q := own_QE s rM0 (Qil0 Z  h0 n0)) ?_
 show oF p e below (s₁.setTop (mkF m 0 #[.val (.ref b)] [])) _
 obtain ⟨T54, X54, e54, st54⟩ := getS2 X0 hx hZ hown (host := "") (Or.inl (ow hw 29)) Via.refl e0 (j4_.ext O.2) (g := (mkF m 0 #[.val (.ref b)] [])) rfl (B d14_0)
 refine oG st54 ?_
 show oF p e below (T54.setTop (mkF m 3 #[.val (.ref b)] [(.int z)])) _
 refine oG (fun _ k => XS.ifNo X54.here hx rfl (B d14_3) rfl ((if0 _ _).trans (feq hz).1) (XS.aloadN X54.here hx rfl (B d14_6) rfl rfl k)) ?_
 show oF p e below (T54.setTop (mkF m 7 #[.val (.ref b)] [(.ref b)])) _
 obtain ⟨T55, X55, e55, st55⟩ := getF X54 hx hZ hown (host := "") (Or.inl (ow hw 33)) Via.refl e54 j0_ (g := (mkF m 7 #[.val (.ref b)] [(.ref b)])) rfl rfl (B d14_7)
 refine oG st55 ?_
 show oF p e below (T55.setTop (mkF m 10 #[.val (.ref b)] [(.int 0)])) _
 refine oG (fun _ k => XS.ifNo X55.here hx rfl (B d14_10) rfl ((if0 _ _).trans (teq (by decide : (0 : Int32) = (0 : Int32))).2) (XS.iconst X55.here hx rfl (B d14_13) (XS.goto X55.here hx rfl (pc0 := 14) (pc' := 18) rfl (B d14_14) (by decide) (by decide) k))) ?_
 show oF p e below (T55.setTop (mkF m 18 #[.val (.ref b)] [(.int 1)])) _
 obtain ⟨fs, hr, r1, r2, hW, r3⟩ := X55.leave (v := some (.int 1)) (fun h => by rw [Bd.returns] at h; cases h)
 refine ⟨_, _, ?_, r1, r2, _, _, rfl, ?_, ⟨_, rfl⟩, hW, r3.mono (by decide) (by decide)⟩
 ·exact retN X55 hx (t := .boolean) Bd.returns (by simp) (B d14_18) hr
 ·show Qil0 Z  h0 n0 _ T55.heap _
  rw [e55]
  exact ⟨rfl, N0, rfl⟩
theorem d14_17 : decode k15_ 17 = .ok (.iconst 0, 1) := by decide +kernel
def Qil1 (Z : State)  (h0 : Heap) (n0 : Nat) (v : Option Value) (h : Heap) (L : List Loc) : Prop := v = some (.int 0) ∧ Fr n0 L ∧ h = h0
theorem il1 (l : Launch) (Z : State) (a0 : Array Value) (hw : ∀ d ∈ tables_1, d.before a0 Z = true) (ws : List Jvm.Cond) (b : Addr) (z : Int32) (h0 : Heap) (n0 : Nat) (O : Old Z n0 h0) (j4_ : sT4 Z (.int z)) (hz : ¬ (z = (0 : Int32))) (j0_ : fL0 Z h0 b (.int 1)) :
   own_MF l Z mN15 jdk_68_method_68_code 1 (some .boolean) ws rM0 #[(.ref b)] h0 (Qil1 Z  h0 n0) := by
 refine MetFree.of_bodySF (plainFor_of_name pn_4) hisR ?_
 intro p e s m args below meth c s₁ Bd hml0 hP hK
 obtain ⟨rfl, hZ, hh⟩ := hP
 have hx := Bd.exec
 have hby := Bd.bytes
 have B := @hb _ _ hby
 have hml : c.maxLocals = 1 := hml0
 have hown : s.vm.findClass "java/lang/AbstractStringBuilder" = some m.cls := findClass_of_methodNamed Bd.named
 have X0 : Stand p l e rM0 s m #[(.ref b)] below meth c s₁ [] 0 0 := Stand.of_body Bd
 have e0 : s₁.heap = h0 := by rw [← hh, Bd.state]; rfl
 have N0 := Fr.nil n0
 refine own_start (ef_ul m b) (Q := own_QE s rM0 (Qil1 Z  h0 n0)) ?_
 show oF p e below (s₁.setTop (mkF m 0 #[.val (.ref b)] [])) _
 obtain ⟨T57, X57, e57, st57⟩ := getS2 X0 hx hZ hown (host := "") (Or.inl (ow hw 29)) Via.refl e0 (j4_.ext O.2) (g := (mkF m 0 #[.val (.ref b)] [])) rfl (B d14_0)
 refine oG st57 ?_
 show oF p e below (T57.setTop (mkF m 3 #[.val (.ref b)] [(.int z)])) _
 refine oG (fun _ k => XS.ifNo X57.here hx rfl (B d14_3) rfl ((if0 _ _).trans (feq hz).1) (XS.aloadN X57.here hx rfl (B d14_6) rfl rfl k)) ?_
 show oF p e below (T57.setTop (mkF m 7 #[.val (.ref b)] [(.ref b)])) _
 obtain ⟨T58, X58, e58, st58⟩ := getF X57 hx hZ hown (host := "") (Or.inl (ow hw 33)) Via.refl e57 j0_ (g := (mkF m 7 #[.val (.ref b)] [(.ref b)])) rfl rfl (B d14_7)
 refine oG st58 ?_
 show oF p e below (T58.setTop (mkF m 10 #[.val (.ref b)] [(.int 1)])) _
 refine oG (fun _ k => XS.ifYes X58.here hx rfl (pc0 := 10) (pc' := 17) rfl (B d14_10) rfl ((if0 _ _).trans (feq (by decide : ¬ ((1 : Int32) = (0 : Int32)))).2) (by decide) (by decide) (XS.iconst X58.here hx rfl (B d14_17) k)) ?_
 show oF p e below (T58.setTop (mkF m 18 #[.val (.ref b)] [(.int 0)])) _
 obtain ⟨fs, hr, r1, r2, hW, r3⟩ := X58.leave (v := some (.int 0)) (fun h => by rw [Bd.returns] at h; cases h)
 refine ⟨_, _, ?_, r1, r2, _, _, rfl, ?_, ⟨_, rfl⟩, hW, r3.mono (by decide) (by decide)⟩
 ·exact retN X58 hx (t := .boolean) Bd.returns (by simp) (B d14_18) hr
 ·show Qil1 Z  h0 n0 _ T58.heap _
  rw [e58]
  exact ⟨rfl, N0, rfl⟩
theorem d44_0 : decode k16_ 0 = .ok (.aload_n 0, 1) := by decide +kernel
theorem d44_1 : decode k16_ 1 = .ok (.invokevirtual 83, 3) := by decide +kernel
theorem pd_10 : parseMethodDescriptor "()Z" = some ⟨[], some .boolean⟩ := by decide +kernel
theorem d44_4 : decode k16_ 4 = .ok (.ifCond .ne 4, 3) := by decide +kernel
theorem d44_8 : decode k16_ 8 = .ok (.aload_n 0, 1) := by decide +kernel
theorem d44_9 : decode k16_ 9 = .ok (.getfield 15, 3) := by decide +kernel
theorem d44_12 : decode k16_ 12 = .ok (.arraylength, 1) := by decide +kernel
theorem d44_13 : decode k16_ 13 = .ok (.invokestatic 26, 3) := by decide +kernel
theorem pd_11 : parseMethodDescriptor "(I)[B" = some ⟨[.int], some (.array .byte)⟩ := by decide +kernel
theorem d44_16 : decode k16_ 16 = .ok (.astore_n 1, 1) := by decide +kernel
theorem d44_17 : decode k16_ 17 = .ok (.aload_n 0, 1) := by decide +kernel
theorem d44_18 : decode k16_ 18 = .ok (.getfield 15, 3) := by decide +kernel
theorem d44_21 : decode k16_ 21 = .ok (.iconst 0, 1) := by decide +kernel
theorem d44_22 : decode k16_ 22 = .ok (.aload_n 1, 1) := by decide +kernel
theorem d44_23 : decode k16_ 23 = .ok (.iconst 0, 1) := by decide +kernel
theorem d44_24 : decode k16_ 24 = .ok (.aload_n 0, 1) := by decide +kernel
theorem d44_25 : decode k16_ 25 = .ok (.getfield 79, 3) := by decide +kernel
theorem d44_28 : decode k16_ 28 = .ok (.invokestatic 125, 3) := by decide +kernel
theorem d44_31 : decode k16_ 31 = .ok (.aload_n 0, 1) := by decide +kernel
theorem d44_32 : decode k16_ 32 = .ok (.aload_n 1, 1) := by decide +kernel
theorem d44_33 : decode k16_ 33 = .ok (.putfield 15, 3) := by decide +kernel
theorem d44_36 : decode k16_ 36 = .ok (.aload_n 0, 1) := by decide +kernel
theorem d44_37 : decode k16_ 37 = .ok (.iconst 1, 1) := by decide +kernel
theorem d44_38 : decode k16_ 38 = .ok (.putfield 22, 3) := by decide +kernel
theorem d44_41 : decode k16_ 41 = .ok (.return_, 1) := by decide +kernel
theorem ef_ifl0 (m : MethodId) (x0 : Addr) : entryFrame m #[(.ref x0)] 2 = mkF m 0 #[.val (.ref x0), .unset] [] := by first | (simp [entryFrame, mkF, argsToLocals, Value.category]; done) | rfl
def Qifl0 (Z : State) (b : Addr) (N : Int32) (h0 : Heap) (n0 : Nat) (v : Option Value) (h : Heap) (L : List Loc) : Prop := ∃ (t2_ : Addr) (k2_ : ClassId), v = none ∧ Fr n0 L ∧ Keep h0 h [b] ∧ h0.size ≤ t2_ ∧ eX1 Z h b ∧ fL1 Z h b (.ref t2_) ∧ fL0 Z h b (.int 1) ∧ fL2 Z h b (.int 0) ∧ fL3 Z h b (.int 0) ∧ Arv Z h t2_ k2_ .byte (N <<< ((1 : Int32) &&& 31)) [] (.int 0) ∧ eX0 Z h t2_
theorem ifl0 (l : Launch) (Z : State) (a0 : Array Value) (hw : ∀ d ∈ tables_1, d.before a0 Z = true) (ws : List Jvm.Cond) (b : Addr) (z : Int32) (t : Addr) (kt : ClassId) (N : Int32) (fm : Value) (h0 : Heap) (n0 : Nat) (O : Old Z n0 h0) (j4_ : sT4 Z (.int z)) (hz : ¬ (z = (0 : Int32))) (j6_ : sT0 Z (.int 1)) (j7_ : sT1 Z (.int 0)) (j8_ : sT2 Z (.int 8)) (j5_ : sT3 Z fm) (hfm : fm.isRef = true) (E_b : eX1 Z h0 b) (j2_ : fL1 Z h0 b (.ref t)) (j0_ : fL0 Z h0 b (.int 0)) (j1_ : fL2 Z h0 b (.int 0)) (j3_ : fL3 Z h0 b (.int 0)) (V_t : Arv Z h0 t kt .byte N [] (.int 0)) (g_b : n0 ≤ b) (g_t : n0 ≤ t) (nbt : b ≠ t) (hN : 1 ≤ N.toInt) (hN8 : N.toInt ≤ 8) :
   own_MF l Z mN16 jdk_68_method_11_code 2 none ws rM9 #[(.ref b)] h0 (Qifl0 Z b N h0 n0) := by
 refine MetFree.of_bodySF (plainFor_of_name pn_4) hisR ?_
 intro p e s m args below meth c s₁ Bd hml0 hP hK
 obtain ⟨rfl, hZ, hh⟩ := hP
 have hx := Bd.exec
 have hby := Bd.bytes
 have B := @hb _ _ hby
 have hml : c.maxLocals = 2 := hml0
 have hown : s.vm.findClass "java/lang/AbstractStringBuilder" = some m.cls := findClass_of_methodNamed Bd.named
 have X0 : Stand p l e rM9 s m #[(.ref b)] below meth c s₁ [] 0 0 := Stand.of_body Bd
 have e0 : s₁.heap = h0 := by rw [← hh, Bd.state]; rfl
 have N0 := Fr.nil n0
 have K0 := Keep.refl h0 [b]
 refine own_start (ef_ifl0 m b) (Q := own_QE s rM9 (Qifl0 Z b N h0 n0)) ?_
 show oF p e below (s₁.setTop (mkF m 0 #[.val (.ref b), .unset] [])) _
 refine oG (fun _ k => XS.aloadN X0.here hx rfl (B d44_0) rfl rfl k) ?_
 show oF p e below (s₁.setTop (mkF m 1 #[.val (.ref b), .unset] [(.ref b)])) _
 obtain ⟨cq60, kq60, q60a, q60b, q60c⟩ := isOf hZ e0 E_b
 obtain ⟨_, _, ⟨T60, L60, k60, n60⟩, -, X60, ⟨Lc60, hQ60, l60, y60, z60⟩, st60⟩ := X0.virtualBack hx (y := mN15) (z := mN15) hown (mo hZ hw 69) (mo hZ hw 70) (notFace_of_selects (args := #[]) (mo hZ hw 72)) (mo hZ hw 72) (mo hZ hw 71) (by decide) (backOf (W := 0) (il0 l Z a0 hw [] b z h0 n0 O j4_ hz j0_) hZ (ow hw 73) (ow hw 24) (by decide) (by decide)) q60a q60c (g := (mkF m 1 #[.val (.ref b), .unset] [(.ref b)])) rfl (by rw [hml]; rfl) (Steps.refl _) (argsL := []) (rest := []) (lenOf pd_10 rfl) rfl (by show 2 * 0 + _ ≤ _; exact Nat.le_of_eq rfl) (B d44_1) (fun _ _ => ⟨rfl, e0, (by decide : 0 + 0 ≤ _), (by decide : 0 + 0 ≤ _)⟩)
 dsimp only [Pt.U, Pt.locs, Pt.cells, Pt.slots] at X60 l60 y60 z60 st60 hQ60
 subst y60 z60
 obtain ⟨rfl, N60q, e60⟩ := hQ60
 refine oG (fun _ k => st60.trans k) ?_
 have N60 := oL l60 (Fr.app N0 N60q)
 show oF p e below (T60.setTop (mkF m 4 #[.val (.ref b), .unset] [(.int 1)])) _
 refine oG (fun _ k => XS.ifYes X60.here hx rfl (pc0 := 4) (pc' := 8) rfl (B d44_4) rfl ((if0 _ _).trans (feq (by decide : ¬ ((1 : Int32) = (0 : Int32)))).2) (by decide) (by decide) (XS.aloadN X60.here hx rfl (B d44_8) rfl rfl k)) ?_
 show oF p e below (T60.setTop (mkF m 9 #[.val (.ref b), .unset] [(.ref b)])) _
 obtain ⟨T61, X61, e61, st61⟩ := getF X60 hx hZ hown (host := "") (Or.inl (ow hw 31)) Via.refl e60 j2_ (g := (mkF m 9 #[.val (.ref b), .unset] [(.ref b)])) rfl rfl (B d44_9)
 refine oG st61 ?_
 show oF p e below (T61.setTop (mkF m 12 #[.val (.ref b), .unset] [(.ref t)])) _
 obtain ⟨cl62, A62, -, S62, M62, -, -⟩ := id V_t
 refine oG (fun _ k => X61.arraylength hx (own_eqE e61 A62.1) (State.isArrayOf_alike hZ.alike A62.2.1) (g := (mkF m 12 #[.val (.ref b), .unset] [(.ref t)])) rfl rfl (B d44_12) _ (by rw [len_of S62 M62]; exact k)) ?_
 show oF p e below (T61.setTop (mkF m 13 #[.val (.ref b), .unset] [(.int N)])) _
 obtain ⟨_, _, ⟨T63, L63, k63, n63⟩, -, X63, ⟨Lc63, hQ63, l63, y63, z63⟩, st63⟩ := Jvm.LawKit.callS X61 hx (y := mN14) hown (mo hZ hw 220) (mo hZ hw 221) (mo hZ hw 222) (mo hZ hw 223) (by decide) (backOf (W := 0) (nbf l Z a0 hw [] N h0 n0 O (by omega) hN8) hZ (ow hw 223) (ow hw 222) (by decide) (by decide)) (g := (mkF m 13 #[.val (.ref b), .unset] [(.int N)])) rfl (by rw [hml]; rfl) (argsL := [(.int N)]) (rest := []) (lenOf pd_11 rfl) rfl (by show 2 * 0 + _ ≤ _; exact Nat.le_of_eq rfl) (B d44_13) (fun _ _ => ⟨rfl, e61, (by decide : 0 + 1 ≤ _), (by decide : 0 + 16 ≤ _)⟩)
 dsimp only [Pt.U, Pt.locs, Pt.cells, Pt.slots] at X63 l63 y63 z63 st63 hQ63
 subst y63 z63
 obtain ⟨b_64, k_65, rfl, N63q, Kq63, P63_0, P63_1, P63_2⟩ := hQ63
 refine oG st63 ?_
 have N63 := oL l63 (Fr.app N60 N63q)
 have j22_ : b ≠ b_64 := Nat.ne_of_lt (Nat.lt_of_lt_of_le E_b.lt P63_0)
 have j58_ : t ≠ b_64 := Nat.ne_of_lt (Nat.lt_of_lt_of_le V_t.lt P63_0)
 have j59_ : n0 ≤ b_64 := Nat.le_trans (own_osz O) P63_0
 have j60_ : h0.size ≤ b_64 := Nat.le_trans K0.1 P63_0
 have E_b := E_b.keep Kq63
 have j2_ := j2_.keep Kq63 nin0
 have j0_ := j0_.keep Kq63 nin0
 have j1_ := j1_.keep Kq63 nin0
 have j3_ := j3_.keep Kq63 nin0
 have V_t := V_t.keep Kq63 nin0
 have O := O.keep Kq63 all0
 have K66 := K0.trans Kq63 all0
 have j16_ := P63_1
 have j19_ := P63_2
 show oF p e below (T63.setTop (mkF m 16 #[.val (.ref b), .unset] [(.ref b_64)])) _
 refine oG (fun _ k => XS.astoreN X63.here hx rfl (B d44_16) rfl rfl (l' := #[.val (.ref b), .val (.ref b_64)]) rfl (XS.aloadN X63.here hx rfl (B d44_17) rfl rfl k)) ?_
 show oF p e below (T63.setTop (mkF m 18 #[.val (.ref b), .val (.ref b_64)] [(.ref b)])) _
 obtain ⟨T67, X67, e67, st67⟩ := getF X63 hx hZ hown (host := "") (Or.inl (ow hw 31)) Via.refl rfl j2_ (g := (mkF m 18 #[.val (.ref b), .val (.ref b_64)] [(.ref b)])) rfl rfl (B d44_18)
 refine oG st67 ?_
 show oF p e below (T67.setTop (mkF m 21 #[.val (.ref b), .val (.ref b_64)] [(.ref t)])) _
 refine oG (fun _ k => XS.iconst X67.here hx rfl (B d44_21) (XS.aloadN X67.here hx rfl (B d44_22) rfl rfl (XS.iconst X67.here hx rfl (B d44_23) (XS.aloadN X67.here hx rfl (B d44_24) rfl rfl k)))) ?_
 show oF p e below (T67.setTop (mkF m 25 #[.val (.ref b), .val (.ref b_64)] [(.ref b), (.int 0), (.ref b_64), (.int 0), (.ref t)])) _
 obtain ⟨T68, X68, e68, st68⟩ := getF X67 hx hZ hown (host := "") (Or.inl (ow hw 62)) Via.refl e67 j1_ (g := (mkF m 25 #[.val (.ref b), .val (.ref b_64)] [(.ref b), (.int 0), (.ref b_64), (.int 0), (.ref t)])) rfl rfl (B d44_25)
 refine oG st68 ?_
 obtain ⟨_, _, ⟨T69, L69, k69, n69⟩, -, X69, ⟨Lc69, hQ69, l69, y69, z69⟩, st69⟩ := Jvm.LawKit.callS X68 hx (y := mN12) hown (mo hZ hw 228) (mo hZ hw 229) (mo hZ hw 76) (mo hZ hw 230) (by decide) (backOf (W := 0) (lin0 l Z a0 hw [] t b_64 kt N k_65 (N <<< ((1 : Int32) &&& 31)) fm (T63.heap) n0 O j6_ j7_ j8_ j5_ hfm V_t j16_ j59_ j58_ (own_m0 hN hN8) (own_mk hN hN8) (by omega)) hZ (ow hw 230) (ow hw 76) (by decide) (by decide)) (g := (mkF m 28 #[.val (.ref b), .val (.ref b_64)] [(.int 0), (.int 0), (.ref b_64), (.int 0), (.ref t)])) rfl (by rw [hml]; rfl) (argsL := [(.ref t), (.int 0), (.ref b_64), (.int 0), (.int 0)]) (rest := []) (lenOf pd_8 rfl) rfl (by show 2 * 0 + _ ≤ _; exact Nat.le_of_eq rfl) (B d44_28) (fun _ _ => ⟨rfl, e68, (by decide : 1 + 0 ≤ _), (by decide : 16 + 0 ≤ _)⟩)
 dsimp only [Pt.U, Pt.locs, Pt.cells, Pt.slots] at X69 l69 y69 z69 st69 hQ69
 subst y69 z69
 obtain ⟨rfl, N69q, Kq69, P69_0⟩ := hQ69
 refine oG st69 ?_
 have N69 := oL l69 (Fr.app N63 N69q)
 have E_b := E_b.keep Kq69
 have j2_ := j2_.keep Kq69 (ninS j22_ nin0)
 have j0_ := j0_.keep Kq69 (ninS j22_ nin0)
 have j1_ := j1_.keep Kq69 (ninS j22_ nin0)
 have j3_ := j3_.keep Kq69 (ninS j22_ nin0)
 have V_t := V_t.keep Kq69 (ninS j58_ nin0)
 clear j16_
 have j19_ := j19_.keep Kq69
 have O := O.keep Kq69 (allS j59_ all0)
 have K70 := K66.trans Kq69 (allS (Or.inr j60_) all0)
 have j16_ := P69_0
 show oF p e below (T69.setTop (mkF m 31 #[.val (.ref b), .val (.ref b_64)] [])) _
 refine oG (fun _ k => XS.aloadN X69.here hx rfl (B d44_31) rfl rfl (XS.aloadN X69.here hx rfl (B d44_32) rfl rfl k)) ?_
 show oF p e below (T69.setTop (mkF m 33 #[.val (.ref b), .val (.ref b_64)] [(.ref b_64), (.ref b)])) _
 obtain ⟨T71, h71, X71, e71, W71, st71⟩ := putF X69 hx hZ hown (host := "") (Or.inl (ow hw 31)) Via.refl rfl j2_ E_b (Or.inl (ow hw 32)) (ow hw 15) (ty := (.array .byte)) (by decide) rfl rfl (g := (mkF m 33 #[.val (.ref b), .val (.ref b_64)] [(.ref b_64), (.ref b)])) rfl rfl (B d44_33)
 refine oG st71 ?_
 have E_b := E_b.wr W71
 have j0_ := j0_.other W71 (Or.inr (slot_ne (Or.inl (ow hw 34)) (Or.inl (ow hw 32)) (by decide) (t := .byte) (t' := (.array .byte)) (by decide) (by decide)))
 have j1_ := j1_.other W71 (Or.inr (slot_ne (Or.inl (ow hw 63)) (Or.inl (ow hw 32)) (by decide) (t := .int) (t' := (.array .byte)) (by decide) (by decide)))
 have j3_ := j3_.other W71 (Or.inr (slot_ne (Or.inl (ow hw 268)) (Or.inl (ow hw 32)) (by decide) (t := .boolean) (t' := (.array .byte)) (by decide) (by decide)))
 have V_t := V_t.other W71 (Ne.symm nbt)
 have j19_ := j19_.wr W71
 have j16_ := j16_.other W71 (Ne.symm j22_)
 have O := O.wr W71 g_b
 have K72 := K70.wr W71 (Or.inl (List.mem_of_getElem? (i := 0) rfl))
 have j2_ := j2_.same W71
 have N71 := Fr.snoc X71 N69 g_b
 show oF p e below (T71.setTop (mkF m 36 #[.val (.ref b), .val (.ref b_64)] [])) _
 refine oG (fun _ k => XS.aloadN X71.here hx rfl (B d44_36) rfl rfl (XS.iconst X71.here hx rfl (B d44_37) k)) ?_
 show oF p e below (T71.setTop (mkF m 38 #[.val (.ref b), .val (.ref b_64)] [(.int 1), (.ref b)])) _
 obtain ⟨T73, h73, X73, e73, W73, st73⟩ := putF X71 hx hZ hown (host := "") (Or.inl (ow hw 33)) Via.refl e71 j0_ E_b (Or.inl (ow hw 34)) (ow hw 15) (ty := .byte) (by decide) rfl rfl (g := (mkF m 38 #[.val (.ref b), .val (.ref b_64)] [(.int 1), (.ref b)])) rfl rfl (B d44_38)
 refine oG st73 ?_
 have E_b := E_b.wr W73
 have j2_ := j2_.other W73 (Or.inr (slot_ne (Or.inl (ow hw 32)) (Or.inl (ow hw 34)) (by decide) (t := (.array .byte)) (t' := .byte) (by decide) (by decide)))
 have j1_ := j1_.other W73 (Or.inr (slot_ne (Or.inl (ow hw 63)) (Or.inl (ow hw 34)) (by decide) (t := .int) (t' := .byte) (by decide) (by decide)))
 have j3_ := j3_.other W73 (Or.inr (slot_ne (Or.inl (ow hw 268)) (Or.inl (ow hw 34)) (by decide) (t := .boolean) (t' := .byte) (by decide) (by decide)))
 have V_t := V_t.other W73 (Ne.symm nbt)
 have j19_ := j19_.wr W73
 have j16_ := j16_.other W73 (Ne.symm j22_)
 have O := O.wr W73 g_b
 have K74 := K72.wr W73 (Or.inl (List.mem_of_getElem? (i := 0) rfl))
 have j0_ := j0_.same W73
 have N73 := Fr.snoc X73 N71 g_b
 show oF p e below (T73.setTop (mkF m 41 #[.val (.ref b), .val (.ref b_64)] [])) _
 obtain ⟨fs, hr, r1, r2, hW, r3⟩ := X73.leave (v := none) (fun _ => rfl)
 refine ⟨_, _, ?_, r1, r2, _, _, rfl, ?_, ⟨_, rfl⟩, hW, r3.mono (by decide) (by decide)⟩
 ·exact X73.returnOut hx Bd.returns (B d44_41) hr
 ·show Qifl0 Z b N h0 n0 _ T73.heap _
  rw [e73]
  exact ⟨b_64, k_65, rfl, N73, K74, j60_, E_b, j2_, j0_, j1_, j3_, j16_, j19_⟩
def Qifl1 (Z : State) (b : Addr) (N : Int32) (i0_ : Int32) (h0 : Heap) (n0 : Nat) (v : Option Value) (h : Heap) (L : List Loc) : Prop := ∃ (t2_ : Addr) (k2_ : ClassId), v = none ∧ Fr n0 L ∧ Keep h0 h [b] ∧ h0.size ≤ t2_ ∧ eX1 Z h b ∧ fL1 Z h b (.ref t2_) ∧ fL0 Z h b (.int 1) ∧ fL2 Z h b (.int 1) ∧ fL3 Z h b (.int 0) ∧ Arv Z h t2_ k2_ .byte (N <<< ((1 : Int32) &&& 31)) [(.int (own_lo (i0_ &&& (255 : Int32)))), (.int (own_hi (i0_ &&& (255 : Int32))))] (.int 0) ∧ eX0 Z h t2_
theorem ifl1 (l : Launch) (Z : State) (a0 : Array Value) (hw : ∀ d ∈ tables_1, d.before a0 Z = true) (ws : List Jvm.Cond) (b : Addr) (z : Int32) (t : Addr) (kt : ClassId) (N : Int32) (i0_ : Int32) (fm : Value) (h0 : Heap) (n0 : Nat) (O : Old Z n0 h0) (j4_ : sT4 Z (.int z)) (hz : ¬ (z = (0 : Int32))) (j6_ : sT0 Z (.int 1)) (j7_ : sT1 Z (.int 0)) (j8_ : sT2 Z (.int 8)) (j5_ : sT3 Z fm) (hfm : fm.isRef = true) (E_b : eX1 Z h0 b) (j2_ : fL1 Z h0 b (.ref t)) (j0_ : fL0 Z h0 b (.int 0)) (j1_ : fL2 Z h0 b (.int 1)) (j3_ : fL3 Z h0 b (.int 0)) (V_t : Arv Z h0 t kt .byte N [(.int i0_)] (.int 0)) (g_b : n0 ≤ b) (g_t : n0 ≤ t) (nbt : b ≠ t) (hN : 1 ≤ N.toInt) (hN8 : N.toInt ≤ 8) :
   own_MF l Z mN16 jdk_68_method_11_code 2 none ws rM9 #[(.ref b)] h0 (Qifl1 Z b N i0_ h0 n0) := by
 refine MetFree.of_bodySF (plainFor_of_name pn_4) hisR ?_
 intro p e s m args below meth c s₁ Bd hml0 hP hK
 obtain ⟨rfl, hZ, hh⟩ := hP
 have hx := Bd.exec
 have hby := Bd.bytes
 have B := @hb _ _ hby
 have hml : c.maxLocals = 2 := hml0
 have hown : s.vm.findClass "java/lang/AbstractStringBuilder" = some m.cls := findClass_of_methodNamed Bd.named
 have X0 : Stand p l e rM9 s m #[(.ref b)] below meth c s₁ [] 0 0 := Stand.of_body Bd
 have e0 : s₁.heap = h0 := by rw [← hh, Bd.state]; rfl
 have N0 := Fr.nil n0
 have K0 := Keep.refl h0 [b]
 refine own_start (ef_ifl0 m b) (Q := own_QE s rM9 (Qifl1 Z b N i0_ h0 n0)) ?_
 show oF p e below (s₁.setTop (mkF m 0 #[.val (.ref b), .unset] [])) _
 refine oG (fun _ k => XS.aloadN X0.here hx rfl (B d44_0) rfl rfl k) ?_
 show oF p e below (s₁.setTop (mkF m 1 #[.val (.ref b), .unset] [(.ref b)])) _
 obtain ⟨cq76, kq76, q76a, q76b, q76c⟩ := isOf hZ e0 E_b
 obtain ⟨_, _, ⟨T76, L76, k76, n76⟩, -, X76, ⟨Lc76, hQ76, l76, y76, z76⟩, st76⟩ := X0.virtualBack hx (y := mN15) (z := mN15) hown (mo hZ hw 69) (mo hZ hw 70) (notFace_of_selects (args := #[]) (mo hZ hw 72)) (mo hZ hw 72) (mo hZ hw 71) (by decide) (backOf (W := 0) (il0 l Z a0 hw [] b z h0 n0 O j4_ hz j0_) hZ (ow hw 73) (ow hw 24) (by decide) (by decide)) q76a q76c (g := (mkF m 1 #[.val (.ref b), .unset] [(.ref b)])) rfl (by rw [hml]; rfl) (Steps.refl _) (argsL := []) (rest := []) (lenOf pd_10 rfl) rfl (by show 2 * 0 + _ ≤ _; exact Nat.le_of_eq rfl) (B d44_1) (fun _ _ => ⟨rfl, e0, (by decide : 0 + 0 ≤ _), (by decide : 0 + 0 ≤ _)⟩)
 dsimp only [Pt.U, Pt.locs, Pt.cells, Pt.slots] at X76 l76 y76 z76 st76 hQ76
 subst y76 z76
 obtain ⟨rfl, N76q, e76⟩ := hQ76
 refine oG (fun _ k => st76.trans k) ?_
 have N76 := oL l76 (Fr.app N0 N76q)
 show oF p e below (T76.setTop (mkF m 4 #[.val (.ref b), .unset] [(.int 1)])) _
 refine oG (fun _ k => XS.ifYes X76.here hx rfl (pc0 := 4) (pc' := 8) rfl (B d44_4) rfl ((if0 _ _).trans (feq (by decide : ¬ ((1 : Int32) = (0 : Int32)))).2) (by decide) (by decide) (XS.aloadN X76.here hx rfl (B d44_8) rfl rfl k)) ?_
 show oF p e below (T76.setTop (mkF m 9 #[.val (.ref b), .unset] [(.ref b)])) _
 obtain ⟨T77, X77, e77, st77⟩ := getF X76 hx hZ hown (host := "") (Or.inl (ow hw 31)) Via.refl e76 j2_ (g := (mkF m 9 #[.val (.ref b), .unset] [(.ref b)])) rfl rfl (B d44_9)
 refine oG st77 ?_
 show oF p e below (T77.setTop (mkF m 12 #[.val (.ref b), .unset] [(.ref t)])) _
 obtain ⟨cl78, A78, -, S78, M78, -, -⟩ := id V_t
 refine oG (fun _ k => X77.arraylength hx (own_eqE e77 A78.1) (State.isArrayOf_alike hZ.alike A78.2.1) (g := (mkF m 12 #[.val (.ref b), .unset] [(.ref t)])) rfl rfl (B d44_12) _ (by rw [len_of S78 M78]; exact k)) ?_
 show oF p e below (T77.setTop (mkF m 13 #[.val (.ref b), .unset] [(.int N)])) _
 obtain ⟨_, _, ⟨T79, L79, k79, n79⟩, -, X79, ⟨Lc79, hQ79, l79, y79, z79⟩, st79⟩ := Jvm.LawKit.callS X77 hx (y := mN14) hown (mo hZ hw 220) (mo hZ hw 221) (mo hZ hw 222) (mo hZ hw 223) (by decide) (backOf (W := 0) (nbf l Z a0 hw [] N h0 n0 O (by omega) hN8) hZ (ow hw 223) (ow hw 222) (by decide) (by decide)) (g := (mkF m 13 #[.val (.ref b), .unset] [(.int N)])) rfl (by rw [hml]; rfl) (argsL := [(.int N)]) (rest := []) (lenOf pd_11 rfl) rfl (by show 2 * 0 + _ ≤ _; exact Nat.le_of_eq rfl) (B d44_13) (fun _ _ => ⟨rfl, e77, (by decide : 0 + 1 ≤ _), (by decide : 0 + 16 ≤ _)⟩)
 dsimp only [Pt.U, Pt.locs, Pt.cells, Pt.slots] at X79 l79 y79 z79 st79 hQ79
 subst y79 z79
 obtain ⟨b_80, k_81, rfl, N79q, Kq79, P79_0, P79_1, P79_2⟩ := hQ79
 refine oG st79 ?_
 have N79 := oL l79 (Fr.app N76 N79q)
 have j23_ : b ≠ b_80 := Nat.ne_of_lt (Nat.lt_of_lt_of_le E_b.lt P79_0)
 have j61_ : t ≠ b_80 := Nat.ne_of_lt (Nat.lt_of_lt_of_le V_t.lt P79_0)
 have j62_ : n0 ≤ b_80 := Nat.le_trans (own_osz O) P79_0
 have j63_ : h0.size ≤ b_80 := Nat.le_trans K0.1 P79_0
 have E_b := E_b.keep Kq79
 have j2_ := j2_.keep Kq79 nin0
 have j0_ := j0_.keep Kq79 nin0
 have j1_ := j1_.keep Kq79 nin0
 have j3_ := j3_.keep Kq79 nin0
 have V_t := V_t.keep Kq79 nin0
 have O := O.keep Kq79 all0
 have K82 := K0.trans Kq79 all0
 have j17_ := P79_1
 have j20_ := P79_2
 show oF p e below (T79.setTop (mkF m 16 #[.val (.ref b), .unset] [(.ref b_80)])) _
 refine oG (fun _ k => XS.astoreN X79.here hx rfl (B d44_16) rfl rfl (l' := #[.val (.ref b), .val (.ref b_80)]) rfl (XS.aloadN X79.here hx rfl (B d44_17) rfl rfl k)) ?_
 show oF p e below (T79.setTop (mkF m 18 #[.val (.ref b), .val (.ref b_80)] [(.ref b)])) _
 obtain ⟨T83, X83, e83, st83⟩ := getF X79 hx hZ hown (host := "") (Or.inl (ow hw 31)) Via.refl rfl j2_ (g := (mkF m 18 #[.val (.ref b), .val (.ref b_80)] [(.ref b)])) rfl rfl (B d44_18)
 refine oG st83 ?_
 show oF p e below (T83.setTop (mkF m 21 #[.val (.ref b), .val (.ref b_80)] [(.ref t)])) _
 refine oG (fun _ k => XS.iconst X83.here hx rfl (B d44_21) (XS.aloadN X83.here hx rfl (B d44_22) rfl rfl (XS.iconst X83.here hx rfl (B d44_23) (XS.aloadN X83.here hx rfl (B d44_24) rfl rfl k)))) ?_
 show oF p e below (T83.setTop (mkF m 25 #[.val (.ref b), .val (.ref b_80)] [(.ref b), (.int 0), (.ref b_80), (.int 0), (.ref t)])) _
 obtain ⟨T84, X84, e84, st84⟩ := getF X83 hx hZ hown (host := "") (Or.inl (ow hw 62)) Via.refl e83 j1_ (g := (mkF m 25 #[.val (.ref b), .val (.ref b_80)] [(.ref b), (.int 0), (.ref b_80), (.int 0), (.ref t)])) rfl rfl (B d44_25)
 refine oG st84 ?_
 obtain ⟨_, _, ⟨T85, L85, k85, n85⟩, -, X85, ⟨Lc85, hQ85, l85, y85, z85⟩, st85⟩ := Jvm.LawKit.callS X84 hx (y := mN12) hown (mo hZ hw 228) (mo hZ hw 229) (mo hZ hw 76) (mo hZ hw 230) (by decide) (backOf (W := 0) (lin1 l Z a0 hw [] t b_80 kt N k_81 (N <<< ((1 : Int32) &&& 31)) i0_ fm (T79.heap) n0 O j6_ j7_ j8_ j5_ hfm V_t j17_ j62_ j61_ (own_m0 hN hN8) (own_mk hN hN8) (by omega)) hZ (ow hw 230) (ow hw 76) (by decide) (by decide)) (g := (mkF m 28 #[.val (.ref b), .val (.ref b_80)] [(.int 1), (.int 0), (.ref b_80), (.int 0), (.ref t)])) rfl (by rw [hml]; rfl) (argsL := [(.ref t), (.int 0), (.ref b_80), (.int 0), (.int 1)]) (rest := []) (lenOf pd_8 rfl) rfl (by show 2 * 0 + _ ≤ _; exact Nat.le_of_eq rfl) (B d44_28) (fun _ _ => ⟨rfl, e84, (by decide : 1 + 0 ≤ _), (by decide : 16 + 0 ≤ _)⟩)
 dsimp only [Pt.U, Pt.locs, Pt.cells, Pt.slots] at X85 l85 y85 z85 st85 hQ85
 subst y85 z85
 obtain ⟨rfl, N85q, Kq85, P85_0⟩ := hQ85
 refine oG st85 ?_
 have N85 := oL l85 (Fr.app N79 N85q)
 have E_b := E_b.keep Kq85
 have j2_ := j2_.keep Kq85 (ninS j23_ nin0)
 have j0_ := j0_.keep Kq85 (ninS j23_ nin0)
 have j1_ := j1_.keep Kq85 (ninS j23_ nin0)
 have j3_ := j3_.keep Kq85 (ninS j23_ nin0)
 have V_t := V_t.keep Kq85 (ninS j61_ nin0)
 clear j17_
 have j20_ := j20_.keep Kq85
 have O := O.keep Kq85 (allS j62_ all0)
 have K86 := K82.trans Kq85 (allS (Or.inr j63_) all0)
 have j17_ := P85_0
 show oF p e below (T85.setTop (mkF m 31 #[.val (.ref b), .val (.ref b_80)] [])) _
 refine oG (fun _ k => XS.aloadN X85.here hx rfl (B d44_31) rfl rfl (XS.aloadN X85.here hx rfl (B d44_32) rfl rfl k)) ?_
 show oF p e below (T85.setTop (mkF m 33 #[.val (.ref b), .val (.ref b_80)] [(.ref b_80), (.ref b)])) _
 obtain ⟨T87, h87, X87, e87, W87, st87⟩ := putF X85 hx hZ hown (host := "") (Or.inl (ow hw 31)) Via.refl rfl j2_ E_b (Or.inl (ow hw 32)) (ow hw 15) (ty := (.array .byte)) (by decide) rfl rfl (g := (mkF m 33 #[.val (.ref b), .val (.ref b_80)] [(.ref b_80), (.ref b)])) rfl rfl (B d44_33)
 refine oG st87 ?_
 have E_b := E_b.wr W87
 have j0_ := j0_.other W87 (Or.inr (slot_ne (Or.inl (ow hw 34)) (Or.inl (ow hw 32)) (by decide) (t := .byte) (t' := (.array .byte)) (by decide) (by decide)))
 have j1_ := j1_.other W87 (Or.inr (slot_ne (Or.inl (ow hw 63)) (Or.inl (ow hw 32)) (by decide) (t := .int) (t' := (.array .byte)) (by decide) (by decide)))
 have j3_ := j3_.other W87 (Or.inr (slot_ne (Or.inl (ow hw 268)) (Or.inl (ow hw 32)) (by decide) (t := .boolean) (t' := (.array .byte)) (by decide) (by decide)))
 have V_t := V_t.other W87 (Ne.symm nbt)
 have j20_ := j20_.wr W87
 have j17_ := j17_.other W87 (Ne.symm j23_)
 have O := O.wr W87 g_b
 have K88 := K86.wr W87 (Or.inl (List.mem_of_getElem? (i := 0) rfl))
 have j2_ := j2_.same W87
 have N87 := Fr.snoc X87 N85 g_b
 show oF p e below (T87.setTop (mkF m 36 #[.val (.ref b), .val (.ref b_80)] [])) _
 refine oG (fun _ k => XS.aloadN X87.here hx rfl (B d44_36) rfl rfl (XS.iconst X87.here hx rfl (B d44_37) k)) ?_
 show oF p e below (T87.setTop (mkF m 38 #[.val (.ref b), .val (.ref b_80)] [(.int 1), (.ref b)])) _
 obtain ⟨T89, h89, X89, e89, W89, st89⟩ := putF X87 hx hZ hown (host := "") (Or.inl (ow hw 33)) Via.refl e87 j0_ E_b (Or.inl (ow hw 34)) (ow hw 15) (ty := .byte) (by decide) rfl rfl (g := (mkF m 38 #[.val (.ref b), .val (.ref b_80)] [(.int 1), (.ref b)])) rfl rfl (B d44_38)
 refine oG st89 ?_
 have E_b := E_b.wr W89
 have j2_ := j2_.other W89 (Or.inr (slot_ne (Or.inl (ow hw 32)) (Or.inl (ow hw 34)) (by decide) (t := (.array .byte)) (t' := .byte) (by decide) (by decide)))
 have j1_ := j1_.other W89 (Or.inr (slot_ne (Or.inl (ow hw 63)) (Or.inl (ow hw 34)) (by decide) (t := .int) (t' := .byte) (by decide) (by decide)))
 have j3_ := j3_.other W89 (Or.inr (slot_ne (Or.inl (ow hw 268)) (Or.inl (ow hw 34)) (by decide) (t := .boolean) (t' := .byte) (by decide) (by decide)))
 have V_t := V_t.other W89 (Ne.symm nbt)
 have j20_ := j20_.wr W89
 have j17_ := j17_.other W89 (Ne.symm j23_)
 have O := O.wr W89 g_b
 have K90 := K88.wr W89 (Or.inl (List.mem_of_getElem? (i := 0) rfl))
 have j0_ := j0_.same W89
 have N89 := Fr.snoc X89 N87 g_b
 show oF p e below (T89.setTop (mkF m 41 #[.val (.ref b), .val (.ref b_80)] [])) _
 obtain ⟨fs, hr, r1, r2, hW, r3⟩ := X89.leave (v := none) (fun _ => rfl)
 refine ⟨_, _, ?_, r1, r2, _, _, rfl, ?_, ⟨_, rfl⟩, hW, r3.mono (by decide) (by decide)⟩
 ·exact X89.returnOut hx Bd.returns (B d44_41) hr
 ·show Qifl1 Z b N i0_ h0 n0 _ T89.heap _
  rw [e89]
  exact ⟨b_80, k_81, rfl, N89, K90, j63_, E_b, j2_, j0_, j1_, j3_, j17_, j20_⟩
theorem d13_0 : decode k17_ 0 = .ok (.aload_n 0, 1) := by decide +kernel
theorem d13_1 : decode k17_ 1 = .ok (.getfield 15, 3) := by decide +kernel
theorem d13_4 : decode k17_ 4 = .ok (.arraylength, 1) := by decide +kernel
theorem d13_5 : decode k17_ 5 = .ok (.aload_n 0, 1) := by decide +kernel
theorem d13_6 : decode k17_ 6 = .ok (.getfield 22, 3) := by decide +kernel
theorem d13_9 : decode k17_ 9 = .ok (.ishr, 1) := by decide +kernel
theorem d13_10 : decode k17_ 10 = .ok (.istore_n 2, 1) := by decide +kernel
theorem d13_11 : decode k17_ 11 = .ok (.iload_n 1, 1) := by decide +kernel
theorem d13_12 : decode k17_ 12 = .ok (.iload_n 2, 1) := by decide +kernel
theorem d13_13 : decode k17_ 13 = .ok (.isub, 1) := by decide +kernel
theorem d13_14 : decode k17_ 14 = .ok (.ifCond .le 24, 3) := by decide +kernel
theorem d13_38 : decode k17_ 38 = .ok (.return_, 1) := by decide +kernel
theorem ef_ec0 (m : MethodId) (x0 : Addr) (x1 : Int32) : entryFrame m #[(.ref x0), (.int x1)] 3 = mkF m 0 #[.val (.ref x0), .val (.int x1), .unset] [] := by first | (simp [entryFrame, mkF, argsToLocals, Value.category]; done) | rfl
def Qec0 (Z : State)  (h0 : Heap) (n0 : Nat) (v : Option Value) (h : Heap) (L : List Loc) : Prop := v = none ∧ Fr n0 L ∧ h = h0
theorem ec0 (l : Launch) (Z : State) (a0 : Array Value) (hw : ∀ d ∈ tables_1, d.before a0 Z = true) (ws : List Jvm.Cond) (b : Addr) (m_ : Int32) (t : Addr) (kt : ClassId) (M : Int32) (vs : List Value) (h0 : Heap) (n0 : Nat) (O : Old Z n0 h0) (j2_ : fL1 Z h0 b (.ref t)) (j0_ : fL0 Z h0 b (.int 0)) (V_t : Arv Z h0 t kt .byte M vs (.int 0)) (hle : ¬ ((0 : Int32) < (m_ - (M >>> ((0 : Int32) &&& 31))))) :
   own_MF l Z mN17 jdk_68_method_9_code 3 none ws rM0 #[(.ref b), (.int m_)] h0 (Qec0 Z  h0 n0) := by
 refine MetFree.of_bodySF (plainFor_of_name pn_4) hisR ?_
 intro p e s m args below meth c s₁ Bd hml0 hP hK
 obtain ⟨rfl, hZ, hh⟩ := hP
 have hx := Bd.exec
 have hby := Bd.bytes
 have B := @hb _ _ hby
 have hml : c.maxLocals = 3 := hml0
 have hown : s.vm.findClass "java/lang/AbstractStringBuilder" = some m.cls := findClass_of_methodNamed Bd.named
 have X0 : Stand p l e rM0 s m #[(.ref b), (.int m_)] below meth c s₁ [] 0 0 := Stand.of_body Bd
 have e0 : s₁.heap = h0 := by rw [← hh, Bd.state]; rfl
 have N0 := Fr.nil n0
 refine own_start (ef_ec0 m b m_) (Q := own_QE s rM0 (Qec0 Z  h0 n0)) ?_
 show oF p e below (s₁.setTop (mkF m 0 #[.val (.ref b), .val (.int m_), .unset] [])) _
 refine oG (fun _ k => XS.aloadN X0.here hx rfl (B d13_0) rfl rfl k) ?_
 show oF p e below (s₁.setTop (mkF m 1 #[.val (.ref b), .val (.int m_), .unset] [(.ref b)])) _
 obtain ⟨T92, X92, e92, st92⟩ := getF X0 hx hZ hown (host := "") (Or.inl (ow hw 31)) Via.refl e0 j2_ (g := (mkF m 1 #[.val (.ref b), .val (.int m_), .unset] [(.ref b)])) rfl rfl (B d13_1)
 refine oG st92 ?_
 show oF p e below (T92.setTop (mkF m 4 #[.val (.ref b), .val (.int m_), .unset] [(.ref t)])) _
 obtain ⟨cl93, A93, -, S93, M93, -, -⟩ := id V_t
 refine oG (fun _ k => X92.arraylength hx (own_eqE e92 A93.1) (State.isArrayOf_alike hZ.alike A93.2.1) (g := (mkF m 4 #[.val (.ref b), .val (.int m_), .unset] [(.ref t)])) rfl rfl (B d13_4) _ (by rw [len_of S93 M93]; exact k)) ?_
 show oF p e below (T92.setTop (mkF m 5 #[.val (.ref b), .val (.int m_), .unset] [(.int M)])) _
 refine oG (fun _ k => XS.aloadN X92.here hx rfl (B d13_5) rfl rfl k) ?_
 show oF p e below (T92.setTop (mkF m 6 #[.val (.ref b), .val (.int m_), .unset] [(.ref b), (.int M)])) _
 obtain ⟨T94, X94, e94, st94⟩ := getF X92 hx hZ hown (host := "") (Or.inl (ow hw 33)) Via.refl e92 j0_ (g := (mkF m 6 #[.val (.ref b), .val (.int m_), .unset] [(.ref b), (.int M)])) rfl rfl (B d13_6)
 refine oG st94 ?_
 show oF p e below (T94.setTop (mkF m 9 #[.val (.ref b), .val (.int m_), .unset] [(.int 0), (.int M)])) _
 refine oG (fun _ k => XS.ishr X94.here hx rfl (B d13_9) rfl (XS.istoreN X94.here hx rfl (B d13_10) rfl (l' := #[.val (.ref b), .val (.int m_), .val (.int (M >>> ((0 : Int32) &&& 31)))]) rfl (XS.iloadN X94.here hx rfl (B d13_11) rfl (XS.iloadN X94.here hx rfl (B d13_12) rfl (XS.isub X94.here hx rfl (B d13_13) rfl (XS.ifYes X94.here hx rfl (pc0 := 14) (pc' := 38) rfl (B d13_14) rfl ((if0 _ _).trans (flt hle).2.2.2) (by decide) (by decide) k)))))) ?_
 show oF p e below (T94.setTop (mkF m 38 #[.val (.ref b), .val (.int m_), .val (.int (M >>> ((0 : Int32) &&& 31)))] [])) _
 obtain ⟨fs, hr, r1, r2, hW, r3⟩ := X94.leave (v := none) (fun _ => rfl)
 refine ⟨_, _, ?_, r1, r2, _, _, rfl, ?_, ⟨_, rfl⟩, hW, r3.mono (by decide) (by decide)⟩
 ·exact X94.returnOut hx Bd.returns (B d13_38) hr
 ·show Qec0 Z  h0 n0 _ T94.heap _
  rw [e94]
  exact ⟨rfl, N0, rfl⟩
def Qec1 (Z : State)  (h0 : Heap) (n0 : Nat) (v : Option Value) (h : Heap) (L : List Loc) : Prop := v = none ∧ Fr n0 L ∧ h = h0
theorem ec1 (l : Launch) (Z : State) (a0 : Array Value) (hw : ∀ d ∈ tables_1, d.before a0 Z = true) (ws : List Jvm.Cond) (b : Addr) (m_ : Int32) (t : Addr) (kt : ClassId) (M : Int32) (vs : List Value) (h0 : Heap) (n0 : Nat) (O : Old Z n0 h0) (j2_ : fL1 Z h0 b (.ref t)) (j0_ : fL0 Z h0 b (.int 1)) (V_t : Arv Z h0 t kt .byte M vs (.int 0)) (hle : ¬ ((0 : Int32) < (m_ - (M >>> ((1 : Int32) &&& 31))))) :
   own_MF l Z mN17 jdk_68_method_9_code 3 none ws rM0 #[(.ref b), (.int m_)] h0 (Qec1 Z  h0 n0) := by
 refine MetFree.of_bodySF (plainFor_of_name pn_4) hisR ?_
 intro p e s m args below meth c s₁ Bd hml0 hP hK
 obtain ⟨rfl, hZ, hh⟩ := hP
 have hx := Bd.exec
 have hby := Bd.bytes
 have B := @hb _ _ hby
 have hml : c.maxLocals = 3 := hml0
 have hown : s.vm.findClass "java/lang/AbstractStringBuilder" = some m.cls := findClass_of_methodNamed Bd.named
 have X0 : Stand p l e rM0 s m #[(.ref b), (.int m_)] below meth c s₁ [] 0 0 := Stand.of_body Bd
 have e0 : s₁.heap = h0 := by rw [← hh, Bd.state]; rfl
 have N0 := Fr.nil n0
 refine own_start (ef_ec0 m b m_) (Q := own_QE s rM0 (Qec1 Z  h0 n0)) ?_
 show oF p e below (s₁.setTop (mkF m 0 #[.val (.ref b), .val (.int m_), .unset] [])) _
 refine oG (fun _ k => XS.aloadN X0.here hx rfl (B d13_0) rfl rfl k) ?_
 show oF p e below (s₁.setTop (mkF m 1 #[.val (.ref b), .val (.int m_), .unset] [(.ref b)])) _
 obtain ⟨T96, X96, e96, st96⟩ := getF X0 hx hZ hown (host := "") (Or.inl (ow hw 31)) Via.refl e0 j2_ (g := (mkF m 1 #[.val (.ref b), .val (.int m_), .unset] [(.ref b)])) rfl rfl (B d13_1)
 refine oG st96 ?_
 show oF p e below (T96.setTop (mkF m 4 #[.val (.ref b), .val (.int m_), .unset] [(.ref t)])) _
 obtain ⟨cl97, A97, -, S97, M97, -, -⟩ := id V_t
 refine oG (fun _ k => X96.arraylength hx (own_eqE e96 A97.1) (State.isArrayOf_alike hZ.alike A97.2.1) (g := (mkF m 4 #[.val (.ref b), .val (.int m_), .unset] [(.ref t)])) rfl rfl (B d13_4) _ (by rw [len_of S97 M97]; exact k)) ?_
 show oF p e below (T96.setTop (mkF m 5 #[.val (.ref b), .val (.int m_), .unset] [(.int M)])) _
 refine oG (fun _ k => XS.aloadN X96.here hx rfl (B d13_5) rfl rfl k) ?_
 show oF p e below (T96.setTop (mkF m 6 #[.val (.ref b), .val (.int m_), .unset] [(.ref b), (.int M)])) _
 obtain ⟨T98, X98, e98, st98⟩ := getF X96 hx hZ hown (host := "") (Or.inl (ow hw 33)) Via.refl e96 j0_ (g := (mkF m 6 #[.val (.ref b), .val (.int m_), .unset] [(.ref b), (.int M)])) rfl rfl (B d13_6)
 refine oG st98 ?_
 show oF p e below (T98.setTop (mkF m 9 #[.val (.ref b), .val (.int m_), .unset] [(.int 1), (.int M)])) _
 refine oG (fun _ k => XS.ishr X98.here hx rfl (B d13_9) rfl (XS.istoreN X98.here hx rfl (B d13_10) rfl (l' := #[.val (.ref b), .val (.int m_), .val (.int (M >>> ((1 : Int32) &&& 31)))]) rfl (XS.iloadN X98.here hx rfl (B d13_11) rfl (XS.iloadN X98.here hx rfl (B d13_12) rfl (XS.isub X98.here hx rfl (B d13_13) rfl (XS.ifYes X98.here hx rfl (pc0 := 14) (pc' := 38) rfl (B d13_14) rfl ((if0 _ _).trans (flt hle).2.2.2) (by decide) (by decide) k)))))) ?_
 show oF p e below (T98.setTop (mkF m 38 #[.val (.ref b), .val (.int m_), .val (.int (M >>> ((1 : Int32) &&& 31)))] [])) _
 obtain ⟨fs, hr, r1, r2, hW, r3⟩ := X98.leave (v := none) (fun _ => rfl)
 refine ⟨_, _, ?_, r1, r2, _, _, rfl, ?_, ⟨_, rfl⟩, hW, r3.mono (by decide) (by decide)⟩
 ·exact X98.returnOut hx Bd.returns (B d13_38) hr
 ·show Qec1 Z  h0 n0 _ T98.heap _
  rw [e98]
  exact ⟨rfl, N0, rfl⟩
theorem d15_0 : decode k18_ 0 = .ok (.iload_n 0, 1) := by decide +kernel
theorem d15_1 : decode k18_ 1 = .ok (.sipush 255, 3) := by decide +kernel
theorem d15_4 : decode k18_ 4 = .ok (.if_icmp .gt 7, 3) := by decide +kernel
theorem d15_7 : decode k18_ 7 = .ok (.iconst 1, 1) := by decide +kernel
theorem d15_8 : decode k18_ 8 = .ok (.goto 4, 3) := by decide +kernel
theorem d15_12 : decode k18_ 12 = .ok (.ireturn, 1) := by decide +kernel
def Qcen1 (Z : State)  (h0 : Heap) (n0 : Nat) (v : Option Value) (h : Heap) (L : List Loc) : Prop := v = some (.int 1) ∧ Fr n0 L ∧ h = h0
theorem cen1 (l : Launch) (Z : State) (a0 : Array Value) (hw : ∀ d ∈ tables_1, d.before a0 Z = true) (ws : List Jvm.Cond) (c_ : Int32) (h0 : Heap) (n0 : Nat) (hce : ¬ ((255 : Int32) < c_)) :
   own_MF l Z mN18 jdk_43_method_3_code 1 (some .boolean) ws rM0 #[(.int c_)] h0 (Qcen1 Z  h0 n0) := by
 refine MetFree.of_bodySF (plainFor_of_name pn_3) hisR ?_
 intro p e s m args below meth c s₁ Bd hml0 hP hK
 obtain ⟨rfl, hZ, hh⟩ := hP
 have hx := Bd.exec
 have hby := Bd.bytes
 have B := @hb _ _ hby
 have hml : c.maxLocals = 1 := hml0
 have hown : s.vm.findClass "java/lang/StringLatin1" = some m.cls := findClass_of_methodNamed Bd.named
 have X0 : Stand p l e rM0 s m #[(.int c_)] below meth c s₁ [] 0 0 := Stand.of_body Bd
 have e0 : s₁.heap = h0 := by rw [← hh, Bd.state]; rfl
 have N0 := Fr.nil n0
 refine own_start (ef_nbl m c_) (Q := own_QE s rM0 (Qcen1 Z  h0 n0)) ?_
 show oF p e below (s₁.setTop (mkF m 0 #[.val (.int c_)] [])) _
 refine oG (fun _ k => XS.iloadN X0.here hx rfl (B d15_0) rfl (XS.sipush X0.here hx rfl (B d15_1) (XS.icmpNo X0.here hx rfl (B d15_4) rfl (flt hce).2.2.1 (XS.iconst X0.here hx rfl (B d15_7) (XS.goto X0.here hx rfl (pc0 := 8) (pc' := 12) rfl (B d15_8) (by decide) (by decide) k))))) ?_
 show oF p e below (s₁.setTop (mkF m 12 #[.val (.int c_)] [(.int 1)])) _
 obtain ⟨fs, hr, r1, r2, hW, r3⟩ := X0.leave (v := some (.int 1)) (fun h => by rw [Bd.returns] at h; cases h)
 refine ⟨_, _, ?_, r1, r2, _, _, rfl, ?_, ⟨_, rfl⟩, hW, r3.mono (by decide) (by decide)⟩
 ·exact retN X0 hx (t := .boolean) Bd.returns (by simp) (B d15_12) hr
 ·show Qcen1 Z  h0 n0 _ s₁.heap _
  rw [e0]
  exact ⟨rfl, N0, rfl⟩
theorem d15_11 : decode k18_ 11 = .ok (.iconst 0, 1) := by decide +kernel
def Qcen0 (Z : State)  (h0 : Heap) (n0 : Nat) (v : Option Value) (h : Heap) (L : List Loc) : Prop := v = some (.int 0) ∧ Fr n0 L ∧ h = h0
theorem cen0 (l : Launch) (Z : State) (a0 : Array Value) (hw : ∀ d ∈ tables_1, d.before a0 Z = true) (ws : List Jvm.Cond) (c_ : Int32) (h0 : Heap) (n0 : Nat) (hce : (255 : Int32) < c_) :
   own_MF l Z mN18 jdk_43_method_3_code 1 (some .boolean) ws rM0 #[(.int c_)] h0 (Qcen0 Z  h0 n0) := by
 refine MetFree.of_bodySF (plainFor_of_name pn_3) hisR ?_
 intro p e s m args below meth c s₁ Bd hml0 hP hK
 obtain ⟨rfl, hZ, hh⟩ := hP
 have hx := Bd.exec
 have hby := Bd.bytes
 have B := @hb _ _ hby
 have hml : c.maxLocals = 1 := hml0
 have hown : s.vm.findClass "java/lang/StringLatin1" = some m.cls := findClass_of_methodNamed Bd.named
 have X0 : Stand p l e rM0 s m #[(.int c_)] below meth c s₁ [] 0 0 := Stand.of_body Bd
 have e0 : s₁.heap = h0 := by rw [← hh, Bd.state]; rfl
 have N0 := Fr.nil n0
 refine own_start (ef_nbl m c_) (Q := own_QE s rM0 (Qcen0 Z  h0 n0)) ?_
 show oF p e below (s₁.setTop (mkF m 0 #[.val (.int c_)] [])) _
 refine oG (fun _ k => XS.iloadN X0.here hx rfl (B d15_0) rfl (XS.sipush X0.here hx rfl (B d15_1) (XS.icmpYes X0.here hx rfl (pc0 := 4) (pc' := 11) rfl (B d15_4) rfl (tlt hce).2.2.1 (by decide) (by decide) (XS.iconst X0.here hx rfl (B d15_11) k)))) ?_
 show oF p e below (s₁.setTop (mkF m 12 #[.val (.int c_)] [(.int 0)])) _
 obtain ⟨fs, hr, r1, r2, hW, r3⟩ := X0.leave (v := some (.int 0)) (fun h => by rw [Bd.returns] at h; cases h)
 refine ⟨_, _, ?_, r1, r2, _, _, rfl, ?_, ⟨_, rfl⟩, hW, r3.mono (by decide) (by decide)⟩
 ·exact retN X0 hx (t := .boolean) Bd.returns (by simp) (B d15_12) hr
 ·show Qcen0 Z  h0 n0 _ s₁.heap _
  rw [e0]
  exact ⟨rfl, N0, rfl⟩
theorem own_sh0 (N : Int32) : N >>> ((0 : Int32) &&& 31) = N := by
 have h := c_ishr N 0 0 (by decide)
 rw [← Int32.toInt_inj, h]; simp
theorem own_ec0 {N m_ : Int32} (h0 : 0 ≤ m_.toInt) (h : m_.toInt ≤ N.toInt) : ¬ ((0 : Int32) < (m_ - (N >>> ((0 : Int32) &&& 31)))) := by
 rw [own_sh0]
 have h2 := c_isub m_ N
 have h3 := rng32 (m_ - N)
 have h4 := rng32 N
 rw [Int32.lt_iff_toInt_lt, own_k0]
 omega
theorem own_ec1 {N m_ : Int32} (h0 : 0 ≤ m_.toInt) (h1 : 1 ≤ N.toInt) (h8 : N.toInt ≤ 8) (h : m_.toInt ≤ N.toInt) : ¬ ((0 : Int32) < (m_ - ((N <<< ((1 : Int32) &&& 31)) >>> ((1 : Int32) &&& 31)))) := by
 have q := own_x2i (by omega) h8
 have hf := own_hf (M := N <<< ((1 : Int32) &&& 31))
 have q' : (N <<< ((1 : Int32) &&& 31)).toInt = 2 * N.toInt := q
 have h2 := c_isub m_ ((N <<< ((1 : Int32) &&& 31)) >>> ((1 : Int32) &&& 31))
 have h3 := rng32 (m_ - ((N <<< ((1 : Int32) &&& 31)) >>> ((1 : Int32) &&& 31)))
 rw [Int32.lt_iff_toInt_lt, own_k0]
 omega
theorem d12_0 : decode k19_ 0 = .ok (.aload_n 0, 1) := by decide +kernel
theorem d12_1 : decode k19_ 1 = .ok (.aload_n 0, 1) := by decide +kernel
theorem d12_2 : decode k19_ 2 = .ok (.getfield 79, 3) := by decide +kernel
theorem d12_5 : decode k19_ 5 = .ok (.iconst 1, 1) := by decide +kernel
theorem d12_6 : decode k19_ 6 = .ok (.iadd, 1) := by decide +kernel
theorem d12_7 : decode k19_ 7 = .ok (.invokevirtual 100, 3) := by decide +kernel
theorem pd_12 : parseMethodDescriptor "(I)V" = some ⟨[.int], none⟩ := by decide +kernel
theorem d12_10 : decode k19_ 10 = .ok (.aload_n 0, 1) := by decide +kernel
theorem d12_11 : decode k19_ 11 = .ok (.invokevirtual 83, 3) := by decide +kernel
theorem d12_14 : decode k19_ 14 = .ok (.ifCond .eq 31, 3) := by decide +kernel
theorem d12_17 : decode k19_ 17 = .ok (.iload_n 1, 1) := by decide +kernel
theorem d12_18 : decode k19_ 18 = .ok (.invokestatic 191, 3) := by decide +kernel
theorem pd_13 : parseMethodDescriptor "(C)Z" = some ⟨[.char], some .boolean⟩ := by decide +kernel
theorem d12_21 : decode k19_ 21 = .ok (.ifCond .eq 24, 3) := by decide +kernel
theorem d12_24 : decode k19_ 24 = .ok (.aload_n 0, 1) := by decide +kernel
theorem d12_25 : decode k19_ 25 = .ok (.getfield 15, 3) := by decide +kernel
theorem d12_28 : decode k19_ 28 = .ok (.aload_n 0, 1) := by decide +kernel
theorem d12_29 : decode k19_ 29 = .ok (.dup, 1) := by decide +kernel
theorem d12_30 : decode k19_ 30 = .ok (.getfield 79, 3) := by decide +kernel
theorem d12_33 : decode k19_ 33 = .ok (.dup_x1, 1) := by decide +kernel
theorem d12_34 : decode k19_ 34 = .ok (.iconst 1, 1) := by decide +kernel
theorem d12_35 : decode k19_ 35 = .ok (.iadd, 1) := by decide +kernel
theorem d12_36 : decode k19_ 36 = .ok (.putfield 79, 3) := by decide +kernel
theorem d12_39 : decode k19_ 39 = .ok (.iload_n 1, 1) := by decide +kernel
theorem d12_40 : decode k19_ 40 = .ok (.i2b, 1) := by decide +kernel
theorem d12_41 : decode k19_ 41 = .ok (.bastore, 1) := by decide +kernel
theorem d12_42 : decode k19_ 42 = .ok (.goto 33, 3) := by decide +kernel
theorem d12_75 : decode k19_ 75 = .ok (.aload_n 0, 1) := by decide +kernel
theorem d12_76 : decode k19_ 76 = .ok (.areturn, 1) := by decide +kernel
theorem ef_apL0 (m : MethodId) (x0 : Addr) (x1 : Int32) : entryFrame m #[(.ref x0), (.int x1)] 2 = mkF m 0 #[.val (.ref x0), .val (.int x1)] [] := by first | (simp [entryFrame, mkF, argsToLocals, Value.category]; done) | rfl
def QapL0 (Z : State) (b : Addr) (c_ : Int32) (t : Addr) (kt : ClassId) (N : Int32) (h0 : Heap) (n0 : Nat) (v : Option Value) (h : Heap) (L : List Loc) : Prop := v = some (.ref b) ∧ Fr n0 L ∧ Keep h0 h [b, t] ∧ eX1 Z h b ∧ fL1 Z h b (.ref t) ∧ fL0 Z h b (.int 0) ∧ fL2 Z h b (.int 1) ∧ fL3 Z h b (.int 0) ∧ Arv Z h t kt .byte N [(.int (own_by c_))] (.int 0) ∧ eX0 Z h t
theorem apL0 (l : Launch) (Z : State) (a0 : Array Value) (hw : ∀ d ∈ tables_1, d.before a0 Z = true) (ws : List Jvm.Cond) (b : Addr) (c_ : Int32) (z : Int32) (t : Addr) (kt : ClassId) (N : Int32) (h0 : Heap) (n0 : Nat) (O : Old Z n0 h0) (j4_ : sT4 Z (.int z)) (hz : ¬ (z = (0 : Int32))) (E_b : eX1 Z h0 b) (j2_ : fL1 Z h0 b (.ref t)) (j0_ : fL0 Z h0 b (.int 0)) (j1_ : fL2 Z h0 b (.int 0)) (j3_ : fL3 Z h0 b (.int 0)) (V_t : Arv Z h0 t kt .byte N [] (.int 0)) (E_t : eX0 Z h0 t) (g_b : n0 ≤ b) (g_t : n0 ≤ t) (nbt : b ≠ t) (hN : 1 ≤ N.toInt) (hN8 : N.toInt ≤ 8) (hce : ¬ ((255 : Int32) < c_)) :
   own_MF l Z mN19 jdk_68_method_31_code 2 (some (.object "java/lang/AbstractStringBuilder")) ws rM1 #[(.ref b), (.int c_)] h0 (QapL0 Z b c_ t kt N h0 n0) := by
 refine MetFree.of_bodySF (plainFor_of_name pn_4) hisR ?_
 intro p e s m args below meth c s₁ Bd hml0 hP hK
 obtain ⟨rfl, hZ, hh⟩ := hP
 have hx := Bd.exec
 have hby := Bd.bytes
 have B := @hb _ _ hby
 have hml : c.maxLocals = 2 := hml0
 have hown : s.vm.findClass "java/lang/AbstractStringBuilder" = some m.cls := findClass_of_methodNamed Bd.named
 have X0 : Stand p l e rM1 s m #[(.ref b), (.int c_)] below meth c s₁ [] 0 0 := Stand.of_body Bd
 have e0 : s₁.heap = h0 := by rw [← hh, Bd.state]; rfl
 have N0 := Fr.nil n0
 have K0 := Keep.refl h0 [b, t]
 refine own_start (ef_apL0 m b c_) (Q := own_QE s rM1 (QapL0 Z b c_ t kt N h0 n0)) ?_
 show oF p e below (s₁.setTop (mkF m 0 #[.val (.ref b), .val (.int c_)] [])) _
 refine oG (fun _ k => XS.aloadN X0.here hx rfl (B d12_0) rfl rfl (XS.aloadN X0.here hx rfl (B d12_1) rfl rfl k)) ?_
 show oF p e below (s₁.setTop (mkF m 2 #[.val (.ref b), .val (.int c_)] [(.ref b), (.ref b)])) _
 obtain ⟨T0a, X0a, e0a, st0a⟩ := getF X0 hx hZ hown (host := "") (Or.inl (ow hw 62)) Via.refl e0 j1_ (g := (mkF m 2 #[.val (.ref b), .val (.int c_)] [(.ref b), (.ref b)])) rfl rfl (B d12_2)
 refine oG st0a ?_
 show oF p e below (T0a.setTop (mkF m 5 #[.val (.ref b), .val (.int c_)] [(.int 0), (.ref b)])) _
 refine oG (fun _ k => XS.iconst X0a.here hx rfl (B d12_5) (XS.iadd X0a.here hx rfl (B d12_6) rfl k)) ?_
 show oF p e below (T0a.setTop (mkF m 7 #[.val (.ref b), .val (.int c_)] [(.int 1), (.ref b)])) _
 obtain ⟨cq0b, q0b, q0b'⟩ := E_b.cell
 obtain ⟨_, _, ⟨T0b, L0b, k0b, n0b⟩, -, X0b, ⟨Lc0b, hQ0b, l0b, y0b, z0b⟩, st0b⟩ := X0a.privateBack hx (y := mN17) hown (mo hZ hw 64) (mo hZ hw 65) (own_selS (mo hZ hw 67) (by exact rfl) (Cond.privateMethod_at (mvP hZ (ow hw 66) (args := #[]))) (mo hZ hw 65) (by decide)) (Cond.privateMethod_at (mvP hZ (ow hw 66) (args := #[]))) (mo hZ hw 68) (by decide) (backOf (W := 0) (ec0 l Z a0 hw [] b (1 : Int32) t kt N [] h0 n0 O j2_ j0_ V_t (own_ec0 (by decide) (by rw [own_k1]; omega))) hZ (ow hw 68) (ow hw 24) (by decide) (by decide)) (g := (mkF m 7 #[.val (.ref b), .val (.int c_)] [(.int 1), (.ref b)])) rfl (by rw [hml]; rfl) (Steps.refl _) (a := b) (own_eqE e0a q0b) q0b' (argsL := [(.int 1)]) (rest := []) (lenOf pd_12 rfl) rfl (by show 2 * 0 + _ ≤ _; exact Nat.le_of_eq rfl) (B d12_7) (fun _ _ => ⟨rfl, e0a, (by decide : 0 + 0 ≤ _), (by decide : 0 + 0 ≤ _)⟩)
 dsimp only [Pt.U, Pt.locs, Pt.cells, Pt.slots] at X0b l0b y0b z0b st0b hQ0b
 subst y0b z0b
 obtain ⟨rfl, N0bq, e0b⟩ := hQ0b
 refine oG (fun _ k => st0b.trans k) ?_
 have N0b := oL l0b (Fr.app N0 N0bq)
 show oF p e below (T0b.setTop (mkF m 10 #[.val (.ref b), .val (.int c_)] [])) _
 refine oG (fun _ k => XS.aloadN X0b.here hx rfl (B d12_10) rfl rfl k) ?_
 show oF p e below (T0b.setTop (mkF m 11 #[.val (.ref b), .val (.int c_)] [(.ref b)])) _
 obtain ⟨cq0c, kq0c, q0ca, q0cb, q0cc⟩ := isOf hZ e0b E_b
 obtain ⟨_, _, ⟨T0c, L0c, k0c, n0c⟩, -, X0c, ⟨Lc0c, hQ0c, l0c, y0c, z0c⟩, st0c⟩ := X0b.virtualBack hx (y := mN15) (z := mN15) hown (mo hZ hw 69) (mo hZ hw 70) (notFace_of_selects (args := #[]) (mo hZ hw 72)) (mo hZ hw 72) (mo hZ hw 71) (by decide) (backOf (W := 0) (il0 l Z a0 hw [] b z h0 n0 O j4_ hz j0_) hZ (ow hw 73) (ow hw 24) (by decide) (by decide)) q0ca q0cc (g := (mkF m 11 #[.val (.ref b), .val (.int c_)] [(.ref b)])) rfl (by rw [hml]; rfl) (Steps.refl _) (argsL := []) (rest := []) (lenOf pd_10 rfl) rfl (by show 2 * 0 + _ ≤ _; exact Nat.le_of_eq rfl) (B d12_11) (fun _ _ => ⟨rfl, e0b, (by decide : 0 + 0 ≤ _), (by decide : 0 + 0 ≤ _)⟩)
 dsimp only [Pt.U, Pt.locs, Pt.cells, Pt.slots] at X0c l0c y0c z0c st0c hQ0c
 subst y0c z0c
 obtain ⟨rfl, N0cq, e0c⟩ := hQ0c
 refine oG (fun _ k => st0c.trans k) ?_
 have N0c := oL l0c (Fr.app N0b N0cq)
 show oF p e below (T0c.setTop (mkF m 14 #[.val (.ref b), .val (.int c_)] [(.int 1)])) _
 refine oG (fun _ k => XS.ifNo X0c.here hx rfl (B d12_14) rfl ((if0 _ _).trans (feq (by decide : ¬ ((1 : Int32) = (0 : Int32)))).1) (XS.iloadN X0c.here hx rfl (B d12_17) rfl k)) ?_
 show oF p e below (T0c.setTop (mkF m 18 #[.val (.ref b), .val (.int c_)] [(.int c_)])) _
 obtain ⟨_, _, ⟨T0d, L0d, k0d, n0d⟩, -, X0d, ⟨Lc0d, hQ0d, l0d, y0d, z0d⟩, st0d⟩ := Jvm.LawKit.callS X0c hx (y := mN18) hown (mo hZ hw 74) (mo hZ hw 75) (mo hZ hw 76) (mo hZ hw 77) (by decide) (backOf (W := 0) (cen1 l Z a0 hw [] c_ h0 n0 hce) hZ (ow hw 77) (ow hw 76) (by decide) (by decide)) (g := (mkF m 18 #[.val (.ref b), .val (.int c_)] [(.int c_)])) rfl (by rw [hml]; rfl) (argsL := [(.int c_)]) (rest := []) (lenOf pd_13 rfl) rfl (by show 2 * 0 + _ ≤ _; exact Nat.le_of_eq rfl) (B d12_18) (fun _ _ => ⟨rfl, e0c, (by decide : 0 + 0 ≤ _), (by decide : 0 + 0 ≤ _)⟩)
 dsimp only [Pt.U, Pt.locs, Pt.cells, Pt.slots] at X0d l0d y0d z0d st0d hQ0d
 subst y0d z0d
 obtain ⟨rfl, N0dq, e0d⟩ := hQ0d
 refine oG st0d ?_
 have N0d := oL l0d (Fr.app N0c N0dq)
 show oF p e below (T0d.setTop (mkF m 21 #[.val (.ref b), .val (.int c_)] [(.int 1)])) _
 refine oG (fun _ k => XS.ifNo X0d.here hx rfl (B d12_21) rfl ((if0 _ _).trans (feq (by decide : ¬ ((1 : Int32) = (0 : Int32)))).1) (XS.aloadN X0d.here hx rfl (B d12_24) rfl rfl k)) ?_
 show oF p e below (T0d.setTop (mkF m 25 #[.val (.ref b), .val (.int c_)] [(.ref b)])) _
 obtain ⟨T0e, X0e, e0e, st0e⟩ := getF X0d hx hZ hown (host := "") (Or.inl (ow hw 31)) Via.refl e0d j2_ (g := (mkF m 25 #[.val (.ref b), .val (.int c_)] [(.ref b)])) rfl rfl (B d12_25)
 refine oG st0e ?_
 show oF p e below (T0e.setTop (mkF m 28 #[.val (.ref b), .val (.int c_)] [(.ref t)])) _
 refine oG (fun _ k => XS.aloadN X0e.here hx rfl (B d12_28) rfl rfl (XS.dup X0e.here hx rfl (B d12_29) rfl rfl k)) ?_
 show oF p e below (T0e.setTop (mkF m 30 #[.val (.ref b), .val (.int c_)] [(.ref b), (.ref b), (.ref t)])) _
 obtain ⟨T0f, X0f, e0f, st0f⟩ := getF X0e hx hZ hown (host := "") (Or.inl (ow hw 62)) Via.refl e0e j1_ (g := (mkF m 30 #[.val (.ref b), .val (.int c_)] [(.ref b), (.ref b), (.ref t)])) rfl rfl (B d12_30)
 refine oG st0f ?_
 show oF p e below (T0f.setTop (mkF m 33 #[.val (.ref b), .val (.int c_)] [(.int 0), (.ref b), (.ref t)])) _
 refine oG (fun _ k => XS.dupX1 X0f.here hx rfl (B d12_33) rfl rfl rfl (XS.iconst X0f.here hx rfl (B d12_34) (XS.iadd X0f.here hx rfl (B d12_35) rfl k))) ?_
 show oF p e below (T0f.setTop (mkF m 36 #[.val (.ref b), .val (.int c_)] [(.int 1), (.ref b), (.int 0), (.ref t)])) _
 obtain ⟨T0g, h0g, X0g, e0g, W0g, st0g⟩ := putF X0f hx hZ hown (host := "") (Or.inl (ow hw 62)) Via.refl e0f j1_ E_b (Or.inl (ow hw 63)) (ow hw 15) (ty := .int) (by decide) rfl rfl (g := (mkF m 36 #[.val (.ref b), .val (.int c_)] [(.int 1), (.ref b), (.int 0), (.ref t)])) rfl rfl (B d12_36)
 refine oG st0g ?_
 have E_b := E_b.wr W0g
 have j2_ := j2_.other W0g (Or.inr (slot_ne (Or.inl (ow hw 32)) (Or.inl (ow hw 63)) (by decide) (t := (.array .byte)) (t' := .int) (by decide) (by decide)))
 have j0_ := j0_.other W0g (Or.inr (slot_ne (Or.inl (ow hw 34)) (Or.inl (ow hw 63)) (by decide) (t := .byte) (t' := .int) (by decide) (by decide)))
 have j3_ := j3_.other W0g (Or.inr (slot_ne (Or.inl (ow hw 268)) (Or.inl (ow hw 63)) (by decide) (t := .boolean) (t' := .int) (by decide) (by decide)))
 have V_t := V_t.other W0g (Ne.symm nbt)
 have E_t := E_t.wr W0g
 have O := O.wr W0g g_b
 have K0h := K0.wr W0g (Or.inl (List.mem_of_getElem? (i := 0) rfl))
 have j1_ := j1_.same W0g
 have N0g := Fr.snoc X0g N0d g_b
 show oF p e below (T0g.setTop (mkF m 39 #[.val (.ref b), .val (.int c_)] [(.int 0), (.ref t)])) _
 refine oG (fun _ k => XS.iloadN X0g.here hx rfl (B d12_39) rfl (XS.i2b X0g.here hx rfl (B d12_40) rfl k)) ?_
 show oF p e below (T0g.setTop (mkF m 41 #[.val (.ref b), .val (.int c_)] [(.int (c_.toInt8.toInt32)), (.int 0), (.ref t)])) _
 have V_t : Arv Z h0g t kt .byte N [(.int 0)] (.int 0) := V_t.pad (pad_rep [] (.int 0) 1)
 show oF p e below (T0g.setTop (mkF m 41 #[.val (.ref b), .val (.int c_)] [(.int (c_.toInt8.toInt32)), (.int 0), (.ref t)])) _
 obtain ⟨cl0i, A0i, q0i, S0i, M0i, H0i, G0i⟩ := id V_t
 have hin0i : ¬ ((0 : Int32) < 0 ∨ cl0i.slots.size ≤ ((0 : Int32)).toNatClampNeg) := inb_of S0i ⟨by decide, (by rw [Int32.lt_iff_toInt_lt, own_k0]; omega)⟩
 obtain ⟨T0i, h0i, X0i, e0i, W0i, st0i⟩ := stB X0g hx hZ e0g A0i (j := (0 : Int32)) hin0i (g := (mkF m 41 #[.val (.ref b), .val (.int c_)] [(.int (c_.toInt8.toInt32)), (.int 0), (.ref t)])) rfl rfl (B d12_41)
 refine oG st0i ?_
 have E_b := E_b.wr W0i
 have j2_ := j2_.other W0i (Or.inl nbt)
 have j0_ := j0_.other W0i (Or.inl nbt)
 have j1_ := j1_.other W0i (Or.inl nbt)
 have j3_ := j3_.other W0i (Or.inl nbt)
 have E_t := E_t.wr W0i
 have O := O.wr W0i g_t
 have K0j := K0h.wr W0i (Or.inl (List.mem_of_getElem? (i := 1) rfl))
 have V_t : Arv Z h0i t kt .byte N [(.int (nar .byte (c_.toInt8.toInt32)))] (.int 0) := Arv.set A0i q0i S0i M0i H0i G0i (fits_nar_byte _) W0i 0 rfl (Nat.le_of_ble_eq_true rfl)
 have N0i := Fr.snoc X0i N0g g_t
 show oF p e below (T0i.setTop (mkF m 42 #[.val (.ref b), .val (.int c_)] [])) _
 refine oG (fun _ k => XS.goto X0i.here hx rfl (pc0 := 42) (pc' := 75) rfl (B d12_42) (by decide) (by decide) (XS.aloadN X0i.here hx rfl (B d12_75) rfl rfl k)) ?_
 show oF p e below (T0i.setTop (mkF m 76 #[.val (.ref b), .val (.int c_)] [(.ref b)])) _
 obtain ⟨fs, hr, r1, r2, hW, r3⟩ := X0i.leave (v := some (.ref b)) (fun h => by rw [Bd.returns] at h; cases h)
 refine ⟨_, _, ?_, r1, r2, _, _, rfl, ?_, ⟨_, rfl⟩, hW, r3.mono (by decide) (by decide)⟩
 ·exact X0i.areturnOut hx rfl Bd.returns rfl (B d12_76) hr
 ·show QapL0 Z b c_ t kt N h0 n0 _ T0i.heap _
  rw [e0i]
  exact ⟨rfl, N0i, K0j, E_b, j2_, j0_, j1_, j3_, V_t, E_t⟩
theorem d12_45 : decode k19_ 45 = .ok (.aload_n 0, 1) := by decide +kernel
theorem d12_46 : decode k19_ 46 = .ok (.invokevirtual 83, 3) := by decide +kernel
theorem d12_49 : decode k19_ 49 = .ok (.ifCond .eq 7, 3) := by decide +kernel
theorem d12_52 : decode k19_ 52 = .ok (.aload_n 0, 1) := by decide +kernel
theorem d12_53 : decode k19_ 53 = .ok (.invokevirtual 195, 3) := by decide +kernel
theorem pd_14 : parseMethodDescriptor "()V" = some ⟨[], none⟩ := by decide +kernel
theorem d12_56 : decode k19_ 56 = .ok (.aload_n 0, 1) := by decide +kernel
theorem d12_57 : decode k19_ 57 = .ok (.getfield 15, 3) := by decide +kernel
theorem d12_60 : decode k19_ 60 = .ok (.aload_n 0, 1) := by decide +kernel
theorem d12_61 : decode k19_ 61 = .ok (.dup, 1) := by decide +kernel
theorem d12_62 : decode k19_ 62 = .ok (.getfield 79, 3) := by decide +kernel
theorem d12_65 : decode k19_ 65 = .ok (.dup_x1, 1) := by decide +kernel
theorem d12_66 : decode k19_ 66 = .ok (.iconst 1, 1) := by decide +kernel
theorem d12_67 : decode k19_ 67 = .ok (.iadd, 1) := by decide +kernel
theorem d12_68 : decode k19_ 68 = .ok (.putfield 79, 3) := by decide +kernel
theorem d12_71 : decode k19_ 71 = .ok (.iload_n 1, 1) := by decide +kernel
theorem d12_72 : decode k19_ 72 = .ok (.invokestatic 197, 3) := by decide +kernel
def QapI0 (Z : State) (b : Addr) (c_ : Int32) (N : Int32) (h0 : Heap) (n0 : Nat) (v : Option Value) (h : Heap) (L : List Loc) : Prop := ∃ (t2_ : Addr) (k2_ : ClassId), v = some (.ref b) ∧ Fr n0 L ∧ Keep h0 h [b] ∧ h0.size ≤ t2_ ∧ eX1 Z h b ∧ fL1 Z h b (.ref t2_) ∧ fL0 Z h b (.int 1) ∧ fL2 Z h b (.int 1) ∧ fL3 Z h b (.int 0) ∧ Arv Z h t2_ k2_ .byte (N <<< ((1 : Int32) &&& 31)) [(.int (own_lo c_)), (.int (own_hi c_))] (.int 0) ∧ eX0 Z h t2_
theorem apI0 (l : Launch) (Z : State) (a0 : Array Value) (hw : ∀ d ∈ tables_1, d.before a0 Z = true) (ws : List Jvm.Cond) (b : Addr) (c_ : Int32) (z : Int32) (t : Addr) (kt : ClassId) (N : Int32) (fm : Value) (h0 : Heap) (n0 : Nat) (O : Old Z n0 h0) (j6_ : sT0 Z (.int 1)) (j7_ : sT1 Z (.int 0)) (j8_ : sT2 Z (.int 8)) (j5_ : sT3 Z fm) (hfm : fm.isRef = true) (j4_ : sT4 Z (.int z)) (hz : ¬ (z = (0 : Int32))) (E_b : eX1 Z h0 b) (j2_ : fL1 Z h0 b (.ref t)) (j0_ : fL0 Z h0 b (.int 0)) (j1_ : fL2 Z h0 b (.int 0)) (j3_ : fL3 Z h0 b (.int 0)) (V_t : Arv Z h0 t kt .byte N [] (.int 0)) (E_t : eX0 Z h0 t) (g_b : n0 ≤ b) (g_t : n0 ≤ t) (nbt : b ≠ t) (hN : 1 ≤ N.toInt) (hN8 : N.toInt ≤ 8) (hce : (255 : Int32) < c_) :
   own_MF l Z mN19 jdk_68_method_31_code 2 (some (.object "java/lang/AbstractStringBuilder")) ws rM10 #[(.ref b), (.int c_)] h0 (QapI0 Z b c_ N h0 n0) := by
 refine MetFree.of_bodySF (plainFor_of_name pn_4) hisR ?_
 intro p e s m args below meth c s₁ Bd hml0 hP hK
 obtain ⟨rfl, hZ, hh⟩ := hP
 have hx := Bd.exec
 have hby := Bd.bytes
 have B := @hb _ _ hby
 have hml : c.maxLocals = 2 := hml0
 have hown : s.vm.findClass "java/lang/AbstractStringBuilder" = some m.cls := findClass_of_methodNamed Bd.named
 have X0 : Stand p l e rM10 s m #[(.ref b), (.int c_)] below meth c s₁ [] 0 0 := Stand.of_body Bd
 have e0 : s₁.heap = h0 := by rw [← hh, Bd.state]; rfl
 have N0 := Fr.nil n0
 have K0 := Keep.refl h0 [b]
 refine own_start (ef_apL0 m b c_) (Q := own_QE s rM10 (QapI0 Z b c_ N h0 n0)) ?_
 show oF p e below (s₁.setTop (mkF m 0 #[.val (.ref b), .val (.int c_)] [])) _
 refine oG (fun _ k => XS.aloadN X0.here hx rfl (B d12_0) rfl rfl (XS.aloadN X0.here hx rfl (B d12_1) rfl rfl k)) ?_
 show oF p e below (s₁.setTop (mkF m 2 #[.val (.ref b), .val (.int c_)] [(.ref b), (.ref b)])) _
 obtain ⟨T0k, X0k, e0k, st0k⟩ := getF X0 hx hZ hown (host := "") (Or.inl (ow hw 62)) Via.refl e0 j1_ (g := (mkF m 2 #[.val (.ref b), .val (.int c_)] [(.ref b), (.ref b)])) rfl rfl (B d12_2)
 refine oG st0k ?_
 show oF p e below (T0k.setTop (mkF m 5 #[.val (.ref b), .val (.int c_)] [(.int 0), (.ref b)])) _
 refine oG (fun _ k => XS.iconst X0k.here hx rfl (B d12_5) (XS.iadd X0k.here hx rfl (B d12_6) rfl k)) ?_
 show oF p e below (T0k.setTop (mkF m 7 #[.val (.ref b), .val (.int c_)] [(.int 1), (.ref b)])) _
 obtain ⟨cq0l, q0l, q0l'⟩ := E_b.cell
 obtain ⟨_, _, ⟨T0l, L0l, k0l, n0l⟩, -, X0l, ⟨Lc0l, hQ0l, l0l, y0l, z0l⟩, st0l⟩ := X0k.privateBack hx (y := mN17) hown (mo hZ hw 64) (mo hZ hw 65) (own_selS (mo hZ hw 67) (by exact rfl) (Cond.privateMethod_at (mvP hZ (ow hw 66) (args := #[]))) (mo hZ hw 65) (by decide)) (Cond.privateMethod_at (mvP hZ (ow hw 66) (args := #[]))) (mo hZ hw 68) (by decide) (backOf (W := 0) (ec0 l Z a0 hw [] b (1 : Int32) t kt N [] h0 n0 O j2_ j0_ V_t (own_ec0 (by decide) (by rw [own_k1]; omega))) hZ (ow hw 68) (ow hw 24) (by decide) (by decide)) (g := (mkF m 7 #[.val (.ref b), .val (.int c_)] [(.int 1), (.ref b)])) rfl (by rw [hml]; rfl) (Steps.refl _) (a := b) (own_eqE e0k q0l) q0l' (argsL := [(.int 1)]) (rest := []) (lenOf pd_12 rfl) rfl (by show 2 * 0 + _ ≤ _; exact Nat.le_of_eq rfl) (B d12_7) (fun _ _ => ⟨rfl, e0k, (by decide : 0 + 0 ≤ _), (by decide : 0 + 0 ≤ _)⟩)
 dsimp only [Pt.U, Pt.locs, Pt.cells, Pt.slots] at X0l l0l y0l z0l st0l hQ0l
 subst y0l z0l
 obtain ⟨rfl, N0lq, e0l⟩ := hQ0l
 refine oG (fun _ k => st0l.trans k) ?_
 have N0l := oL l0l (Fr.app N0 N0lq)
 show oF p e below (T0l.setTop (mkF m 10 #[.val (.ref b), .val (.int c_)] [])) _
 refine oG (fun _ k => XS.aloadN X0l.here hx rfl (B d12_10) rfl rfl k) ?_
 show oF p e below (T0l.setTop (mkF m 11 #[.val (.ref b), .val (.int c_)] [(.ref b)])) _
 obtain ⟨cq0m, kq0m, q0ma, q0mb, q0mc⟩ := isOf hZ e0l E_b
 obtain ⟨_, _, ⟨T0m, L0m, k0m, n0m⟩, -, X0m, ⟨Lc0m, hQ0m, l0m, y0m, z0m⟩, st0m⟩ := X0l.virtualBack hx (y := mN15) (z := mN15) hown (mo hZ hw 69) (mo hZ hw 70) (notFace_of_selects (args := #[]) (mo hZ hw 72)) (mo hZ hw 72) (mo hZ hw 71) (by decide) (backOf (W := 0) (il0 l Z a0 hw [] b z h0 n0 O j4_ hz j0_) hZ (ow hw 73) (ow hw 24) (by decide) (by decide)) q0ma q0mc (g := (mkF m 11 #[.val (.ref b), .val (.int c_)] [(.ref b)])) rfl (by rw [hml]; rfl) (Steps.refl _) (argsL := []) (rest := []) (lenOf pd_10 rfl) rfl (by show 2 * 0 + _ ≤ _; exact Nat.le_of_eq rfl) (B d12_11) (fun _ _ => ⟨rfl, e0l, (by decide : 0 + 0 ≤ _), (by decide : 0 + 0 ≤ _)⟩)
 dsimp only [Pt.U, Pt.locs, Pt.cells, Pt.slots] at X0m l0m y0m z0m st0m hQ0m
 subst y0m z0m
 obtain ⟨rfl, N0mq, e0m⟩ := hQ0m
 refine oG (fun _ k => st0m.trans k) ?_
 have N0m := oL l0m (Fr.app N0l N0mq)
 show oF p e below (T0m.setTop (mkF m 14 #[.val (.ref b), .val (.int c_)] [(.int 1)])) _
 refine oG (fun _ k => XS.ifNo X0m.here hx rfl (B d12_14) rfl ((if0 _ _).trans (feq (by decide : ¬ ((1 : Int32) = (0 : Int32)))).1) (XS.iloadN X0m.here hx rfl (B d12_17) rfl k)) ?_
 show oF p e below (T0m.setTop (mkF m 18 #[.val (.ref b), .val (.int c_)] [(.int c_)])) _
 obtain ⟨_, _, ⟨T0n, L0n, k0n, n0n⟩, -, X0n, ⟨Lc0n, hQ0n, l0n, y0n, z0n⟩, st0n⟩ := Jvm.LawKit.callS X0m hx (y := mN18) hown (mo hZ hw 74) (mo hZ hw 75) (mo hZ hw 76) (mo hZ hw 77) (by decide) (backOf (W := 0) (cen0 l Z a0 hw [] c_ h0 n0 hce) hZ (ow hw 77) (ow hw 76) (by decide) (by decide)) (g := (mkF m 18 #[.val (.ref b), .val (.int c_)] [(.int c_)])) rfl (by rw [hml]; rfl) (argsL := [(.int c_)]) (rest := []) (lenOf pd_13 rfl) rfl (by show 2 * 0 + _ ≤ _; exact Nat.le_of_eq rfl) (B d12_18) (fun _ _ => ⟨rfl, e0m, (by decide : 0 + 0 ≤ _), (by decide : 0 + 0 ≤ _)⟩)
 dsimp only [Pt.U, Pt.locs, Pt.cells, Pt.slots] at X0n l0n y0n z0n st0n hQ0n
 subst y0n z0n
 obtain ⟨rfl, N0nq, e0n⟩ := hQ0n
 refine oG st0n ?_
 have N0n := oL l0n (Fr.app N0m N0nq)
 show oF p e below (T0n.setTop (mkF m 21 #[.val (.ref b), .val (.int c_)] [(.int 0)])) _
 refine oG (fun _ k => XS.ifYes X0n.here hx rfl (pc0 := 21) (pc' := 45) rfl (B d12_21) rfl ((if0 _ _).trans (teq (by decide : (0 : Int32) = (0 : Int32))).1) (by decide) (by decide) (XS.aloadN X0n.here hx rfl (B d12_45) rfl rfl k)) ?_
 show oF p e below (T0n.setTop (mkF m 46 #[.val (.ref b), .val (.int c_)] [(.ref b)])) _
 obtain ⟨cq0o, kq0o, q0oa, q0ob, q0oc⟩ := isOf hZ e0n E_b
 obtain ⟨_, _, ⟨T0o, L0o, k0o, n0o⟩, -, X0o, ⟨Lc0o, hQ0o, l0o, y0o, z0o⟩, st0o⟩ := X0n.virtualBack hx (y := mN15) (z := mN15) hown (mo hZ hw 69) (mo hZ hw 70) (notFace_of_selects (args := #[]) (mo hZ hw 72)) (mo hZ hw 72) (mo hZ hw 71) (by decide) (backOf (W := 0) (il0 l Z a0 hw [] b z h0 n0 O j4_ hz j0_) hZ (ow hw 73) (ow hw 24) (by decide) (by decide)) q0oa q0oc (g := (mkF m 46 #[.val (.ref b), .val (.int c_)] [(.ref b)])) rfl (by rw [hml]; rfl) (Steps.refl _) (argsL := []) (rest := []) (lenOf pd_10 rfl) rfl (by show 2 * 0 + _ ≤ _; exact Nat.le_of_eq rfl) (B d12_46) (fun _ _ => ⟨rfl, e0n, (by decide : 0 + 0 ≤ _), (by decide : 0 + 0 ≤ _)⟩)
 dsimp only [Pt.U, Pt.locs, Pt.cells, Pt.slots] at X0o l0o y0o z0o st0o hQ0o
 subst y0o z0o
 obtain ⟨rfl, N0oq, e0o⟩ := hQ0o
 refine oG (fun _ k => st0o.trans k) ?_
 have N0o := oL l0o (Fr.app N0n N0oq)
 show oF p e below (T0o.setTop (mkF m 49 #[.val (.ref b), .val (.int c_)] [(.int 1)])) _
 refine oG (fun _ k => XS.ifNo X0o.here hx rfl (B d12_49) rfl ((if0 _ _).trans (feq (by decide : ¬ ((1 : Int32) = (0 : Int32)))).1) (XS.aloadN X0o.here hx rfl (B d12_52) rfl rfl k)) ?_
 show oF p e below (T0o.setTop (mkF m 53 #[.val (.ref b), .val (.int c_)] [(.ref b)])) _
 obtain ⟨cq0p, q0p, q0p'⟩ := E_b.cell
 obtain ⟨_, _, ⟨T0p, L0p, k0p, n0p⟩, -, X0p, ⟨Lc0p, hQ0p, l0p, y0p, z0p⟩, st0p⟩ := X0o.privateBack hx (y := mN16) hown (mo hZ hw 215) (mo hZ hw 216) (own_selS (mo hZ hw 67) (by exact rfl) (Cond.privateMethod_at (mvP hZ (ow hw 217) (args := #[]))) (mo hZ hw 216) (by decide)) (Cond.privateMethod_at (mvP hZ (ow hw 217) (args := #[]))) (mo hZ hw 219) (by decide) (backOf (W := 0) (ifl0 l Z a0 hw [] b z t kt N fm h0 n0 O j4_ hz j6_ j7_ j8_ j5_ hfm E_b j2_ j0_ j1_ j3_ V_t g_b g_t nbt (by omega) hN8) hZ (ow hw 219) (ow hw 24) (by decide) (by decide)) (g := (mkF m 53 #[.val (.ref b), .val (.int c_)] [(.ref b)])) rfl (by rw [hml]; rfl) (Steps.refl _) (a := b) (own_eqE e0o q0p) q0p' (argsL := []) (rest := []) (lenOf pd_14 rfl) rfl (by show 2 * 0 + _ ≤ _; exact Nat.le_of_eq rfl) (B d12_53) (fun _ _ => ⟨rfl, e0o, (by decide : 0 + 1 ≤ _), (by decide : 0 + 16 ≤ _)⟩)
 dsimp only [Pt.U, Pt.locs, Pt.cells, Pt.slots] at X0p l0p y0p z0p st0p hQ0p
 subst y0p z0p
 obtain ⟨t2_0q, k2_0r, rfl, N0pq, Kq0p, P0p_0, P0p_1, P0p_2, P0p_3, P0p_4, P0p_5, P0p_6, P0p_7⟩ := hQ0p
 refine oG (fun _ k => st0p.trans k) ?_
 have N0p := oL l0p (Fr.app N0o N0pq)
 have j31_ : b ≠ t2_0q := Nat.ne_of_lt (Nat.lt_of_lt_of_le E_b.lt P0p_0)
 have ne_t_t2_119 : t ≠ t2_0q := Nat.ne_of_lt (Nat.lt_of_lt_of_le V_t.lt P0p_0)
 have j64_ : n0 ≤ t2_0q := Nat.le_trans (own_osz O) P0p_0
 have j65_ : h0.size ≤ t2_0q := Nat.le_trans K0.1 P0p_0
 have E_b := E_b.keep Kq0p
 clear j2_
 clear j0_
 clear j1_
 clear j3_
 have V_t := V_t.keep Kq0p (ninS (Ne.symm nbt) nin0)
 have E_t := E_t.keep Kq0p
 have O := O.keep Kq0p (allS g_b all0)
 have K0s := K0.trans Kq0p (allS (Or.inl (List.mem_of_getElem? (i := 0) rfl)) all0)
 have E_b := P0p_1
 have j2_ := P0p_2
 have j0_ := P0p_3
 have j1_ := P0p_4
 have j3_ := P0p_5
 have j24_ := P0p_6
 have j32_ := P0p_7
 show oF p e below (T0p.setTop (mkF m 56 #[.val (.ref b), .val (.int c_)] [])) _
 refine oG (fun _ k => XS.aloadN X0p.here hx rfl (B d12_56) rfl rfl k) ?_
 show oF p e below (T0p.setTop (mkF m 57 #[.val (.ref b), .val (.int c_)] [(.ref b)])) _
 obtain ⟨T0t, X0t, e0t, st0t⟩ := getF X0p hx hZ hown (host := "") (Or.inl (ow hw 31)) Via.refl rfl j2_ (g := (mkF m 57 #[.val (.ref b), .val (.int c_)] [(.ref b)])) rfl rfl (B d12_57)
 refine oG st0t ?_
 show oF p e below (T0t.setTop (mkF m 60 #[.val (.ref b), .val (.int c_)] [(.ref t2_0q)])) _
 refine oG (fun _ k => XS.aloadN X0t.here hx rfl (B d12_60) rfl rfl (XS.dup X0t.here hx rfl (B d12_61) rfl rfl k)) ?_
 show oF p e below (T0t.setTop (mkF m 62 #[.val (.ref b), .val (.int c_)] [(.ref b), (.ref b), (.ref t2_0q)])) _
 obtain ⟨T0u, X0u, e0u, st0u⟩ := getF X0t hx hZ hown (host := "") (Or.inl (ow hw 62)) Via.refl e0t j1_ (g := (mkF m 62 #[.val (.ref b), .val (.int c_)] [(.ref b), (.ref b), (.ref t2_0q)])) rfl rfl (B d12_62)
 refine oG st0u ?_
 show oF p e below (T0u.setTop (mkF m 65 #[.val (.ref b), .val (.int c_)] [(.int 0), (.ref b), (.ref t2_0q)])) _
 refine oG (fun _ k => XS.dupX1 X0u.here hx rfl (B d12_65) rfl rfl rfl (XS.iconst X0u.here hx rfl (B d12_66) (XS.iadd X0u.here hx rfl (B d12_67) rfl k))) ?_
 show oF p e below (T0u.setTop (mkF m 68 #[.val (.ref b), .val (.int c_)] [(.int 1), (.ref b), (.int 0), (.ref t2_0q)])) _
 obtain ⟨T0v, h0v, X0v, e0v, W0v, st0v⟩ := putF X0u hx hZ hown (host := "") (Or.inl (ow hw 62)) Via.refl e0u j1_ E_b (Or.inl (ow hw 63)) (ow hw 15) (ty := .int) (by decide) rfl rfl (g := (mkF m 68 #[.val (.ref b), .val (.int c_)] [(.int 1), (.ref b), (.int 0), (.ref t2_0q)])) rfl rfl (B d12_68)
 refine oG st0v ?_
 have E_b := E_b.wr W0v
 have V_t := V_t.other W0v (Ne.symm nbt)
 have E_t := E_t.wr W0v
 have j2_ := j2_.other W0v (Or.inr (slot_ne (Or.inl (ow hw 32)) (Or.inl (ow hw 63)) (by decide) (t := (.array .byte)) (t' := .int) (by decide) (by decide)))
 have j0_ := j0_.other W0v (Or.inr (slot_ne (Or.inl (ow hw 34)) (Or.inl (ow hw 63)) (by decide) (t := .byte) (t' := .int) (by decide) (by decide)))
 have j3_ := j3_.other W0v (Or.inr (slot_ne (Or.inl (ow hw 268)) (Or.inl (ow hw 63)) (by decide) (t := .boolean) (t' := .int) (by decide) (by decide)))
 have j24_ := j24_.other W0v (Ne.symm j31_)
 have j32_ := j32_.wr W0v
 have O := O.wr W0v g_b
 have K0w := K0s.wr W0v (Or.inl (List.mem_of_getElem? (i := 0) rfl))
 have j1_ := j1_.same W0v
 have N0v := Fr.snoc X0v N0p g_b
 show oF p e below (T0v.setTop (mkF m 71 #[.val (.ref b), .val (.int c_)] [(.int 0), (.ref t2_0q)])) _
 refine oG (fun _ k => XS.iloadN X0v.here hx rfl (B d12_71) rfl k) ?_
 show oF p e below (T0v.setTop (mkF m 72 #[.val (.ref b), .val (.int c_)] [(.int c_), (.int 0), (.ref t2_0q)])) _
 obtain ⟨_, _, ⟨T0x, L0x, k0x, n0x⟩, -, X0x, ⟨Lc0x, hQ0x, l0x, y0x, z0x⟩, st0x⟩ := Jvm.LawKit.callS X0v hx (y := mN5) hown (mo hZ hw 281) (mo hZ hw 282) (mo hZ hw 222) (mo hZ hw 283) (by decide) (backOf (W := 0) (ps l Z a0 hw [] t2_0q (0 : Int32) c_ k2_0r (N <<< ((1 : Int32) &&& 31)) [] fm h0v n0 O j6_ j7_ j8_ j5_ hfm j24_ j64_ (by rw [own_k0] <;> rfl) (own_mk (by omega) hN8 (by simp only [List.length_cons, List.length_nil]; omega)) (own_m0 (by omega) hN8).2) hZ (ow hw 283) (ow hw 222) (by decide) (by decide)) (g := (mkF m 72 #[.val (.ref b), .val (.int c_)] [(.int c_), (.int 0), (.ref t2_0q)])) rfl (by rw [hml]; rfl) (argsL := [(.ref t2_0q), (.int 0), (.int c_)]) (rest := []) (lenOf pd_4 rfl) rfl (by show 2 * 0 + _ ≤ _; exact Nat.le_of_eq rfl) (B d12_72) (fun _ _ => ⟨rfl, e0v, (by decide : 1 + 0 ≤ _), (by decide : 16 + 0 ≤ _)⟩)
 dsimp only [Pt.U, Pt.locs, Pt.cells, Pt.slots] at X0x l0x y0x z0x st0x hQ0x
 subst y0x z0x
 obtain ⟨rfl, N0xq, Kq0x, P0x_0⟩ := hQ0x
 refine oG st0x ?_
 have N0x := oL l0x (Fr.app N0v N0xq)
 have E_b := E_b.keep Kq0x
 have V_t := V_t.keep Kq0x (ninS ne_t_t2_119 nin0)
 have E_t := E_t.keep Kq0x
 have j2_ := j2_.keep Kq0x (ninS j31_ nin0)
 have j0_ := j0_.keep Kq0x (ninS j31_ nin0)
 have j1_ := j1_.keep Kq0x (ninS j31_ nin0)
 have j3_ := j3_.keep Kq0x (ninS j31_ nin0)
 clear j24_
 have j32_ := j32_.keep Kq0x
 have O := O.keep Kq0x (allS j64_ all0)
 have K0y := K0w.trans Kq0x (allS (Or.inr j65_) all0)
 have j24_ := P0x_0
 show oF p e below (T0x.setTop (mkF m 75 #[.val (.ref b), .val (.int c_)] [])) _
 refine oG (fun _ k => XS.aloadN X0x.here hx rfl (B d12_75) rfl rfl k) ?_
 show oF p e below (T0x.setTop (mkF m 76 #[.val (.ref b), .val (.int c_)] [(.ref b)])) _
 obtain ⟨fs, hr, r1, r2, hW, r3⟩ := X0x.leave (v := some (.ref b)) (fun h => by rw [Bd.returns] at h; cases h)
 refine ⟨_, _, ?_, r1, r2, _, _, rfl, ?_, ⟨_, rfl⟩, hW, r3.mono (by decide) (by decide)⟩
 ·exact X0x.areturnOut hx rfl Bd.returns rfl (B d12_76) hr
 ·show QapI0 Z b c_ N h0 n0 _ T0x.heap _
  exact ⟨t2_0q, k2_0r, rfl, N0x, K0y, j65_, E_b, j2_, j0_, j1_, j3_, j24_, j32_⟩
def QapL1 (Z : State) (b : Addr) (c_ : Int32) (t : Addr) (kt : ClassId) (N : Int32) (i0_ : Int32) (h0 : Heap) (n0 : Nat) (v : Option Value) (h : Heap) (L : List Loc) : Prop := v = some (.ref b) ∧ Fr n0 L ∧ Keep h0 h [b, t] ∧ eX1 Z h b ∧ fL1 Z h b (.ref t) ∧ fL0 Z h b (.int 0) ∧ fL2 Z h b (.int 2) ∧ fL3 Z h b (.int 0) ∧ Arv Z h t kt .byte N [(.int i0_), (.int (own_by c_))] (.int 0) ∧ eX0 Z h t
theorem apL1 (l : Launch) (Z : State) (a0 : Array Value) (hw : ∀ d ∈ tables_1, d.before a0 Z = true) (ws : List Jvm.Cond) (b : Addr) (c_ : Int32) (z : Int32) (t : Addr) (kt : ClassId) (N : Int32) (i0_ : Int32) (h0 : Heap) (n0 : Nat) (O : Old Z n0 h0) (j4_ : sT4 Z (.int z)) (hz : ¬ (z = (0 : Int32))) (E_b : eX1 Z h0 b) (j2_ : fL1 Z h0 b (.ref t)) (j0_ : fL0 Z h0 b (.int 0)) (j1_ : fL2 Z h0 b (.int 1)) (j3_ : fL3 Z h0 b (.int 0)) (V_t : Arv Z h0 t kt .byte N [(.int i0_)] (.int 0)) (E_t : eX0 Z h0 t) (g_b : n0 ≤ b) (g_t : n0 ≤ t) (nbt : b ≠ t) (hN : 2 ≤ N.toInt) (hN8 : N.toInt ≤ 8) (hce : ¬ ((255 : Int32) < c_)) :
   own_MF l Z mN19 jdk_68_method_31_code 2 (some (.object "java/lang/AbstractStringBuilder")) ws rM1 #[(.ref b), (.int c_)] h0 (QapL1 Z b c_ t kt N i0_ h0 n0) := by
 refine MetFree.of_bodySF (plainFor_of_name pn_4) hisR ?_
 intro p e s m args below meth c s₁ Bd hml0 hP hK
 obtain ⟨rfl, hZ, hh⟩ := hP
 have hx := Bd.exec
 have hby := Bd.bytes
 have B := @hb _ _ hby
 have hml : c.maxLocals = 2 := hml0
 have hown : s.vm.findClass "java/lang/AbstractStringBuilder" = some m.cls := findClass_of_methodNamed Bd.named
 have X0 : Stand p l e rM1 s m #[(.ref b), (.int c_)] below meth c s₁ [] 0 0 := Stand.of_body Bd
 have e0 : s₁.heap = h0 := by rw [← hh, Bd.state]; rfl
 have N0 := Fr.nil n0
 have K0 := Keep.refl h0 [b, t]
 refine own_start (ef_apL0 m b c_) (Q := own_QE s rM1 (QapL1 Z b c_ t kt N i0_ h0 n0)) ?_
 show oF p e below (s₁.setTop (mkF m 0 #[.val (.ref b), .val (.int c_)] [])) _
 refine oG (fun _ k => XS.aloadN X0.here hx rfl (B d12_0) rfl rfl (XS.aloadN X0.here hx rfl (B d12_1) rfl rfl k)) ?_
 show oF p e below (s₁.setTop (mkF m 2 #[.val (.ref b), .val (.int c_)] [(.ref b), (.ref b)])) _
 obtain ⟨T0z, X0z, e0z, st0z⟩ := getF X0 hx hZ hown (host := "") (Or.inl (ow hw 62)) Via.refl e0 j1_ (g := (mkF m 2 #[.val (.ref b), .val (.int c_)] [(.ref b), (.ref b)])) rfl rfl (B d12_2)
 refine oG st0z ?_
 show oF p e below (T0z.setTop (mkF m 5 #[.val (.ref b), .val (.int c_)] [(.int 1), (.ref b)])) _
 refine oG (fun _ k => XS.iconst X0z.here hx rfl (B d12_5) (XS.iadd X0z.here hx rfl (B d12_6) rfl k)) ?_
 show oF p e below (T0z.setTop (mkF m 7 #[.val (.ref b), .val (.int c_)] [(.int 2), (.ref b)])) _
 obtain ⟨cq0A, q0A, q0A'⟩ := E_b.cell
 obtain ⟨_, _, ⟨T0A, L0A, k0A, n0A⟩, -, X0A, ⟨Lc0A, hQ0A, l0A, y0A, z0A⟩, st0A⟩ := X0z.privateBack hx (y := mN17) hown (mo hZ hw 64) (mo hZ hw 65) (own_selS (mo hZ hw 67) (by exact rfl) (Cond.privateMethod_at (mvP hZ (ow hw 66) (args := #[]))) (mo hZ hw 65) (by decide)) (Cond.privateMethod_at (mvP hZ (ow hw 66) (args := #[]))) (mo hZ hw 68) (by decide) (backOf (W := 0) (ec0 l Z a0 hw [] b (2 : Int32) t kt N [(.int i0_)] h0 n0 O j2_ j0_ V_t (own_ec0 (by decide) (by rw [own_k2]; omega))) hZ (ow hw 68) (ow hw 24) (by decide) (by decide)) (g := (mkF m 7 #[.val (.ref b), .val (.int c_)] [(.int 2), (.ref b)])) rfl (by rw [hml]; rfl) (Steps.refl _) (a := b) (own_eqE e0z q0A) q0A' (argsL := [(.int 2)]) (rest := []) (lenOf pd_12 rfl) rfl (by show 2 * 0 + _ ≤ _; exact Nat.le_of_eq rfl) (B d12_7) (fun _ _ => ⟨rfl, e0z, (by decide : 0 + 0 ≤ _), (by decide : 0 + 0 ≤ _)⟩)
 dsimp only [Pt.U, Pt.locs, Pt.cells, Pt.slots] at X0A l0A y0A z0A st0A hQ0A
 subst y0A z0A
 obtain ⟨rfl, N0Aq, e0A⟩ := hQ0A
 refine oG (fun _ k => st0A.trans k) ?_
 have N0A := oL l0A (Fr.app N0 N0Aq)
 show oF p e below (T0A.setTop (mkF m 10 #[.val (.ref b), .val (.int c_)] [])) _
 refine oG (fun _ k => XS.aloadN X0A.here hx rfl (B d12_10) rfl rfl k) ?_
 show oF p e below (T0A.setTop (mkF m 11 #[.val (.ref b), .val (.int c_)] [(.ref b)])) _
 obtain ⟨cq0B, kq0B, q0Ba, q0Bb, q0Bc⟩ := isOf hZ e0A E_b
 obtain ⟨_, _, ⟨T0B, L0B, k0B, n0B⟩, -, X0B, ⟨Lc0B, hQ0B, l0B, y0B, z0B⟩, st0B⟩ := X0A.virtualBack hx (y := mN15) (z := mN15) hown (mo hZ hw 69) (mo hZ hw 70) (notFace_of_selects (args := #[]) (mo hZ hw 72)) (mo hZ hw 72) (mo hZ hw 71) (by decide) (backOf (W := 0) (il0 l Z a0 hw [] b z h0 n0 O j4_ hz j0_) hZ (ow hw 73) (ow hw 24) (by decide) (by decide)) q0Ba q0Bc (g := (mkF m 11 #[.val (.ref b), .val (.int c_)] [(.ref b)])) rfl (by rw [hml]; rfl) (Steps.refl _) (argsL := []) (rest := []) (lenOf pd_10 rfl) rfl (by show 2 * 0 + _ ≤ _; exact Nat.le_of_eq rfl) (B d12_11) (fun _ _ => ⟨rfl, e0A, (by decide : 0 + 0 ≤ _), (by decide : 0 + 0 ≤ _)⟩)
 dsimp only [Pt.U, Pt.locs, Pt.cells, Pt.slots] at X0B l0B y0B z0B st0B hQ0B
 subst y0B z0B
 obtain ⟨rfl, N0Bq, e0B⟩ := hQ0B
 refine oG (fun _ k => st0B.trans k) ?_
 have N0B := oL l0B (Fr.app N0A N0Bq)
 show oF p e below (T0B.setTop (mkF m 14 #[.val (.ref b), .val (.int c_)] [(.int 1)])) _
 refine oG (fun _ k => XS.ifNo X0B.here hx rfl (B d12_14) rfl ((if0 _ _).trans (feq (by decide : ¬ ((1 : Int32) = (0 : Int32)))).1) (XS.iloadN X0B.here hx rfl (B d12_17) rfl k)) ?_
 show oF p e below (T0B.setTop (mkF m 18 #[.val (.ref b), .val (.int c_)] [(.int c_)])) _
 obtain ⟨_, _, ⟨T0C, L0C, k0C, n0C⟩, -, X0C, ⟨Lc0C, hQ0C, l0C, y0C, z0C⟩, st0C⟩ := Jvm.LawKit.callS X0B hx (y := mN18) hown (mo hZ hw 74) (mo hZ hw 75) (mo hZ hw 76) (mo hZ hw 77) (by decide) (backOf (W := 0) (cen1 l Z a0 hw [] c_ h0 n0 hce) hZ (ow hw 77) (ow hw 76) (by decide) (by decide)) (g := (mkF m 18 #[.val (.ref b), .val (.int c_)] [(.int c_)])) rfl (by rw [hml]; rfl) (argsL := [(.int c_)]) (rest := []) (lenOf pd_13 rfl) rfl (by show 2 * 0 + _ ≤ _; exact Nat.le_of_eq rfl) (B d12_18) (fun _ _ => ⟨rfl, e0B, (by decide : 0 + 0 ≤ _), (by decide : 0 + 0 ≤ _)⟩)
 dsimp only [Pt.U, Pt.locs, Pt.cells, Pt.slots] at X0C l0C y0C z0C st0C hQ0C
 subst y0C z0C
 obtain ⟨rfl, N0Cq, e0C⟩ := hQ0C
 refine oG st0C ?_
 have N0C := oL l0C (Fr.app N0B N0Cq)
 show oF p e below (T0C.setTop (mkF m 21 #[.val (.ref b), .val (.int c_)] [(.int 1)])) _
 refine oG (fun _ k => XS.ifNo X0C.here hx rfl (B d12_21) rfl ((if0 _ _).trans (feq (by decide : ¬ ((1 : Int32) = (0 : Int32)))).1) (XS.aloadN X0C.here hx rfl (B d12_24) rfl rfl k)) ?_
 show oF p e below (T0C.setTop (mkF m 25 #[.val (.ref b), .val (.int c_)] [(.ref b)])) _
 obtain ⟨T0D, X0D, e0D, st0D⟩ := getF X0C hx hZ hown (host := "") (Or.inl (ow hw 31)) Via.refl e0C j2_ (g := (mkF m 25 #[.val (.ref b), .val (.int c_)] [(.ref b)])) rfl rfl (B d12_25)
 refine oG st0D ?_
 show oF p e below (T0D.setTop (mkF m 28 #[.val (.ref b), .val (.int c_)] [(.ref t)])) _
 refine oG (fun _ k => XS.aloadN X0D.here hx rfl (B d12_28) rfl rfl (XS.dup X0D.here hx rfl (B d12_29) rfl rfl k)) ?_
 show oF p e below (T0D.setTop (mkF m 30 #[.val (.ref b), .val (.int c_)] [(.ref b), (.ref b), (.ref t)])) _
 obtain ⟨T0E, X0E, e0E, st0E⟩ := getF X0D hx hZ hown (host := "") (Or.inl (ow hw 62)) Via.refl e0D j1_ (g := (mkF m 30 #[.val (.ref b), .val (.int c_)] [(.ref b), (.ref b), (.ref t)])) rfl rfl (B d12_30)
 refine oG st0E ?_
 show oF p e below (T0E.setTop (mkF m 33 #[.val (.ref b), .val (.int c_)] [(.int 1), (.ref b), (.ref t)])) _
 refine oG (fun _ k => XS.dupX1 X0E.here hx rfl (B d12_33) rfl rfl rfl (XS.iconst X0E.here hx rfl (B d12_34) (XS.iadd X0E.here hx rfl (B d12_35) rfl k))) ?_
 show oF p e below (T0E.setTop (mkF m 36 #[.val (.ref b), .val (.int c_)] [(.int 2), (.ref b), (.int 1), (.ref t)])) _
 obtain ⟨T0F, h0F, X0F, e0F, W0F, st0F⟩ := putF X0E hx hZ hown (host := "") (Or.inl (ow hw 62)) Via.refl e0E j1_ E_b (Or.inl (ow hw 63)) (ow hw 15) (ty := .int) (by decide) rfl rfl (g := (mkF m 36 #[.val (.ref b), .val (.int c_)] [(.int 2), (.ref b), (.int 1), (.ref t)])) rfl rfl (B d12_36)
 refine oG st0F ?_
 have E_b := E_b.wr W0F
 have j2_ := j2_.other W0F (Or.inr (slot_ne (Or.inl (ow hw 32)) (Or.inl (ow hw 63)) (by decide) (t := (.array .byte)) (t' := .int) (by decide) (by decide)))
 have j0_ := j0_.other W0F (Or.inr (slot_ne (Or.inl (ow hw 34)) (Or.inl (ow hw 63)) (by decide) (t := .byte) (t' := .int) (by decide) (by decide)))
 have j3_ := j3_.other W0F (Or.inr (slot_ne (Or.inl (ow hw 268)) (Or.inl (ow hw 63)) (by decide) (t := .boolean) (t' := .int) (by decide) (by decide)))
 have V_t := V_t.other W0F (Ne.symm nbt)
 have E_t := E_t.wr W0F
 have O := O.wr W0F g_b
 have K0G := K0.wr W0F (Or.inl (List.mem_of_getElem? (i := 0) rfl))
 have j1_ := j1_.same W0F
 have N0F := Fr.snoc X0F N0C g_b
 show oF p e below (T0F.setTop (mkF m 39 #[.val (.ref b), .val (.int c_)] [(.int 1), (.ref t)])) _
 refine oG (fun _ k => XS.iloadN X0F.here hx rfl (B d12_39) rfl (XS.i2b X0F.here hx rfl (B d12_40) rfl k)) ?_
 show oF p e below (T0F.setTop (mkF m 41 #[.val (.ref b), .val (.int c_)] [(.int (c_.toInt8.toInt32)), (.int 1), (.ref t)])) _
 have V_t : Arv Z h0F t kt .byte N [(.int i0_), (.int 0)] (.int 0) := V_t.pad (pad_rep [(.int i0_)] (.int 0) 1)
 show oF p e below (T0F.setTop (mkF m 41 #[.val (.ref b), .val (.int c_)] [(.int (c_.toInt8.toInt32)), (.int 1), (.ref t)])) _
 obtain ⟨cl0H, A0H, q0H, S0H, M0H, H0H, G0H⟩ := id V_t
 have hin0H : ¬ ((1 : Int32) < 0 ∨ cl0H.slots.size ≤ ((1 : Int32)).toNatClampNeg) := inb_of S0H ⟨by decide, (by rw [Int32.lt_iff_toInt_lt, own_k1]; omega)⟩
 obtain ⟨T0H, h0H, X0H, e0H, W0H, st0H⟩ := stB X0F hx hZ e0F A0H (j := (1 : Int32)) hin0H (g := (mkF m 41 #[.val (.ref b), .val (.int c_)] [(.int (c_.toInt8.toInt32)), (.int 1), (.ref t)])) rfl rfl (B d12_41)
 refine oG st0H ?_
 have E_b := E_b.wr W0H
 have j2_ := j2_.other W0H (Or.inl nbt)
 have j0_ := j0_.other W0H (Or.inl nbt)
 have j1_ := j1_.other W0H (Or.inl nbt)
 have j3_ := j3_.other W0H (Or.inl nbt)
 have E_t := E_t.wr W0H
 have O := O.wr W0H g_t
 have K0I := K0G.wr W0H (Or.inl (List.mem_of_getElem? (i := 1) rfl))
 have V_t : Arv Z h0H t kt .byte N [(.int i0_), (.int (nar .byte (c_.toInt8.toInt32)))] (.int 0) := Arv.set A0H q0H S0H M0H H0H G0H (fits_nar_byte _) W0H 1 rfl (Nat.le_of_ble_eq_true rfl)
 have N0H := Fr.snoc X0H N0F g_t
 show oF p e below (T0H.setTop (mkF m 42 #[.val (.ref b), .val (.int c_)] [])) _
 refine oG (fun _ k => XS.goto X0H.here hx rfl (pc0 := 42) (pc' := 75) rfl (B d12_42) (by decide) (by decide) (XS.aloadN X0H.here hx rfl (B d12_75) rfl rfl k)) ?_
 show oF p e below (T0H.setTop (mkF m 76 #[.val (.ref b), .val (.int c_)] [(.ref b)])) _
 obtain ⟨fs, hr, r1, r2, hW, r3⟩ := X0H.leave (v := some (.ref b)) (fun h => by rw [Bd.returns] at h; cases h)
 refine ⟨_, _, ?_, r1, r2, _, _, rfl, ?_, ⟨_, rfl⟩, hW, r3.mono (by decide) (by decide)⟩
 ·exact X0H.areturnOut hx rfl Bd.returns rfl (B d12_76) hr
 ·show QapL1 Z b c_ t kt N i0_ h0 n0 _ T0H.heap _
  rw [e0H]
  exact ⟨rfl, N0H, K0I, E_b, j2_, j0_, j1_, j3_, V_t, E_t⟩
def QapI1 (Z : State) (b : Addr) (c_ : Int32) (N : Int32) (i0_ : Int32) (h0 : Heap) (n0 : Nat) (v : Option Value) (h : Heap) (L : List Loc) : Prop := ∃ (t2_ : Addr) (k2_ : ClassId), v = some (.ref b) ∧ Fr n0 L ∧ Keep h0 h [b] ∧ h0.size ≤ t2_ ∧ eX1 Z h b ∧ fL1 Z h b (.ref t2_) ∧ fL0 Z h b (.int 1) ∧ fL2 Z h b (.int 2) ∧ fL3 Z h b (.int 0) ∧ Arv Z h t2_ k2_ .byte (N <<< ((1 : Int32) &&& 31)) [(.int (own_lo (i0_ &&& (255 : Int32)))), (.int (own_hi (i0_ &&& (255 : Int32)))), (.int (own_lo c_)), (.int (own_hi c_))] (.int 0) ∧ eX0 Z h t2_
theorem apI1 (l : Launch) (Z : State) (a0 : Array Value) (hw : ∀ d ∈ tables_1, d.before a0 Z = true) (ws : List Jvm.Cond) (b : Addr) (c_ : Int32) (z : Int32) (t : Addr) (kt : ClassId) (N : Int32) (i0_ : Int32) (fm : Value) (h0 : Heap) (n0 : Nat) (O : Old Z n0 h0) (j6_ : sT0 Z (.int 1)) (j7_ : sT1 Z (.int 0)) (j8_ : sT2 Z (.int 8)) (j5_ : sT3 Z fm) (hfm : fm.isRef = true) (j4_ : sT4 Z (.int z)) (hz : ¬ (z = (0 : Int32))) (E_b : eX1 Z h0 b) (j2_ : fL1 Z h0 b (.ref t)) (j0_ : fL0 Z h0 b (.int 0)) (j1_ : fL2 Z h0 b (.int 1)) (j3_ : fL3 Z h0 b (.int 0)) (V_t : Arv Z h0 t kt .byte N [(.int i0_)] (.int 0)) (E_t : eX0 Z h0 t) (g_b : n0 ≤ b) (g_t : n0 ≤ t) (nbt : b ≠ t) (hN : 2 ≤ N.toInt) (hN8 : N.toInt ≤ 8) (hce : (255 : Int32) < c_) :
   own_MF l Z mN19 jdk_68_method_31_code 2 (some (.object "java/lang/AbstractStringBuilder")) ws rM10 #[(.ref b), (.int c_)] h0 (QapI1 Z b c_ N i0_ h0 n0) := by
 refine MetFree.of_bodySF (plainFor_of_name pn_4) hisR ?_
 intro p e s m args below meth c s₁ Bd hml0 hP hK
 obtain ⟨rfl, hZ, hh⟩ := hP
 have hx := Bd.exec
 have hby := Bd.bytes
 have B := @hb _ _ hby
 have hml : c.maxLocals = 2 := hml0
 have hown : s.vm.findClass "java/lang/AbstractStringBuilder" = some m.cls := findClass_of_methodNamed Bd.named
 have X0 : Stand p l e rM10 s m #[(.ref b), (.int c_)] below meth c s₁ [] 0 0 := Stand.of_body Bd
 have e0 : s₁.heap = h0 := by rw [← hh, Bd.state]; rfl
 have N0 := Fr.nil n0
 have K0 := Keep.refl h0 [b]
 refine own_start (ef_apL0 m b c_) (Q := own_QE s rM10 (QapI1 Z b c_ N i0_ h0 n0)) ?_
 show oF p e below (s₁.setTop (mkF m 0 #[.val (.ref b), .val (.int c_)] [])) _
 refine oG (fun _ k => XS.aloadN X0.here hx rfl (B d12_0) rfl rfl (XS.aloadN X0.here hx rfl (B d12_1) rfl rfl k)) ?_
 show oF p e below (s₁.setTop (mkF m 2 #[.val (.ref b), .val (.int c_)] [(.ref b), (.ref b)])) _
 obtain ⟨T0J, X0J, e0J, st0J⟩ := getF X0 hx hZ hown (host := "") (Or.inl (ow hw 62)) Via.refl e0 j1_ (g := (mkF m 2 #[.val (.ref b), .val (.int c_)] [(.ref b), (.ref b)])) rfl rfl (B d12_2)
 refine oG st0J ?_
 show oF p e below (T0J.setTop (mkF m 5 #[.val (.ref b), .val (.int c_)] [(.int 1), (.ref b)])) _
 refine oG (fun _ k => XS.iconst X0J.here hx rfl (B d12_5) (XS.iadd X0J.here hx rfl (B d12_6) rfl k)) ?_
 show oF p e below (T0J.setTop (mkF m 7 #[.val (.ref b), .val (.int c_)] [(.int 2), (.ref b)])) _
 obtain ⟨cq0K, q0K, q0K'⟩ := E_b.cell
 obtain ⟨_, _, ⟨T0K, L0K, k0K, n0K⟩, -, X0K, ⟨Lc0K, hQ0K, l0K, y0K, z0K⟩, st0K⟩ := X0J.privateBack hx (y := mN17) hown (mo hZ hw 64) (mo hZ hw 65) (own_selS (mo hZ hw 67) (by exact rfl) (Cond.privateMethod_at (mvP hZ (ow hw 66) (args := #[]))) (mo hZ hw 65) (by decide)) (Cond.privateMethod_at (mvP hZ (ow hw 66) (args := #[]))) (mo hZ hw 68) (by decide) (backOf (W := 0) (ec0 l Z a0 hw [] b (2 : Int32) t kt N [(.int i0_)] h0 n0 O j2_ j0_ V_t (own_ec0 (by decide) (by rw [own_k2]; omega))) hZ (ow hw 68) (ow hw 24) (by decide) (by decide)) (g := (mkF m 7 #[.val (.ref b), .val (.int c_)] [(.int 2), (.ref b)])) rfl (by rw [hml]; rfl) (Steps.refl _) (a := b) (own_eqE e0J q0K) q0K' (argsL := [(.int 2)]) (rest := []) (lenOf pd_12 rfl) rfl (by show 2 * 0 + _ ≤ _; exact Nat.le_of_eq rfl) (B d12_7) (fun _ _ => ⟨rfl, e0J, (by decide : 0 + 0 ≤ _), (by decide : 0 + 0 ≤ _)⟩)
 dsimp only [Pt.U, Pt.locs, Pt.cells, Pt.slots] at X0K l0K y0K z0K st0K hQ0K
 subst y0K z0K
 obtain ⟨rfl, N0Kq, e0K⟩ := hQ0K
 refine oG (fun _ k => st0K.trans k) ?_
 have N0K := oL l0K (Fr.app N0 N0Kq)
 show oF p e below (T0K.setTop (mkF m 10 #[.val (.ref b), .val (.int c_)] [])) _
 refine oG (fun _ k => XS.aloadN X0K.here hx rfl (B d12_10) rfl rfl k) ?_
 show oF p e below (T0K.setTop (mkF m 11 #[.val (.ref b), .val (.int c_)] [(.ref b)])) _
 obtain ⟨cq0L, kq0L, q0La, q0Lb, q0Lc⟩ := isOf hZ e0K E_b
 obtain ⟨_, _, ⟨T0L, L0L, k0L, n0L⟩, -, X0L, ⟨Lc0L, hQ0L, l0L, y0L, z0L⟩, st0L⟩ := X0K.virtualBack hx (y := mN15) (z := mN15) hown (mo hZ hw 69) (mo hZ hw 70) (notFace_of_selects (args := #[]) (mo hZ hw 72)) (mo hZ hw 72) (mo hZ hw 71) (by decide) (backOf (W := 0) (il0 l Z a0 hw [] b z h0 n0 O j4_ hz j0_) hZ (ow hw 73) (ow hw 24) (by decide) (by decide)) q0La q0Lc (g := (mkF m 11 #[.val (.ref b), .val (.int c_)] [(.ref b)])) rfl (by rw [hml]; rfl) (Steps.refl _) (argsL := []) (rest := []) (lenOf pd_10 rfl) rfl (by show 2 * 0 + _ ≤ _; exact Nat.le_of_eq rfl) (B d12_11) (fun _ _ => ⟨rfl, e0K, (by decide : 0 + 0 ≤ _), (by decide : 0 + 0 ≤ _)⟩)
 dsimp only [Pt.U, Pt.locs, Pt.cells, Pt.slots] at X0L l0L y0L z0L st0L hQ0L
 subst y0L z0L
 obtain ⟨rfl, N0Lq, e0L⟩ := hQ0L
 refine oG (fun _ k => st0L.trans k) ?_
 have N0L := oL l0L (Fr.app N0K N0Lq)
 show oF p e below (T0L.setTop (mkF m 14 #[.val (.ref b), .val (.int c_)] [(.int 1)])) _
 refine oG (fun _ k => XS.ifNo X0L.here hx rfl (B d12_14) rfl ((if0 _ _).trans (feq (by decide : ¬ ((1 : Int32) = (0 : Int32)))).1) (XS.iloadN X0L.here hx rfl (B d12_17) rfl k)) ?_
 show oF p e below (T0L.setTop (mkF m 18 #[.val (.ref b), .val (.int c_)] [(.int c_)])) _
 obtain ⟨_, _, ⟨T0M, L0M, k0M, n0M⟩, -, X0M, ⟨Lc0M, hQ0M, l0M, y0M, z0M⟩, st0M⟩ := Jvm.LawKit.callS X0L hx (y := mN18) hown (mo hZ hw 74) (mo hZ hw 75) (mo hZ hw 76) (mo hZ hw 77) (by decide) (backOf (W := 0) (cen0 l Z a0 hw [] c_ h0 n0 hce) hZ (ow hw 77) (ow hw 76) (by decide) (by decide)) (g := (mkF m 18 #[.val (.ref b), .val (.int c_)] [(.int c_)])) rfl (by rw [hml]; rfl) (argsL := [(.int c_)]) (rest := []) (lenOf pd_13 rfl) rfl (by show 2 * 0 + _ ≤ _; exact Nat.le_of_eq rfl) (B d12_18) (fun _ _ => ⟨rfl, e0L, (by decide : 0 + 0 ≤ _), (by decide : 0 + 0 ≤ _)⟩)
 dsimp only [Pt.U, Pt.locs, Pt.cells, Pt.slots] at X0M l0M y0M z0M st0M hQ0M
 subst y0M z0M
 obtain ⟨rfl, N0Mq, e0M⟩ := hQ0M
 refine oG st0M ?_
 have N0M := oL l0M (Fr.app N0L N0Mq)
 show oF p e below (T0M.setTop (mkF m 21 #[.val (.ref b), .val (.int c_)] [(.int 0)])) _
 refine oG (fun _ k => XS.ifYes X0M.here hx rfl (pc0 := 21) (pc' := 45) rfl (B d12_21) rfl ((if0 _ _).trans (teq (by decide : (0 : Int32) = (0 : Int32))).1) (by decide) (by decide) (XS.aloadN X0M.here hx rfl (B d12_45) rfl rfl k)) ?_
 show oF p e below (T0M.setTop (mkF m 46 #[.val (.ref b), .val (.int c_)] [(.ref b)])) _
 obtain ⟨cq0N, kq0N, q0Na, q0Nb, q0Nc⟩ := isOf hZ e0M E_b
 obtain ⟨_, _, ⟨T0N, L0N, k0N, n0N⟩, -, X0N, ⟨Lc0N, hQ0N, l0N, y0N, z0N⟩, st0N⟩ := X0M.virtualBack hx (y := mN15) (z := mN15) hown (mo hZ hw 69) (mo hZ hw 70) (notFace_of_selects (args := #[]) (mo hZ hw 72)) (mo hZ hw 72) (mo hZ hw 71) (by decide) (backOf (W := 0) (il0 l Z a0 hw [] b z h0 n0 O j4_ hz j0_) hZ (ow hw 73) (ow hw 24) (by decide) (by decide)) q0Na q0Nc (g := (mkF m 46 #[.val (.ref b), .val (.int c_)] [(.ref b)])) rfl (by rw [hml]; rfl) (Steps.refl _) (argsL := []) (rest := []) (lenOf pd_10 rfl) rfl (by show 2 * 0 + _ ≤ _; exact Nat.le_of_eq rfl) (B d12_46) (fun _ _ => ⟨rfl, e0M, (by decide : 0 + 0 ≤ _), (by decide : 0 + 0 ≤ _)⟩)
 dsimp only [Pt.U, Pt.locs, Pt.cells, Pt.slots] at X0N l0N y0N z0N st0N hQ0N
 subst y0N z0N
 obtain ⟨rfl, N0Nq, e0N⟩ := hQ0N
 refine oG (fun _ k => st0N.trans k) ?_
 have N0N := oL l0N (Fr.app N0M N0Nq)
 show oF p e below (T0N.setTop (mkF m 49 #[.val (.ref b), .val (.int c_)] [(.int 1)])) _
 refine oG (fun _ k => XS.ifNo X0N.here hx rfl (B d12_49) rfl ((if0 _ _).trans (feq (by decide : ¬ ((1 : Int32) = (0 : Int32)))).1) (XS.aloadN X0N.here hx rfl (B d12_52) rfl rfl k)) ?_
 show oF p e below (T0N.setTop (mkF m 53 #[.val (.ref b), .val (.int c_)] [(.ref b)])) _
 obtain ⟨cq0O, q0O, q0O'⟩ := E_b.cell
 obtain ⟨_, _, ⟨T0O, L0O, k0O, n0O⟩, -, X0O, ⟨Lc0O, hQ0O, l0O, y0O, z0O⟩, st0O⟩ := X0N.privateBack hx (y := mN16) hown (mo hZ hw 215) (mo hZ hw 216) (own_selS (mo hZ hw 67) (by exact rfl) (Cond.privateMethod_at (mvP hZ (ow hw 217) (args := #[]))) (mo hZ hw 216) (by decide)) (Cond.privateMethod_at (mvP hZ (ow hw 217) (args := #[]))) (mo hZ hw 219) (by decide) (backOf (W := 0) (ifl1 l Z a0 hw [] b z t kt N i0_ fm h0 n0 O j4_ hz j6_ j7_ j8_ j5_ hfm E_b j2_ j0_ j1_ j3_ V_t g_b g_t nbt (by omega) hN8) hZ (ow hw 219) (ow hw 24) (by decide) (by decide)) (g := (mkF m 53 #[.val (.ref b), .val (.int c_)] [(.ref b)])) rfl (by rw [hml]; rfl) (Steps.refl _) (a := b) (own_eqE e0N q0O) q0O' (argsL := []) (rest := []) (lenOf pd_14 rfl) rfl (by show 2 * 0 + _ ≤ _; exact Nat.le_of_eq rfl) (B d12_53) (fun _ _ => ⟨rfl, e0N, (by decide : 0 + 1 ≤ _), (by decide : 0 + 16 ≤ _)⟩)
 dsimp only [Pt.U, Pt.locs, Pt.cells, Pt.slots] at X0O l0O y0O z0O st0O hQ0O
 subst y0O z0O
 obtain ⟨t2_0P, k2_0Q, rfl, N0Oq, Kq0O, P0O_0, P0O_1, P0O_2, P0O_3, P0O_4, P0O_5, P0O_6, P0O_7⟩ := hQ0O
 refine oG (fun _ k => st0O.trans k) ?_
 have N0O := oL l0O (Fr.app N0N N0Oq)
 have j33_ : b ≠ t2_0P := Nat.ne_of_lt (Nat.lt_of_lt_of_le E_b.lt P0O_0)
 have ne_t_t2_146 : t ≠ t2_0P := Nat.ne_of_lt (Nat.lt_of_lt_of_le V_t.lt P0O_0)
 have j66_ : n0 ≤ t2_0P := Nat.le_trans (own_osz O) P0O_0
 have j67_ : h0.size ≤ t2_0P := Nat.le_trans K0.1 P0O_0
 have E_b := E_b.keep Kq0O
 clear j2_
 clear j0_
 clear j1_
 clear j3_
 have V_t := V_t.keep Kq0O (ninS (Ne.symm nbt) nin0)
 have E_t := E_t.keep Kq0O
 have O := O.keep Kq0O (allS g_b all0)
 have K0R := K0.trans Kq0O (allS (Or.inl (List.mem_of_getElem? (i := 0) rfl)) all0)
 have E_b := P0O_1
 have j2_ := P0O_2
 have j0_ := P0O_3
 have j1_ := P0O_4
 have j3_ := P0O_5
 have j25_ := P0O_6
 have j34_ := P0O_7
 show oF p e below (T0O.setTop (mkF m 56 #[.val (.ref b), .val (.int c_)] [])) _
 refine oG (fun _ k => XS.aloadN X0O.here hx rfl (B d12_56) rfl rfl k) ?_
 show oF p e below (T0O.setTop (mkF m 57 #[.val (.ref b), .val (.int c_)] [(.ref b)])) _
 obtain ⟨T0S, X0S, e0S, st0S⟩ := getF X0O hx hZ hown (host := "") (Or.inl (ow hw 31)) Via.refl rfl j2_ (g := (mkF m 57 #[.val (.ref b), .val (.int c_)] [(.ref b)])) rfl rfl (B d12_57)
 refine oG st0S ?_
 show oF p e below (T0S.setTop (mkF m 60 #[.val (.ref b), .val (.int c_)] [(.ref t2_0P)])) _
 refine oG (fun _ k => XS.aloadN X0S.here hx rfl (B d12_60) rfl rfl (XS.dup X0S.here hx rfl (B d12_61) rfl rfl k)) ?_
 show oF p e below (T0S.setTop (mkF m 62 #[.val (.ref b), .val (.int c_)] [(.ref b), (.ref b), (.ref t2_0P)])) _
 obtain ⟨T0T, X0T, e0T, st0T⟩ := getF X0S hx hZ hown (host := "") (Or.inl (ow hw 62)) Via.refl e0S j1_ (g := (mkF m 62 #[.val (.ref b), .val (.int c_)] [(.ref b), (.ref b), (.ref t2_0P)])) rfl rfl (B d12_62)
 refine oG st0T ?_
 show oF p e below (T0T.setTop (mkF m 65 #[.val (.ref b), .val (.int c_)] [(.int 1), (.ref b), (.ref t2_0P)])) _
 refine oG (fun _ k => XS.dupX1 X0T.here hx rfl (B d12_65) rfl rfl rfl (XS.iconst X0T.here hx rfl (B d12_66) (XS.iadd X0T.here hx rfl (B d12_67) rfl k))) ?_
 show oF p e below (T0T.setTop (mkF m 68 #[.val (.ref b), .val (.int c_)] [(.int 2), (.ref b), (.int 1), (.ref t2_0P)])) _
 obtain ⟨T0U, h0U, X0U, e0U, W0U, st0U⟩ := putF X0T hx hZ hown (host := "") (Or.inl (ow hw 62)) Via.refl e0T j1_ E_b (Or.inl (ow hw 63)) (ow hw 15) (ty := .int) (by decide) rfl rfl (g := (mkF m 68 #[.val (.ref b), .val (.int c_)] [(.int 2), (.ref b), (.int 1), (.ref t2_0P)])) rfl rfl (B d12_68)
 refine oG st0U ?_
 have E_b := E_b.wr W0U
 have V_t := V_t.other W0U (Ne.symm nbt)
 have E_t := E_t.wr W0U
 have j2_ := j2_.other W0U (Or.inr (slot_ne (Or.inl (ow hw 32)) (Or.inl (ow hw 63)) (by decide) (t := (.array .byte)) (t' := .int) (by decide) (by decide)))
 have j0_ := j0_.other W0U (Or.inr (slot_ne (Or.inl (ow hw 34)) (Or.inl (ow hw 63)) (by decide) (t := .byte) (t' := .int) (by decide) (by decide)))
 have j3_ := j3_.other W0U (Or.inr (slot_ne (Or.inl (ow hw 268)) (Or.inl (ow hw 63)) (by decide) (t := .boolean) (t' := .int) (by decide) (by decide)))
 have j25_ := j25_.other W0U (Ne.symm j33_)
 have j34_ := j34_.wr W0U
 have O := O.wr W0U g_b
 have K0V := K0R.wr W0U (Or.inl (List.mem_of_getElem? (i := 0) rfl))
 have j1_ := j1_.same W0U
 have N0U := Fr.snoc X0U N0O g_b
 show oF p e below (T0U.setTop (mkF m 71 #[.val (.ref b), .val (.int c_)] [(.int 1), (.ref t2_0P)])) _
 refine oG (fun _ k => XS.iloadN X0U.here hx rfl (B d12_71) rfl k) ?_
 show oF p e below (T0U.setTop (mkF m 72 #[.val (.ref b), .val (.int c_)] [(.int c_), (.int 1), (.ref t2_0P)])) _
 obtain ⟨_, _, ⟨T0W, L0W, k0W, n0W⟩, -, X0W, ⟨Lc0W, hQ0W, l0W, y0W, z0W⟩, st0W⟩ := Jvm.LawKit.callS X0U hx (y := mN5) hown (mo hZ hw 281) (mo hZ hw 282) (mo hZ hw 222) (mo hZ hw 283) (by decide) (backOf (W := 0) (ps l Z a0 hw [] t2_0P (1 : Int32) c_ k2_0Q (N <<< ((1 : Int32) &&& 31)) [(.int (own_lo (i0_ &&& (255 : Int32)))), (.int (own_hi (i0_ &&& (255 : Int32))))] fm h0U n0 O j6_ j7_ j8_ j5_ hfm j25_ j66_ (by rw [own_k1] <;> rfl) (own_mk (by omega) hN8 (by simp only [List.length_cons, List.length_nil]; omega)) (own_m0 (by omega) hN8).2) hZ (ow hw 283) (ow hw 222) (by decide) (by decide)) (g := (mkF m 72 #[.val (.ref b), .val (.int c_)] [(.int c_), (.int 1), (.ref t2_0P)])) rfl (by rw [hml]; rfl) (argsL := [(.ref t2_0P), (.int 1), (.int c_)]) (rest := []) (lenOf pd_4 rfl) rfl (by show 2 * 0 + _ ≤ _; exact Nat.le_of_eq rfl) (B d12_72) (fun _ _ => ⟨rfl, e0U, (by decide : 1 + 0 ≤ _), (by decide : 16 + 0 ≤ _)⟩)
 dsimp only [Pt.U, Pt.locs, Pt.cells, Pt.slots] at X0W l0W y0W z0W st0W hQ0W
 subst y0W z0W
 obtain ⟨rfl, N0Wq, Kq0W, P0W_0⟩ := hQ0W
 refine oG st0W ?_
 have N0W := oL l0W (Fr.app N0U N0Wq)
 have E_b := E_b.keep Kq0W
 have V_t := V_t.keep Kq0W (ninS ne_t_t2_146 nin0)
 have E_t := E_t.keep Kq0W
 have j2_ := j2_.keep Kq0W (ninS j33_ nin0)
 have j0_ := j0_.keep Kq0W (ninS j33_ nin0)
 have j1_ := j1_.keep Kq0W (ninS j33_ nin0)
 have j3_ := j3_.keep Kq0W (ninS j33_ nin0)
 clear j25_
 have j34_ := j34_.keep Kq0W
 have O := O.keep Kq0W (allS j66_ all0)
 have K0X := K0V.trans Kq0W (allS (Or.inr j67_) all0)
 have j25_ := P0W_0
 show oF p e below (T0W.setTop (mkF m 75 #[.val (.ref b), .val (.int c_)] [])) _
 refine oG (fun _ k => XS.aloadN X0W.here hx rfl (B d12_75) rfl rfl k) ?_
 show oF p e below (T0W.setTop (mkF m 76 #[.val (.ref b), .val (.int c_)] [(.ref b)])) _
 obtain ⟨fs, hr, r1, r2, hW, r3⟩ := X0W.leave (v := some (.ref b)) (fun h => by rw [Bd.returns] at h; cases h)
 refine ⟨_, _, ?_, r1, r2, _, _, rfl, ?_, ⟨_, rfl⟩, hW, r3.mono (by decide) (by decide)⟩
 ·exact X0W.areturnOut hx rfl Bd.returns rfl (B d12_76) hr
 ·show QapI1 Z b c_ N i0_ h0 n0 _ T0W.heap _
  exact ⟨t2_0P, k2_0Q, rfl, N0W, K0X, j67_, E_b, j2_, j0_, j1_, j3_, j25_, j34_⟩
def QapU1 (Z : State) (b : Addr) (c_ : Int32) (t : Addr) (kt : ClassId) (N : Int32) (i0_ : Int32) (i1_ : Int32) (h0 : Heap) (n0 : Nat) (v : Option Value) (h : Heap) (L : List Loc) : Prop := v = some (.ref b) ∧ Fr n0 L ∧ Keep h0 h [b, t] ∧ eX1 Z h b ∧ fL1 Z h b (.ref t) ∧ fL0 Z h b (.int 1) ∧ fL2 Z h b (.int 2) ∧ fL3 Z h b (.int 0) ∧ Arv Z h t kt .byte (N <<< ((1 : Int32) &&& 31)) [(.int i0_), (.int i1_), (.int (own_lo c_)), (.int (own_hi c_))] (.int 0) ∧ eX0 Z h t
theorem apU1 (l : Launch) (Z : State) (a0 : Array Value) (hw : ∀ d ∈ tables_1, d.before a0 Z = true) (ws : List Jvm.Cond) (b : Addr) (c_ : Int32) (z : Int32) (t : Addr) (kt : ClassId) (N : Int32) (i0_ : Int32) (i1_ : Int32) (fm : Value) (h0 : Heap) (n0 : Nat) (O : Old Z n0 h0) (j6_ : sT0 Z (.int 1)) (j7_ : sT1 Z (.int 0)) (j8_ : sT2 Z (.int 8)) (j5_ : sT3 Z fm) (hfm : fm.isRef = true) (j4_ : sT4 Z (.int z)) (hz : ¬ (z = (0 : Int32))) (E_b : eX1 Z h0 b) (j2_ : fL1 Z h0 b (.ref t)) (j0_ : fL0 Z h0 b (.int 1)) (j1_ : fL2 Z h0 b (.int 1)) (j3_ : fL3 Z h0 b (.int 0)) (V_t : Arv Z h0 t kt .byte (N <<< ((1 : Int32) &&& 31)) [(.int i0_), (.int i1_)] (.int 0)) (E_t : eX0 Z h0 t) (g_b : n0 ≤ b) (g_t : n0 ≤ t) (nbt : b ≠ t) (hN : 2 ≤ N.toInt) (hN8 : N.toInt ≤ 8) :
   own_MF l Z mN19 jdk_68_method_31_code 2 (some (.object "java/lang/AbstractStringBuilder")) ws rM11 #[(.ref b), (.int c_)] h0 (QapU1 Z b c_ t kt N i0_ i1_ h0 n0) := by
 refine MetFree.of_bodySF (plainFor_of_name pn_4) hisR ?_
 intro p e s m args below meth c s₁ Bd hml0 hP hK
 obtain ⟨rfl, hZ, hh⟩ := hP
 have hx := Bd.exec
 have hby := Bd.bytes
 have B := @hb _ _ hby
 have hml : c.maxLocals = 2 := hml0
 have hown : s.vm.findClass "java/lang/AbstractStringBuilder" = some m.cls := findClass_of_methodNamed Bd.named
 have X0 : Stand p l e rM11 s m #[(.ref b), (.int c_)] below meth c s₁ [] 0 0 := Stand.of_body Bd
 have e0 : s₁.heap = h0 := by rw [← hh, Bd.state]; rfl
 have N0 := Fr.nil n0
 have K0 := Keep.refl h0 [b, t]
 refine own_start (ef_apL0 m b c_) (Q := own_QE s rM11 (QapU1 Z b c_ t kt N i0_ i1_ h0 n0)) ?_
 show oF p e below (s₁.setTop (mkF m 0 #[.val (.ref b), .val (.int c_)] [])) _
 refine oG (fun _ k => XS.aloadN X0.here hx rfl (B d12_0) rfl rfl (XS.aloadN X0.here hx rfl (B d12_1) rfl rfl k)) ?_
 show oF p e below (s₁.setTop (mkF m 2 #[.val (.ref b), .val (.int c_)] [(.ref b), (.ref b)])) _
 obtain ⟨T0Y, X0Y, e0Y, st0Y⟩ := getF X0 hx hZ hown (host := "") (Or.inl (ow hw 62)) Via.refl e0 j1_ (g := (mkF m 2 #[.val (.ref b), .val (.int c_)] [(.ref b), (.ref b)])) rfl rfl (B d12_2)
 refine oG st0Y ?_
 show oF p e below (T0Y.setTop (mkF m 5 #[.val (.ref b), .val (.int c_)] [(.int 1), (.ref b)])) _
 refine oG (fun _ k => XS.iconst X0Y.here hx rfl (B d12_5) (XS.iadd X0Y.here hx rfl (B d12_6) rfl k)) ?_
 show oF p e below (T0Y.setTop (mkF m 7 #[.val (.ref b), .val (.int c_)] [(.int 2), (.ref b)])) _
 obtain ⟨cq0Z, q0Z, q0Z'⟩ := E_b.cell
 obtain ⟨_, _, ⟨T0Z, L0Z, k0Z, n0Z⟩, -, X0Z, ⟨Lc0Z, hQ0Z, l0Z, y0Z, z0Z⟩, st0Z⟩ := X0Y.privateBack hx (y := mN17) hown (mo hZ hw 64) (mo hZ hw 65) (own_selS (mo hZ hw 67) (by exact rfl) (Cond.privateMethod_at (mvP hZ (ow hw 66) (args := #[]))) (mo hZ hw 65) (by decide)) (Cond.privateMethod_at (mvP hZ (ow hw 66) (args := #[]))) (mo hZ hw 68) (by decide) (backOf (W := 0) (ec1 l Z a0 hw [] b (2 : Int32) t kt (N <<< ((1 : Int32) &&& 31)) [(.int i0_), (.int i1_)] h0 n0 O j2_ j0_ V_t (own_ec1 (by decide) (by omega) hN8 (by rw [own_k2]; omega))) hZ (ow hw 68) (ow hw 24) (by decide) (by decide)) (g := (mkF m 7 #[.val (.ref b), .val (.int c_)] [(.int 2), (.ref b)])) rfl (by rw [hml]; rfl) (Steps.refl _) (a := b) (own_eqE e0Y q0Z) q0Z' (argsL := [(.int 2)]) (rest := []) (lenOf pd_12 rfl) rfl (by show 2 * 0 + _ ≤ _; exact Nat.le_of_eq rfl) (B d12_7) (fun _ _ => ⟨rfl, e0Y, (by decide : 0 + 0 ≤ _), (by decide : 0 + 0 ≤ _)⟩)
 dsimp only [Pt.U, Pt.locs, Pt.cells, Pt.slots] at X0Z l0Z y0Z z0Z st0Z hQ0Z
 subst y0Z z0Z
 obtain ⟨rfl, N0Zq, e0Z⟩ := hQ0Z
 refine oG (fun _ k => st0Z.trans k) ?_
 have N0Z := oL l0Z (Fr.app N0 N0Zq)
 show oF p e below (T0Z.setTop (mkF m 10 #[.val (.ref b), .val (.int c_)] [])) _
 refine oG (fun _ k => XS.aloadN X0Z.here hx rfl (B d12_10) rfl rfl k) ?_
 show oF p e below (T0Z.setTop (mkF m 11 #[.val (.ref b), .val (.int c_)] [(.ref b)])) _
 obtain ⟨cq1a, kq1a, q1aa, q1ab, q1ac⟩ := isOf hZ e0Z E_b
 obtain ⟨_, _, ⟨T1a, L1a, k1a, n1a⟩, -, X1a, ⟨Lc1a, hQ1a, l1a, y1a, z1a⟩, st1a⟩ := X0Z.virtualBack hx (y := mN15) (z := mN15) hown (mo hZ hw 69) (mo hZ hw 70) (notFace_of_selects (args := #[]) (mo hZ hw 72)) (mo hZ hw 72) (mo hZ hw 71) (by decide) (backOf (W := 0) (il1 l Z a0 hw [] b z h0 n0 O j4_ hz j0_) hZ (ow hw 73) (ow hw 24) (by decide) (by decide)) q1aa q1ac (g := (mkF m 11 #[.val (.ref b), .val (.int c_)] [(.ref b)])) rfl (by rw [hml]; rfl) (Steps.refl _) (argsL := []) (rest := []) (lenOf pd_10 rfl) rfl (by show 2 * 0 + _ ≤ _; exact Nat.le_of_eq rfl) (B d12_11) (fun _ _ => ⟨rfl, e0Z, (by decide : 0 + 0 ≤ _), (by decide : 0 + 0 ≤ _)⟩)
 dsimp only [Pt.U, Pt.locs, Pt.cells, Pt.slots] at X1a l1a y1a z1a st1a hQ1a
 subst y1a z1a
 obtain ⟨rfl, N1aq, e1a⟩ := hQ1a
 refine oG (fun _ k => st1a.trans k) ?_
 have N1a := oL l1a (Fr.app N0Z N1aq)
 show oF p e below (T1a.setTop (mkF m 14 #[.val (.ref b), .val (.int c_)] [(.int 0)])) _
 refine oG (fun _ k => XS.ifYes X1a.here hx rfl (pc0 := 14) (pc' := 45) rfl (B d12_14) rfl ((if0 _ _).trans (teq (by decide : (0 : Int32) = (0 : Int32))).1) (by decide) (by decide) (XS.aloadN X1a.here hx rfl (B d12_45) rfl rfl k)) ?_
 show oF p e below (T1a.setTop (mkF m 46 #[.val (.ref b), .val (.int c_)] [(.ref b)])) _
 obtain ⟨cq1b, kq1b, q1ba, q1bb, q1bc⟩ := isOf hZ e1a E_b
 obtain ⟨_, _, ⟨T1b, L1b, k1b, n1b⟩, -, X1b, ⟨Lc1b, hQ1b, l1b, y1b, z1b⟩, st1b⟩ := X1a.virtualBack hx (y := mN15) (z := mN15) hown (mo hZ hw 69) (mo hZ hw 70) (notFace_of_selects (args := #[]) (mo hZ hw 72)) (mo hZ hw 72) (mo hZ hw 71) (by decide) (backOf (W := 0) (il1 l Z a0 hw [] b z h0 n0 O j4_ hz j0_) hZ (ow hw 73) (ow hw 24) (by decide) (by decide)) q1ba q1bc (g := (mkF m 46 #[.val (.ref b), .val (.int c_)] [(.ref b)])) rfl (by rw [hml]; rfl) (Steps.refl _) (argsL := []) (rest := []) (lenOf pd_10 rfl) rfl (by show 2 * 0 + _ ≤ _; exact Nat.le_of_eq rfl) (B d12_46) (fun _ _ => ⟨rfl, e1a, (by decide : 0 + 0 ≤ _), (by decide : 0 + 0 ≤ _)⟩)
 dsimp only [Pt.U, Pt.locs, Pt.cells, Pt.slots] at X1b l1b y1b z1b st1b hQ1b
 subst y1b z1b
 obtain ⟨rfl, N1bq, e1b⟩ := hQ1b
 refine oG (fun _ k => st1b.trans k) ?_
 have N1b := oL l1b (Fr.app N1a N1bq)
 show oF p e below (T1b.setTop (mkF m 49 #[.val (.ref b), .val (.int c_)] [(.int 0)])) _
 refine oG (fun _ k => XS.ifYes X1b.here hx rfl (pc0 := 49) (pc' := 56) rfl (B d12_49) rfl ((if0 _ _).trans (teq (by decide : (0 : Int32) = (0 : Int32))).1) (by decide) (by decide) (XS.aloadN X1b.here hx rfl (B d12_56) rfl rfl k)) ?_
 show oF p e below (T1b.setTop (mkF m 57 #[.val (.ref b), .val (.int c_)] [(.ref b)])) _
 obtain ⟨T1c, X1c, e1c, st1c⟩ := getF X1b hx hZ hown (host := "") (Or.inl (ow hw 31)) Via.refl e1b j2_ (g := (mkF m 57 #[.val (.ref b), .val (.int c_)] [(.ref b)])) rfl rfl (B d12_57)
 refine oG st1c ?_
 show oF p e below (T1c.setTop (mkF m 60 #[.val (.ref b), .val (.int c_)] [(.ref t)])) _
 refine oG (fun _ k => XS.aloadN X1c.here hx rfl (B d12_60) rfl rfl (XS.dup X1c.here hx rfl (B d12_61) rfl rfl k)) ?_
 show oF p e below (T1c.setTop (mkF m 62 #[.val (.ref b), .val (.int c_)] [(.ref b), (.ref b), (.ref t)])) _
 obtain ⟨T1d, X1d, e1d, st1d⟩ := getF X1c hx hZ hown (host := "") (Or.inl (ow hw 62)) Via.refl e1c j1_ (g := (mkF m 62 #[.val (.ref b), .val (.int c_)] [(.ref b), (.ref b), (.ref t)])) rfl rfl (B d12_62)
 refine oG st1d ?_
 show oF p e below (T1d.setTop (mkF m 65 #[.val (.ref b), .val (.int c_)] [(.int 1), (.ref b), (.ref t)])) _
 refine oG (fun _ k => XS.dupX1 X1d.here hx rfl (B d12_65) rfl rfl rfl (XS.iconst X1d.here hx rfl (B d12_66) (XS.iadd X1d.here hx rfl (B d12_67) rfl k))) ?_
 show oF p e below (T1d.setTop (mkF m 68 #[.val (.ref b), .val (.int c_)] [(.int 2), (.ref b), (.int 1), (.ref t)])) _
 obtain ⟨T1e, h1e, X1e, e1e, W1e, st1e⟩ := putF X1d hx hZ hown (host := "") (Or.inl (ow hw 62)) Via.refl e1d j1_ E_b (Or.inl (ow hw 63)) (ow hw 15) (ty := .int) (by decide) rfl rfl (g := (mkF m 68 #[.val (.ref b), .val (.int c_)] [(.int 2), (.ref b), (.int 1), (.ref t)])) rfl rfl (B d12_68)
 refine oG st1e ?_
 have E_b := E_b.wr W1e
 have j2_ := j2_.other W1e (Or.inr (slot_ne (Or.inl (ow hw 32)) (Or.inl (ow hw 63)) (by decide) (t := (.array .byte)) (t' := .int) (by decide) (by decide)))
 have j0_ := j0_.other W1e (Or.inr (slot_ne (Or.inl (ow hw 34)) (Or.inl (ow hw 63)) (by decide) (t := .byte) (t' := .int) (by decide) (by decide)))
 have j3_ := j3_.other W1e (Or.inr (slot_ne (Or.inl (ow hw 268)) (Or.inl (ow hw 63)) (by decide) (t := .boolean) (t' := .int) (by decide) (by decide)))
 have V_t := V_t.other W1e (Ne.symm nbt)
 have E_t := E_t.wr W1e
 have O := O.wr W1e g_b
 have K1f := K0.wr W1e (Or.inl (List.mem_of_getElem? (i := 0) rfl))
 have j1_ := j1_.same W1e
 have N1e := Fr.snoc X1e N1b g_b
 show oF p e below (T1e.setTop (mkF m 71 #[.val (.ref b), .val (.int c_)] [(.int 1), (.ref t)])) _
 refine oG (fun _ k => XS.iloadN X1e.here hx rfl (B d12_71) rfl k) ?_
 show oF p e below (T1e.setTop (mkF m 72 #[.val (.ref b), .val (.int c_)] [(.int c_), (.int 1), (.ref t)])) _
 obtain ⟨_, _, ⟨T1g, L1g, k1g, n1g⟩, -, X1g, ⟨Lc1g, hQ1g, l1g, y1g, z1g⟩, st1g⟩ := Jvm.LawKit.callS X1e hx (y := mN5) hown (mo hZ hw 281) (mo hZ hw 282) (mo hZ hw 222) (mo hZ hw 283) (by decide) (backOf (W := 0) (ps l Z a0 hw [] t (1 : Int32) c_ kt (N <<< ((1 : Int32) &&& 31)) [(.int i0_), (.int i1_)] fm h1e n0 O j6_ j7_ j8_ j5_ hfm V_t g_t (by rw [own_k1] <;> rfl) (own_mk (by omega) hN8 (by simp only [List.length_cons, List.length_nil]; omega)) (own_m0 (by omega) hN8).2) hZ (ow hw 283) (ow hw 222) (by decide) (by decide)) (g := (mkF m 72 #[.val (.ref b), .val (.int c_)] [(.int c_), (.int 1), (.ref t)])) rfl (by rw [hml]; rfl) (argsL := [(.ref t), (.int 1), (.int c_)]) (rest := []) (lenOf pd_4 rfl) rfl (by show 2 * 0 + _ ≤ _; exact Nat.le_of_eq rfl) (B d12_72) (fun _ _ => ⟨rfl, e1e, (by decide : 0 + 0 ≤ _), (by decide : 0 + 0 ≤ _)⟩)
 dsimp only [Pt.U, Pt.locs, Pt.cells, Pt.slots] at X1g l1g y1g z1g st1g hQ1g
 subst y1g z1g
 obtain ⟨rfl, N1gq, Kq1g, P1g_0⟩ := hQ1g
 refine oG st1g ?_
 have N1g := oL l1g (Fr.app N1e N1gq)
 have E_b := E_b.keep Kq1g
 have j2_ := j2_.keep Kq1g (ninS nbt nin0)
 have j0_ := j0_.keep Kq1g (ninS nbt nin0)
 have j1_ := j1_.keep Kq1g (ninS nbt nin0)
 have j3_ := j3_.keep Kq1g (ninS nbt nin0)
 clear V_t
 have E_t := E_t.keep Kq1g
 have O := O.keep Kq1g (allS g_t all0)
 have K1h := K1f.trans Kq1g (allS (Or.inl (List.mem_of_getElem? (i := 1) rfl)) all0)
 have V_t := P1g_0
 show oF p e below (T1g.setTop (mkF m 75 #[.val (.ref b), .val (.int c_)] [])) _
 refine oG (fun _ k => XS.aloadN X1g.here hx rfl (B d12_75) rfl rfl k) ?_
 show oF p e below (T1g.setTop (mkF m 76 #[.val (.ref b), .val (.int c_)] [(.ref b)])) _
 obtain ⟨fs, hr, r1, r2, hW, r3⟩ := X1g.leave (v := some (.ref b)) (fun h => by rw [Bd.returns] at h; cases h)
 refine ⟨_, _, ?_, r1, r2, _, _, rfl, ?_, ⟨_, rfl⟩, hW, r3.mono (by decide) (by decide)⟩
 ·exact X1g.areturnOut hx rfl Bd.returns rfl (B d12_76) hr
 ·show QapU1 Z b c_ t kt N i0_ i1_ h0 n0 _ T1g.heap _
  exact ⟨rfl, N1g, K1h, E_b, j2_, j0_, j1_, j3_, V_t, E_t⟩
def QapU2 (Z : State) (b : Addr) (c_ : Int32) (t : Addr) (kt : ClassId) (N : Int32) (i0_ : Int32) (i1_ : Int32) (i2_ : Int32) (i3_ : Int32) (h0 : Heap) (n0 : Nat) (v : Option Value) (h : Heap) (L : List Loc) : Prop := v = some (.ref b) ∧ Fr n0 L ∧ Keep h0 h [b, t] ∧ eX1 Z h b ∧ fL1 Z h b (.ref t) ∧ fL0 Z h b (.int 1) ∧ fL2 Z h b (.int 3) ∧ fL3 Z h b (.int 0) ∧ Arv Z h t kt .byte (N <<< ((1 : Int32) &&& 31)) [(.int i0_), (.int i1_), (.int i2_), (.int i3_), (.int (own_lo c_)), (.int (own_hi c_))] (.int 0) ∧ eX0 Z h t
theorem apU2 (l : Launch) (Z : State) (a0 : Array Value) (hw : ∀ d ∈ tables_1, d.before a0 Z = true) (ws : List Jvm.Cond) (b : Addr) (c_ : Int32) (z : Int32) (t : Addr) (kt : ClassId) (N : Int32) (i0_ : Int32) (i1_ : Int32) (i2_ : Int32) (i3_ : Int32) (fm : Value) (h0 : Heap) (n0 : Nat) (O : Old Z n0 h0) (j6_ : sT0 Z (.int 1)) (j7_ : sT1 Z (.int 0)) (j8_ : sT2 Z (.int 8)) (j5_ : sT3 Z fm) (hfm : fm.isRef = true) (j4_ : sT4 Z (.int z)) (hz : ¬ (z = (0 : Int32))) (E_b : eX1 Z h0 b) (j2_ : fL1 Z h0 b (.ref t)) (j0_ : fL0 Z h0 b (.int 1)) (j1_ : fL2 Z h0 b (.int 2)) (j3_ : fL3 Z h0 b (.int 0)) (V_t : Arv Z h0 t kt .byte (N <<< ((1 : Int32) &&& 31)) [(.int i0_), (.int i1_), (.int i2_), (.int i3_)] (.int 0)) (E_t : eX0 Z h0 t) (g_b : n0 ≤ b) (g_t : n0 ≤ t) (nbt : b ≠ t) (hN : 3 ≤ N.toInt) (hN8 : N.toInt ≤ 8) :
   own_MF l Z mN19 jdk_68_method_31_code 2 (some (.object "java/lang/AbstractStringBuilder")) ws rM11 #[(.ref b), (.int c_)] h0 (QapU2 Z b c_ t kt N i0_ i1_ i2_ i3_ h0 n0) := by
 refine MetFree.of_bodySF (plainFor_of_name pn_4) hisR ?_
 intro p e s m args below meth c s₁ Bd hml0 hP hK
 obtain ⟨rfl, hZ, hh⟩ := hP
 have hx := Bd.exec
 have hby := Bd.bytes
 have B := @hb _ _ hby
 have hml : c.maxLocals = 2 := hml0
 have hown : s.vm.findClass "java/lang/AbstractStringBuilder" = some m.cls := findClass_of_methodNamed Bd.named
 have X0 : Stand p l e rM11 s m #[(.ref b), (.int c_)] below meth c s₁ [] 0 0 := Stand.of_body Bd
 have e0 : s₁.heap = h0 := by rw [← hh, Bd.state]; rfl
 have N0 := Fr.nil n0
 have K0 := Keep.refl h0 [b, t]
 refine own_start (ef_apL0 m b c_) (Q := own_QE s rM11 (QapU2 Z b c_ t kt N i0_ i1_ i2_ i3_ h0 n0)) ?_
 show oF p e below (s₁.setTop (mkF m 0 #[.val (.ref b), .val (.int c_)] [])) _
 refine oG (fun _ k => XS.aloadN X0.here hx rfl (B d12_0) rfl rfl (XS.aloadN X0.here hx rfl (B d12_1) rfl rfl k)) ?_
 show oF p e below (s₁.setTop (mkF m 2 #[.val (.ref b), .val (.int c_)] [(.ref b), (.ref b)])) _
 obtain ⟨T1i, X1i, e1i, st1i⟩ := getF X0 hx hZ hown (host := "") (Or.inl (ow hw 62)) Via.refl e0 j1_ (g := (mkF m 2 #[.val (.ref b), .val (.int c_)] [(.ref b), (.ref b)])) rfl rfl (B d12_2)
 refine oG st1i ?_
 show oF p e below (T1i.setTop (mkF m 5 #[.val (.ref b), .val (.int c_)] [(.int 2), (.ref b)])) _
 refine oG (fun _ k => XS.iconst X1i.here hx rfl (B d12_5) (XS.iadd X1i.here hx rfl (B d12_6) rfl k)) ?_
 show oF p e below (T1i.setTop (mkF m 7 #[.val (.ref b), .val (.int c_)] [(.int 3), (.ref b)])) _
 obtain ⟨cq1j, q1j, q1j'⟩ := E_b.cell
 obtain ⟨_, _, ⟨T1j, L1j, k1j, n1j⟩, -, X1j, ⟨Lc1j, hQ1j, l1j, y1j, z1j⟩, st1j⟩ := X1i.privateBack hx (y := mN17) hown (mo hZ hw 64) (mo hZ hw 65) (own_selS (mo hZ hw 67) (by exact rfl) (Cond.privateMethod_at (mvP hZ (ow hw 66) (args := #[]))) (mo hZ hw 65) (by decide)) (Cond.privateMethod_at (mvP hZ (ow hw 66) (args := #[]))) (mo hZ hw 68) (by decide) (backOf (W := 0) (ec1 l Z a0 hw [] b (3 : Int32) t kt (N <<< ((1 : Int32) &&& 31)) [(.int i0_), (.int i1_), (.int i2_), (.int i3_)] h0 n0 O j2_ j0_ V_t (own_ec1 (by decide) (by omega) hN8 (by rw [own_k3]; omega))) hZ (ow hw 68) (ow hw 24) (by decide) (by decide)) (g := (mkF m 7 #[.val (.ref b), .val (.int c_)] [(.int 3), (.ref b)])) rfl (by rw [hml]; rfl) (Steps.refl _) (a := b) (own_eqE e1i q1j) q1j' (argsL := [(.int 3)]) (rest := []) (lenOf pd_12 rfl) rfl (by show 2 * 0 + _ ≤ _; exact Nat.le_of_eq rfl) (B d12_7) (fun _ _ => ⟨rfl, e1i, (by decide : 0 + 0 ≤ _), (by decide : 0 + 0 ≤ _)⟩)
 dsimp only [Pt.U, Pt.locs, Pt.cells, Pt.slots] at X1j l1j y1j z1j st1j hQ1j
 subst y1j z1j
 obtain ⟨rfl, N1jq, e1j⟩ := hQ1j
 refine oG (fun _ k => st1j.trans k) ?_
 have N1j := oL l1j (Fr.app N0 N1jq)
 show oF p e below (T1j.setTop (mkF m 10 #[.val (.ref b), .val (.int c_)] [])) _
 refine oG (fun _ k => XS.aloadN X1j.here hx rfl (B d12_10) rfl rfl k) ?_
 show oF p e below (T1j.setTop (mkF m 11 #[.val (.ref b), .val (.int c_)] [(.ref b)])) _
 obtain ⟨cq1k, kq1k, q1ka, q1kb, q1kc⟩ := isOf hZ e1j E_b
 obtain ⟨_, _, ⟨T1k, L1k, k1k, n1k⟩, -, X1k, ⟨Lc1k, hQ1k, l1k, y1k, z1k⟩, st1k⟩ := X1j.virtualBack hx (y := mN15) (z := mN15) hown (mo hZ hw 69) (mo hZ hw 70) (notFace_of_selects (args := #[]) (mo hZ hw 72)) (mo hZ hw 72) (mo hZ hw 71) (by decide) (backOf (W := 0) (il1 l Z a0 hw [] b z h0 n0 O j4_ hz j0_) hZ (ow hw 73) (ow hw 24) (by decide) (by decide)) q1ka q1kc (g := (mkF m 11 #[.val (.ref b), .val (.int c_)] [(.ref b)])) rfl (by rw [hml]; rfl) (Steps.refl _) (argsL := []) (rest := []) (lenOf pd_10 rfl) rfl (by show 2 * 0 + _ ≤ _; exact Nat.le_of_eq rfl) (B d12_11) (fun _ _ => ⟨rfl, e1j, (by decide : 0 + 0 ≤ _), (by decide : 0 + 0 ≤ _)⟩)
 dsimp only [Pt.U, Pt.locs, Pt.cells, Pt.slots] at X1k l1k y1k z1k st1k hQ1k
 subst y1k z1k
 obtain ⟨rfl, N1kq, e1k⟩ := hQ1k
 refine oG (fun _ k => st1k.trans k) ?_
 have N1k := oL l1k (Fr.app N1j N1kq)
 show oF p e below (T1k.setTop (mkF m 14 #[.val (.ref b), .val (.int c_)] [(.int 0)])) _
 refine oG (fun _ k => XS.ifYes X1k.here hx rfl (pc0 := 14) (pc' := 45) rfl (B d12_14) rfl ((if0 _ _).trans (teq (by decide : (0 : Int32) = (0 : Int32))).1) (by decide) (by decide) (XS.aloadN X1k.here hx rfl (B d12_45) rfl rfl k)) ?_
 show oF p e below (T1k.setTop (mkF m 46 #[.val (.ref b), .val (.int c_)] [(.ref b)])) _
 obtain ⟨cq1l, kq1l, q1la, q1lb, q1lc⟩ := isOf hZ e1k E_b
 obtain ⟨_, _, ⟨T1l, L1l, k1l, n1l⟩, -, X1l, ⟨Lc1l, hQ1l, l1l, y1l, z1l⟩, st1l⟩ := X1k.virtualBack hx (y := mN15) (z := mN15) hown (mo hZ hw 69) (mo hZ hw 70) (notFace_of_selects (args := #[]) (mo hZ hw 72)) (mo hZ hw 72) (mo hZ hw 71) (by decide) (backOf (W := 0) (il1 l Z a0 hw [] b z h0 n0 O j4_ hz j0_) hZ (ow hw 73) (ow hw 24) (by decide) (by decide)) q1la q1lc (g := (mkF m 46 #[.val (.ref b), .val (.int c_)] [(.ref b)])) rfl (by rw [hml]; rfl) (Steps.refl _) (argsL := []) (rest := []) (lenOf pd_10 rfl) rfl (by show 2 * 0 + _ ≤ _; exact Nat.le_of_eq rfl) (B d12_46) (fun _ _ => ⟨rfl, e1k, (by decide : 0 + 0 ≤ _), (by decide : 0 + 0 ≤ _)⟩)
 dsimp only [Pt.U, Pt.locs, Pt.cells, Pt.slots] at X1l l1l y1l z1l st1l hQ1l
 subst y1l z1l
 obtain ⟨rfl, N1lq, e1l⟩ := hQ1l
 refine oG (fun _ k => st1l.trans k) ?_
 have N1l := oL l1l (Fr.app N1k N1lq)
 show oF p e below (T1l.setTop (mkF m 49 #[.val (.ref b), .val (.int c_)] [(.int 0)])) _
 refine oG (fun _ k => XS.ifYes X1l.here hx rfl (pc0 := 49) (pc' := 56) rfl (B d12_49) rfl ((if0 _ _).trans (teq (by decide : (0 : Int32) = (0 : Int32))).1) (by decide) (by decide) (XS.aloadN X1l.here hx rfl (B d12_56) rfl rfl k)) ?_
 show oF p e below (T1l.setTop (mkF m 57 #[.val (.ref b), .val (.int c_)] [(.ref b)])) _
 obtain ⟨T1m, X1m, e1m, st1m⟩ := getF X1l hx hZ hown (host := "") (Or.inl (ow hw 31)) Via.refl e1l j2_ (g := (mkF m 57 #[.val (.ref b), .val (.int c_)] [(.ref b)])) rfl rfl (B d12_57)
 refine oG st1m ?_
 show oF p e below (T1m.setTop (mkF m 60 #[.val (.ref b), .val (.int c_)] [(.ref t)])) _
 refine oG (fun _ k => XS.aloadN X1m.here hx rfl (B d12_60) rfl rfl (XS.dup X1m.here hx rfl (B d12_61) rfl rfl k)) ?_
 show oF p e below (T1m.setTop (mkF m 62 #[.val (.ref b), .val (.int c_)] [(.ref b), (.ref b), (.ref t)])) _
 obtain ⟨T1n, X1n, e1n, st1n⟩ := getF X1m hx hZ hown (host := "") (Or.inl (ow hw 62)) Via.refl e1m j1_ (g := (mkF m 62 #[.val (.ref b), .val (.int c_)] [(.ref b), (.ref b), (.ref t)])) rfl rfl (B d12_62)
 refine oG st1n ?_
 show oF p e below (T1n.setTop (mkF m 65 #[.val (.ref b), .val (.int c_)] [(.int 2), (.ref b), (.ref t)])) _
 refine oG (fun _ k => XS.dupX1 X1n.here hx rfl (B d12_65) rfl rfl rfl (XS.iconst X1n.here hx rfl (B d12_66) (XS.iadd X1n.here hx rfl (B d12_67) rfl k))) ?_
 show oF p e below (T1n.setTop (mkF m 68 #[.val (.ref b), .val (.int c_)] [(.int 3), (.ref b), (.int 2), (.ref t)])) _
 obtain ⟨T1o, h1o, X1o, e1o, W1o, st1o⟩ := putF X1n hx hZ hown (host := "") (Or.inl (ow hw 62)) Via.refl e1n j1_ E_b (Or.inl (ow hw 63)) (ow hw 15) (ty := .int) (by decide) rfl rfl (g := (mkF m 68 #[.val (.ref b), .val (.int c_)] [(.int 3), (.ref b), (.int 2), (.ref t)])) rfl rfl (B d12_68)
 refine oG st1o ?_
 have E_b := E_b.wr W1o
 have j2_ := j2_.other W1o (Or.inr (slot_ne (Or.inl (ow hw 32)) (Or.inl (ow hw 63)) (by decide) (t := (.array .byte)) (t' := .int) (by decide) (by decide)))
 have j0_ := j0_.other W1o (Or.inr (slot_ne (Or.inl (ow hw 34)) (Or.inl (ow hw 63)) (by decide) (t := .byte) (t' := .int) (by decide) (by decide)))
 have j3_ := j3_.other W1o (Or.inr (slot_ne (Or.inl (ow hw 268)) (Or.inl (ow hw 63)) (by decide) (t := .boolean) (t' := .int) (by decide) (by decide)))
 have V_t := V_t.other W1o (Ne.symm nbt)
 have E_t := E_t.wr W1o
 have O := O.wr W1o g_b
 have K1p := K0.wr W1o (Or.inl (List.mem_of_getElem? (i := 0) rfl))
 have j1_ := j1_.same W1o
 have N1o := Fr.snoc X1o N1l g_b
 show oF p e below (T1o.setTop (mkF m 71 #[.val (.ref b), .val (.int c_)] [(.int 2), (.ref t)])) _
 refine oG (fun _ k => XS.iloadN X1o.here hx rfl (B d12_71) rfl k) ?_
 show oF p e below (T1o.setTop (mkF m 72 #[.val (.ref b), .val (.int c_)] [(.int c_), (.int 2), (.ref t)])) _
 obtain ⟨_, _, ⟨T1q, L1q, k1q, n1q⟩, -, X1q, ⟨Lc1q, hQ1q, l1q, y1q, z1q⟩, st1q⟩ := Jvm.LawKit.callS X1o hx (y := mN5) hown (mo hZ hw 281) (mo hZ hw 282) (mo hZ hw 222) (mo hZ hw 283) (by decide) (backOf (W := 0) (ps l Z a0 hw [] t (2 : Int32) c_ kt (N <<< ((1 : Int32) &&& 31)) [(.int i0_), (.int i1_), (.int i2_), (.int i3_)] fm h1o n0 O j6_ j7_ j8_ j5_ hfm V_t g_t (by rw [own_k2] <;> rfl) (own_mk (by omega) hN8 (by simp only [List.length_cons, List.length_nil]; omega)) (own_m0 (by omega) hN8).2) hZ (ow hw 283) (ow hw 222) (by decide) (by decide)) (g := (mkF m 72 #[.val (.ref b), .val (.int c_)] [(.int c_), (.int 2), (.ref t)])) rfl (by rw [hml]; rfl) (argsL := [(.ref t), (.int 2), (.int c_)]) (rest := []) (lenOf pd_4 rfl) rfl (by show 2 * 0 + _ ≤ _; exact Nat.le_of_eq rfl) (B d12_72) (fun _ _ => ⟨rfl, e1o, (by decide : 0 + 0 ≤ _), (by decide : 0 + 0 ≤ _)⟩)
 dsimp only [Pt.U, Pt.locs, Pt.cells, Pt.slots] at X1q l1q y1q z1q st1q hQ1q
 subst y1q z1q
 obtain ⟨rfl, N1qq, Kq1q, P1q_0⟩ := hQ1q
 refine oG st1q ?_
 have N1q := oL l1q (Fr.app N1o N1qq)
 have E_b := E_b.keep Kq1q
 have j2_ := j2_.keep Kq1q (ninS nbt nin0)
 have j0_ := j0_.keep Kq1q (ninS nbt nin0)
 have j1_ := j1_.keep Kq1q (ninS nbt nin0)
 have j3_ := j3_.keep Kq1q (ninS nbt nin0)
 clear V_t
 have E_t := E_t.keep Kq1q
 have O := O.keep Kq1q (allS g_t all0)
 have K1r := K1p.trans Kq1q (allS (Or.inl (List.mem_of_getElem? (i := 1) rfl)) all0)
 have V_t := P1q_0
 show oF p e below (T1q.setTop (mkF m 75 #[.val (.ref b), .val (.int c_)] [])) _
 refine oG (fun _ k => XS.aloadN X1q.here hx rfl (B d12_75) rfl rfl k) ?_
 show oF p e below (T1q.setTop (mkF m 76 #[.val (.ref b), .val (.int c_)] [(.ref b)])) _
 obtain ⟨fs, hr, r1, r2, hW, r3⟩ := X1q.leave (v := some (.ref b)) (fun h => by rw [Bd.returns] at h; cases h)
 refine ⟨_, _, ?_, r1, r2, _, _, rfl, ?_, ⟨_, rfl⟩, hW, r3.mono (by decide) (by decide)⟩
 ·exact X1q.areturnOut hx rfl Bd.returns rfl (B d12_76) hr
 ·show QapU2 Z b c_ t kt N i0_ i1_ i2_ i3_ h0 n0 _ T1q.heap _
  exact ⟨rfl, N1q, K1r, E_b, j2_, j0_, j1_, j3_, V_t, E_t⟩
theorem d57_0 : decode k20_ 0 = .ok (.iload_n 3, 1) := by decide +kernel
theorem d57_1 : decode k20_ 1 = .ok (.iload 4, 2) := by decide +kernel
theorem d57_3 : decode k20_ 3 = .ok (.if_icmp .ge 20, 3) := by decide +kernel
theorem d57_6 : decode k20_ 6 = .ok (.aload_n 0, 1) := by decide +kernel
theorem d57_7 : decode k20_ 7 = .ok (.iload_n 1, 1) := by decide +kernel
theorem d57_8 : decode k20_ 8 = .ok (.iinc 1 1, 3) := by decide +kernel
theorem d57_11 : decode k20_ 11 = .ok (.aload_n 2, 1) := by decide +kernel
theorem d57_12 : decode k20_ 12 = .ok (.iload_n 3, 1) := by decide +kernel
theorem d57_13 : decode k20_ 13 = .ok (.iinc 3 1, 3) := by decide +kernel
theorem d57_16 : decode k20_ 16 = .ok (.caload, 1) := by decide +kernel
theorem d57_17 : decode k20_ 17 = .ok (.invokestatic 111, 3) := by decide +kernel
theorem d57_20 : decode k20_ 20 = .ok (.goto (-20), 3) := by decide +kernel
theorem d57_23 : decode k20_ 23 = .ok (.return_, 1) := by decide +kernel
def Qpc (Z : State) (t : Addr) (kt : ClassId) (M : Int32) (vs : List Value) (c0_ : Int32) (c1_ : Int32) (h0 : Heap) (n0 : Nat) (v : Option Value) (h : Heap) (L : List Loc) : Prop := v = none ∧ Fr n0 L ∧ Keep h0 h [t] ∧ Arv Z h t kt .byte M (vs ++ [(.int (own_lo c0_)), (.int (own_hi c0_)), (.int (own_lo c1_)), (.int (own_hi c1_))]) (.int 0)
theorem pc (l : Launch) (Z : State) (a0 : Array Value) (hw : ∀ d ∈ tables_1, d.before a0 Z = true) (ws : List Jvm.Cond) (t : Addr) (i : Int32) (ch : Addr) (kt : ClassId) (M : Int32) (vs : List Value) (kc : ClassId) (c0_ : Int32) (c1_ : Int32) (h0 : Heap) (n0 : Nat) (O : Old Z n0 h0) (j6_ : sT0 Z (.int 1)) (j7_ : sT1 Z (.int 0)) (j8_ : sT2 Z (.int 8)) (V_t : Arv Z h0 t kt .byte M vs (.int 0)) (g_t : n0 ≤ t) (hn : (vs.length : Int) = 2 * i.toInt) (hM : (vs.length : Int) + 4 ≤ M.toInt) (h16 : M.toInt ≤ 16) (V_ch : Arv Z h0 ch kc .char (2 : Int32) [(.int c0_), (.int c1_)] (.int 0)) (ntc : t ≠ ch) :
   own_MF l Z mN20 jdk_52_method_68_code 5 none ws rM1 #[(.ref t), (.int i), (.ref ch), (.int 0), (.int 2)] h0 (Qpc Z t kt M vs c0_ c1_ h0 n0) := by
 refine MetFree.of_bodySF (plainFor_of_name pn_0) hisR ?_
 intro p e s m args below meth c s₁ Bd hml0 hP hK
 obtain ⟨rfl, hZ, hh⟩ := hP
 have hx := Bd.exec
 have hby := Bd.bytes
 have B := @hb _ _ hby
 have hml : c.maxLocals = 5 := hml0
 have hown : s.vm.findClass "java/lang/StringUTF16" = some m.cls := findClass_of_methodNamed Bd.named
 have X0 : Stand p l e rM1 s m #[(.ref t), (.int i), (.ref ch), (.int 0), (.int 2)] below meth c s₁ [] 0 0 := Stand.of_body Bd
 have e0 : s₁.heap = h0 := by rw [← hh, Bd.state]; rfl
 have N0 := Fr.nil n0
 have K0 := Keep.refl h0 [t]
 refine own_start (ef_lin0 m t i ch (0 : Int32) (2 : Int32)) (Q := own_QE s rM1 (Qpc Z t kt M vs c0_ c1_ h0 n0)) ?_
 show oF p e below (s₁.setTop (mkF m 0 #[.val (.ref t), .val (.int i), .val (.ref ch), .val (.int 0), .val (.int 2)] [])) _
 refine oG (fun _ k => XS.iloadN X0.here hx rfl (B d57_0) rfl (XS.iload X0.here hx rfl (B d57_1) rfl (XS.icmpNo X0.here hx rfl (B d57_3) rfl (tlt (by decide : (0 : Int32) < (2 : Int32))).2.1 (XS.aloadN X0.here hx rfl (B d57_6) rfl rfl (XS.iloadN X0.here hx rfl (B d57_7) rfl (XS.iinc X0.here hx rfl (B d57_8) rfl (l' := #[.val (.ref t), .val (.int (i + (1 : Int32))), .val (.ref ch), .val (.int 0), .val (.int 2)]) rfl (XS.aloadN X0.here hx rfl (B d57_11) rfl rfl (XS.iloadN X0.here hx rfl (B d57_12) rfl (XS.iinc X0.here hx rfl (B d57_13) rfl (l' := #[.val (.ref t), .val (.int (i + (1 : Int32))), .val (.ref ch), .val (.int 1), .val (.int 2)]) rfl k))))))))) ?_
 show oF p e below (s₁.setTop (mkF m 16 #[.val (.ref t), .val (.int (i + (1 : Int32))), .val (.ref ch), .val (.int 1), .val (.int 2)] [(.int 0), (.ref ch), (.int i), (.ref t)])) _
 obtain ⟨cl1s, A1s, q1s, S1s, M1s, H1s, G1s⟩ := id V_ch
 have hin1s : ¬ ((0 : Int32) < 0 ∨ cl1s.slots.size ≤ ((0 : Int32)).toNatClampNeg) := inb_of S1s ⟨by decide, by decide⟩
 have hat1s : cl1s.slots[((0 : Int32)).toNatClampNeg]? = some (.int c0_) := Has.at H1s hin1s rfl
 refine oG (fun _ k => X0.caload hx (j := (0 : Int32)) (v := (.int c0_)) (own_eqE e0 A1s.1) (State.isArrayOf_alike hZ.alike A1s.2.1) A1s.2.2 hin1s hat1s (g := (mkF m 16 #[.val (.ref t), .val (.int (i + (1 : Int32))), .val (.ref ch), .val (.int 1), .val (.int 2)] [(.int 0), (.ref ch), (.int i), (.ref t)])) rfl rfl (B d57_16) _ k) ?_
 show oF p e below (s₁.setTop (mkF m 17 #[.val (.ref t), .val (.int (i + (1 : Int32))), .val (.ref ch), .val (.int 1), .val (.int 2)] [(.int c0_), (.int i), (.ref t)])) _
 obtain ⟨_, _, ⟨T1t, L1t, k1t, n1t⟩, -, X1t, ⟨Lc1t, hQ1t, l1t, y1t, z1t⟩, st1t⟩ := Jvm.LawKit.callS X0 hx (y := mN1) hown (mo hZ hw 261) (mo hZ hw 262) (mo hZ hw 222) (mo hZ hw 263) (by decide) (backOf (W := 0) (pt l Z a0 hw [] t i c0_ kt M vs h0 n0 O j6_ j7_ j8_ V_t g_t hn (by omega) h16) hZ (ow hw 263) (ow hw 222) (by decide) (by decide)) (g := (mkF m 17 #[.val (.ref t), .val (.int (i + (1 : Int32))), .val (.ref ch), .val (.int 1), .val (.int 2)] [(.int c0_), (.int i), (.ref t)])) rfl (by rw [hml]; rfl) (argsL := [(.ref t), (.int i), (.int c0_)]) (rest := []) (lenOf pd_4 rfl) rfl (by show 2 * 0 + _ ≤ _; exact Nat.le_of_eq rfl) (B d57_17) (fun _ _ => ⟨rfl, e0, (by decide : 0 + 0 ≤ _), (by decide : 0 + 0 ≤ _)⟩)
 dsimp only [Pt.U, Pt.locs, Pt.cells, Pt.slots] at X1t l1t y1t z1t st1t hQ1t
 subst y1t z1t
 obtain ⟨rfl, N1tq, Kq1t, P1t_0⟩ := hQ1t
 refine oG st1t ?_
 have N1t := oL l1t (Fr.app N0 N1tq)
 clear V_t
 have V_ch := V_ch.keep Kq1t (ninS (Ne.symm ntc) nin0)
 have O := O.keep Kq1t (allS g_t all0)
 have K1u := K0.trans Kq1t (allS (Or.inl (List.mem_of_getElem? (i := 0) rfl)) all0)
 have V_t := P1t_0
 show oF p e below (T1t.setTop (mkF m 20 #[.val (.ref t), .val (.int (i + (1 : Int32))), .val (.ref ch), .val (.int 1), .val (.int 2)] [])) _
 refine oG (fun _ k => XS.goto X1t.here hx rfl (pc0 := 20) (pc' := 0) rfl (B d57_20) (by decide) (by decide) (XS.iloadN X1t.here hx rfl (B d57_0) rfl (XS.iload X1t.here hx rfl (B d57_1) rfl (XS.icmpNo X1t.here hx rfl (B d57_3) rfl (tlt (by decide : (1 : Int32) < (2 : Int32))).2.1 (XS.aloadN X1t.here hx rfl (B d57_6) rfl rfl (XS.iloadN X1t.here hx rfl (B d57_7) rfl (XS.iinc X1t.here hx rfl (B d57_8) rfl (l' := #[.val (.ref t), .val (.int ((i + (1 : Int32)) + (1 : Int32))), .val (.ref ch), .val (.int 1), .val (.int 2)]) rfl (XS.aloadN X1t.here hx rfl (B d57_11) rfl rfl (XS.iloadN X1t.here hx rfl (B d57_12) rfl (XS.iinc X1t.here hx rfl (B d57_13) rfl (l' := #[.val (.ref t), .val (.int ((i + (1 : Int32)) + (1 : Int32))), .val (.ref ch), .val (.int 2), .val (.int 2)]) rfl k)))))))))) ?_
 show oF p e below (T1t.setTop (mkF m 16 #[.val (.ref t), .val (.int ((i + (1 : Int32)) + (1 : Int32))), .val (.ref ch), .val (.int 2), .val (.int 2)] [(.int 1), (.ref ch), (.int (i + (1 : Int32))), (.ref t)])) _
 obtain ⟨cl1v, A1v, q1v, S1v, M1v, H1v, G1v⟩ := id V_ch
 have hin1v : ¬ ((1 : Int32) < 0 ∨ cl1v.slots.size ≤ ((1 : Int32)).toNatClampNeg) := inb_of S1v ⟨by decide, by decide⟩
 have hat1v : cl1v.slots[((1 : Int32)).toNatClampNeg]? = some (.int c1_) := Has.at H1v hin1v rfl
 refine oG (fun _ k => X1t.caload hx (j := (1 : Int32)) (v := (.int c1_)) (own_eqE rfl A1v.1) (State.isArrayOf_alike hZ.alike A1v.2.1) A1v.2.2 hin1v hat1v (g := (mkF m 16 #[.val (.ref t), .val (.int ((i + (1 : Int32)) + (1 : Int32))), .val (.ref ch), .val (.int 2), .val (.int 2)] [(.int 1), (.ref ch), (.int (i + (1 : Int32))), (.ref t)])) rfl rfl (B d57_16) _ k) ?_
 show oF p e below (T1t.setTop (mkF m 17 #[.val (.ref t), .val (.int ((i + (1 : Int32)) + (1 : Int32))), .val (.ref ch), .val (.int 2), .val (.int 2)] [(.int c1_), (.int (i + (1 : Int32))), (.ref t)])) _
 obtain ⟨_, _, ⟨T1w, L1w, k1w, n1w⟩, -, X1w, ⟨Lc1w, hQ1w, l1w, y1w, z1w⟩, st1w⟩ := Jvm.LawKit.callS X1t hx (y := mN1) hown (mo hZ hw 261) (mo hZ hw 262) (mo hZ hw 222) (mo hZ hw 263) (by decide) (backOf (W := 0) (pt l Z a0 hw [] t (i + (1 : Int32)) c1_ kt M (vs ++ [(.int (own_lo c0_)), (.int (own_hi c0_))]) (T1t.heap) n0 O j6_ j7_ j8_ V_t g_t (own_pn _ _ hn hM h16) (by simp only [List.length_append, List.length_cons, List.length_nil]; omega) h16) hZ (ow hw 263) (ow hw 222) (by decide) (by decide)) (g := (mkF m 17 #[.val (.ref t), .val (.int ((i + (1 : Int32)) + (1 : Int32))), .val (.ref ch), .val (.int 2), .val (.int 2)] [(.int c1_), (.int (i + (1 : Int32))), (.ref t)])) rfl (by rw [hml]; rfl) (argsL := [(.ref t), (.int (i + (1 : Int32))), (.int c1_)]) (rest := []) (lenOf pd_4 rfl) rfl (by show 2 * 0 + _ ≤ _; exact Nat.le_of_eq rfl) (B d57_17) (fun _ _ => ⟨rfl, rfl, (by decide : 0 + 0 ≤ _), (by decide : 0 + 0 ≤ _)⟩)
 dsimp only [Pt.U, Pt.locs, Pt.cells, Pt.slots] at X1w l1w y1w z1w st1w hQ1w
 subst y1w z1w
 obtain ⟨rfl, N1wq, Kq1w, P1w_0⟩ := hQ1w
 refine oG st1w ?_
 have N1w := oL l1w (Fr.app N1t N1wq)
 have V_ch := V_ch.keep Kq1w (ninS (Ne.symm ntc) nin0)
 clear V_t
 have O := O.keep Kq1w (allS g_t all0)
 have K1x := K1u.trans Kq1w (allS (Or.inl (List.mem_of_getElem? (i := 0) rfl)) all0)
 have V_t := P1w_0
 show oF p e below (T1w.setTop (mkF m 20 #[.val (.ref t), .val (.int ((i + (1 : Int32)) + (1 : Int32))), .val (.ref ch), .val (.int 2), .val (.int 2)] [])) _
 refine oG (fun _ k => XS.goto X1w.here hx rfl (pc0 := 20) (pc' := 0) rfl (B d57_20) (by decide) (by decide) (XS.iloadN X1w.here hx rfl (B d57_0) rfl (XS.iload X1w.here hx rfl (B d57_1) rfl (XS.icmpYes X1w.here hx rfl (pc0 := 3) (pc' := 23) rfl (B d57_3) rfl (flt (by decide : ¬ ((2 : Int32) < (2 : Int32)))).2.1 (by decide) (by decide) k)))) ?_
 show oF p e below (T1w.setTop (mkF m 23 #[.val (.ref t), .val (.int ((i + (1 : Int32)) + (1 : Int32))), .val (.ref ch), .val (.int 2), .val (.int 2)] [])) _
 obtain ⟨fs, hr, r1, r2, hW, r3⟩ := X1w.leave (v := none) (fun _ => rfl)
 refine ⟨_, _, ?_, r1, r2, _, _, rfl, ?_, ⟨_, rfl⟩, hW, r3.mono (by decide) (by decide)⟩
 ·exact X1w.returnOut hx Bd.returns (B d57_23) hr
 ·show Qpc Z t kt M vs c0_ c1_ h0 n0 _ T1w.heap _
  exact ⟨rfl, N1w, K1x, (by rw [List.append_assoc] at V_t; exact V_t)⟩
theorem d54_0 : decode k21_ 0 = .ok (.iload_n 0, 1) := by decide +kernel
theorem d54_1 : decode k21_ 1 = .ok (.iload_n 1, 1) := by decide +kernel
theorem d54_2 : decode k21_ 2 = .ok (.aload_n 2, 1) := by decide +kernel
theorem d54_3 : decode k21_ 3 = .ok (.invokestatic 48, 3) := by decide +kernel
theorem d54_6 : decode k21_ 6 = .ok (.invokestatic 241, 3) := by decide +kernel
theorem pd_15 : parseMethodDescriptor "(III)V" = some ⟨[.int, .int, .int], none⟩ := by decide +kernel
theorem d54_9 : decode k21_ 9 = .ok (.return_, 1) := by decide +kernel
def Qubb (Z : State)  (h0 : Heap) (n0 : Nat) (v : Option Value) (h : Heap) (L : List Loc) : Prop := v = none ∧ Fr n0 L ∧ h = h0
theorem ubb (l : Launch) (Z : State) (a0 : Array Value) (hw : ∀ d ∈ tables_1, d.before a0 Z = true) (ws : List Jvm.Cond) (i : Int32) (j : Int32) (t : Addr) (kt : ClassId) (M : Int32) (vs : List Value) (fm : Value) (h0 : Heap) (n0 : Nat) (O : Old Z n0 h0) (j5_ : sT3 Z fm) (hfm : fm.isRef = true) (V_t : Arv Z h0 t kt .byte M vs (.int 0)) (h1 : ¬ (i < (0 : Int32))) (h2 : ¬ (j < i)) (h3 : ¬ ((M >>> ((1 : Int32) &&& 31)) < j)) :
   own_MF l Z mN21 jdk_52_method_93_code 3 none ws rM5 #[(.int i), (.int j), (.ref t)] h0 (Qubb Z  h0 n0) := by
 refine MetFree.of_bodySF (plainFor_of_name pn_0) hisR ?_
 intro p e s m args below meth c s₁ Bd hml0 hP hK
 obtain ⟨rfl, hZ, hh⟩ := hP
 have hx := Bd.exec
 have hby := Bd.bytes
 have B := @hb _ _ hby
 have hml : c.maxLocals = 3 := hml0
 have hown : s.vm.findClass "java/lang/StringUTF16" = some m.cls := findClass_of_methodNamed Bd.named
 have X0 : Stand p l e rM5 s m #[(.int i), (.int j), (.ref t)] below meth c s₁ [] 0 0 := Stand.of_body Bd
 have e0 : s₁.heap = h0 := by rw [← hh, Bd.state]; rfl
 have N0 := Fr.nil n0
 refine own_start (ef_ubo0 m i j t) (Q := own_QE s rM5 (Qubb Z  h0 n0)) ?_
 show oF p e below (s₁.setTop (mkF m 0 #[.val (.int i), .val (.int j), .val (.ref t)] [])) _
 refine oG (fun _ k => XS.iloadN X0.here hx rfl (B d54_0) rfl (XS.iloadN X0.here hx rfl (B d54_1) rfl (XS.aloadN X0.here hx rfl (B d54_2) rfl rfl k))) ?_
 show oF p e below (s₁.setTop (mkF m 3 #[.val (.int i), .val (.int j), .val (.ref t)] [(.ref t), (.int j), (.int i)])) _
 obtain ⟨_, _, ⟨T1y, L1y, k1y, n1y⟩, -, X1y, ⟨Lc1y, hQ1y, l1y, y1y, z1y⟩, st1y⟩ := Jvm.LawKit.callS X0 hx (y := mN0) hown (mo hZ hw 237) (mo hZ hw 238) (mo hZ hw 222) (mo hZ hw 239) (by decide) (backOf (W := 2) (ul l Z a0 hw [] t kt M vs h0 n0 O V_t) hZ (ow hw 239) (ow hw 222) (by decide) (by decide)) (g := (mkF m 3 #[.val (.int i), .val (.int j), .val (.ref t)] [(.ref t), (.int j), (.int i)])) rfl (by rw [hml]; rfl) (argsL := [(.ref t)]) (rest := [(.int j), (.int i)]) (lenOf pd_1 rfl) rfl (by show 2 * 0 + _ ≤ _; exact Nat.le_of_eq rfl) (B d54_3) (fun _ _ => ⟨rfl, e0, (by decide : 0 + 0 ≤ _), (by decide : 0 + 0 ≤ _)⟩)
 dsimp only [Pt.U, Pt.locs, Pt.cells, Pt.slots] at X1y l1y y1y z1y st1y hQ1y
 subst y1y z1y
 obtain ⟨rfl, N1yq, e1y⟩ := hQ1y
 refine oG st1y ?_
 have N1y := oL l1y (Fr.app N0 N1yq)
 obtain ⟨_, _, ⟨T1z, L1z, k1z, n1z⟩, -, X1z, ⟨Lc1z, hQ1z, l1z, y1z, z1z⟩, st1z⟩ := Jvm.LawKit.callS X1y hx (y := mN9) hown (mo hZ hw 252) (mo hZ hw 253) (mo hZ hw 30) (mo hZ hw 254) (by decide) (backOf (W := 0) (cbb l Z a0 hw [] i j (M >>> ((1 : Int32) &&& 31)) fm h0 n0 O j5_ hfm h1 h2 h3) hZ (ow hw 254) (ow hw 30) (by decide) (by decide)) (g := (mkF m 6 #[.val (.int i), .val (.int j), .val (.ref t)] [(.int (M >>> ((1 : Int32) &&& 31))), (.int j), (.int i)])) rfl (by rw [hml]; rfl) (argsL := [(.int i), (.int j), (.int (M >>> ((1 : Int32) &&& 31)))]) (rest := []) (lenOf pd_15 rfl) rfl (by show 2 * 0 + _ ≤ _; exact Nat.le_of_eq rfl) (B d54_6) (fun _ _ => ⟨rfl, e1y, (by decide : 0 + 0 ≤ _), (by decide : 0 + 0 ≤ _)⟩)
 dsimp only [Pt.U, Pt.locs, Pt.cells, Pt.slots] at X1z l1z y1z z1z st1z hQ1z
 subst y1z z1z
 obtain ⟨rfl, N1zq, e1z⟩ := hQ1z
 refine oG st1z ?_
 have N1z := oL l1z (Fr.app N1y N1zq)
 show oF p e below (T1z.setTop (mkF m 9 #[.val (.int i), .val (.int j), .val (.ref t)] [])) _
 obtain ⟨fs, hr, r1, r2, hW, r3⟩ := X1z.leave (v := none) (fun _ => rfl)
 refine ⟨_, _, ?_, r1, r2, _, _, rfl, ?_, ⟨_, rfl⟩, hW, r3.mono (by decide) (by decide)⟩
 ·exact X1z.returnOut hx Bd.returns (B d54_9) hr
 ·show Qubb Z  h0 n0 _ T1z.heap _
  rw [e1z]
  exact ⟨rfl, N1z, rfl⟩
theorem d53_0 : decode k22_ 0 = .ok (.iload_n 1, 1) := by decide +kernel
theorem d53_1 : decode k22_ 1 = .ok (.iload_n 1, 1) := by decide +kernel
theorem d53_2 : decode k22_ 2 = .ok (.iload 4, 2) := by decide +kernel
theorem d53_4 : decode k22_ 4 = .ok (.iadd, 1) := by decide +kernel
theorem d53_5 : decode k22_ 5 = .ok (.iload_n 3, 1) := by decide +kernel
theorem d53_6 : decode k22_ 6 = .ok (.isub, 1) := by decide +kernel
theorem d53_7 : decode k22_ 7 = .ok (.aload_n 0, 1) := by decide +kernel
theorem d53_8 : decode k22_ 8 = .ok (.invokestatic 96, 3) := by decide +kernel
theorem d53_11 : decode k22_ 11 = .ok (.aload_n 0, 1) := by decide +kernel
theorem d53_12 : decode k22_ 12 = .ok (.iload_n 1, 1) := by decide +kernel
theorem d53_13 : decode k22_ 13 = .ok (.aload_n 2, 1) := by decide +kernel
theorem d53_14 : decode k22_ 14 = .ok (.iload_n 3, 1) := by decide +kernel
theorem d53_15 : decode k22_ 15 = .ok (.iload 4, 2) := by decide +kernel
theorem d53_17 : decode k22_ 17 = .ok (.invokestatic 384, 3) := by decide +kernel
theorem pd_16 : parseMethodDescriptor "([BI[CII)V" = some ⟨[(.array .byte), .int, (.array .char), .int, .int], none⟩ := by decide +kernel
theorem d53_20 : decode k22_ 20 = .ok (.return_, 1) := by decide +kernel
def Qpb (Z : State) (t : Addr) (kt : ClassId) (M : Int32) (vs : List Value) (c0_ : Int32) (c1_ : Int32) (h0 : Heap) (n0 : Nat) (v : Option Value) (h : Heap) (L : List Loc) : Prop := v = none ∧ Fr n0 L ∧ Keep h0 h [t] ∧ Arv Z h t kt .byte M (vs ++ [(.int (own_lo c0_)), (.int (own_hi c0_)), (.int (own_lo c1_)), (.int (own_hi c1_))]) (.int 0)
theorem pb (l : Launch) (Z : State) (a0 : Array Value) (hw : ∀ d ∈ tables_1, d.before a0 Z = true) (ws : List Jvm.Cond) (t : Addr) (i : Int32) (ch : Addr) (kt : ClassId) (M : Int32) (vs : List Value) (kc : ClassId) (c0_ : Int32) (c1_ : Int32) (fm : Value) (h0 : Heap) (n0 : Nat) (O : Old Z n0 h0) (j5_ : sT3 Z fm) (hfm : fm.isRef = true) (j6_ : sT0 Z (.int 1)) (j7_ : sT1 Z (.int 0)) (j8_ : sT2 Z (.int 8)) (V_t : Arv Z h0 t kt .byte M vs (.int 0)) (g_t : n0 ≤ t) (hn : (vs.length : Int) = 2 * i.toInt) (hM : (vs.length : Int) + 4 ≤ M.toInt) (h16 : M.toInt ≤ 16) (V_ch : Arv Z h0 ch kc .char (2 : Int32) [(.int c0_), (.int c1_)] (.int 0)) (ntc : t ≠ ch) :
   own_MF l Z mN22 jdk_52_method_72_code 5 none ws rM6 #[(.ref t), (.int i), (.ref ch), (.int 0), (.int 2)] h0 (Qpb Z t kt M vs c0_ c1_ h0 n0) := by
 refine MetFree.of_bodySF (plainFor_of_name pn_0) hisR ?_
 intro p e s m args below meth c s₁ Bd hml0 hP hK
 obtain ⟨rfl, hZ, hh⟩ := hP
 have hx := Bd.exec
 have hby := Bd.bytes
 have B := @hb _ _ hby
 have hml : c.maxLocals = 5 := hml0
 have hown : s.vm.findClass "java/lang/StringUTF16" = some m.cls := findClass_of_methodNamed Bd.named
 have X0 : Stand p l e rM6 s m #[(.ref t), (.int i), (.ref ch), (.int 0), (.int 2)] below meth c s₁ [] 0 0 := Stand.of_body Bd
 have e0 : s₁.heap = h0 := by rw [← hh, Bd.state]; rfl
 have N0 := Fr.nil n0
 have K0 := Keep.refl h0 [t]
 refine own_start (ef_lin0 m t i ch (0 : Int32) (2 : Int32)) (Q := own_QE s rM6 (Qpb Z t kt M vs c0_ c1_ h0 n0)) ?_
 show oF p e below (s₁.setTop (mkF m 0 #[.val (.ref t), .val (.int i), .val (.ref ch), .val (.int 0), .val (.int 2)] [])) _
 refine oG (fun _ k => XS.iloadN X0.here hx rfl (B d53_0) rfl (XS.iloadN X0.here hx rfl (B d53_1) rfl (XS.iload X0.here hx rfl (B d53_2) rfl (XS.iadd X0.here hx rfl (B d53_4) rfl (XS.iloadN X0.here hx rfl (B d53_5) rfl (XS.isub X0.here hx rfl (B d53_6) rfl (XS.aloadN X0.here hx rfl (B d53_7) rfl rfl k))))))) ?_
 show oF p e below (s₁.setTop (mkF m 8 #[.val (.ref t), .val (.int i), .val (.ref ch), .val (.int 0), .val (.int 2)] [(.ref t), (.int ((i + (2 : Int32)) - (0 : Int32))), (.int i)])) _
 obtain ⟨_, _, ⟨T1A, L1A, k1A, n1A⟩, -, X1A, ⟨Lc1A, hQ1A, l1A, y1A, z1A⟩, st1A⟩ := Jvm.LawKit.callS X0 hx (y := mN21) hown (mo hZ hw 249) (mo hZ hw 250) (mo hZ hw 222) (mo hZ hw 251) (by decide) (backOf (W := 0) (ubb l Z a0 hw [] i ((i + (2 : Int32)) - (0 : Int32)) t kt M vs fm h0 n0 O j5_ hfm V_t (own_pq0 hn) (own_pq2 hn hM h16) (own_pq3 hn hM h16)) hZ (ow hw 251) (ow hw 222) (by decide) (by decide)) (g := (mkF m 8 #[.val (.ref t), .val (.int i), .val (.ref ch), .val (.int 0), .val (.int 2)] [(.ref t), (.int ((i + (2 : Int32)) - (0 : Int32))), (.int i)])) rfl (by rw [hml]; rfl) (argsL := [(.int i), (.int ((i + (2 : Int32)) - (0 : Int32))), (.ref t)]) (rest := []) (lenOf pd_7 rfl) rfl (by show 2 * 0 + _ ≤ _; exact Nat.le_of_eq rfl) (B d53_8) (fun _ _ => ⟨rfl, e0, (by decide : 0 + 0 ≤ _), (by decide : 0 + 0 ≤ _)⟩)
 dsimp only [Pt.U, Pt.locs, Pt.cells, Pt.slots] at X1A l1A y1A z1A st1A hQ1A
 subst y1A z1A
 obtain ⟨rfl, N1Aq, e1A⟩ := hQ1A
 refine oG st1A ?_
 have N1A := oL l1A (Fr.app N0 N1Aq)
 show oF p e below (T1A.setTop (mkF m 11 #[.val (.ref t), .val (.int i), .val (.ref ch), .val (.int 0), .val (.int 2)] [])) _
 refine oG (fun _ k => XS.aloadN X1A.here hx rfl (B d53_11) rfl rfl (XS.iloadN X1A.here hx rfl (B d53_12) rfl (XS.aloadN X1A.here hx rfl (B d53_13) rfl rfl (XS.iloadN X1A.here hx rfl (B d53_14) rfl (XS.iload X1A.here hx rfl (B d53_15) rfl k))))) ?_
 show oF p e below (T1A.setTop (mkF m 17 #[.val (.ref t), .val (.int i), .val (.ref ch), .val (.int 0), .val (.int 2)] [(.int 2), (.int 0), (.ref ch), (.int i), (.ref t)])) _
 obtain ⟨_, _, ⟨T1B, L1B, k1B, n1B⟩, -, X1B, ⟨Lc1B, hQ1B, l1B, y1B, z1B⟩, st1B⟩ := Jvm.LawKit.callS X1A hx (y := mN20) hown (mo hZ hw 258) (mo hZ hw 259) (mo hZ hw 222) (mo hZ hw 260) (by decide) (backOf (W := 0) (pc l Z a0 hw [] t i ch kt M vs kc c0_ c1_ h0 n0 O j6_ j7_ j8_ V_t g_t hn hM h16 V_ch ntc) hZ (ow hw 260) (ow hw 222) (by decide) (by decide)) (g := (mkF m 17 #[.val (.ref t), .val (.int i), .val (.ref ch), .val (.int 0), .val (.int 2)] [(.int 2), (.int 0), (.ref ch), (.int i), (.ref t)])) rfl (by rw [hml]; rfl) (argsL := [(.ref t), (.int i), (.ref ch), (.int 0), (.int 2)]) (rest := []) (lenOf pd_16 rfl) rfl (by show 2 * 0 + _ ≤ _; exact Nat.le_of_eq rfl) (B d53_17) (fun _ _ => ⟨rfl, e1A, (by decide : 0 + 0 ≤ _), (by decide : 0 + 0 ≤ _)⟩)
 dsimp only [Pt.U, Pt.locs, Pt.cells, Pt.slots] at X1B l1B y1B z1B st1B hQ1B
 subst y1B z1B
 obtain ⟨rfl, N1Bq, Kq1B, P1B_0⟩ := hQ1B
 refine oG st1B ?_
 have N1B := oL l1B (Fr.app N1A N1Bq)
 clear V_t
 have V_ch := V_ch.keep Kq1B (ninS (Ne.symm ntc) nin0)
 have O := O.keep Kq1B (allS g_t all0)
 have K1C := K0.trans Kq1B (allS (Or.inl (List.mem_of_getElem? (i := 0) rfl)) all0)
 have V_t := P1B_0
 show oF p e below (T1B.setTop (mkF m 20 #[.val (.ref t), .val (.int i), .val (.ref ch), .val (.int 0), .val (.int 2)] [])) _
 obtain ⟨fs, hr, r1, r2, hW, r3⟩ := X1B.leave (v := none) (fun _ => rfl)
 refine ⟨_, _, ?_, r1, r2, _, _, rfl, ?_, ⟨_, rfl⟩, hW, r3.mono (by decide) (by decide)⟩
 ·exact X1B.returnOut hx Bd.returns (B d53_20) hr
 ·show Qpb Z t kt M vs c0_ c1_ h0 n0 _ T1B.heap _
  exact ⟨rfl, N1B, K1C, V_t⟩
theorem d43_0 : decode k23_ 0 = .ok (.aload_n 0, 1) := by decide +kernel
theorem d43_1 : decode k23_ 1 = .ok (.getfield 79, 3) := by decide +kernel
theorem d43_4 : decode k23_ 4 = .ok (.istore 4, 2) := by decide +kernel
theorem d43_6 : decode k23_ 6 = .ok (.aload_n 0, 1) := by decide +kernel
theorem d43_7 : decode k23_ 7 = .ok (.invokevirtual 83, 3) := by decide +kernel
theorem d43_10 : decode k23_ 10 = .ok (.ifCond .eq 97, 3) := by decide +kernel
theorem d43_13 : decode k23_ 13 = .ok (.aload_n 0, 1) := by decide +kernel
theorem d43_14 : decode k23_ 14 = .ok (.getfield 15, 3) := by decide +kernel
theorem d43_17 : decode k23_ 17 = .ok (.astore 5, 2) := by decide +kernel
theorem d43_19 : decode k23_ 19 = .ok (.iload_n 2, 1) := by decide +kernel
theorem d43_20 : decode k23_ 20 = .ok (.istore 6, 2) := by decide +kernel
theorem d43_22 : decode k23_ 22 = .ok (.iload 4, 2) := by decide +kernel
theorem d43_24 : decode k23_ 24 = .ok (.istore 7, 2) := by decide +kernel
theorem d43_26 : decode k23_ 26 = .ok (.iload 6, 2) := by decide +kernel
theorem d43_28 : decode k23_ 28 = .ok (.iload_n 3, 1) := by decide +kernel
theorem d43_29 : decode k23_ 29 = .ok (.if_icmp .ge 75, 3) := by decide +kernel
theorem d43_32 : decode k23_ 32 = .ok (.aload_n 1, 1) := by decide +kernel
theorem d43_33 : decode k23_ 33 = .ok (.iload 6, 2) := by decide +kernel
theorem d43_35 : decode k23_ 35 = .ok (.caload, 1) := by decide +kernel
theorem d43_36 : decode k23_ 36 = .ok (.istore 8, 2) := by decide +kernel
theorem d43_38 : decode k23_ 38 = .ok (.iload 8, 2) := by decide +kernel
theorem d43_40 : decode k23_ 40 = .ok (.invokestatic 191, 3) := by decide +kernel
theorem d43_43 : decode k23_ 43 = .ok (.ifCond .eq 17, 3) := by decide +kernel
theorem d43_60 : decode k23_ 60 = .ok (.aload_n 0, 1) := by decide +kernel
theorem d43_61 : decode k23_ 61 = .ok (.iload 7, 2) := by decide +kernel
theorem d43_63 : decode k23_ 63 = .ok (.dup, 1) := by decide +kernel
theorem d43_64 : decode k23_ 64 = .ok (.istore 4, 2) := by decide +kernel
theorem d43_66 : decode k23_ 66 = .ok (.putfield 79, 3) := by decide +kernel
theorem d43_69 : decode k23_ 69 = .ok (.aload_n 0, 1) := by decide +kernel
theorem d43_70 : decode k23_ 70 = .ok (.invokevirtual 195, 3) := by decide +kernel
theorem d43_73 : decode k23_ 73 = .ok (.aload_n 0, 1) := by decide +kernel
theorem d43_74 : decode k23_ 74 = .ok (.getfield 15, 3) := by decide +kernel
theorem d43_77 : decode k23_ 77 = .ok (.iload 7, 2) := by decide +kernel
theorem d43_79 : decode k23_ 79 = .ok (.aload_n 1, 1) := by decide +kernel
theorem d43_80 : decode k23_ 80 = .ok (.iload 6, 2) := by decide +kernel
theorem d43_82 : decode k23_ 82 = .ok (.iload_n 3, 1) := by decide +kernel
theorem d43_83 : decode k23_ 83 = .ok (.invokestatic 386, 3) := by decide +kernel
theorem d43_86 : decode k23_ 86 = .ok (.aload_n 0, 1) := by decide +kernel
theorem d43_87 : decode k23_ 87 = .ok (.iload 4, 2) := by decide +kernel
theorem d43_89 : decode k23_ 89 = .ok (.iload_n 3, 1) := by decide +kernel
theorem d43_90 : decode k23_ 90 = .ok (.iadd, 1) := by decide +kernel
theorem d43_91 : decode k23_ 91 = .ok (.iload 6, 2) := by decide +kernel
theorem d43_93 : decode k23_ 93 = .ok (.isub, 1) := by decide +kernel
theorem d43_94 : decode k23_ 94 = .ok (.putfield 79, 3) := by decide +kernel
theorem d43_97 : decode k23_ 97 = .ok (.return_, 1) := by decide +kernel
theorem ef_acI0 (m : MethodId) (x0 : Addr) (x1 : Addr) (x2 : Int32) (x3 : Int32) : entryFrame m #[(.ref x0), (.ref x1), (.int x2), (.int x3)] 9 = mkF m 0 #[.val (.ref x0), .val (.ref x1), .val (.int x2), .val (.int x3), .unset, .unset, .unset, .unset, .unset] [] := by first | (simp [entryFrame, mkF, argsToLocals, Value.category]; done) | rfl
def QacI0 (Z : State) (b : Addr) (N : Int32) (c0_ : Int32) (c1_ : Int32) (h0 : Heap) (n0 : Nat) (v : Option Value) (h : Heap) (L : List Loc) : Prop := ∃ (t2_ : Addr) (k2_ : ClassId), v = none ∧ Fr n0 L ∧ Keep h0 h [b] ∧ h0.size ≤ t2_ ∧ eX1 Z h b ∧ fL1 Z h b (.ref t2_) ∧ fL0 Z h b (.int 1) ∧ fL2 Z h b (.int 2) ∧ fL3 Z h b (.int 0) ∧ Arv Z h t2_ k2_ .byte (N <<< ((1 : Int32) &&& 31)) [(.int (own_lo c0_)), (.int (own_hi c0_)), (.int (own_lo c1_)), (.int (own_hi c1_))] (.int 0) ∧ eX0 Z h t2_
theorem acI0 (l : Launch) (Z : State) (a0 : Array Value) (hw : ∀ d ∈ tables_1, d.before a0 Z = true) (ws : List Jvm.Cond) (b : Addr) (ch : Addr) (z : Int32) (t : Addr) (kt : ClassId) (N : Int32) (kc : ClassId) (c0_ : Int32) (c1_ : Int32) (fm : Value) (h0 : Heap) (n0 : Nat) (O : Old Z n0 h0) (j6_ : sT0 Z (.int 1)) (j7_ : sT1 Z (.int 0)) (j8_ : sT2 Z (.int 8)) (j5_ : sT3 Z fm) (hfm : fm.isRef = true) (j4_ : sT4 Z (.int z)) (hz : ¬ (z = (0 : Int32))) (E_b : eX1 Z h0 b) (j2_ : fL1 Z h0 b (.ref t)) (j0_ : fL0 Z h0 b (.int 0)) (j1_ : fL2 Z h0 b (.int 0)) (j3_ : fL3 Z h0 b (.int 0)) (V_t : Arv Z h0 t kt .byte N [] (.int 0)) (E_t : eX0 Z h0 t) (V_ch : Arv Z h0 ch kc .char (2 : Int32) [(.int c0_), (.int c1_)] (.int 0)) (g_b : n0 ≤ b) (g_t : n0 ≤ t) (nbt : b ≠ t) (hN : 2 ≤ N.toInt) (hN8 : N.toInt ≤ 8) (hc0 : (255 : Int32) < c0_) (ntc : t ≠ ch) (nbc : b ≠ ch) :
   own_MF l Z mN23 jdk_68_method_74_code 9 none ws rM10 #[(.ref b), (.ref ch), (.int 0), (.int 2)] h0 (QacI0 Z b N c0_ c1_ h0 n0) := by
 refine MetFree.of_bodySF (plainFor_of_name pn_4) hisR ?_
 intro p e s m args below meth c s₁ Bd hml0 hP hK
 obtain ⟨rfl, hZ, hh⟩ := hP
 have hx := Bd.exec
 have hby := Bd.bytes
 have B := @hb _ _ hby
 have hml : c.maxLocals = 9 := hml0
 have hown : s.vm.findClass "java/lang/AbstractStringBuilder" = some m.cls := findClass_of_methodNamed Bd.named
 have X0 : Stand p l e rM10 s m #[(.ref b), (.ref ch), (.int 0), (.int 2)] below meth c s₁ [] 0 0 := Stand.of_body Bd
 have e0 : s₁.heap = h0 := by rw [← hh, Bd.state]; rfl
 have N0 := Fr.nil n0
 have K0 := Keep.refl h0 [b]
 refine own_start (ef_acI0 m b ch (0 : Int32) (2 : Int32)) (Q := own_QE s rM10 (QacI0 Z b N c0_ c1_ h0 n0)) ?_
 show oF p e below (s₁.setTop (mkF m 0 #[.val (.ref b), .val (.ref ch), .val (.int 0), .val (.int 2), .unset, .unset, .unset, .unset, .unset] [])) _
 refine oG (fun _ k => XS.aloadN X0.here hx rfl (B d43_0) rfl rfl k) ?_
 show oF p e below (s₁.setTop (mkF m 1 #[.val (.ref b), .val (.ref ch), .val (.int 0), .val (.int 2), .unset, .unset, .unset, .unset, .unset] [(.ref b)])) _
 obtain ⟨T1D, X1D, e1D, st1D⟩ := getF X0 hx hZ hown (host := "") (Or.inl (ow hw 62)) Via.refl e0 j1_ (g := (mkF m 1 #[.val (.ref b), .val (.ref ch), .val (.int 0), .val (.int 2), .unset, .unset, .unset, .unset, .unset] [(.ref b)])) rfl rfl (B d43_1)
 refine oG st1D ?_
 show oF p e below (T1D.setTop (mkF m 4 #[.val (.ref b), .val (.ref ch), .val (.int 0), .val (.int 2), .unset, .unset, .unset, .unset, .unset] [(.int 0)])) _
 refine oG (fun _ k => XS.istore X1D.here hx rfl (B d43_4) rfl (l' := #[.val (.ref b), .val (.ref ch), .val (.int 0), .val (.int 2), .val (.int 0), .unset, .unset, .unset, .unset]) rfl (XS.aloadN X1D.here hx rfl (B d43_6) rfl rfl k)) ?_
 show oF p e below (T1D.setTop (mkF m 7 #[.val (.ref b), .val (.ref ch), .val (.int 0), .val (.int 2), .val (.int 0), .unset, .unset, .unset, .unset] [(.ref b)])) _
 obtain ⟨cq1E, kq1E, q1Ea, q1Eb, q1Ec⟩ := isOf hZ e1D E_b
 obtain ⟨_, _, ⟨T1E, L1E, k1E, n1E⟩, -, X1E, ⟨Lc1E, hQ1E, l1E, y1E, z1E⟩, st1E⟩ := X1D.virtualBack hx (y := mN15) (z := mN15) hown (mo hZ hw 69) (mo hZ hw 70) (notFace_of_selects (args := #[]) (mo hZ hw 72)) (mo hZ hw 72) (mo hZ hw 71) (by decide) (backOf (W := 0) (il0 l Z a0 hw [] b z h0 n0 O j4_ hz j0_) hZ (ow hw 73) (ow hw 24) (by decide) (by decide)) q1Ea q1Ec (g := (mkF m 7 #[.val (.ref b), .val (.ref ch), .val (.int 0), .val (.int 2), .val (.int 0), .unset, .unset, .unset, .unset] [(.ref b)])) rfl (by rw [hml]; rfl) (Steps.refl _) (argsL := []) (rest := []) (lenOf pd_10 rfl) rfl (by show 2 * 0 + _ ≤ _; exact Nat.le_of_eq rfl) (B d43_7) (fun _ _ => ⟨rfl, e1D, (by decide : 0 + 0 ≤ _), (by decide : 0 + 0 ≤ _)⟩)
 dsimp only [Pt.U, Pt.locs, Pt.cells, Pt.slots] at X1E l1E y1E z1E st1E hQ1E
 subst y1E z1E
 obtain ⟨rfl, N1Eq, e1E⟩ := hQ1E
 refine oG (fun _ k => st1E.trans k) ?_
 have N1E := oL l1E (Fr.app N0 N1Eq)
 show oF p e below (T1E.setTop (mkF m 10 #[.val (.ref b), .val (.ref ch), .val (.int 0), .val (.int 2), .val (.int 0), .unset, .unset, .unset, .unset] [(.int 1)])) _
 refine oG (fun _ k => XS.ifNo X1E.here hx rfl (B d43_10) rfl ((if0 _ _).trans (feq (by decide : ¬ ((1 : Int32) = (0 : Int32)))).1) (XS.aloadN X1E.here hx rfl (B d43_13) rfl rfl k)) ?_
 show oF p e below (T1E.setTop (mkF m 14 #[.val (.ref b), .val (.ref ch), .val (.int 0), .val (.int 2), .val (.int 0), .unset, .unset, .unset, .unset] [(.ref b)])) _
 obtain ⟨T1F, X1F, e1F, st1F⟩ := getF X1E hx hZ hown (host := "") (Or.inl (ow hw 31)) Via.refl e1E j2_ (g := (mkF m 14 #[.val (.ref b), .val (.ref ch), .val (.int 0), .val (.int 2), .val (.int 0), .unset, .unset, .unset, .unset] [(.ref b)])) rfl rfl (B d43_14)
 refine oG st1F ?_
 show oF p e below (T1F.setTop (mkF m 17 #[.val (.ref b), .val (.ref ch), .val (.int 0), .val (.int 2), .val (.int 0), .unset, .unset, .unset, .unset] [(.ref t)])) _
 refine oG (fun _ k => XS.astore X1F.here hx rfl (B d43_17) rfl rfl (l' := #[.val (.ref b), .val (.ref ch), .val (.int 0), .val (.int 2), .val (.int 0), .val (.ref t), .unset, .unset, .unset]) rfl (XS.iloadN X1F.here hx rfl (B d43_19) rfl (XS.istore X1F.here hx rfl (B d43_20) rfl (l' := #[.val (.ref b), .val (.ref ch), .val (.int 0), .val (.int 2), .val (.int 0), .val (.ref t), .val (.int 0), .unset, .unset]) rfl (XS.iload X1F.here hx rfl (B d43_22) rfl (XS.istore X1F.here hx rfl (B d43_24) rfl (l' := #[.val (.ref b), .val (.ref ch), .val (.int 0), .val (.int 2), .val (.int 0), .val (.ref t), .val (.int 0), .val (.int 0), .unset]) rfl (XS.iload X1F.here hx rfl (B d43_26) rfl (XS.iloadN X1F.here hx rfl (B d43_28) rfl (XS.icmpNo X1F.here hx rfl (B d43_29) rfl (tlt (by decide : (0 : Int32) < (2 : Int32))).2.1 (XS.aloadN X1F.here hx rfl (B d43_32) rfl rfl (XS.iload X1F.here hx rfl (B d43_33) rfl k)))))))))) ?_
 show oF p e below (T1F.setTop (mkF m 35 #[.val (.ref b), .val (.ref ch), .val (.int 0), .val (.int 2), .val (.int 0), .val (.ref t), .val (.int 0), .val (.int 0), .unset] [(.int 0), (.ref ch)])) _
 obtain ⟨cl1G, A1G, q1G, S1G, M1G, H1G, G1G⟩ := id V_ch
 have hin1G : ¬ ((0 : Int32) < 0 ∨ cl1G.slots.size ≤ ((0 : Int32)).toNatClampNeg) := inb_of S1G ⟨by decide, by decide⟩
 have hat1G : cl1G.slots[((0 : Int32)).toNatClampNeg]? = some (.int c0_) := Has.at H1G hin1G rfl
 refine oG (fun _ k => X1F.caload hx (j := (0 : Int32)) (v := (.int c0_)) (own_eqE e1F A1G.1) (State.isArrayOf_alike hZ.alike A1G.2.1) A1G.2.2 hin1G hat1G (g := (mkF m 35 #[.val (.ref b), .val (.ref ch), .val (.int 0), .val (.int 2), .val (.int 0), .val (.ref t), .val (.int 0), .val (.int 0), .unset] [(.int 0), (.ref ch)])) rfl rfl (B d43_35) _ k) ?_
 show oF p e below (T1F.setTop (mkF m 36 #[.val (.ref b), .val (.ref ch), .val (.int 0), .val (.int 2), .val (.int 0), .val (.ref t), .val (.int 0), .val (.int 0), .unset] [(.int c0_)])) _
 refine oG (fun _ k => XS.istore X1F.here hx rfl (B d43_36) rfl (l' := #[.val (.ref b), .val (.ref ch), .val (.int 0), .val (.int 2), .val (.int 0), .val (.ref t), .val (.int 0), .val (.int 0), .val (.int c0_)]) rfl (XS.iload X1F.here hx rfl (B d43_38) rfl k)) ?_
 show oF p e below (T1F.setTop (mkF m 40 #[.val (.ref b), .val (.ref ch), .val (.int 0), .val (.int 2), .val (.int 0), .val (.ref t), .val (.int 0), .val (.int 0), .val (.int c0_)] [(.int c0_)])) _
 obtain ⟨_, _, ⟨T1H, L1H, k1H, n1H⟩, -, X1H, ⟨Lc1H, hQ1H, l1H, y1H, z1H⟩, st1H⟩ := Jvm.LawKit.callS X1F hx (y := mN18) hown (mo hZ hw 74) (mo hZ hw 75) (mo hZ hw 76) (mo hZ hw 77) (by decide) (backOf (W := 0) (cen0 l Z a0 hw [] c0_ h0 n0 hc0) hZ (ow hw 77) (ow hw 76) (by decide) (by decide)) (g := (mkF m 40 #[.val (.ref b), .val (.ref ch), .val (.int 0), .val (.int 2), .val (.int 0), .val (.ref t), .val (.int 0), .val (.int 0), .val (.int c0_)] [(.int c0_)])) rfl (by rw [hml]; rfl) (argsL := [(.int c0_)]) (rest := []) (lenOf pd_13 rfl) rfl (by show 2 * 0 + _ ≤ _; exact Nat.le_of_eq rfl) (B d43_40) (fun _ _ => ⟨rfl, e1F, (by decide : 0 + 0 ≤ _), (by decide : 0 + 0 ≤ _)⟩)
 dsimp only [Pt.U, Pt.locs, Pt.cells, Pt.slots] at X1H l1H y1H z1H st1H hQ1H
 subst y1H z1H
 obtain ⟨rfl, N1Hq, e1H⟩ := hQ1H
 refine oG st1H ?_
 have N1H := oL l1H (Fr.app N1E N1Hq)
 show oF p e below (T1H.setTop (mkF m 43 #[.val (.ref b), .val (.ref ch), .val (.int 0), .val (.int 2), .val (.int 0), .val (.ref t), .val (.int 0), .val (.int 0), .val (.int c0_)] [(.int 0)])) _
 refine oG (fun _ k => XS.ifYes X1H.here hx rfl (pc0 := 43) (pc' := 60) rfl (B d43_43) rfl ((if0 _ _).trans (teq (by decide : (0 : Int32) = (0 : Int32))).1) (by decide) (by decide) (XS.aloadN X1H.here hx rfl (B d43_60) rfl rfl (XS.iload X1H.here hx rfl (B d43_61) rfl (XS.dup X1H.here hx rfl (B d43_63) rfl rfl (XS.istore X1H.here hx rfl (B d43_64) rfl (l' := #[.val (.ref b), .val (.ref ch), .val (.int 0), .val (.int 2), .val (.int 0), .val (.ref t), .val (.int 0), .val (.int 0), .val (.int c0_)]) rfl k))))) ?_
 show oF p e below (T1H.setTop (mkF m 66 #[.val (.ref b), .val (.ref ch), .val (.int 0), .val (.int 2), .val (.int 0), .val (.ref t), .val (.int 0), .val (.int 0), .val (.int c0_)] [(.int 0), (.ref b)])) _
 obtain ⟨T1I, h1I, X1I, e1I, W1I, st1I⟩ := putF X1H hx hZ hown (host := "") (Or.inl (ow hw 62)) Via.refl e1H j1_ E_b (Or.inl (ow hw 63)) (ow hw 15) (ty := .int) (by decide) rfl rfl (g := (mkF m 66 #[.val (.ref b), .val (.ref ch), .val (.int 0), .val (.int 2), .val (.int 0), .val (.ref t), .val (.int 0), .val (.int 0), .val (.int c0_)] [(.int 0), (.ref b)])) rfl rfl (B d43_66)
 refine oG st1I ?_
 have E_b := E_b.wr W1I
 have j2_ := j2_.other W1I (Or.inr (slot_ne (Or.inl (ow hw 32)) (Or.inl (ow hw 63)) (by decide) (t := (.array .byte)) (t' := .int) (by decide) (by decide)))
 have j0_ := j0_.other W1I (Or.inr (slot_ne (Or.inl (ow hw 34)) (Or.inl (ow hw 63)) (by decide) (t := .byte) (t' := .int) (by decide) (by decide)))
 have j3_ := j3_.other W1I (Or.inr (slot_ne (Or.inl (ow hw 268)) (Or.inl (ow hw 63)) (by decide) (t := .boolean) (t' := .int) (by decide) (by decide)))
 have V_t := V_t.other W1I (Ne.symm nbt)
 have E_t := E_t.wr W1I
 have V_ch := V_ch.other W1I (Ne.symm nbc)
 have O := O.wr W1I g_b
 have K1J := K0.wr W1I (Or.inl (List.mem_of_getElem? (i := 0) rfl))
 have j1_ := j1_.same W1I
 have N1I := Fr.snoc X1I N1H g_b
 show oF p e below (T1I.setTop (mkF m 69 #[.val (.ref b), .val (.ref ch), .val (.int 0), .val (.int 2), .val (.int 0), .val (.ref t), .val (.int 0), .val (.int 0), .val (.int c0_)] [])) _
 refine oG (fun _ k => XS.aloadN X1I.here hx rfl (B d43_69) rfl rfl k) ?_
 show oF p e below (T1I.setTop (mkF m 70 #[.val (.ref b), .val (.ref ch), .val (.int 0), .val (.int 2), .val (.int 0), .val (.ref t), .val (.int 0), .val (.int 0), .val (.int c0_)] [(.ref b)])) _
 obtain ⟨cq1K, q1K, q1K'⟩ := E_b.cell
 obtain ⟨_, _, ⟨T1K, L1K, k1K, n1K⟩, -, X1K, ⟨Lc1K, hQ1K, l1K, y1K, z1K⟩, st1K⟩ := X1I.privateBack hx (y := mN16) hown (mo hZ hw 215) (mo hZ hw 216) (own_selS (mo hZ hw 67) (by exact rfl) (Cond.privateMethod_at (mvP hZ (ow hw 217) (args := #[]))) (mo hZ hw 216) (by decide)) (Cond.privateMethod_at (mvP hZ (ow hw 217) (args := #[]))) (mo hZ hw 219) (by decide) (backOf (W := 0) (ifl0 l Z a0 hw [] b z t kt N fm h1I n0 O j4_ hz j6_ j7_ j8_ j5_ hfm E_b j2_ j0_ j1_ j3_ V_t g_b g_t nbt (by omega) hN8) hZ (ow hw 219) (ow hw 24) (by decide) (by decide)) (g := (mkF m 70 #[.val (.ref b), .val (.ref ch), .val (.int 0), .val (.int 2), .val (.int 0), .val (.ref t), .val (.int 0), .val (.int 0), .val (.int c0_)] [(.ref b)])) rfl (by rw [hml]; rfl) (Steps.refl _) (a := b) (own_eqE e1I q1K) q1K' (argsL := []) (rest := []) (lenOf pd_14 rfl) rfl (by show 2 * 0 + _ ≤ _; exact Nat.le_of_eq rfl) (B d43_70) (fun _ _ => ⟨rfl, e1I, (by decide : 0 + 1 ≤ _), (by decide : 0 + 16 ≤ _)⟩)
 dsimp only [Pt.U, Pt.locs, Pt.cells, Pt.slots] at X1K l1K y1K z1K st1K hQ1K
 subst y1K z1K
 obtain ⟨t2_1L, k2_1M, rfl, N1Kq, Kq1K, P1K_0, P1K_1, P1K_2, P1K_3, P1K_4, P1K_5, P1K_6, P1K_7⟩ := hQ1K
 refine oG (fun _ k => st1K.trans k) ?_
 have N1K := oL l1K (Fr.app N1I N1Kq)
 have j35_ : b ≠ t2_1L := Nat.ne_of_lt (Nat.lt_of_lt_of_le E_b.lt P1K_0)
 have ne_t_t2_200 : t ≠ t2_1L := Nat.ne_of_lt (Nat.lt_of_lt_of_le V_t.lt P1K_0)
 have j68_ : ch ≠ t2_1L := Nat.ne_of_lt (Nat.lt_of_lt_of_le V_ch.lt P1K_0)
 have j69_ : n0 ≤ t2_1L := Nat.le_trans (own_osz O) P1K_0
 have j70_ : h0.size ≤ t2_1L := Nat.le_trans K1J.1 P1K_0
 have E_b := E_b.keep Kq1K
 clear j2_
 clear j0_
 clear j1_
 clear j3_
 have V_t := V_t.keep Kq1K (ninS (Ne.symm nbt) nin0)
 have E_t := E_t.keep Kq1K
 have V_ch := V_ch.keep Kq1K (ninS (Ne.symm nbc) nin0)
 have O := O.keep Kq1K (allS g_b all0)
 have K1N := K1J.trans Kq1K (allS (Or.inl (List.mem_of_getElem? (i := 0) rfl)) all0)
 have E_b := P1K_1
 have j2_ := P1K_2
 have j0_ := P1K_3
 have j1_ := P1K_4
 have j3_ := P1K_5
 have j26_ := P1K_6
 have j36_ := P1K_7
 show oF p e below (T1K.setTop (mkF m 73 #[.val (.ref b), .val (.ref ch), .val (.int 0), .val (.int 2), .val (.int 0), .val (.ref t), .val (.int 0), .val (.int 0), .val (.int c0_)] [])) _
 refine oG (fun _ k => XS.aloadN X1K.here hx rfl (B d43_73) rfl rfl k) ?_
 show oF p e below (T1K.setTop (mkF m 74 #[.val (.ref b), .val (.ref ch), .val (.int 0), .val (.int 2), .val (.int 0), .val (.ref t), .val (.int 0), .val (.int 0), .val (.int c0_)] [(.ref b)])) _
 obtain ⟨T1O, X1O, e1O, st1O⟩ := getF X1K hx hZ hown (host := "") (Or.inl (ow hw 31)) Via.refl rfl j2_ (g := (mkF m 74 #[.val (.ref b), .val (.ref ch), .val (.int 0), .val (.int 2), .val (.int 0), .val (.ref t), .val (.int 0), .val (.int 0), .val (.int c0_)] [(.ref b)])) rfl rfl (B d43_74)
 refine oG st1O ?_
 show oF p e below (T1O.setTop (mkF m 77 #[.val (.ref b), .val (.ref ch), .val (.int 0), .val (.int 2), .val (.int 0), .val (.ref t), .val (.int 0), .val (.int 0), .val (.int c0_)] [(.ref t2_1L)])) _
 refine oG (fun _ k => XS.iload X1O.here hx rfl (B d43_77) rfl (XS.aloadN X1O.here hx rfl (B d43_79) rfl rfl (XS.iload X1O.here hx rfl (B d43_80) rfl (XS.iloadN X1O.here hx rfl (B d43_82) rfl k)))) ?_
 show oF p e below (T1O.setTop (mkF m 83 #[.val (.ref b), .val (.ref ch), .val (.int 0), .val (.int 2), .val (.int 0), .val (.ref t), .val (.int 0), .val (.int 0), .val (.int c0_)] [(.int 2), (.int 0), (.ref ch), (.int 0), (.ref t2_1L)])) _
 obtain ⟨_, _, ⟨T1P, L1P, k1P, n1P⟩, -, X1P, ⟨Lc1P, hQ1P, l1P, y1P, z1P⟩, st1P⟩ := Jvm.LawKit.callS X1O hx (y := mN22) hown (mo hZ hw 246) (mo hZ hw 247) (mo hZ hw 222) (mo hZ hw 248) (by decide) (backOf (W := 0) (pb l Z a0 hw [] t2_1L (0 : Int32) ch k2_1M (N <<< ((1 : Int32) &&& 31)) [] kc c0_ c1_ fm (T1K.heap) n0 O j5_ hfm j6_ j7_ j8_ j26_ j69_ (by rw [own_k0] <;> rfl) (own_mk (by omega) hN8 (by simp only [List.length_cons, List.length_nil]; omega)) (own_m0 (by omega) hN8).2 V_ch (Ne.symm j68_)) hZ (ow hw 248) (ow hw 222) (by decide) (by decide)) (g := (mkF m 83 #[.val (.ref b), .val (.ref ch), .val (.int 0), .val (.int 2), .val (.int 0), .val (.ref t), .val (.int 0), .val (.int 0), .val (.int c0_)] [(.int 2), (.int 0), (.ref ch), (.int 0), (.ref t2_1L)])) rfl (by rw [hml]; rfl) (argsL := [(.ref t2_1L), (.int 0), (.ref ch), (.int 0), (.int 2)]) (rest := []) (lenOf pd_16 rfl) rfl (by show 2 * 0 + _ ≤ _; exact Nat.le_of_eq rfl) (B d43_83) (fun _ _ => ⟨rfl, e1O, (by decide : 1 + 0 ≤ _), (by decide : 16 + 0 ≤ _)⟩)
 dsimp only [Pt.U, Pt.locs, Pt.cells, Pt.slots] at X1P l1P y1P z1P st1P hQ1P
 subst y1P z1P
 obtain ⟨rfl, N1Pq, Kq1P, P1P_0⟩ := hQ1P
 refine oG st1P ?_
 have N1P := oL l1P (Fr.app N1K N1Pq)
 have E_b := E_b.keep Kq1P
 have V_t := V_t.keep Kq1P (ninS ne_t_t2_200 nin0)
 have E_t := E_t.keep Kq1P
 have V_ch := V_ch.keep Kq1P (ninS j68_ nin0)
 have j2_ := j2_.keep Kq1P (ninS j35_ nin0)
 have j0_ := j0_.keep Kq1P (ninS j35_ nin0)
 have j1_ := j1_.keep Kq1P (ninS j35_ nin0)
 have j3_ := j3_.keep Kq1P (ninS j35_ nin0)
 clear j26_
 have j36_ := j36_.keep Kq1P
 have O := O.keep Kq1P (allS j69_ all0)
 have K1Q := K1N.trans Kq1P (allS (Or.inr j70_) all0)
 have j26_ := P1P_0
 show oF p e below (T1P.setTop (mkF m 86 #[.val (.ref b), .val (.ref ch), .val (.int 0), .val (.int 2), .val (.int 0), .val (.ref t), .val (.int 0), .val (.int 0), .val (.int c0_)] [])) _
 refine oG (fun _ k => XS.aloadN X1P.here hx rfl (B d43_86) rfl rfl (XS.iload X1P.here hx rfl (B d43_87) rfl (XS.iloadN X1P.here hx rfl (B d43_89) rfl (XS.iadd X1P.here hx rfl (B d43_90) rfl (XS.iload X1P.here hx rfl (B d43_91) rfl (XS.isub X1P.here hx rfl (B d43_93) rfl k)))))) ?_
 show oF p e below (T1P.setTop (mkF m 94 #[.val (.ref b), .val (.ref ch), .val (.int 0), .val (.int 2), .val (.int 0), .val (.ref t), .val (.int 0), .val (.int 0), .val (.int c0_)] [(.int 2), (.ref b)])) _
 obtain ⟨T1R, h1R, X1R, e1R, W1R, st1R⟩ := putF X1P hx hZ hown (host := "") (Or.inl (ow hw 62)) Via.refl rfl j1_ E_b (Or.inl (ow hw 63)) (ow hw 15) (ty := .int) (by decide) rfl rfl (g := (mkF m 94 #[.val (.ref b), .val (.ref ch), .val (.int 0), .val (.int 2), .val (.int 0), .val (.ref t), .val (.int 0), .val (.int 0), .val (.int c0_)] [(.int 2), (.ref b)])) rfl rfl (B d43_94)
 refine oG st1R ?_
 have E_b := E_b.wr W1R
 have V_t := V_t.other W1R (Ne.symm nbt)
 have E_t := E_t.wr W1R
 have V_ch := V_ch.other W1R (Ne.symm nbc)
 have j2_ := j2_.other W1R (Or.inr (slot_ne (Or.inl (ow hw 32)) (Or.inl (ow hw 63)) (by decide) (t := (.array .byte)) (t' := .int) (by decide) (by decide)))
 have j0_ := j0_.other W1R (Or.inr (slot_ne (Or.inl (ow hw 34)) (Or.inl (ow hw 63)) (by decide) (t := .byte) (t' := .int) (by decide) (by decide)))
 have j3_ := j3_.other W1R (Or.inr (slot_ne (Or.inl (ow hw 268)) (Or.inl (ow hw 63)) (by decide) (t := .boolean) (t' := .int) (by decide) (by decide)))
 have j36_ := j36_.wr W1R
 have j26_ := j26_.other W1R (Ne.symm j35_)
 have O := O.wr W1R g_b
 have K1S := K1Q.wr W1R (Or.inl (List.mem_of_getElem? (i := 0) rfl))
 have j1_ := j1_.same W1R
 have N1R := Fr.snoc X1R N1P g_b
 show oF p e below (T1R.setTop (mkF m 97 #[.val (.ref b), .val (.ref ch), .val (.int 0), .val (.int 2), .val (.int 0), .val (.ref t), .val (.int 0), .val (.int 0), .val (.int c0_)] [])) _
 obtain ⟨fs, hr, r1, r2, hW, r3⟩ := X1R.leave (v := none) (fun _ => rfl)
 refine ⟨_, _, ?_, r1, r2, _, _, rfl, ?_, ⟨_, rfl⟩, hW, r3.mono (by decide) (by decide)⟩
 ·exact X1R.returnOut hx Bd.returns (B d43_97) hr
 ·show QacI0 Z b N c0_ c1_ h0 n0 _ T1R.heap _
  rw [e1R]
  exact ⟨t2_1L, k2_1M, rfl, N1R, K1S, j70_, E_b, j2_, j0_, j1_, j3_, j26_, j36_⟩
theorem d42_0 : decode k24_ 0 = .ok (.aload_n 1, 1) := by decide +kernel
theorem d42_1 : decode k24_ 1 = .ok (.arraylength, 1) := by decide +kernel
theorem d42_2 : decode k24_ 2 = .ok (.istore_n 2, 1) := by decide +kernel
theorem d42_3 : decode k24_ 3 = .ok (.aload_n 0, 1) := by decide +kernel
theorem d42_4 : decode k24_ 4 = .ok (.aload_n 0, 1) := by decide +kernel
theorem d42_5 : decode k24_ 5 = .ok (.getfield 79, 3) := by decide +kernel
theorem d42_8 : decode k24_ 8 = .ok (.iload_n 2, 1) := by decide +kernel
theorem d42_9 : decode k24_ 9 = .ok (.iadd, 1) := by decide +kernel
theorem d42_10 : decode k24_ 10 = .ok (.invokevirtual 100, 3) := by decide +kernel
theorem d42_13 : decode k24_ 13 = .ok (.aload_n 0, 1) := by decide +kernel
theorem d42_14 : decode k24_ 14 = .ok (.aload_n 1, 1) := by decide +kernel
theorem d42_15 : decode k24_ 15 = .ok (.iconst 0, 1) := by decide +kernel
theorem d42_16 : decode k24_ 16 = .ok (.iload_n 2, 1) := by decide +kernel
theorem d42_17 : decode k24_ 17 = .ok (.invokevirtual 239, 3) := by decide +kernel
theorem pd_17 : parseMethodDescriptor "([CII)V" = some ⟨[(.array .char), .int, .int], none⟩ := by decide +kernel
theorem d42_20 : decode k24_ 20 = .ok (.aload_n 0, 1) := by decide +kernel
theorem d42_21 : decode k24_ 21 = .ok (.areturn, 1) := by decide +kernel
theorem ef_adI0 (m : MethodId) (x0 : Addr) (x1 : Addr) : entryFrame m #[(.ref x0), (.ref x1)] 3 = mkF m 0 #[.val (.ref x0), .val (.ref x1), .unset] [] := by first | (simp [entryFrame, mkF, argsToLocals, Value.category]; done) | rfl
def QadI0 (Z : State) (b : Addr) (N : Int32) (c0_ : Int32) (c1_ : Int32) (h0 : Heap) (n0 : Nat) (v : Option Value) (h : Heap) (L : List Loc) : Prop := ∃ (t2_ : Addr) (k2_ : ClassId), v = some (.ref b) ∧ Fr n0 L ∧ Keep h0 h [b] ∧ h0.size ≤ t2_ ∧ eX1 Z h b ∧ fL1 Z h b (.ref t2_) ∧ fL0 Z h b (.int 1) ∧ fL2 Z h b (.int 2) ∧ fL3 Z h b (.int 0) ∧ Arv Z h t2_ k2_ .byte (N <<< ((1 : Int32) &&& 31)) [(.int (own_lo c0_)), (.int (own_hi c0_)), (.int (own_lo c1_)), (.int (own_hi c1_))] (.int 0) ∧ eX0 Z h t2_
theorem adI0 (l : Launch) (Z : State) (a0 : Array Value) (hw : ∀ d ∈ tables_1, d.before a0 Z = true) (ws : List Jvm.Cond) (b : Addr) (ch : Addr) (z : Int32) (t : Addr) (kt : ClassId) (N : Int32) (kc : ClassId) (c0_ : Int32) (c1_ : Int32) (fm : Value) (h0 : Heap) (n0 : Nat) (O : Old Z n0 h0) (j6_ : sT0 Z (.int 1)) (j7_ : sT1 Z (.int 0)) (j8_ : sT2 Z (.int 8)) (j5_ : sT3 Z fm) (hfm : fm.isRef = true) (j4_ : sT4 Z (.int z)) (hz : ¬ (z = (0 : Int32))) (E_b : eX1 Z h0 b) (j2_ : fL1 Z h0 b (.ref t)) (j0_ : fL0 Z h0 b (.int 0)) (j1_ : fL2 Z h0 b (.int 0)) (j3_ : fL3 Z h0 b (.int 0)) (V_t : Arv Z h0 t kt .byte N [] (.int 0)) (E_t : eX0 Z h0 t) (V_ch : Arv Z h0 ch kc .char (2 : Int32) [(.int c0_), (.int c1_)] (.int 0)) (g_b : n0 ≤ b) (g_t : n0 ≤ t) (nbt : b ≠ t) (hN : 2 ≤ N.toInt) (hN8 : N.toInt ≤ 8) (hc0 : (255 : Int32) < c0_) (ntc : t ≠ ch) (nbc : b ≠ ch) :
   own_MF l Z mN24 jdk_68_method_28_code 3 (some (.object "java/lang/AbstractStringBuilder")) ws rM12 #[(.ref b), (.ref ch)] h0 (QadI0 Z b N c0_ c1_ h0 n0) := by
 refine MetFree.of_bodySF (plainFor_of_name pn_4) hisR ?_
 intro p e s m args below meth c s₁ Bd hml0 hP hK
 obtain ⟨rfl, hZ, hh⟩ := hP
 have hx := Bd.exec
 have hby := Bd.bytes
 have B := @hb _ _ hby
 have hml : c.maxLocals = 3 := hml0
 have hown : s.vm.findClass "java/lang/AbstractStringBuilder" = some m.cls := findClass_of_methodNamed Bd.named
 have X0 : Stand p l e rM12 s m #[(.ref b), (.ref ch)] below meth c s₁ [] 0 0 := Stand.of_body Bd
 have e0 : s₁.heap = h0 := by rw [← hh, Bd.state]; rfl
 have N0 := Fr.nil n0
 have K0 := Keep.refl h0 [b]
 refine own_start (ef_adI0 m b ch) (Q := own_QE s rM12 (QadI0 Z b N c0_ c1_ h0 n0)) ?_
 show oF p e below (s₁.setTop (mkF m 0 #[.val (.ref b), .val (.ref ch), .unset] [])) _
 refine oG (fun _ k => XS.aloadN X0.here hx rfl (B d42_0) rfl rfl k) ?_
 show oF p e below (s₁.setTop (mkF m 1 #[.val (.ref b), .val (.ref ch), .unset] [(.ref ch)])) _
 obtain ⟨cl1T, A1T, -, S1T, M1T, -, -⟩ := id V_ch
 refine oG (fun _ k => X0.arraylength hx (own_eqE e0 A1T.1) (State.isArrayOf_alike hZ.alike A1T.2.1) (g := (mkF m 1 #[.val (.ref b), .val (.ref ch), .unset] [(.ref ch)])) rfl rfl (B d42_1) _ (by rw [len_of S1T M1T]; exact k)) ?_
 show oF p e below (s₁.setTop (mkF m 2 #[.val (.ref b), .val (.ref ch), .unset] [(.int 2)])) _
 refine oG (fun _ k => XS.istoreN X0.here hx rfl (B d42_2) rfl (l' := #[.val (.ref b), .val (.ref ch), .val (.int 2)]) rfl (XS.aloadN X0.here hx rfl (B d42_3) rfl rfl (XS.aloadN X0.here hx rfl (B d42_4) rfl rfl k))) ?_
 show oF p e below (s₁.setTop (mkF m 5 #[.val (.ref b), .val (.ref ch), .val (.int 2)] [(.ref b), (.ref b)])) _
 obtain ⟨T1U, X1U, e1U, st1U⟩ := getF X0 hx hZ hown (host := "") (Or.inl (ow hw 62)) Via.refl e0 j1_ (g := (mkF m 5 #[.val (.ref b), .val (.ref ch), .val (.int 2)] [(.ref b), (.ref b)])) rfl rfl (B d42_5)
 refine oG st1U ?_
 show oF p e below (T1U.setTop (mkF m 8 #[.val (.ref b), .val (.ref ch), .val (.int 2)] [(.int 0), (.ref b)])) _
 refine oG (fun _ k => XS.iloadN X1U.here hx rfl (B d42_8) rfl (XS.iadd X1U.here hx rfl (B d42_9) rfl k)) ?_
 show oF p e below (T1U.setTop (mkF m 10 #[.val (.ref b), .val (.ref ch), .val (.int 2)] [(.int 2), (.ref b)])) _
 obtain ⟨cq1V, q1V, q1V'⟩ := E_b.cell
 obtain ⟨_, _, ⟨T1V, L1V, k1V, n1V⟩, -, X1V, ⟨Lc1V, hQ1V, l1V, y1V, z1V⟩, st1V⟩ := X1U.privateBack hx (y := mN17) hown (mo hZ hw 64) (mo hZ hw 65) (own_selS (mo hZ hw 67) (by exact rfl) (Cond.privateMethod_at (mvP hZ (ow hw 66) (args := #[]))) (mo hZ hw 65) (by decide)) (Cond.privateMethod_at (mvP hZ (ow hw 66) (args := #[]))) (mo hZ hw 68) (by decide) (backOf (W := 0) (ec0 l Z a0 hw [] b (2 : Int32) t kt N [] h0 n0 O j2_ j0_ V_t (own_ec0 (by decide) (by rw [own_k2]; omega))) hZ (ow hw 68) (ow hw 24) (by decide) (by decide)) (g := (mkF m 10 #[.val (.ref b), .val (.ref ch), .val (.int 2)] [(.int 2), (.ref b)])) rfl (by rw [hml]; rfl) (Steps.refl _) (a := b) (own_eqE e1U q1V) q1V' (argsL := [(.int 2)]) (rest := []) (lenOf pd_12 rfl) rfl (by show 2 * 0 + _ ≤ _; exact Nat.le_of_eq rfl) (B d42_10) (fun _ _ => ⟨rfl, e1U, (by decide : 0 + 0 ≤ _), (by decide : 0 + 0 ≤ _)⟩)
 dsimp only [Pt.U, Pt.locs, Pt.cells, Pt.slots] at X1V l1V y1V z1V st1V hQ1V
 subst y1V z1V
 obtain ⟨rfl, N1Vq, e1V⟩ := hQ1V
 refine oG (fun _ k => st1V.trans k) ?_
 have N1V := oL l1V (Fr.app N0 N1Vq)
 show oF p e below (T1V.setTop (mkF m 13 #[.val (.ref b), .val (.ref ch), .val (.int 2)] [])) _
 refine oG (fun _ k => XS.aloadN X1V.here hx rfl (B d42_13) rfl rfl (XS.aloadN X1V.here hx rfl (B d42_14) rfl rfl (XS.iconst X1V.here hx rfl (B d42_15) (XS.iloadN X1V.here hx rfl (B d42_16) rfl k)))) ?_
 show oF p e below (T1V.setTop (mkF m 17 #[.val (.ref b), .val (.ref ch), .val (.int 2)] [(.int 2), (.int 0), (.ref ch), (.ref b)])) _
 obtain ⟨cq1W, q1W, q1W'⟩ := E_b.cell
 obtain ⟨_, _, ⟨T1W, L1W, k1W, n1W⟩, -, X1W, ⟨Lc1W, hQ1W, l1W, y1W, z1W⟩, st1W⟩ := X1V.privateBack hx (y := mN23) hown (mo hZ hw 210) (mo hZ hw 211) (own_selS (mo hZ hw 67) (by exact rfl) (Cond.privateMethod_at (mvP hZ (ow hw 212) (args := #[]))) (mo hZ hw 211) (by decide)) (Cond.privateMethod_at (mvP hZ (ow hw 212) (args := #[]))) (mo hZ hw 214) (by decide) (backOf (W := 0) (acI0 l Z a0 hw [] b ch z t kt N kc c0_ c1_ fm h0 n0 O j6_ j7_ j8_ j5_ hfm j4_ hz E_b j2_ j0_ j1_ j3_ V_t E_t V_ch g_b g_t nbt hN hN8 hc0 ntc nbc) hZ (ow hw 214) (ow hw 24) (by decide) (by decide)) (g := (mkF m 17 #[.val (.ref b), .val (.ref ch), .val (.int 2)] [(.int 2), (.int 0), (.ref ch), (.ref b)])) rfl (by rw [hml]; rfl) (Steps.refl _) (a := b) (own_eqE e1V q1W) q1W' (argsL := [(.ref ch), (.int 0), (.int 2)]) (rest := []) (lenOf pd_17 rfl) rfl (by show 2 * 0 + _ ≤ _; exact Nat.le_of_eq rfl) (B d42_17) (fun _ _ => ⟨rfl, e1V, (by decide : 0 + 1 ≤ _), (by decide : 0 + 16 ≤ _)⟩)
 dsimp only [Pt.U, Pt.locs, Pt.cells, Pt.slots] at X1W l1W y1W z1W st1W hQ1W
 subst y1W z1W
 obtain ⟨t2_1X, k2_1Y, rfl, N1Wq, Kq1W, P1W_0, P1W_1, P1W_2, P1W_3, P1W_4, P1W_5, P1W_6, P1W_7⟩ := hQ1W
 refine oG (fun _ k => st1W.trans k) ?_
 have N1W := oL l1W (Fr.app N1V N1Wq)
 have ne_b_t2_213 : b ≠ t2_1X := Nat.ne_of_lt (Nat.lt_of_lt_of_le E_b.lt P1W_0)
 have ne_t_t2_213 : t ≠ t2_1X := Nat.ne_of_lt (Nat.lt_of_lt_of_le V_t.lt P1W_0)
 have ne_ch_t2_213 : ch ≠ t2_1X := Nat.ne_of_lt (Nat.lt_of_lt_of_le V_ch.lt P1W_0)
 have g_t2_213 : n0 ≤ t2_1X := Nat.le_trans (own_osz O) P1W_0
 have sz_t2_213 : h0.size ≤ t2_1X := Nat.le_trans K0.1 P1W_0
 have E_b := E_b.keep Kq1W
 clear j2_
 clear j0_
 clear j1_
 clear j3_
 have V_t := V_t.keep Kq1W (ninS (Ne.symm nbt) nin0)
 have E_t := E_t.keep Kq1W
 have V_ch := V_ch.keep Kq1W (ninS (Ne.symm nbc) nin0)
 have O := O.keep Kq1W (allS g_b all0)
 have K1Z := K0.trans Kq1W (allS (Or.inl (List.mem_of_getElem? (i := 0) rfl)) all0)
 have E_b := P1W_1
 have j2_ := P1W_2
 have j0_ := P1W_3
 have j1_ := P1W_4
 have j3_ := P1W_5
 have V_t2_213 := P1W_6
 have E_t2_213 := P1W_7
 show oF p e below (T1W.setTop (mkF m 20 #[.val (.ref b), .val (.ref ch), .val (.int 2)] [])) _
 refine oG (fun _ k => XS.aloadN X1W.here hx rfl (B d42_20) rfl rfl k) ?_
 show oF p e below (T1W.setTop (mkF m 21 #[.val (.ref b), .val (.ref ch), .val (.int 2)] [(.ref b)])) _
 obtain ⟨fs, hr, r1, r2, hW, r3⟩ := X1W.leave (v := some (.ref b)) (fun h => by rw [Bd.returns] at h; cases h)
 refine ⟨_, _, ?_, r1, r2, _, _, rfl, ?_, ⟨_, rfl⟩, hW, r3.mono (by decide) (by decide)⟩
 ·exact X1W.areturnOut hx rfl Bd.returns rfl (B d42_21) hr
 ·show QadI0 Z b N c0_ c1_ h0 n0 _ T1W.heap _
  exact ⟨t2_1X, k2_1Y, rfl, N1W, K1Z, sz_t2_213, E_b, j2_, j0_, j1_, j3_, V_t2_213, E_t2_213⟩
def QacI1 (Z : State) (b : Addr) (N : Int32) (i0_ : Int32) (c0_ : Int32) (c1_ : Int32) (h0 : Heap) (n0 : Nat) (v : Option Value) (h : Heap) (L : List Loc) : Prop := ∃ (t2_ : Addr) (k2_ : ClassId), v = none ∧ Fr n0 L ∧ Keep h0 h [b] ∧ h0.size ≤ t2_ ∧ eX1 Z h b ∧ fL1 Z h b (.ref t2_) ∧ fL0 Z h b (.int 1) ∧ fL2 Z h b (.int 3) ∧ fL3 Z h b (.int 0) ∧ Arv Z h t2_ k2_ .byte (N <<< ((1 : Int32) &&& 31)) [(.int (own_lo (i0_ &&& (255 : Int32)))), (.int (own_hi (i0_ &&& (255 : Int32)))), (.int (own_lo c0_)), (.int (own_hi c0_)), (.int (own_lo c1_)), (.int (own_hi c1_))] (.int 0) ∧ eX0 Z h t2_
theorem acI1 (l : Launch) (Z : State) (a0 : Array Value) (hw : ∀ d ∈ tables_1, d.before a0 Z = true) (ws : List Jvm.Cond) (b : Addr) (ch : Addr) (z : Int32) (t : Addr) (kt : ClassId) (N : Int32) (i0_ : Int32) (kc : ClassId) (c0_ : Int32) (c1_ : Int32) (fm : Value) (h0 : Heap) (n0 : Nat) (O : Old Z n0 h0) (j6_ : sT0 Z (.int 1)) (j7_ : sT1 Z (.int 0)) (j8_ : sT2 Z (.int 8)) (j5_ : sT3 Z fm) (hfm : fm.isRef = true) (j4_ : sT4 Z (.int z)) (hz : ¬ (z = (0 : Int32))) (E_b : eX1 Z h0 b) (j2_ : fL1 Z h0 b (.ref t)) (j0_ : fL0 Z h0 b (.int 0)) (j1_ : fL2 Z h0 b (.int 1)) (j3_ : fL3 Z h0 b (.int 0)) (V_t : Arv Z h0 t kt .byte N [(.int i0_)] (.int 0)) (E_t : eX0 Z h0 t) (V_ch : Arv Z h0 ch kc .char (2 : Int32) [(.int c0_), (.int c1_)] (.int 0)) (g_b : n0 ≤ b) (g_t : n0 ≤ t) (nbt : b ≠ t) (hN : 3 ≤ N.toInt) (hN8 : N.toInt ≤ 8) (hc0 : (255 : Int32) < c0_) (ntc : t ≠ ch) (nbc : b ≠ ch) :
   own_MF l Z mN23 jdk_68_method_74_code 9 none ws rM10 #[(.ref b), (.ref ch), (.int 0), (.int 2)] h0 (QacI1 Z b N i0_ c0_ c1_ h0 n0) := by
 refine MetFree.of_bodySF (plainFor_of_name pn_4) hisR ?_
 intro p e s m args below meth c s₁ Bd hml0 hP hK
 obtain ⟨rfl, hZ, hh⟩ := hP
 have hx := Bd.exec
 have hby := Bd.bytes
 have B := @hb _ _ hby
 have hml : c.maxLocals = 9 := hml0
 have hown : s.vm.findClass "java/lang/AbstractStringBuilder" = some m.cls := findClass_of_methodNamed Bd.named
 have X0 : Stand p l e rM10 s m #[(.ref b), (.ref ch), (.int 0), (.int 2)] below meth c s₁ [] 0 0 := Stand.of_body Bd
 have e0 : s₁.heap = h0 := by rw [← hh, Bd.state]; rfl
 have N0 := Fr.nil n0
 have K0 := Keep.refl h0 [b]
 refine own_start (ef_acI0 m b ch (0 : Int32) (2 : Int32)) (Q := own_QE s rM10 (QacI1 Z b N i0_ c0_ c1_ h0 n0)) ?_
 show oF p e below (s₁.setTop (mkF m 0 #[.val (.ref b), .val (.ref ch), .val (.int 0), .val (.int 2), .unset, .unset, .unset, .unset, .unset] [])) _
 refine oG (fun _ k => XS.aloadN X0.here hx rfl (B d43_0) rfl rfl k) ?_
 show oF p e below (s₁.setTop (mkF m 1 #[.val (.ref b), .val (.ref ch), .val (.int 0), .val (.int 2), .unset, .unset, .unset, .unset, .unset] [(.ref b)])) _
 obtain ⟨T2a, X2a, e2a, st2a⟩ := getF X0 hx hZ hown (host := "") (Or.inl (ow hw 62)) Via.refl e0 j1_ (g := (mkF m 1 #[.val (.ref b), .val (.ref ch), .val (.int 0), .val (.int 2), .unset, .unset, .unset, .unset, .unset] [(.ref b)])) rfl rfl (B d43_1)
 refine oG st2a ?_
 show oF p e below (T2a.setTop (mkF m 4 #[.val (.ref b), .val (.ref ch), .val (.int 0), .val (.int 2), .unset, .unset, .unset, .unset, .unset] [(.int 1)])) _
 refine oG (fun _ k => XS.istore X2a.here hx rfl (B d43_4) rfl (l' := #[.val (.ref b), .val (.ref ch), .val (.int 0), .val (.int 2), .val (.int 1), .unset, .unset, .unset, .unset]) rfl (XS.aloadN X2a.here hx rfl (B d43_6) rfl rfl k)) ?_
 show oF p e below (T2a.setTop (mkF m 7 #[.val (.ref b), .val (.ref ch), .val (.int 0), .val (.int 2), .val (.int 1), .unset, .unset, .unset, .unset] [(.ref b)])) _
 obtain ⟨cq2b, kq2b, q2ba, q2bb, q2bc⟩ := isOf hZ e2a E_b
 obtain ⟨_, _, ⟨T2b, L2b, k2b, n2b⟩, -, X2b, ⟨Lc2b, hQ2b, l2b, y2b, z2b⟩, st2b⟩ := X2a.virtualBack hx (y := mN15) (z := mN15) hown (mo hZ hw 69) (mo hZ hw 70) (notFace_of_selects (args := #[]) (mo hZ hw 72)) (mo hZ hw 72) (mo hZ hw 71) (by decide) (backOf (W := 0) (il0 l Z a0 hw [] b z h0 n0 O j4_ hz j0_) hZ (ow hw 73) (ow hw 24) (by decide) (by decide)) q2ba q2bc (g := (mkF m 7 #[.val (.ref b), .val (.ref ch), .val (.int 0), .val (.int 2), .val (.int 1), .unset, .unset, .unset, .unset] [(.ref b)])) rfl (by rw [hml]; rfl) (Steps.refl _) (argsL := []) (rest := []) (lenOf pd_10 rfl) rfl (by show 2 * 0 + _ ≤ _; exact Nat.le_of_eq rfl) (B d43_7) (fun _ _ => ⟨rfl, e2a, (by decide : 0 + 0 ≤ _), (by decide : 0 + 0 ≤ _)⟩)
 dsimp only [Pt.U, Pt.locs, Pt.cells, Pt.slots] at X2b l2b y2b z2b st2b hQ2b
 subst y2b z2b
 obtain ⟨rfl, N2bq, e2b⟩ := hQ2b
 refine oG (fun _ k => st2b.trans k) ?_
 have N2b := oL l2b (Fr.app N0 N2bq)
 show oF p e below (T2b.setTop (mkF m 10 #[.val (.ref b), .val (.ref ch), .val (.int 0), .val (.int 2), .val (.int 1), .unset, .unset, .unset, .unset] [(.int 1)])) _
 refine oG (fun _ k => XS.ifNo X2b.here hx rfl (B d43_10) rfl ((if0 _ _).trans (feq (by decide : ¬ ((1 : Int32) = (0 : Int32)))).1) (XS.aloadN X2b.here hx rfl (B d43_13) rfl rfl k)) ?_
 show oF p e below (T2b.setTop (mkF m 14 #[.val (.ref b), .val (.ref ch), .val (.int 0), .val (.int 2), .val (.int 1), .unset, .unset, .unset, .unset] [(.ref b)])) _
 obtain ⟨T2c, X2c, e2c, st2c⟩ := getF X2b hx hZ hown (host := "") (Or.inl (ow hw 31)) Via.refl e2b j2_ (g := (mkF m 14 #[.val (.ref b), .val (.ref ch), .val (.int 0), .val (.int 2), .val (.int 1), .unset, .unset, .unset, .unset] [(.ref b)])) rfl rfl (B d43_14)
 refine oG st2c ?_
 show oF p e below (T2c.setTop (mkF m 17 #[.val (.ref b), .val (.ref ch), .val (.int 0), .val (.int 2), .val (.int 1), .unset, .unset, .unset, .unset] [(.ref t)])) _
 refine oG (fun _ k => XS.astore X2c.here hx rfl (B d43_17) rfl rfl (l' := #[.val (.ref b), .val (.ref ch), .val (.int 0), .val (.int 2), .val (.int 1), .val (.ref t), .unset, .unset, .unset]) rfl (XS.iloadN X2c.here hx rfl (B d43_19) rfl (XS.istore X2c.here hx rfl (B d43_20) rfl (l' := #[.val (.ref b), .val (.ref ch), .val (.int 0), .val (.int 2), .val (.int 1), .val (.ref t), .val (.int 0), .unset, .unset]) rfl (XS.iload X2c.here hx rfl (B d43_22) rfl (XS.istore X2c.here hx rfl (B d43_24) rfl (l' := #[.val (.ref b), .val (.ref ch), .val (.int 0), .val (.int 2), .val (.int 1), .val (.ref t), .val (.int 0), .val (.int 1), .unset]) rfl (XS.iload X2c.here hx rfl (B d43_26) rfl (XS.iloadN X2c.here hx rfl (B d43_28) rfl (XS.icmpNo X2c.here hx rfl (B d43_29) rfl (tlt (by decide : (0 : Int32) < (2 : Int32))).2.1 (XS.aloadN X2c.here hx rfl (B d43_32) rfl rfl (XS.iload X2c.here hx rfl (B d43_33) rfl k)))))))))) ?_
 show oF p e below (T2c.setTop (mkF m 35 #[.val (.ref b), .val (.ref ch), .val (.int 0), .val (.int 2), .val (.int 1), .val (.ref t), .val (.int 0), .val (.int 1), .unset] [(.int 0), (.ref ch)])) _
 obtain ⟨cl2d, A2d, q2d, S2d, M2d, H2d, G2d⟩ := id V_ch
 have hin2d : ¬ ((0 : Int32) < 0 ∨ cl2d.slots.size ≤ ((0 : Int32)).toNatClampNeg) := inb_of S2d ⟨by decide, by decide⟩
 have hat2d : cl2d.slots[((0 : Int32)).toNatClampNeg]? = some (.int c0_) := Has.at H2d hin2d rfl
 refine oG (fun _ k => X2c.caload hx (j := (0 : Int32)) (v := (.int c0_)) (own_eqE e2c A2d.1) (State.isArrayOf_alike hZ.alike A2d.2.1) A2d.2.2 hin2d hat2d (g := (mkF m 35 #[.val (.ref b), .val (.ref ch), .val (.int 0), .val (.int 2), .val (.int 1), .val (.ref t), .val (.int 0), .val (.int 1), .unset] [(.int 0), (.ref ch)])) rfl rfl (B d43_35) _ k) ?_
 show oF p e below (T2c.setTop (mkF m 36 #[.val (.ref b), .val (.ref ch), .val (.int 0), .val (.int 2), .val (.int 1), .val (.ref t), .val (.int 0), .val (.int 1), .unset] [(.int c0_)])) _
 refine oG (fun _ k => XS.istore X2c.here hx rfl (B d43_36) rfl (l' := #[.val (.ref b), .val (.ref ch), .val (.int 0), .val (.int 2), .val (.int 1), .val (.ref t), .val (.int 0), .val (.int 1), .val (.int c0_)]) rfl (XS.iload X2c.here hx rfl (B d43_38) rfl k)) ?_
 show oF p e below (T2c.setTop (mkF m 40 #[.val (.ref b), .val (.ref ch), .val (.int 0), .val (.int 2), .val (.int 1), .val (.ref t), .val (.int 0), .val (.int 1), .val (.int c0_)] [(.int c0_)])) _
 obtain ⟨_, _, ⟨T2e, L2e, k2e, n2e⟩, -, X2e, ⟨Lc2e, hQ2e, l2e, y2e, z2e⟩, st2e⟩ := Jvm.LawKit.callS X2c hx (y := mN18) hown (mo hZ hw 74) (mo hZ hw 75) (mo hZ hw 76) (mo hZ hw 77) (by decide) (backOf (W := 0) (cen0 l Z a0 hw [] c0_ h0 n0 hc0) hZ (ow hw 77) (ow hw 76) (by decide) (by decide)) (g := (mkF m 40 #[.val (.ref b), .val (.ref ch), .val (.int 0), .val (.int 2), .val (.int 1), .val (.ref t), .val (.int 0), .val (.int 1), .val (.int c0_)] [(.int c0_)])) rfl (by rw [hml]; rfl) (argsL := [(.int c0_)]) (rest := []) (lenOf pd_13 rfl) rfl (by show 2 * 0 + _ ≤ _; exact Nat.le_of_eq rfl) (B d43_40) (fun _ _ => ⟨rfl, e2c, (by decide : 0 + 0 ≤ _), (by decide : 0 + 0 ≤ _)⟩)
 dsimp only [Pt.U, Pt.locs, Pt.cells, Pt.slots] at X2e l2e y2e z2e st2e hQ2e
 subst y2e z2e
 obtain ⟨rfl, N2eq, e2e⟩ := hQ2e
 refine oG st2e ?_
 have N2e := oL l2e (Fr.app N2b N2eq)
 show oF p e below (T2e.setTop (mkF m 43 #[.val (.ref b), .val (.ref ch), .val (.int 0), .val (.int 2), .val (.int 1), .val (.ref t), .val (.int 0), .val (.int 1), .val (.int c0_)] [(.int 0)])) _
 refine oG (fun _ k => XS.ifYes X2e.here hx rfl (pc0 := 43) (pc' := 60) rfl (B d43_43) rfl ((if0 _ _).trans (teq (by decide : (0 : Int32) = (0 : Int32))).1) (by decide) (by decide) (XS.aloadN X2e.here hx rfl (B d43_60) rfl rfl (XS.iload X2e.here hx rfl (B d43_61) rfl (XS.dup X2e.here hx rfl (B d43_63) rfl rfl (XS.istore X2e.here hx rfl (B d43_64) rfl (l' := #[.val (.ref b), .val (.ref ch), .val (.int 0), .val (.int 2), .val (.int 1), .val (.ref t), .val (.int 0), .val (.int 1), .val (.int c0_)]) rfl k))))) ?_
 show oF p e below (T2e.setTop (mkF m 66 #[.val (.ref b), .val (.ref ch), .val (.int 0), .val (.int 2), .val (.int 1), .val (.ref t), .val (.int 0), .val (.int 1), .val (.int c0_)] [(.int 1), (.ref b)])) _
 obtain ⟨T2f, h2f, X2f, e2f, W2f, st2f⟩ := putF X2e hx hZ hown (host := "") (Or.inl (ow hw 62)) Via.refl e2e j1_ E_b (Or.inl (ow hw 63)) (ow hw 15) (ty := .int) (by decide) rfl rfl (g := (mkF m 66 #[.val (.ref b), .val (.ref ch), .val (.int 0), .val (.int 2), .val (.int 1), .val (.ref t), .val (.int 0), .val (.int 1), .val (.int c0_)] [(.int 1), (.ref b)])) rfl rfl (B d43_66)
 refine oG st2f ?_
 have E_b := E_b.wr W2f
 have j2_ := j2_.other W2f (Or.inr (slot_ne (Or.inl (ow hw 32)) (Or.inl (ow hw 63)) (by decide) (t := (.array .byte)) (t' := .int) (by decide) (by decide)))
 have j0_ := j0_.other W2f (Or.inr (slot_ne (Or.inl (ow hw 34)) (Or.inl (ow hw 63)) (by decide) (t := .byte) (t' := .int) (by decide) (by decide)))
 have j3_ := j3_.other W2f (Or.inr (slot_ne (Or.inl (ow hw 268)) (Or.inl (ow hw 63)) (by decide) (t := .boolean) (t' := .int) (by decide) (by decide)))
 have V_t := V_t.other W2f (Ne.symm nbt)
 have E_t := E_t.wr W2f
 have V_ch := V_ch.other W2f (Ne.symm nbc)
 have O := O.wr W2f g_b
 have K2g := K0.wr W2f (Or.inl (List.mem_of_getElem? (i := 0) rfl))
 have j1_ := j1_.same W2f
 have N2f := Fr.snoc X2f N2e g_b
 show oF p e below (T2f.setTop (mkF m 69 #[.val (.ref b), .val (.ref ch), .val (.int 0), .val (.int 2), .val (.int 1), .val (.ref t), .val (.int 0), .val (.int 1), .val (.int c0_)] [])) _
 refine oG (fun _ k => XS.aloadN X2f.here hx rfl (B d43_69) rfl rfl k) ?_
 show oF p e below (T2f.setTop (mkF m 70 #[.val (.ref b), .val (.ref ch), .val (.int 0), .val (.int 2), .val (.int 1), .val (.ref t), .val (.int 0), .val (.int 1), .val (.int c0_)] [(.ref b)])) _
 obtain ⟨cq2h, q2h, q2h'⟩ := E_b.cell
 obtain ⟨_, _, ⟨T2h, L2h, k2h, n2h⟩, -, X2h, ⟨Lc2h, hQ2h, l2h, y2h, z2h⟩, st2h⟩ := X2f.privateBack hx (y := mN16) hown (mo hZ hw 215) (mo hZ hw 216) (own_selS (mo hZ hw 67) (by exact rfl) (Cond.privateMethod_at (mvP hZ (ow hw 217) (args := #[]))) (mo hZ hw 216) (by decide)) (Cond.privateMethod_at (mvP hZ (ow hw 217) (args := #[]))) (mo hZ hw 219) (by decide) (backOf (W := 0) (ifl1 l Z a0 hw [] b z t kt N i0_ fm h2f n0 O j4_ hz j6_ j7_ j8_ j5_ hfm E_b j2_ j0_ j1_ j3_ V_t g_b g_t nbt (by omega) hN8) hZ (ow hw 219) (ow hw 24) (by decide) (by decide)) (g := (mkF m 70 #[.val (.ref b), .val (.ref ch), .val (.int 0), .val (.int 2), .val (.int 1), .val (.ref t), .val (.int 0), .val (.int 1), .val (.int c0_)] [(.ref b)])) rfl (by rw [hml]; rfl) (Steps.refl _) (a := b) (own_eqE e2f q2h) q2h' (argsL := []) (rest := []) (lenOf pd_14 rfl) rfl (by show 2 * 0 + _ ≤ _; exact Nat.le_of_eq rfl) (B d43_70) (fun _ _ => ⟨rfl, e2f, (by decide : 0 + 1 ≤ _), (by decide : 0 + 16 ≤ _)⟩)
 dsimp only [Pt.U, Pt.locs, Pt.cells, Pt.slots] at X2h l2h y2h z2h st2h hQ2h
 subst y2h z2h
 obtain ⟨t2_2i, k2_2j, rfl, N2hq, Kq2h, P2h_0, P2h_1, P2h_2, P2h_3, P2h_4, P2h_5, P2h_6, P2h_7⟩ := hQ2h
 refine oG (fun _ k => st2h.trans k) ?_
 have N2h := oL l2h (Fr.app N2f N2hq)
 have j37_ : b ≠ t2_2i := Nat.ne_of_lt (Nat.lt_of_lt_of_le E_b.lt P2h_0)
 have ne_t_t2_225 : t ≠ t2_2i := Nat.ne_of_lt (Nat.lt_of_lt_of_le V_t.lt P2h_0)
 have j71_ : ch ≠ t2_2i := Nat.ne_of_lt (Nat.lt_of_lt_of_le V_ch.lt P2h_0)
 have j72_ : n0 ≤ t2_2i := Nat.le_trans (own_osz O) P2h_0
 have j73_ : h0.size ≤ t2_2i := Nat.le_trans K2g.1 P2h_0
 have E_b := E_b.keep Kq2h
 clear j2_
 clear j0_
 clear j1_
 clear j3_
 have V_t := V_t.keep Kq2h (ninS (Ne.symm nbt) nin0)
 have E_t := E_t.keep Kq2h
 have V_ch := V_ch.keep Kq2h (ninS (Ne.symm nbc) nin0)
 have O := O.keep Kq2h (allS g_b all0)
 have K2k := K2g.trans Kq2h (allS (Or.inl (List.mem_of_getElem? (i := 0) rfl)) all0)
 have E_b := P2h_1
 have j2_ := P2h_2
 have j0_ := P2h_3
 have j1_ := P2h_4
 have j3_ := P2h_5
 have j27_ := P2h_6
 have j38_ := P2h_7
 show oF p e below (T2h.setTop (mkF m 73 #[.val (.ref b), .val (.ref ch), .val (.int 0), .val (.int 2), .val (.int 1), .val (.ref t), .val (.int 0), .val (.int 1), .val (.int c0_)] [])) _
 refine oG (fun _ k => XS.aloadN X2h.here hx rfl (B d43_73) rfl rfl k) ?_
 show oF p e below (T2h.setTop (mkF m 74 #[.val (.ref b), .val (.ref ch), .val (.int 0), .val (.int 2), .val (.int 1), .val (.ref t), .val (.int 0), .val (.int 1), .val (.int c0_)] [(.ref b)])) _
 obtain ⟨T2l, X2l, e2l, st2l⟩ := getF X2h hx hZ hown (host := "") (Or.inl (ow hw 31)) Via.refl rfl j2_ (g := (mkF m 74 #[.val (.ref b), .val (.ref ch), .val (.int 0), .val (.int 2), .val (.int 1), .val (.ref t), .val (.int 0), .val (.int 1), .val (.int c0_)] [(.ref b)])) rfl rfl (B d43_74)
 refine oG st2l ?_
 show oF p e below (T2l.setTop (mkF m 77 #[.val (.ref b), .val (.ref ch), .val (.int 0), .val (.int 2), .val (.int 1), .val (.ref t), .val (.int 0), .val (.int 1), .val (.int c0_)] [(.ref t2_2i)])) _
 refine oG (fun _ k => XS.iload X2l.here hx rfl (B d43_77) rfl (XS.aloadN X2l.here hx rfl (B d43_79) rfl rfl (XS.iload X2l.here hx rfl (B d43_80) rfl (XS.iloadN X2l.here hx rfl (B d43_82) rfl k)))) ?_
 show oF p e below (T2l.setTop (mkF m 83 #[.val (.ref b), .val (.ref ch), .val (.int 0), .val (.int 2), .val (.int 1), .val (.ref t), .val (.int 0), .val (.int 1), .val (.int c0_)] [(.int 2), (.int 0), (.ref ch), (.int 1), (.ref t2_2i)])) _
 obtain ⟨_, _, ⟨T2m, L2m, k2m, n2m⟩, -, X2m, ⟨Lc2m, hQ2m, l2m, y2m, z2m⟩, st2m⟩ := Jvm.LawKit.callS X2l hx (y := mN22) hown (mo hZ hw 246) (mo hZ hw 247) (mo hZ hw 222) (mo hZ hw 248) (by decide) (backOf (W := 0) (pb l Z a0 hw [] t2_2i (1 : Int32) ch k2_2j (N <<< ((1 : Int32) &&& 31)) [(.int (own_lo (i0_ &&& (255 : Int32)))), (.int (own_hi (i0_ &&& (255 : Int32))))] kc c0_ c1_ fm (T2h.heap) n0 O j5_ hfm j6_ j7_ j8_ j27_ j72_ (by rw [own_k1] <;> rfl) (own_mk (by omega) hN8 (by simp only [List.length_cons, List.length_nil]; omega)) (own_m0 (by omega) hN8).2 V_ch (Ne.symm j71_)) hZ (ow hw 248) (ow hw 222) (by decide) (by decide)) (g := (mkF m 83 #[.val (.ref b), .val (.ref ch), .val (.int 0), .val (.int 2), .val (.int 1), .val (.ref t), .val (.int 0), .val (.int 1), .val (.int c0_)] [(.int 2), (.int 0), (.ref ch), (.int 1), (.ref t2_2i)])) rfl (by rw [hml]; rfl) (argsL := [(.ref t2_2i), (.int 1), (.ref ch), (.int 0), (.int 2)]) (rest := []) (lenOf pd_16 rfl) rfl (by show 2 * 0 + _ ≤ _; exact Nat.le_of_eq rfl) (B d43_83) (fun _ _ => ⟨rfl, e2l, (by decide : 1 + 0 ≤ _), (by decide : 16 + 0 ≤ _)⟩)
 dsimp only [Pt.U, Pt.locs, Pt.cells, Pt.slots] at X2m l2m y2m z2m st2m hQ2m
 subst y2m z2m
 obtain ⟨rfl, N2mq, Kq2m, P2m_0⟩ := hQ2m
 refine oG st2m ?_
 have N2m := oL l2m (Fr.app N2h N2mq)
 have E_b := E_b.keep Kq2m
 have V_t := V_t.keep Kq2m (ninS ne_t_t2_225 nin0)
 have E_t := E_t.keep Kq2m
 have V_ch := V_ch.keep Kq2m (ninS j71_ nin0)
 have j2_ := j2_.keep Kq2m (ninS j37_ nin0)
 have j0_ := j0_.keep Kq2m (ninS j37_ nin0)
 have j1_ := j1_.keep Kq2m (ninS j37_ nin0)
 have j3_ := j3_.keep Kq2m (ninS j37_ nin0)
 clear j27_
 have j38_ := j38_.keep Kq2m
 have O := O.keep Kq2m (allS j72_ all0)
 have K2n := K2k.trans Kq2m (allS (Or.inr j73_) all0)
 have j27_ := P2m_0
 show oF p e below (T2m.setTop (mkF m 86 #[.val (.ref b), .val (.ref ch), .val (.int 0), .val (.int 2), .val (.int 1), .val (.ref t), .val (.int 0), .val (.int 1), .val (.int c0_)] [])) _
 refine oG (fun _ k => XS.aloadN X2m.here hx rfl (B d43_86) rfl rfl (XS.iload X2m.here hx rfl (B d43_87) rfl (XS.iloadN X2m.here hx rfl (B d43_89) rfl (XS.iadd X2m.here hx rfl (B d43_90) rfl (XS.iload X2m.here hx rfl (B d43_91) rfl (XS.isub X2m.here hx rfl (B d43_93) rfl k)))))) ?_
 show oF p e below (T2m.setTop (mkF m 94 #[.val (.ref b), .val (.ref ch), .val (.int 0), .val (.int 2), .val (.int 1), .val (.ref t), .val (.int 0), .val (.int 1), .val (.int c0_)] [(.int 3), (.ref b)])) _
 obtain ⟨T2o, h2o, X2o, e2o, W2o, st2o⟩ := putF X2m hx hZ hown (host := "") (Or.inl (ow hw 62)) Via.refl rfl j1_ E_b (Or.inl (ow hw 63)) (ow hw 15) (ty := .int) (by decide) rfl rfl (g := (mkF m 94 #[.val (.ref b), .val (.ref ch), .val (.int 0), .val (.int 2), .val (.int 1), .val (.ref t), .val (.int 0), .val (.int 1), .val (.int c0_)] [(.int 3), (.ref b)])) rfl rfl (B d43_94)
 refine oG st2o ?_
 have E_b := E_b.wr W2o
 have V_t := V_t.other W2o (Ne.symm nbt)
 have E_t := E_t.wr W2o
 have V_ch := V_ch.other W2o (Ne.symm nbc)
 have j2_ := j2_.other W2o (Or.inr (slot_ne (Or.inl (ow hw 32)) (Or.inl (ow hw 63)) (by decide) (t := (.array .byte)) (t' := .int) (by decide) (by decide)))
 have j0_ := j0_.other W2o (Or.inr (slot_ne (Or.inl (ow hw 34)) (Or.inl (ow hw 63)) (by decide) (t := .byte) (t' := .int) (by decide) (by decide)))
 have j3_ := j3_.other W2o (Or.inr (slot_ne (Or.inl (ow hw 268)) (Or.inl (ow hw 63)) (by decide) (t := .boolean) (t' := .int) (by decide) (by decide)))
 have j38_ := j38_.wr W2o
 have j27_ := j27_.other W2o (Ne.symm j37_)
 have O := O.wr W2o g_b
 have K2p := K2n.wr W2o (Or.inl (List.mem_of_getElem? (i := 0) rfl))
 have j1_ := j1_.same W2o
 have N2o := Fr.snoc X2o N2m g_b
 show oF p e below (T2o.setTop (mkF m 97 #[.val (.ref b), .val (.ref ch), .val (.int 0), .val (.int 2), .val (.int 1), .val (.ref t), .val (.int 0), .val (.int 1), .val (.int c0_)] [])) _
 obtain ⟨fs, hr, r1, r2, hW, r3⟩ := X2o.leave (v := none) (fun _ => rfl)
 refine ⟨_, _, ?_, r1, r2, _, _, rfl, ?_, ⟨_, rfl⟩, hW, r3.mono (by decide) (by decide)⟩
 ·exact X2o.returnOut hx Bd.returns (B d43_97) hr
 ·show QacI1 Z b N i0_ c0_ c1_ h0 n0 _ T2o.heap _
  rw [e2o]
  exact ⟨t2_2i, k2_2j, rfl, N2o, K2p, j73_, E_b, j2_, j0_, j1_, j3_, j27_, j38_⟩
def QadI1 (Z : State) (b : Addr) (N : Int32) (i0_ : Int32) (c0_ : Int32) (c1_ : Int32) (h0 : Heap) (n0 : Nat) (v : Option Value) (h : Heap) (L : List Loc) : Prop := ∃ (t2_ : Addr) (k2_ : ClassId), v = some (.ref b) ∧ Fr n0 L ∧ Keep h0 h [b] ∧ h0.size ≤ t2_ ∧ eX1 Z h b ∧ fL1 Z h b (.ref t2_) ∧ fL0 Z h b (.int 1) ∧ fL2 Z h b (.int 3) ∧ fL3 Z h b (.int 0) ∧ Arv Z h t2_ k2_ .byte (N <<< ((1 : Int32) &&& 31)) [(.int (own_lo (i0_ &&& (255 : Int32)))), (.int (own_hi (i0_ &&& (255 : Int32)))), (.int (own_lo c0_)), (.int (own_hi c0_)), (.int (own_lo c1_)), (.int (own_hi c1_))] (.int 0) ∧ eX0 Z h t2_
theorem adI1 (l : Launch) (Z : State) (a0 : Array Value) (hw : ∀ d ∈ tables_1, d.before a0 Z = true) (ws : List Jvm.Cond) (b : Addr) (ch : Addr) (z : Int32) (t : Addr) (kt : ClassId) (N : Int32) (i0_ : Int32) (kc : ClassId) (c0_ : Int32) (c1_ : Int32) (fm : Value) (h0 : Heap) (n0 : Nat) (O : Old Z n0 h0) (j6_ : sT0 Z (.int 1)) (j7_ : sT1 Z (.int 0)) (j8_ : sT2 Z (.int 8)) (j5_ : sT3 Z fm) (hfm : fm.isRef = true) (j4_ : sT4 Z (.int z)) (hz : ¬ (z = (0 : Int32))) (E_b : eX1 Z h0 b) (j2_ : fL1 Z h0 b (.ref t)) (j0_ : fL0 Z h0 b (.int 0)) (j1_ : fL2 Z h0 b (.int 1)) (j3_ : fL3 Z h0 b (.int 0)) (V_t : Arv Z h0 t kt .byte N [(.int i0_)] (.int 0)) (E_t : eX0 Z h0 t) (V_ch : Arv Z h0 ch kc .char (2 : Int32) [(.int c0_), (.int c1_)] (.int 0)) (g_b : n0 ≤ b) (g_t : n0 ≤ t) (nbt : b ≠ t) (hN : 3 ≤ N.toInt) (hN8 : N.toInt ≤ 8) (hc0 : (255 : Int32) < c0_) (ntc : t ≠ ch) (nbc : b ≠ ch) :
   own_MF l Z mN24 jdk_68_method_28_code 3 (some (.object "java/lang/AbstractStringBuilder")) ws rM12 #[(.ref b), (.ref ch)] h0 (QadI1 Z b N i0_ c0_ c1_ h0 n0) := by
 refine MetFree.of_bodySF (plainFor_of_name pn_4) hisR ?_
 intro p e s m args below meth c s₁ Bd hml0 hP hK
 obtain ⟨rfl, hZ, hh⟩ := hP
 have hx := Bd.exec
 have hby := Bd.bytes
 have B := @hb _ _ hby
 have hml : c.maxLocals = 3 := hml0
 have hown : s.vm.findClass "java/lang/AbstractStringBuilder" = some m.cls := findClass_of_methodNamed Bd.named
 have X0 : Stand p l e rM12 s m #[(.ref b), (.ref ch)] below meth c s₁ [] 0 0 := Stand.of_body Bd
 have e0 : s₁.heap = h0 := by rw [← hh, Bd.state]; rfl
 have N0 := Fr.nil n0
 have K0 := Keep.refl h0 [b]
 refine own_start (ef_adI0 m b ch) (Q := own_QE s rM12 (QadI1 Z b N i0_ c0_ c1_ h0 n0)) ?_
 show oF p e below (s₁.setTop (mkF m 0 #[.val (.ref b), .val (.ref ch), .unset] [])) _
 refine oG (fun _ k => XS.aloadN X0.here hx rfl (B d42_0) rfl rfl k) ?_
 show oF p e below (s₁.setTop (mkF m 1 #[.val (.ref b), .val (.ref ch), .unset] [(.ref ch)])) _
 obtain ⟨cl2q, A2q, -, S2q, M2q, -, -⟩ := id V_ch
 refine oG (fun _ k => X0.arraylength hx (own_eqE e0 A2q.1) (State.isArrayOf_alike hZ.alike A2q.2.1) (g := (mkF m 1 #[.val (.ref b), .val (.ref ch), .unset] [(.ref ch)])) rfl rfl (B d42_1) _ (by rw [len_of S2q M2q]; exact k)) ?_
 show oF p e below (s₁.setTop (mkF m 2 #[.val (.ref b), .val (.ref ch), .unset] [(.int 2)])) _
 refine oG (fun _ k => XS.istoreN X0.here hx rfl (B d42_2) rfl (l' := #[.val (.ref b), .val (.ref ch), .val (.int 2)]) rfl (XS.aloadN X0.here hx rfl (B d42_3) rfl rfl (XS.aloadN X0.here hx rfl (B d42_4) rfl rfl k))) ?_
 show oF p e below (s₁.setTop (mkF m 5 #[.val (.ref b), .val (.ref ch), .val (.int 2)] [(.ref b), (.ref b)])) _
 obtain ⟨T2r, X2r, e2r, st2r⟩ := getF X0 hx hZ hown (host := "") (Or.inl (ow hw 62)) Via.refl e0 j1_ (g := (mkF m 5 #[.val (.ref b), .val (.ref ch), .val (.int 2)] [(.ref b), (.ref b)])) rfl rfl (B d42_5)
 refine oG st2r ?_
 show oF p e below (T2r.setTop (mkF m 8 #[.val (.ref b), .val (.ref ch), .val (.int 2)] [(.int 1), (.ref b)])) _
 refine oG (fun _ k => XS.iloadN X2r.here hx rfl (B d42_8) rfl (XS.iadd X2r.here hx rfl (B d42_9) rfl k)) ?_
 show oF p e below (T2r.setTop (mkF m 10 #[.val (.ref b), .val (.ref ch), .val (.int 2)] [(.int 3), (.ref b)])) _
 obtain ⟨cq2s, q2s, q2s'⟩ := E_b.cell
 obtain ⟨_, _, ⟨T2s, L2s, k2s, n2s⟩, -, X2s, ⟨Lc2s, hQ2s, l2s, y2s, z2s⟩, st2s⟩ := X2r.privateBack hx (y := mN17) hown (mo hZ hw 64) (mo hZ hw 65) (own_selS (mo hZ hw 67) (by exact rfl) (Cond.privateMethod_at (mvP hZ (ow hw 66) (args := #[]))) (mo hZ hw 65) (by decide)) (Cond.privateMethod_at (mvP hZ (ow hw 66) (args := #[]))) (mo hZ hw 68) (by decide) (backOf (W := 0) (ec0 l Z a0 hw [] b (3 : Int32) t kt N [(.int i0_)] h0 n0 O j2_ j0_ V_t (own_ec0 (by decide) (by rw [own_k3]; omega))) hZ (ow hw 68) (ow hw 24) (by decide) (by decide)) (g := (mkF m 10 #[.val (.ref b), .val (.ref ch), .val (.int 2)] [(.int 3), (.ref b)])) rfl (by rw [hml]; rfl) (Steps.refl _) (a := b) (own_eqE e2r q2s) q2s' (argsL := [(.int 3)]) (rest := []) (lenOf pd_12 rfl) rfl (by show 2 * 0 + _ ≤ _; exact Nat.le_of_eq rfl) (B d42_10) (fun _ _ => ⟨rfl, e2r, (by decide : 0 + 0 ≤ _), (by decide : 0 + 0 ≤ _)⟩)
 dsimp only [Pt.U, Pt.locs, Pt.cells, Pt.slots] at X2s l2s y2s z2s st2s hQ2s
 subst y2s z2s
 obtain ⟨rfl, N2sq, e2s⟩ := hQ2s
 refine oG (fun _ k => st2s.trans k) ?_
 have N2s := oL l2s (Fr.app N0 N2sq)
 show oF p e below (T2s.setTop (mkF m 13 #[.val (.ref b), .val (.ref ch), .val (.int 2)] [])) _
 refine oG (fun _ k => XS.aloadN X2s.here hx rfl (B d42_13) rfl rfl (XS.aloadN X2s.here hx rfl (B d42_14) rfl rfl (XS.iconst X2s.here hx rfl (B d42_15) (XS.iloadN X2s.here hx rfl (B d42_16) rfl k)))) ?_
 show oF p e below (T2s.setTop (mkF m 17 #[.val (.ref b), .val (.ref ch), .val (.int 2)] [(.int 2), (.int 0), (.ref ch), (.ref b)])) _
 obtain ⟨cq2t, q2t, q2t'⟩ := E_b.cell
 obtain ⟨_, _, ⟨T2t, L2t, k2t, n2t⟩, -, X2t, ⟨Lc2t, hQ2t, l2t, y2t, z2t⟩, st2t⟩ := X2s.privateBack hx (y := mN23) hown (mo hZ hw 210) (mo hZ hw 211) (own_selS (mo hZ hw 67) (by exact rfl) (Cond.privateMethod_at (mvP hZ (ow hw 212) (args := #[]))) (mo hZ hw 211) (by decide)) (Cond.privateMethod_at (mvP hZ (ow hw 212) (args := #[]))) (mo hZ hw 214) (by decide) (backOf (W := 0) (acI1 l Z a0 hw [] b ch z t kt N i0_ kc c0_ c1_ fm h0 n0 O j6_ j7_ j8_ j5_ hfm j4_ hz E_b j2_ j0_ j1_ j3_ V_t E_t V_ch g_b g_t nbt hN hN8 hc0 ntc nbc) hZ (ow hw 214) (ow hw 24) (by decide) (by decide)) (g := (mkF m 17 #[.val (.ref b), .val (.ref ch), .val (.int 2)] [(.int 2), (.int 0), (.ref ch), (.ref b)])) rfl (by rw [hml]; rfl) (Steps.refl _) (a := b) (own_eqE e2s q2t) q2t' (argsL := [(.ref ch), (.int 0), (.int 2)]) (rest := []) (lenOf pd_17 rfl) rfl (by show 2 * 0 + _ ≤ _; exact Nat.le_of_eq rfl) (B d42_17) (fun _ _ => ⟨rfl, e2s, (by decide : 0 + 1 ≤ _), (by decide : 0 + 16 ≤ _)⟩)
 dsimp only [Pt.U, Pt.locs, Pt.cells, Pt.slots] at X2t l2t y2t z2t st2t hQ2t
 subst y2t z2t
 obtain ⟨t2_2u, k2_2v, rfl, N2tq, Kq2t, P2t_0, P2t_1, P2t_2, P2t_3, P2t_4, P2t_5, P2t_6, P2t_7⟩ := hQ2t
 refine oG (fun _ k => st2t.trans k) ?_
 have N2t := oL l2t (Fr.app N2s N2tq)
 have ne_b_t2_238 : b ≠ t2_2u := Nat.ne_of_lt (Nat.lt_of_lt_of_le E_b.lt P2t_0)
 have ne_t_t2_238 : t ≠ t2_2u := Nat.ne_of_lt (Nat.lt_of_lt_of_le V_t.lt P2t_0)
 have ne_ch_t2_238 : ch ≠ t2_2u := Nat.ne_of_lt (Nat.lt_of_lt_of_le V_ch.lt P2t_0)
 have g_t2_238 : n0 ≤ t2_2u := Nat.le_trans (own_osz O) P2t_0
 have sz_t2_238 : h0.size ≤ t2_2u := Nat.le_trans K0.1 P2t_0
 have E_b := E_b.keep Kq2t
 clear j2_
 clear j0_
 clear j1_
 clear j3_
 have V_t := V_t.keep Kq2t (ninS (Ne.symm nbt) nin0)
 have E_t := E_t.keep Kq2t
 have V_ch := V_ch.keep Kq2t (ninS (Ne.symm nbc) nin0)
 have O := O.keep Kq2t (allS g_b all0)
 have K2w := K0.trans Kq2t (allS (Or.inl (List.mem_of_getElem? (i := 0) rfl)) all0)
 have E_b := P2t_1
 have j2_ := P2t_2
 have j0_ := P2t_3
 have j1_ := P2t_4
 have j3_ := P2t_5
 have V_t2_238 := P2t_6
 have E_t2_238 := P2t_7
 show oF p e below (T2t.setTop (mkF m 20 #[.val (.ref b), .val (.ref ch), .val (.int 2)] [])) _
 refine oG (fun _ k => XS.aloadN X2t.here hx rfl (B d42_20) rfl rfl k) ?_
 show oF p e below (T2t.setTop (mkF m 21 #[.val (.ref b), .val (.ref ch), .val (.int 2)] [(.ref b)])) _
 obtain ⟨fs, hr, r1, r2, hW, r3⟩ := X2t.leave (v := some (.ref b)) (fun h => by rw [Bd.returns] at h; cases h)
 refine ⟨_, _, ?_, r1, r2, _, _, rfl, ?_, ⟨_, rfl⟩, hW, r3.mono (by decide) (by decide)⟩
 ·exact X2t.areturnOut hx rfl Bd.returns rfl (B d42_21) hr
 ·show QadI1 Z b N i0_ c0_ c1_ h0 n0 _ T2t.heap _
  exact ⟨t2_2u, k2_2v, rfl, N2t, K2w, sz_t2_238, E_b, j2_, j0_, j1_, j3_, V_t2_238, E_t2_238⟩
theorem d43_107 : decode k23_ 107 = .ok (.aload_n 0, 1) := by decide +kernel
theorem d43_108 : decode k23_ 108 = .ok (.getfield 15, 3) := by decide +kernel
theorem d43_111 : decode k23_ 111 = .ok (.iload 4, 2) := by decide +kernel
theorem d43_113 : decode k23_ 113 = .ok (.aload_n 1, 1) := by decide +kernel
theorem d43_114 : decode k23_ 114 = .ok (.iload_n 2, 1) := by decide +kernel
theorem d43_115 : decode k23_ 115 = .ok (.iload_n 3, 1) := by decide +kernel
theorem d43_116 : decode k23_ 116 = .ok (.invokestatic 386, 3) := by decide +kernel
theorem d43_119 : decode k23_ 119 = .ok (.aload_n 0, 1) := by decide +kernel
theorem d43_120 : decode k23_ 120 = .ok (.iload 4, 2) := by decide +kernel
theorem d43_122 : decode k23_ 122 = .ok (.iload_n 3, 1) := by decide +kernel
theorem d43_123 : decode k23_ 123 = .ok (.iadd, 1) := by decide +kernel
theorem d43_124 : decode k23_ 124 = .ok (.iload_n 2, 1) := by decide +kernel
theorem d43_125 : decode k23_ 125 = .ok (.isub, 1) := by decide +kernel
theorem d43_126 : decode k23_ 126 = .ok (.putfield 79, 3) := by decide +kernel
theorem d43_129 : decode k23_ 129 = .ok (.return_, 1) := by decide +kernel
def QacU1 (Z : State) (b : Addr) (t : Addr) (kt : ClassId) (N : Int32) (i0_ : Int32) (i1_ : Int32) (c0_ : Int32) (c1_ : Int32) (h0 : Heap) (n0 : Nat) (v : Option Value) (h : Heap) (L : List Loc) : Prop := v = none ∧ Fr n0 L ∧ Keep h0 h [b, t] ∧ eX1 Z h b ∧ fL1 Z h b (.ref t) ∧ fL0 Z h b (.int 1) ∧ fL2 Z h b (.int 3) ∧ fL3 Z h b (.int 0) ∧ Arv Z h t kt .byte (N <<< ((1 : Int32) &&& 31)) [(.int i0_), (.int i1_), (.int (own_lo c0_)), (.int (own_hi c0_)), (.int (own_lo c1_)), (.int (own_hi c1_))] (.int 0) ∧ eX0 Z h t
theorem acU1 (l : Launch) (Z : State) (a0 : Array Value) (hw : ∀ d ∈ tables_1, d.before a0 Z = true) (ws : List Jvm.Cond) (b : Addr) (ch : Addr) (z : Int32) (t : Addr) (kt : ClassId) (N : Int32) (i0_ : Int32) (i1_ : Int32) (kc : ClassId) (c0_ : Int32) (c1_ : Int32) (fm : Value) (h0 : Heap) (n0 : Nat) (O : Old Z n0 h0) (j6_ : sT0 Z (.int 1)) (j7_ : sT1 Z (.int 0)) (j8_ : sT2 Z (.int 8)) (j5_ : sT3 Z fm) (hfm : fm.isRef = true) (j4_ : sT4 Z (.int z)) (hz : ¬ (z = (0 : Int32))) (E_b : eX1 Z h0 b) (j2_ : fL1 Z h0 b (.ref t)) (j0_ : fL0 Z h0 b (.int 1)) (j1_ : fL2 Z h0 b (.int 1)) (j3_ : fL3 Z h0 b (.int 0)) (V_t : Arv Z h0 t kt .byte (N <<< ((1 : Int32) &&& 31)) [(.int i0_), (.int i1_)] (.int 0)) (E_t : eX0 Z h0 t) (V_ch : Arv Z h0 ch kc .char (2 : Int32) [(.int c0_), (.int c1_)] (.int 0)) (g_b : n0 ≤ b) (g_t : n0 ≤ t) (nbt : b ≠ t) (hN : 3 ≤ N.toInt) (hN8 : N.toInt ≤ 8) (hc0 : (255 : Int32) < c0_) (ntc : t ≠ ch) (nbc : b ≠ ch) :
   own_MF l Z mN23 jdk_68_method_74_code 9 none ws rM13 #[(.ref b), (.ref ch), (.int 0), (.int 2)] h0 (QacU1 Z b t kt N i0_ i1_ c0_ c1_ h0 n0) := by
 refine MetFree.of_bodySF (plainFor_of_name pn_4) hisR ?_
 intro p e s m args below meth c s₁ Bd hml0 hP hK
 obtain ⟨rfl, hZ, hh⟩ := hP
 have hx := Bd.exec
 have hby := Bd.bytes
 have B := @hb _ _ hby
 have hml : c.maxLocals = 9 := hml0
 have hown : s.vm.findClass "java/lang/AbstractStringBuilder" = some m.cls := findClass_of_methodNamed Bd.named
 have X0 : Stand p l e rM13 s m #[(.ref b), (.ref ch), (.int 0), (.int 2)] below meth c s₁ [] 0 0 := Stand.of_body Bd
 have e0 : s₁.heap = h0 := by rw [← hh, Bd.state]; rfl
 have N0 := Fr.nil n0
 have K0 := Keep.refl h0 [b, t]
 refine own_start (ef_acI0 m b ch (0 : Int32) (2 : Int32)) (Q := own_QE s rM13 (QacU1 Z b t kt N i0_ i1_ c0_ c1_ h0 n0)) ?_
 show oF p e below (s₁.setTop (mkF m 0 #[.val (.ref b), .val (.ref ch), .val (.int 0), .val (.int 2), .unset, .unset, .unset, .unset, .unset] [])) _
 refine oG (fun _ k => XS.aloadN X0.here hx rfl (B d43_0) rfl rfl k) ?_
 show oF p e below (s₁.setTop (mkF m 1 #[.val (.ref b), .val (.ref ch), .val (.int 0), .val (.int 2), .unset, .unset, .unset, .unset, .unset] [(.ref b)])) _
 obtain ⟨T2x, X2x, e2x, st2x⟩ := getF X0 hx hZ hown (host := "") (Or.inl (ow hw 62)) Via.refl e0 j1_ (g := (mkF m 1 #[.val (.ref b), .val (.ref ch), .val (.int 0), .val (.int 2), .unset, .unset, .unset, .unset, .unset] [(.ref b)])) rfl rfl (B d43_1)
 refine oG st2x ?_
 show oF p e below (T2x.setTop (mkF m 4 #[.val (.ref b), .val (.ref ch), .val (.int 0), .val (.int 2), .unset, .unset, .unset, .unset, .unset] [(.int 1)])) _
 refine oG (fun _ k => XS.istore X2x.here hx rfl (B d43_4) rfl (l' := #[.val (.ref b), .val (.ref ch), .val (.int 0), .val (.int 2), .val (.int 1), .unset, .unset, .unset, .unset]) rfl (XS.aloadN X2x.here hx rfl (B d43_6) rfl rfl k)) ?_
 show oF p e below (T2x.setTop (mkF m 7 #[.val (.ref b), .val (.ref ch), .val (.int 0), .val (.int 2), .val (.int 1), .unset, .unset, .unset, .unset] [(.ref b)])) _
 obtain ⟨cq2y, kq2y, q2ya, q2yb, q2yc⟩ := isOf hZ e2x E_b
 obtain ⟨_, _, ⟨T2y, L2y, k2y, n2y⟩, -, X2y, ⟨Lc2y, hQ2y, l2y, y2y, z2y⟩, st2y⟩ := X2x.virtualBack hx (y := mN15) (z := mN15) hown (mo hZ hw 69) (mo hZ hw 70) (notFace_of_selects (args := #[]) (mo hZ hw 72)) (mo hZ hw 72) (mo hZ hw 71) (by decide) (backOf (W := 0) (il1 l Z a0 hw [] b z h0 n0 O j4_ hz j0_) hZ (ow hw 73) (ow hw 24) (by decide) (by decide)) q2ya q2yc (g := (mkF m 7 #[.val (.ref b), .val (.ref ch), .val (.int 0), .val (.int 2), .val (.int 1), .unset, .unset, .unset, .unset] [(.ref b)])) rfl (by rw [hml]; rfl) (Steps.refl _) (argsL := []) (rest := []) (lenOf pd_10 rfl) rfl (by show 2 * 0 + _ ≤ _; exact Nat.le_of_eq rfl) (B d43_7) (fun _ _ => ⟨rfl, e2x, (by decide : 0 + 0 ≤ _), (by decide : 0 + 0 ≤ _)⟩)
 dsimp only [Pt.U, Pt.locs, Pt.cells, Pt.slots] at X2y l2y y2y z2y st2y hQ2y
 subst y2y z2y
 obtain ⟨rfl, N2yq, e2y⟩ := hQ2y
 refine oG (fun _ k => st2y.trans k) ?_
 have N2y := oL l2y (Fr.app N0 N2yq)
 show oF p e below (T2y.setTop (mkF m 10 #[.val (.ref b), .val (.ref ch), .val (.int 0), .val (.int 2), .val (.int 1), .unset, .unset, .unset, .unset] [(.int 0)])) _
 refine oG (fun _ k => XS.ifYes X2y.here hx rfl (pc0 := 10) (pc' := 107) rfl (B d43_10) rfl ((if0 _ _).trans (teq (by decide : (0 : Int32) = (0 : Int32))).1) (by decide) (by decide) (XS.aloadN X2y.here hx rfl (B d43_107) rfl rfl k)) ?_
 show oF p e below (T2y.setTop (mkF m 108 #[.val (.ref b), .val (.ref ch), .val (.int 0), .val (.int 2), .val (.int 1), .unset, .unset, .unset, .unset] [(.ref b)])) _
 obtain ⟨T2z, X2z, e2z, st2z⟩ := getF X2y hx hZ hown (host := "") (Or.inl (ow hw 31)) Via.refl e2y j2_ (g := (mkF m 108 #[.val (.ref b), .val (.ref ch), .val (.int 0), .val (.int 2), .val (.int 1), .unset, .unset, .unset, .unset] [(.ref b)])) rfl rfl (B d43_108)
 refine oG st2z ?_
 show oF p e below (T2z.setTop (mkF m 111 #[.val (.ref b), .val (.ref ch), .val (.int 0), .val (.int 2), .val (.int 1), .unset, .unset, .unset, .unset] [(.ref t)])) _
 refine oG (fun _ k => XS.iload X2z.here hx rfl (B d43_111) rfl (XS.aloadN X2z.here hx rfl (B d43_113) rfl rfl (XS.iloadN X2z.here hx rfl (B d43_114) rfl (XS.iloadN X2z.here hx rfl (B d43_115) rfl k)))) ?_
 show oF p e below (T2z.setTop (mkF m 116 #[.val (.ref b), .val (.ref ch), .val (.int 0), .val (.int 2), .val (.int 1), .unset, .unset, .unset, .unset] [(.int 2), (.int 0), (.ref ch), (.int 1), (.ref t)])) _
 obtain ⟨_, _, ⟨T2A, L2A, k2A, n2A⟩, -, X2A, ⟨Lc2A, hQ2A, l2A, y2A, z2A⟩, st2A⟩ := Jvm.LawKit.callS X2z hx (y := mN22) hown (mo hZ hw 246) (mo hZ hw 247) (mo hZ hw 222) (mo hZ hw 248) (by decide) (backOf (W := 0) (pb l Z a0 hw [] t (1 : Int32) ch kt (N <<< ((1 : Int32) &&& 31)) [(.int i0_), (.int i1_)] kc c0_ c1_ fm h0 n0 O j5_ hfm j6_ j7_ j8_ V_t g_t (by rw [own_k1] <;> rfl) (own_mk (by omega) hN8 (by simp only [List.length_cons, List.length_nil]; omega)) (own_m0 (by omega) hN8).2 V_ch ntc) hZ (ow hw 248) (ow hw 222) (by decide) (by decide)) (g := (mkF m 116 #[.val (.ref b), .val (.ref ch), .val (.int 0), .val (.int 2), .val (.int 1), .unset, .unset, .unset, .unset] [(.int 2), (.int 0), (.ref ch), (.int 1), (.ref t)])) rfl (by rw [hml]; rfl) (argsL := [(.ref t), (.int 1), (.ref ch), (.int 0), (.int 2)]) (rest := []) (lenOf pd_16 rfl) rfl (by show 2 * 0 + _ ≤ _; exact Nat.le_of_eq rfl) (B d43_116) (fun _ _ => ⟨rfl, e2z, (by decide : 0 + 0 ≤ _), (by decide : 0 + 0 ≤ _)⟩)
 dsimp only [Pt.U, Pt.locs, Pt.cells, Pt.slots] at X2A l2A y2A z2A st2A hQ2A
 subst y2A z2A
 obtain ⟨rfl, N2Aq, Kq2A, P2A_0⟩ := hQ2A
 refine oG st2A ?_
 have N2A := oL l2A (Fr.app N2y N2Aq)
 have E_b := E_b.keep Kq2A
 have j2_ := j2_.keep Kq2A (ninS nbt nin0)
 have j0_ := j0_.keep Kq2A (ninS nbt nin0)
 have j1_ := j1_.keep Kq2A (ninS nbt nin0)
 have j3_ := j3_.keep Kq2A (ninS nbt nin0)
 clear V_t
 have E_t := E_t.keep Kq2A
 have V_ch := V_ch.keep Kq2A (ninS (Ne.symm ntc) nin0)
 have O := O.keep Kq2A (allS g_t all0)
 have K2B := K0.trans Kq2A (allS (Or.inl (List.mem_of_getElem? (i := 1) rfl)) all0)
 have V_t := P2A_0
 show oF p e below (T2A.setTop (mkF m 119 #[.val (.ref b), .val (.ref ch), .val (.int 0), .val (.int 2), .val (.int 1), .unset, .unset, .unset, .unset] [])) _
 refine oG (fun _ k => XS.aloadN X2A.here hx rfl (B d43_119) rfl rfl (XS.iload X2A.here hx rfl (B d43_120) rfl (XS.iloadN X2A.here hx rfl (B d43_122) rfl (XS.iadd X2A.here hx rfl (B d43_123) rfl (XS.iloadN X2A.here hx rfl (B d43_124) rfl (XS.isub X2A.here hx rfl (B d43_125) rfl k)))))) ?_
 show oF p e below (T2A.setTop (mkF m 126 #[.val (.ref b), .val (.ref ch), .val (.int 0), .val (.int 2), .val (.int 1), .unset, .unset, .unset, .unset] [(.int 3), (.ref b)])) _
 obtain ⟨T2C, h2C, X2C, e2C, W2C, st2C⟩ := putF X2A hx hZ hown (host := "") (Or.inl (ow hw 62)) Via.refl rfl j1_ E_b (Or.inl (ow hw 63)) (ow hw 15) (ty := .int) (by decide) rfl rfl (g := (mkF m 126 #[.val (.ref b), .val (.ref ch), .val (.int 0), .val (.int 2), .val (.int 1), .unset, .unset, .unset, .unset] [(.int 3), (.ref b)])) rfl rfl (B d43_126)
 refine oG st2C ?_
 have E_b := E_b.wr W2C
 have j2_ := j2_.other W2C (Or.inr (slot_ne (Or.inl (ow hw 32)) (Or.inl (ow hw 63)) (by decide) (t := (.array .byte)) (t' := .int) (by decide) (by decide)))
 have j0_ := j0_.other W2C (Or.inr (slot_ne (Or.inl (ow hw 34)) (Or.inl (ow hw 63)) (by decide) (t := .byte) (t' := .int) (by decide) (by decide)))
 have j3_ := j3_.other W2C (Or.inr (slot_ne (Or.inl (ow hw 268)) (Or.inl (ow hw 63)) (by decide) (t := .boolean) (t' := .int) (by decide) (by decide)))
 have E_t := E_t.wr W2C
 have V_ch := V_ch.other W2C (Ne.symm nbc)
 have V_t := V_t.other W2C (Ne.symm nbt)
 have O := O.wr W2C g_b
 have K2D := K2B.wr W2C (Or.inl (List.mem_of_getElem? (i := 0) rfl))
 have j1_ := j1_.same W2C
 have N2C := Fr.snoc X2C N2A g_b
 show oF p e below (T2C.setTop (mkF m 129 #[.val (.ref b), .val (.ref ch), .val (.int 0), .val (.int 2), .val (.int 1), .unset, .unset, .unset, .unset] [])) _
 obtain ⟨fs, hr, r1, r2, hW, r3⟩ := X2C.leave (v := none) (fun _ => rfl)
 refine ⟨_, _, ?_, r1, r2, _, _, rfl, ?_, ⟨_, rfl⟩, hW, r3.mono (by decide) (by decide)⟩
 ·exact X2C.returnOut hx Bd.returns (B d43_129) hr
 ·show QacU1 Z b t kt N i0_ i1_ c0_ c1_ h0 n0 _ T2C.heap _
  rw [e2C]
  exact ⟨rfl, N2C, K2D, E_b, j2_, j0_, j1_, j3_, V_t, E_t⟩
def QadU1 (Z : State) (b : Addr) (t : Addr) (kt : ClassId) (N : Int32) (i0_ : Int32) (i1_ : Int32) (c0_ : Int32) (c1_ : Int32) (h0 : Heap) (n0 : Nat) (v : Option Value) (h : Heap) (L : List Loc) : Prop := v = some (.ref b) ∧ Fr n0 L ∧ Keep h0 h [b, t] ∧ eX1 Z h b ∧ fL1 Z h b (.ref t) ∧ fL0 Z h b (.int 1) ∧ fL2 Z h b (.int 3) ∧ fL3 Z h b (.int 0) ∧ Arv Z h t kt .byte (N <<< ((1 : Int32) &&& 31)) [(.int i0_), (.int i1_), (.int (own_lo c0_)), (.int (own_hi c0_)), (.int (own_lo c1_)), (.int (own_hi c1_))] (.int 0) ∧ eX0 Z h t
theorem adU1 (l : Launch) (Z : State) (a0 : Array Value) (hw : ∀ d ∈ tables_1, d.before a0 Z = true) (ws : List Jvm.Cond) (b : Addr) (ch : Addr) (z : Int32) (t : Addr) (kt : ClassId) (N : Int32) (i0_ : Int32) (i1_ : Int32) (kc : ClassId) (c0_ : Int32) (c1_ : Int32) (fm : Value) (h0 : Heap) (n0 : Nat) (O : Old Z n0 h0) (j6_ : sT0 Z (.int 1)) (j7_ : sT1 Z (.int 0)) (j8_ : sT2 Z (.int 8)) (j5_ : sT3 Z fm) (hfm : fm.isRef = true) (j4_ : sT4 Z (.int z)) (hz : ¬ (z = (0 : Int32))) (E_b : eX1 Z h0 b) (j2_ : fL1 Z h0 b (.ref t)) (j0_ : fL0 Z h0 b (.int 1)) (j1_ : fL2 Z h0 b (.int 1)) (j3_ : fL3 Z h0 b (.int 0)) (V_t : Arv Z h0 t kt .byte (N <<< ((1 : Int32) &&& 31)) [(.int i0_), (.int i1_)] (.int 0)) (E_t : eX0 Z h0 t) (V_ch : Arv Z h0 ch kc .char (2 : Int32) [(.int c0_), (.int c1_)] (.int 0)) (g_b : n0 ≤ b) (g_t : n0 ≤ t) (nbt : b ≠ t) (hN : 3 ≤ N.toInt) (hN8 : N.toInt ≤ 8) (hc0 : (255 : Int32) < c0_) (ntc : t ≠ ch) (nbc : b ≠ ch) :
   own_MF l Z mN24 jdk_68_method_28_code 3 (some (.object "java/lang/AbstractStringBuilder")) ws rM14 #[(.ref b), (.ref ch)] h0 (QadU1 Z b t kt N i0_ i1_ c0_ c1_ h0 n0) := by
 refine MetFree.of_bodySF (plainFor_of_name pn_4) hisR ?_
 intro p e s m args below meth c s₁ Bd hml0 hP hK
 obtain ⟨rfl, hZ, hh⟩ := hP
 have hx := Bd.exec
 have hby := Bd.bytes
 have B := @hb _ _ hby
 have hml : c.maxLocals = 3 := hml0
 have hown : s.vm.findClass "java/lang/AbstractStringBuilder" = some m.cls := findClass_of_methodNamed Bd.named
 have X0 : Stand p l e rM14 s m #[(.ref b), (.ref ch)] below meth c s₁ [] 0 0 := Stand.of_body Bd
 have e0 : s₁.heap = h0 := by rw [← hh, Bd.state]; rfl
 have N0 := Fr.nil n0
 have K0 := Keep.refl h0 [b, t]
 refine own_start (ef_adI0 m b ch) (Q := own_QE s rM14 (QadU1 Z b t kt N i0_ i1_ c0_ c1_ h0 n0)) ?_
 show oF p e below (s₁.setTop (mkF m 0 #[.val (.ref b), .val (.ref ch), .unset] [])) _
 refine oG (fun _ k => XS.aloadN X0.here hx rfl (B d42_0) rfl rfl k) ?_
 show oF p e below (s₁.setTop (mkF m 1 #[.val (.ref b), .val (.ref ch), .unset] [(.ref ch)])) _
 obtain ⟨cl2E, A2E, -, S2E, M2E, -, -⟩ := id V_ch
 refine oG (fun _ k => X0.arraylength hx (own_eqE e0 A2E.1) (State.isArrayOf_alike hZ.alike A2E.2.1) (g := (mkF m 1 #[.val (.ref b), .val (.ref ch), .unset] [(.ref ch)])) rfl rfl (B d42_1) _ (by rw [len_of S2E M2E]; exact k)) ?_
 show oF p e below (s₁.setTop (mkF m 2 #[.val (.ref b), .val (.ref ch), .unset] [(.int 2)])) _
 refine oG (fun _ k => XS.istoreN X0.here hx rfl (B d42_2) rfl (l' := #[.val (.ref b), .val (.ref ch), .val (.int 2)]) rfl (XS.aloadN X0.here hx rfl (B d42_3) rfl rfl (XS.aloadN X0.here hx rfl (B d42_4) rfl rfl k))) ?_
 show oF p e below (s₁.setTop (mkF m 5 #[.val (.ref b), .val (.ref ch), .val (.int 2)] [(.ref b), (.ref b)])) _
 obtain ⟨T2F, X2F, e2F, st2F⟩ := getF X0 hx hZ hown (host := "") (Or.inl (ow hw 62)) Via.refl e0 j1_ (g := (mkF m 5 #[.val (.ref b), .val (.ref ch), .val (.int 2)] [(.ref b), (.ref b)])) rfl rfl (B d42_5)
 refine oG st2F ?_
 show oF p e below (T2F.setTop (mkF m 8 #[.val (.ref b), .val (.ref ch), .val (.int 2)] [(.int 1), (.ref b)])) _
 refine oG (fun _ k => XS.iloadN X2F.here hx rfl (B d42_8) rfl (XS.iadd X2F.here hx rfl (B d42_9) rfl k)) ?_
 show oF p e below (T2F.setTop (mkF m 10 #[.val (.ref b), .val (.ref ch), .val (.int 2)] [(.int 3), (.ref b)])) _
 obtain ⟨cq2G, q2G, q2G'⟩ := E_b.cell
 obtain ⟨_, _, ⟨T2G, L2G, k2G, n2G⟩, -, X2G, ⟨Lc2G, hQ2G, l2G, y2G, z2G⟩, st2G⟩ := X2F.privateBack hx (y := mN17) hown (mo hZ hw 64) (mo hZ hw 65) (own_selS (mo hZ hw 67) (by exact rfl) (Cond.privateMethod_at (mvP hZ (ow hw 66) (args := #[]))) (mo hZ hw 65) (by decide)) (Cond.privateMethod_at (mvP hZ (ow hw 66) (args := #[]))) (mo hZ hw 68) (by decide) (backOf (W := 0) (ec1 l Z a0 hw [] b (3 : Int32) t kt (N <<< ((1 : Int32) &&& 31)) [(.int i0_), (.int i1_)] h0 n0 O j2_ j0_ V_t (own_ec1 (by decide) (by omega) hN8 (by rw [own_k3]; omega))) hZ (ow hw 68) (ow hw 24) (by decide) (by decide)) (g := (mkF m 10 #[.val (.ref b), .val (.ref ch), .val (.int 2)] [(.int 3), (.ref b)])) rfl (by rw [hml]; rfl) (Steps.refl _) (a := b) (own_eqE e2F q2G) q2G' (argsL := [(.int 3)]) (rest := []) (lenOf pd_12 rfl) rfl (by show 2 * 0 + _ ≤ _; exact Nat.le_of_eq rfl) (B d42_10) (fun _ _ => ⟨rfl, e2F, (by decide : 0 + 0 ≤ _), (by decide : 0 + 0 ≤ _)⟩)
 dsimp only [Pt.U, Pt.locs, Pt.cells, Pt.slots] at X2G l2G y2G z2G st2G hQ2G
 subst y2G z2G
 obtain ⟨rfl, N2Gq, e2G⟩ := hQ2G
 refine oG (fun _ k => st2G.trans k) ?_
 have N2G := oL l2G (Fr.app N0 N2Gq)
 show oF p e below (T2G.setTop (mkF m 13 #[.val (.ref b), .val (.ref ch), .val (.int 2)] [])) _
 refine oG (fun _ k => XS.aloadN X2G.here hx rfl (B d42_13) rfl rfl (XS.aloadN X2G.here hx rfl (B d42_14) rfl rfl (XS.iconst X2G.here hx rfl (B d42_15) (XS.iloadN X2G.here hx rfl (B d42_16) rfl k)))) ?_
 show oF p e below (T2G.setTop (mkF m 17 #[.val (.ref b), .val (.ref ch), .val (.int 2)] [(.int 2), (.int 0), (.ref ch), (.ref b)])) _
 obtain ⟨cq2H, q2H, q2H'⟩ := E_b.cell
 obtain ⟨_, _, ⟨T2H, L2H, k2H, n2H⟩, -, X2H, ⟨Lc2H, hQ2H, l2H, y2H, z2H⟩, st2H⟩ := X2G.privateBack hx (y := mN23) hown (mo hZ hw 210) (mo hZ hw 211) (own_selS (mo hZ hw 67) (by exact rfl) (Cond.privateMethod_at (mvP hZ (ow hw 212) (args := #[]))) (mo hZ hw 211) (by decide)) (Cond.privateMethod_at (mvP hZ (ow hw 212) (args := #[]))) (mo hZ hw 214) (by decide) (backOf (W := 0) (acU1 l Z a0 hw [] b ch z t kt N i0_ i1_ kc c0_ c1_ fm h0 n0 O j6_ j7_ j8_ j5_ hfm j4_ hz E_b j2_ j0_ j1_ j3_ V_t E_t V_ch g_b g_t nbt hN hN8 hc0 ntc nbc) hZ (ow hw 214) (ow hw 24) (by decide) (by decide)) (g := (mkF m 17 #[.val (.ref b), .val (.ref ch), .val (.int 2)] [(.int 2), (.int 0), (.ref ch), (.ref b)])) rfl (by rw [hml]; rfl) (Steps.refl _) (a := b) (own_eqE e2G q2H) q2H' (argsL := [(.ref ch), (.int 0), (.int 2)]) (rest := []) (lenOf pd_17 rfl) rfl (by show 2 * 0 + _ ≤ _; exact Nat.le_of_eq rfl) (B d42_17) (fun _ _ => ⟨rfl, e2G, (by decide : 0 + 0 ≤ _), (by decide : 0 + 0 ≤ _)⟩)
 dsimp only [Pt.U, Pt.locs, Pt.cells, Pt.slots] at X2H l2H y2H z2H st2H hQ2H
 subst y2H z2H
 obtain ⟨rfl, N2Hq, Kq2H, P2H_0, P2H_1, P2H_2, P2H_3, P2H_4, P2H_5, P2H_6⟩ := hQ2H
 refine oG (fun _ k => st2H.trans k) ?_
 have N2H := oL l2H (Fr.app N2G N2Hq)
 have E_b := E_b.keep Kq2H
 clear j2_
 clear j0_
 clear j1_
 clear j3_
 clear V_t
 have E_t := E_t.keep Kq2H
 have V_ch := V_ch.keep Kq2H (ninS (Ne.symm nbc) (ninS (Ne.symm ntc) nin0))
 have O := O.keep Kq2H (allS g_b (allS g_t all0))
 have K2I := K0.trans Kq2H (allS (Or.inl (List.mem_of_getElem? (i := 0) rfl)) (allS (Or.inl (List.mem_of_getElem? (i := 1) rfl)) all0))
 have E_b := P2H_0
 have j2_ := P2H_1
 have j0_ := P2H_2
 have j1_ := P2H_3
 have j3_ := P2H_4
 have V_t := P2H_5
 have E_t := P2H_6
 show oF p e below (T2H.setTop (mkF m 20 #[.val (.ref b), .val (.ref ch), .val (.int 2)] [])) _
 refine oG (fun _ k => XS.aloadN X2H.here hx rfl (B d42_20) rfl rfl k) ?_
 show oF p e below (T2H.setTop (mkF m 21 #[.val (.ref b), .val (.ref ch), .val (.int 2)] [(.ref b)])) _
 obtain ⟨fs, hr, r1, r2, hW, r3⟩ := X2H.leave (v := some (.ref b)) (fun h => by rw [Bd.returns] at h; cases h)
 refine ⟨_, _, ?_, r1, r2, _, _, rfl, ?_, ⟨_, rfl⟩, hW, r3.mono (by decide) (by decide)⟩
 ·exact X2H.areturnOut hx rfl Bd.returns rfl (B d42_21) hr
 ·show QadU1 Z b t kt N i0_ i1_ c0_ c1_ h0 n0 _ T2H.heap _
  exact ⟨rfl, N2H, K2I, E_b, j2_, j0_, j1_, j3_, V_t, E_t⟩
def QacU2 (Z : State) (b : Addr) (t : Addr) (kt : ClassId) (N : Int32) (i0_ : Int32) (i1_ : Int32) (i2_ : Int32) (i3_ : Int32) (c0_ : Int32) (c1_ : Int32) (h0 : Heap) (n0 : Nat) (v : Option Value) (h : Heap) (L : List Loc) : Prop := v = none ∧ Fr n0 L ∧ Keep h0 h [b, t] ∧ eX1 Z h b ∧ fL1 Z h b (.ref t) ∧ fL0 Z h b (.int 1) ∧ fL2 Z h b (.int 4) ∧ fL3 Z h b (.int 0) ∧ Arv Z h t kt .byte (N <<< ((1 : Int32) &&& 31)) [(.int i0_), (.int i1_), (.int i2_), (.int i3_), (.int (own_lo c0_)), (.int (own_hi c0_)), (.int (own_lo c1_)), (.int (own_hi c1_))] (.int 0) ∧ eX0 Z h t
theorem acU2 (l : Launch) (Z : State) (a0 : Array Value) (hw : ∀ d ∈ tables_1, d.before a0 Z = true) (ws : List Jvm.Cond) (b : Addr) (ch : Addr) (z : Int32) (t : Addr) (kt : ClassId) (N : Int32) (i0_ : Int32) (i1_ : Int32) (i2_ : Int32) (i3_ : Int32) (kc : ClassId) (c0_ : Int32) (c1_ : Int32) (fm : Value) (h0 : Heap) (n0 : Nat) (O : Old Z n0 h0) (j6_ : sT0 Z (.int 1)) (j7_ : sT1 Z (.int 0)) (j8_ : sT2 Z (.int 8)) (j5_ : sT3 Z fm) (hfm : fm.isRef = true) (j4_ : sT4 Z (.int z)) (hz : ¬ (z = (0 : Int32))) (E_b : eX1 Z h0 b) (j2_ : fL1 Z h0 b (.ref t)) (j0_ : fL0 Z h0 b (.int 1)) (j1_ : fL2 Z h0 b (.int 2)) (j3_ : fL3 Z h0 b (.int 0)) (V_t : Arv Z h0 t kt .byte (N <<< ((1 : Int32) &&& 31)) [(.int i0_), (.int i1_), (.int i2_), (.int i3_)] (.int 0)) (E_t : eX0 Z h0 t) (V_ch : Arv Z h0 ch kc .char (2 : Int32) [(.int c0_), (.int c1_)] (.int 0)) (g_b : n0 ≤ b) (g_t : n0 ≤ t) (nbt : b ≠ t) (hN : 4 ≤ N.toInt) (hN8 : N.toInt ≤ 8) (hc0 : (255 : Int32) < c0_) (ntc : t ≠ ch) (nbc : b ≠ ch) :
   own_MF l Z mN23 jdk_68_method_74_code 9 none ws rM13 #[(.ref b), (.ref ch), (.int 0), (.int 2)] h0 (QacU2 Z b t kt N i0_ i1_ i2_ i3_ c0_ c1_ h0 n0) := by
 refine MetFree.of_bodySF (plainFor_of_name pn_4) hisR ?_
 intro p e s m args below meth c s₁ Bd hml0 hP hK
 obtain ⟨rfl, hZ, hh⟩ := hP
 have hx := Bd.exec
 have hby := Bd.bytes
 have B := @hb _ _ hby
 have hml : c.maxLocals = 9 := hml0
 have hown : s.vm.findClass "java/lang/AbstractStringBuilder" = some m.cls := findClass_of_methodNamed Bd.named
 have X0 : Stand p l e rM13 s m #[(.ref b), (.ref ch), (.int 0), (.int 2)] below meth c s₁ [] 0 0 := Stand.of_body Bd
 have e0 : s₁.heap = h0 := by rw [← hh, Bd.state]; rfl
 have N0 := Fr.nil n0
 have K0 := Keep.refl h0 [b, t]
 refine own_start (ef_acI0 m b ch (0 : Int32) (2 : Int32)) (Q := own_QE s rM13 (QacU2 Z b t kt N i0_ i1_ i2_ i3_ c0_ c1_ h0 n0)) ?_
 show oF p e below (s₁.setTop (mkF m 0 #[.val (.ref b), .val (.ref ch), .val (.int 0), .val (.int 2), .unset, .unset, .unset, .unset, .unset] [])) _
 refine oG (fun _ k => XS.aloadN X0.here hx rfl (B d43_0) rfl rfl k) ?_
 show oF p e below (s₁.setTop (mkF m 1 #[.val (.ref b), .val (.ref ch), .val (.int 0), .val (.int 2), .unset, .unset, .unset, .unset, .unset] [(.ref b)])) _
 obtain ⟨T2J, X2J, e2J, st2J⟩ := getF X0 hx hZ hown (host := "") (Or.inl (ow hw 62)) Via.refl e0 j1_ (g := (mkF m 1 #[.val (.ref b), .val (.ref ch), .val (.int 0), .val (.int 2), .unset, .unset, .unset, .unset, .unset] [(.ref b)])) rfl rfl (B d43_1)
 refine oG st2J ?_
 show oF p e below (T2J.setTop (mkF m 4 #[.val (.ref b), .val (.ref ch), .val (.int 0), .val (.int 2), .unset, .unset, .unset, .unset, .unset] [(.int 2)])) _
 refine oG (fun _ k => XS.istore X2J.here hx rfl (B d43_4) rfl (l' := #[.val (.ref b), .val (.ref ch), .val (.int 0), .val (.int 2), .val (.int 2), .unset, .unset, .unset, .unset]) rfl (XS.aloadN X2J.here hx rfl (B d43_6) rfl rfl k)) ?_
 show oF p e below (T2J.setTop (mkF m 7 #[.val (.ref b), .val (.ref ch), .val (.int 0), .val (.int 2), .val (.int 2), .unset, .unset, .unset, .unset] [(.ref b)])) _
 obtain ⟨cq2K, kq2K, q2Ka, q2Kb, q2Kc⟩ := isOf hZ e2J E_b
 obtain ⟨_, _, ⟨T2K, L2K, k2K, n2K⟩, -, X2K, ⟨Lc2K, hQ2K, l2K, y2K, z2K⟩, st2K⟩ := X2J.virtualBack hx (y := mN15) (z := mN15) hown (mo hZ hw 69) (mo hZ hw 70) (notFace_of_selects (args := #[]) (mo hZ hw 72)) (mo hZ hw 72) (mo hZ hw 71) (by decide) (backOf (W := 0) (il1 l Z a0 hw [] b z h0 n0 O j4_ hz j0_) hZ (ow hw 73) (ow hw 24) (by decide) (by decide)) q2Ka q2Kc (g := (mkF m 7 #[.val (.ref b), .val (.ref ch), .val (.int 0), .val (.int 2), .val (.int 2), .unset, .unset, .unset, .unset] [(.ref b)])) rfl (by rw [hml]; rfl) (Steps.refl _) (argsL := []) (rest := []) (lenOf pd_10 rfl) rfl (by show 2 * 0 + _ ≤ _; exact Nat.le_of_eq rfl) (B d43_7) (fun _ _ => ⟨rfl, e2J, (by decide : 0 + 0 ≤ _), (by decide : 0 + 0 ≤ _)⟩)
 dsimp only [Pt.U, Pt.locs, Pt.cells, Pt.slots] at X2K l2K y2K z2K st2K hQ2K
 subst y2K z2K
 obtain ⟨rfl, N2Kq, e2K⟩ := hQ2K
 refine oG (fun _ k => st2K.trans k) ?_
 have N2K := oL l2K (Fr.app N0 N2Kq)
 show oF p e below (T2K.setTop (mkF m 10 #[.val (.ref b), .val (.ref ch), .val (.int 0), .val (.int 2), .val (.int 2), .unset, .unset, .unset, .unset] [(.int 0)])) _
 refine oG (fun _ k => XS.ifYes X2K.here hx rfl (pc0 := 10) (pc' := 107) rfl (B d43_10) rfl ((if0 _ _).trans (teq (by decide : (0 : Int32) = (0 : Int32))).1) (by decide) (by decide) (XS.aloadN X2K.here hx rfl (B d43_107) rfl rfl k)) ?_
 show oF p e below (T2K.setTop (mkF m 108 #[.val (.ref b), .val (.ref ch), .val (.int 0), .val (.int 2), .val (.int 2), .unset, .unset, .unset, .unset] [(.ref b)])) _
 obtain ⟨T2L, X2L, e2L, st2L⟩ := getF X2K hx hZ hown (host := "") (Or.inl (ow hw 31)) Via.refl e2K j2_ (g := (mkF m 108 #[.val (.ref b), .val (.ref ch), .val (.int 0), .val (.int 2), .val (.int 2), .unset, .unset, .unset, .unset] [(.ref b)])) rfl rfl (B d43_108)
 refine oG st2L ?_
 show oF p e below (T2L.setTop (mkF m 111 #[.val (.ref b), .val (.ref ch), .val (.int 0), .val (.int 2), .val (.int 2), .unset, .unset, .unset, .unset] [(.ref t)])) _
 refine oG (fun _ k => XS.iload X2L.here hx rfl (B d43_111) rfl (XS.aloadN X2L.here hx rfl (B d43_113) rfl rfl (XS.iloadN X2L.here hx rfl (B d43_114) rfl (XS.iloadN X2L.here hx rfl (B d43_115) rfl k)))) ?_
 show oF p e below (T2L.setTop (mkF m 116 #[.val (.ref b), .val (.ref ch), .val (.int 0), .val (.int 2), .val (.int 2), .unset, .unset, .unset, .unset] [(.int 2), (.int 0), (.ref ch), (.int 2), (.ref t)])) _
 obtain ⟨_, _, ⟨T2M, L2M, k2M, n2M⟩, -, X2M, ⟨Lc2M, hQ2M, l2M, y2M, z2M⟩, st2M⟩ := Jvm.LawKit.callS X2L hx (y := mN22) hown (mo hZ hw 246) (mo hZ hw 247) (mo hZ hw 222) (mo hZ hw 248) (by decide) (backOf (W := 0) (pb l Z a0 hw [] t (2 : Int32) ch kt (N <<< ((1 : Int32) &&& 31)) [(.int i0_), (.int i1_), (.int i2_), (.int i3_)] kc c0_ c1_ fm h0 n0 O j5_ hfm j6_ j7_ j8_ V_t g_t (by rw [own_k2] <;> rfl) (own_mk (by omega) hN8 (by simp only [List.length_cons, List.length_nil]; omega)) (own_m0 (by omega) hN8).2 V_ch ntc) hZ (ow hw 248) (ow hw 222) (by decide) (by decide)) (g := (mkF m 116 #[.val (.ref b), .val (.ref ch), .val (.int 0), .val (.int 2), .val (.int 2), .unset, .unset, .unset, .unset] [(.int 2), (.int 0), (.ref ch), (.int 2), (.ref t)])) rfl (by rw [hml]; rfl) (argsL := [(.ref t), (.int 2), (.ref ch), (.int 0), (.int 2)]) (rest := []) (lenOf pd_16 rfl) rfl (by show 2 * 0 + _ ≤ _; exact Nat.le_of_eq rfl) (B d43_116) (fun _ _ => ⟨rfl, e2L, (by decide : 0 + 0 ≤ _), (by decide : 0 + 0 ≤ _)⟩)
 dsimp only [Pt.U, Pt.locs, Pt.cells, Pt.slots] at X2M l2M y2M z2M st2M hQ2M
 subst y2M z2M
 obtain ⟨rfl, N2Mq, Kq2M, P2M_0⟩ := hQ2M
 refine oG st2M ?_
 have N2M := oL l2M (Fr.app N2K N2Mq)
 have E_b := E_b.keep Kq2M
 have j2_ := j2_.keep Kq2M (ninS nbt nin0)
 have j0_ := j0_.keep Kq2M (ninS nbt nin0)
 have j1_ := j1_.keep Kq2M (ninS nbt nin0)
 have j3_ := j3_.keep Kq2M (ninS nbt nin0)
 clear V_t
 have E_t := E_t.keep Kq2M
 have V_ch := V_ch.keep Kq2M (ninS (Ne.symm ntc) nin0)
 have O := O.keep Kq2M (allS g_t all0)
 have K2N := K0.trans Kq2M (allS (Or.inl (List.mem_of_getElem? (i := 1) rfl)) all0)
 have V_t := P2M_0
 show oF p e below (T2M.setTop (mkF m 119 #[.val (.ref b), .val (.ref ch), .val (.int 0), .val (.int 2), .val (.int 2), .unset, .unset, .unset, .unset] [])) _
 refine oG (fun _ k => XS.aloadN X2M.here hx rfl (B d43_119) rfl rfl (XS.iload X2M.here hx rfl (B d43_120) rfl (XS.iloadN X2M.here hx rfl (B d43_122) rfl (XS.iadd X2M.here hx rfl (B d43_123) rfl (XS.iloadN X2M.here hx rfl (B d43_124) rfl (XS.isub X2M.here hx rfl (B d43_125) rfl k)))))) ?_
 show oF p e below (T2M.setTop (mkF m 126 #[.val (.ref b), .val (.ref ch), .val (.int 0), .val (.int 2), .val (.int 2), .unset, .unset, .unset, .unset] [(.int 4), (.ref b)])) _
 obtain ⟨T2O, h2O, X2O, e2O, W2O, st2O⟩ := putF X2M hx hZ hown (host := "") (Or.inl (ow hw 62)) Via.refl rfl j1_ E_b (Or.inl (ow hw 63)) (ow hw 15) (ty := .int) (by decide) rfl rfl (g := (mkF m 126 #[.val (.ref b), .val (.ref ch), .val (.int 0), .val (.int 2), .val (.int 2), .unset, .unset, .unset, .unset] [(.int 4), (.ref b)])) rfl rfl (B d43_126)
 refine oG st2O ?_
 have E_b := E_b.wr W2O
 have j2_ := j2_.other W2O (Or.inr (slot_ne (Or.inl (ow hw 32)) (Or.inl (ow hw 63)) (by decide) (t := (.array .byte)) (t' := .int) (by decide) (by decide)))
 have j0_ := j0_.other W2O (Or.inr (slot_ne (Or.inl (ow hw 34)) (Or.inl (ow hw 63)) (by decide) (t := .byte) (t' := .int) (by decide) (by decide)))
 have j3_ := j3_.other W2O (Or.inr (slot_ne (Or.inl (ow hw 268)) (Or.inl (ow hw 63)) (by decide) (t := .boolean) (t' := .int) (by decide) (by decide)))
 have E_t := E_t.wr W2O
 have V_ch := V_ch.other W2O (Ne.symm nbc)
 have V_t := V_t.other W2O (Ne.symm nbt)
 have O := O.wr W2O g_b
 have K2P := K2N.wr W2O (Or.inl (List.mem_of_getElem? (i := 0) rfl))
 have j1_ := j1_.same W2O
 have N2O := Fr.snoc X2O N2M g_b
 show oF p e below (T2O.setTop (mkF m 129 #[.val (.ref b), .val (.ref ch), .val (.int 0), .val (.int 2), .val (.int 2), .unset, .unset, .unset, .unset] [])) _
 obtain ⟨fs, hr, r1, r2, hW, r3⟩ := X2O.leave (v := none) (fun _ => rfl)
 refine ⟨_, _, ?_, r1, r2, _, _, rfl, ?_, ⟨_, rfl⟩, hW, r3.mono (by decide) (by decide)⟩
 ·exact X2O.returnOut hx Bd.returns (B d43_129) hr
 ·show QacU2 Z b t kt N i0_ i1_ i2_ i3_ c0_ c1_ h0 n0 _ T2O.heap _
  rw [e2O]
  exact ⟨rfl, N2O, K2P, E_b, j2_, j0_, j1_, j3_, V_t, E_t⟩
def QadU2 (Z : State) (b : Addr) (t : Addr) (kt : ClassId) (N : Int32) (i0_ : Int32) (i1_ : Int32) (i2_ : Int32) (i3_ : Int32) (c0_ : Int32) (c1_ : Int32) (h0 : Heap) (n0 : Nat) (v : Option Value) (h : Heap) (L : List Loc) : Prop := v = some (.ref b) ∧ Fr n0 L ∧ Keep h0 h [b, t] ∧ eX1 Z h b ∧ fL1 Z h b (.ref t) ∧ fL0 Z h b (.int 1) ∧ fL2 Z h b (.int 4) ∧ fL3 Z h b (.int 0) ∧ Arv Z h t kt .byte (N <<< ((1 : Int32) &&& 31)) [(.int i0_), (.int i1_), (.int i2_), (.int i3_), (.int (own_lo c0_)), (.int (own_hi c0_)), (.int (own_lo c1_)), (.int (own_hi c1_))] (.int 0) ∧ eX0 Z h t
theorem adU2 (l : Launch) (Z : State) (a0 : Array Value) (hw : ∀ d ∈ tables_1, d.before a0 Z = true) (ws : List Jvm.Cond) (b : Addr) (ch : Addr) (z : Int32) (t : Addr) (kt : ClassId) (N : Int32) (i0_ : Int32) (i1_ : Int32) (i2_ : Int32) (i3_ : Int32) (kc : ClassId) (c0_ : Int32) (c1_ : Int32) (fm : Value) (h0 : Heap) (n0 : Nat) (O : Old Z n0 h0) (j6_ : sT0 Z (.int 1)) (j7_ : sT1 Z (.int 0)) (j8_ : sT2 Z (.int 8)) (j5_ : sT3 Z fm) (hfm : fm.isRef = true) (j4_ : sT4 Z (.int z)) (hz : ¬ (z = (0 : Int32))) (E_b : eX1 Z h0 b) (j2_ : fL1 Z h0 b (.ref t)) (j0_ : fL0 Z h0 b (.int 1)) (j1_ : fL2 Z h0 b (.int 2)) (j3_ : fL3 Z h0 b (.int 0)) (V_t : Arv Z h0 t kt .byte (N <<< ((1 : Int32) &&& 31)) [(.int i0_), (.int i1_), (.int i2_), (.int i3_)] (.int 0)) (E_t : eX0 Z h0 t) (V_ch : Arv Z h0 ch kc .char (2 : Int32) [(.int c0_), (.int c1_)] (.int 0)) (g_b : n0 ≤ b) (g_t : n0 ≤ t) (nbt : b ≠ t) (hN : 4 ≤ N.toInt) (hN8 : N.toInt ≤ 8) (hc0 : (255 : Int32) < c0_) (ntc : t ≠ ch) (nbc : b ≠ ch) :
   own_MF l Z mN24 jdk_68_method_28_code 3 (some (.object "java/lang/AbstractStringBuilder")) ws rM14 #[(.ref b), (.ref ch)] h0 (QadU2 Z b t kt N i0_ i1_ i2_ i3_ c0_ c1_ h0 n0) := by
 refine MetFree.of_bodySF (plainFor_of_name pn_4) hisR ?_
 intro p e s m args below meth c s₁ Bd hml0 hP hK
 obtain ⟨rfl, hZ, hh⟩ := hP
 have hx := Bd.exec
 have hby := Bd.bytes
 have B := @hb _ _ hby
 have hml : c.maxLocals = 3 := hml0
 have hown : s.vm.findClass "java/lang/AbstractStringBuilder" = some m.cls := findClass_of_methodNamed Bd.named
 have X0 : Stand p l e rM14 s m #[(.ref b), (.ref ch)] below meth c s₁ [] 0 0 := Stand.of_body Bd
 have e0 : s₁.heap = h0 := by rw [← hh, Bd.state]; rfl
 have N0 := Fr.nil n0
 have K0 := Keep.refl h0 [b, t]
 refine own_start (ef_adI0 m b ch) (Q := own_QE s rM14 (QadU2 Z b t kt N i0_ i1_ i2_ i3_ c0_ c1_ h0 n0)) ?_
 show oF p e below (s₁.setTop (mkF m 0 #[.val (.ref b), .val (.ref ch), .unset] [])) _
 refine oG (fun _ k => XS.aloadN X0.here hx rfl (B d42_0) rfl rfl k) ?_
 show oF p e below (s₁.setTop (mkF m 1 #[.val (.ref b), .val (.ref ch), .unset] [(.ref ch)])) _
 obtain ⟨cl2Q, A2Q, -, S2Q, M2Q, -, -⟩ := id V_ch
 refine oG (fun _ k => X0.arraylength hx (own_eqE e0 A2Q.1) (State.isArrayOf_alike hZ.alike A2Q.2.1) (g := (mkF m 1 #[.val (.ref b), .val (.ref ch), .unset] [(.ref ch)])) rfl rfl (B d42_1) _ (by rw [len_of S2Q M2Q]; exact k)) ?_
 show oF p e below (s₁.setTop (mkF m 2 #[.val (.ref b), .val (.ref ch), .unset] [(.int 2)])) _
 refine oG (fun _ k => XS.istoreN X0.here hx rfl (B d42_2) rfl (l' := #[.val (.ref b), .val (.ref ch), .val (.int 2)]) rfl (XS.aloadN X0.here hx rfl (B d42_3) rfl rfl (XS.aloadN X0.here hx rfl (B d42_4) rfl rfl k))) ?_
 show oF p e below (s₁.setTop (mkF m 5 #[.val (.ref b), .val (.ref ch), .val (.int 2)] [(.ref b), (.ref b)])) _
 obtain ⟨T2R, X2R, e2R, st2R⟩ := getF X0 hx hZ hown (host := "") (Or.inl (ow hw 62)) Via.refl e0 j1_ (g := (mkF m 5 #[.val (.ref b), .val (.ref ch), .val (.int 2)] [(.ref b), (.ref b)])) rfl rfl (B d42_5)
 refine oG st2R ?_
 show oF p e below (T2R.setTop (mkF m 8 #[.val (.ref b), .val (.ref ch), .val (.int 2)] [(.int 2), (.ref b)])) _
 refine oG (fun _ k => XS.iloadN X2R.here hx rfl (B d42_8) rfl (XS.iadd X2R.here hx rfl (B d42_9) rfl k)) ?_
 show oF p e below (T2R.setTop (mkF m 10 #[.val (.ref b), .val (.ref ch), .val (.int 2)] [(.int 4), (.ref b)])) _
 obtain ⟨cq2S, q2S, q2S'⟩ := E_b.cell
 obtain ⟨_, _, ⟨T2S, L2S, k2S, n2S⟩, -, X2S, ⟨Lc2S, hQ2S, l2S, y2S, z2S⟩, st2S⟩ := X2R.privateBack hx (y := mN17) hown (mo hZ hw 64) (mo hZ hw 65) (own_selS (mo hZ hw 67) (by exact rfl) (Cond.privateMethod_at (mvP hZ (ow hw 66) (args := #[]))) (mo hZ hw 65) (by decide)) (Cond.privateMethod_at (mvP hZ (ow hw 66) (args := #[]))) (mo hZ hw 68) (by decide) (backOf (W := 0) (ec1 l Z a0 hw [] b (4 : Int32) t kt (N <<< ((1 : Int32) &&& 31)) [(.int i0_), (.int i1_), (.int i2_), (.int i3_)] h0 n0 O j2_ j0_ V_t (own_ec1 (by decide) (by omega) hN8 (by rw [own_k4]; omega))) hZ (ow hw 68) (ow hw 24) (by decide) (by decide)) (g := (mkF m 10 #[.val (.ref b), .val (.ref ch), .val (.int 2)] [(.int 4), (.ref b)])) rfl (by rw [hml]; rfl) (Steps.refl _) (a := b) (own_eqE e2R q2S) q2S' (argsL := [(.int 4)]) (rest := []) (lenOf pd_12 rfl) rfl (by show 2 * 0 + _ ≤ _; exact Nat.le_of_eq rfl) (B d42_10) (fun _ _ => ⟨rfl, e2R, (by decide : 0 + 0 ≤ _), (by decide : 0 + 0 ≤ _)⟩)
 dsimp only [Pt.U, Pt.locs, Pt.cells, Pt.slots] at X2S l2S y2S z2S st2S hQ2S
 subst y2S z2S
 obtain ⟨rfl, N2Sq, e2S⟩ := hQ2S
 refine oG (fun _ k => st2S.trans k) ?_
 have N2S := oL l2S (Fr.app N0 N2Sq)
 show oF p e below (T2S.setTop (mkF m 13 #[.val (.ref b), .val (.ref ch), .val (.int 2)] [])) _
 refine oG (fun _ k => XS.aloadN X2S.here hx rfl (B d42_13) rfl rfl (XS.aloadN X2S.here hx rfl (B d42_14) rfl rfl (XS.iconst X2S.here hx rfl (B d42_15) (XS.iloadN X2S.here hx rfl (B d42_16) rfl k)))) ?_
 show oF p e below (T2S.setTop (mkF m 17 #[.val (.ref b), .val (.ref ch), .val (.int 2)] [(.int 2), (.int 0), (.ref ch), (.ref b)])) _
 obtain ⟨cq2T, q2T, q2T'⟩ := E_b.cell
 obtain ⟨_, _, ⟨T2T, L2T, k2T, n2T⟩, -, X2T, ⟨Lc2T, hQ2T, l2T, y2T, z2T⟩, st2T⟩ := X2S.privateBack hx (y := mN23) hown (mo hZ hw 210) (mo hZ hw 211) (own_selS (mo hZ hw 67) (by exact rfl) (Cond.privateMethod_at (mvP hZ (ow hw 212) (args := #[]))) (mo hZ hw 211) (by decide)) (Cond.privateMethod_at (mvP hZ (ow hw 212) (args := #[]))) (mo hZ hw 214) (by decide) (backOf (W := 0) (acU2 l Z a0 hw [] b ch z t kt N i0_ i1_ i2_ i3_ kc c0_ c1_ fm h0 n0 O j6_ j7_ j8_ j5_ hfm j4_ hz E_b j2_ j0_ j1_ j3_ V_t E_t V_ch g_b g_t nbt hN hN8 hc0 ntc nbc) hZ (ow hw 214) (ow hw 24) (by decide) (by decide)) (g := (mkF m 17 #[.val (.ref b), .val (.ref ch), .val (.int 2)] [(.int 2), (.int 0), (.ref ch), (.ref b)])) rfl (by rw [hml]; rfl) (Steps.refl _) (a := b) (own_eqE e2S q2T) q2T' (argsL := [(.ref ch), (.int 0), (.int 2)]) (rest := []) (lenOf pd_17 rfl) rfl (by show 2 * 0 + _ ≤ _; exact Nat.le_of_eq rfl) (B d42_17) (fun _ _ => ⟨rfl, e2S, (by decide : 0 + 0 ≤ _), (by decide : 0 + 0 ≤ _)⟩)
 dsimp only [Pt.U, Pt.locs, Pt.cells, Pt.slots] at X2T l2T y2T z2T st2T hQ2T
 subst y2T z2T
 obtain ⟨rfl, N2Tq, Kq2T, P2T_0, P2T_1, P2T_2, P2T_3, P2T_4, P2T_5, P2T_6⟩ := hQ2T
 refine oG (fun _ k => st2T.trans k) ?_
 have N2T := oL l2T (Fr.app N2S N2Tq)
 have E_b := E_b.keep Kq2T
 clear j2_
 clear j0_
 clear j1_
 clear j3_
 clear V_t
 have E_t := E_t.keep Kq2T
 have V_ch := V_ch.keep Kq2T (ninS (Ne.symm nbc) (ninS (Ne.symm ntc) nin0))
 have O := O.keep Kq2T (allS g_b (allS g_t all0))
 have K2U := K0.trans Kq2T (allS (Or.inl (List.mem_of_getElem? (i := 0) rfl)) (allS (Or.inl (List.mem_of_getElem? (i := 1) rfl)) all0))
 have E_b := P2T_0
 have j2_ := P2T_1
 have j0_ := P2T_2
 have j1_ := P2T_3
 have j3_ := P2T_4
 have V_t := P2T_5
 have E_t := P2T_6
 show oF p e below (T2T.setTop (mkF m 20 #[.val (.ref b), .val (.ref ch), .val (.int 2)] [])) _
 refine oG (fun _ k => XS.aloadN X2T.here hx rfl (B d42_20) rfl rfl k) ?_
 show oF p e below (T2T.setTop (mkF m 21 #[.val (.ref b), .val (.ref ch), .val (.int 2)] [(.ref b)])) _
 obtain ⟨fs, hr, r1, r2, hW, r3⟩ := X2T.leave (v := some (.ref b)) (fun h => by rw [Bd.returns] at h; cases h)
 refine ⟨_, _, ?_, r1, r2, _, _, rfl, ?_, ⟨_, rfl⟩, hW, r3.mono (by decide) (by decide)⟩
 ·exact X2T.areturnOut hx rfl Bd.returns rfl (B d42_21) hr
 ·show QadU2 Z b t kt N i0_ i1_ i2_ i3_ c0_ c1_ h0 n0 _ T2T.heap _
  exact ⟨rfl, N2T, K2U, E_b, j2_, j0_, j1_, j3_, V_t, E_t⟩
def own_u8 : List Int32 → List Value
 | [] => []
 | c :: r => .int (own_by c) :: own_u8 r
def own_u16 : List Int32 → List Value
 | [] => []
 | c :: r => .int (own_lo c) :: .int (own_hi c) :: own_u16 r
def own_rng (cs : List Int32) : Prop := ∀ c ∈ cs, 0 ≤ c.toInt ∧ c.toInt < 65536
def own_lat (cs : List Int32) : Prop := ∀ c ∈ cs, c.toInt ≤ 255
def own_bg (cs : List Int32) : Prop := ∃ c ∈ cs, 255 < c.toInt
def own_SB (Z : State) (h : Heap) (b t : Addr) (kt : ClassId) (N : Int32) (cs : List Int32) : Prop :=
 fL1 Z h b (.ref t) ∧ fL2 Z h b (.int (Int32.ofNat cs.length)) ∧ fL3 Z h b (.int 0) ∧ own_rng cs ∧
 ((fL0 Z h b (.int 0) ∧ Arv Z h t kt .byte N (own_u8 cs) (.int 0) ∧ own_lat cs) ∨
  (fL0 Z h b (.int 1) ∧ Arv Z h t kt .byte (N <<< ((1 : Int32) &&& 31)) (own_u16 cs) (.int 0) ∧ own_bg cs))
theorem own_SB_ext {Z : State} {h h' : Heap} {b t : Addr} {kt : ClassId} {N : Int32} {cs : List Int32} (F : own_SB Z h b t kt N cs) (E : Ext h h') : own_SB Z h' b t kt N cs := by
 obtain ⟨a1, a2, a3, a4, a5⟩ := F
 refine ⟨a1.ext E, a2.ext E, a3.ext E, a4, ?_⟩
 rcases a5 with ⟨q, V, r⟩ | ⟨q, V, r⟩
 · exact Or.inl ⟨q.ext E, V.ext E, r⟩
 · exact Or.inr ⟨q.ext E, V.ext E, r⟩
theorem own_SB_wr {Z : State} {h h' : Heap} {b t a : Addr} {kt : ClassId} {N : Int32} {cs : List Int32} {sl : Nat} {v : Value} (F : own_SB Z h b t kt N cs) (W : Wr h h' a sl v) (n1 : b ≠ a) (n2 : t ≠ a) : own_SB Z h' b t kt N cs := by
 obtain ⟨a1, a2, a3, a4, a5⟩ := F
 refine ⟨a1.other W (Or.inl n1), a2.other W (Or.inl n1), a3.other W (Or.inl n1), a4, ?_⟩
 rcases a5 with ⟨q, V, r⟩ | ⟨q, V, r⟩
 · exact Or.inl ⟨q.other W (Or.inl n1), V.other W n2, r⟩
 · exact Or.inr ⟨q.other W (Or.inl n1), V.other W n2, r⟩
theorem own_SB_keep {Z : State} {h h' : Heap} {b t : Addr} {kt : ClassId} {N : Int32} {cs : List Int32} {ws : List Addr} (F : own_SB Z h b t kt N cs) (K : Keep h h' ws) (n1 : b ∉ ws) (n2 : t ∉ ws) : own_SB Z h' b t kt N cs := by
 obtain ⟨a1, a2, a3, a4, a5⟩ := F
 refine ⟨a1.keep K n1, a2.keep K n1, a3.keep K n1, a4, ?_⟩
 rcases a5 with ⟨q, V, r⟩ | ⟨q, V, r⟩
 · exact Or.inl ⟨q.keep K n1, V.keep K n2, r⟩
 · exact Or.inr ⟨q.keep K n1, V.keep K n2, r⟩
theorem own_SB_rng {Z : State} {h : Heap} {b t : Addr} {kt : ClassId} {N : Int32} {cs : List Int32} (F : own_SB Z h b t kt N cs) : own_rng cs := F.2.2.2.1
theorem own_SBL {Z : State} {h : Heap} {b t : Addr} {kt : ClassId} {N n : Int32} {cs : List Int32} {its : List Value} (hv : fL1 Z h b (.ref t)) (hn : fL2 Z h b (.int n)) (hm : fL3 Z h b (.int 0)) (hr : own_rng cs) (hq : fL0 Z h b (.int 0)) (V : Arv Z h t kt .byte N its (.int 0)) (hl : own_lat cs) (e1 : own_u8 cs = its) (e2 : Int32.ofNat cs.length = n) : own_SB Z h b t kt N cs := by
 subst e1 e2; exact ⟨hv, hn, hm, hr, Or.inl ⟨hq, V, hl⟩⟩
theorem own_SBU {Z : State} {h : Heap} {b t : Addr} {kt : ClassId} {N n : Int32} {cs : List Int32} {its : List Value} (hv : fL1 Z h b (.ref t)) (hn : fL2 Z h b (.int n)) (hm : fL3 Z h b (.int 0)) (hr : own_rng cs) (hq : fL0 Z h b (.int 1)) (V : Arv Z h t kt .byte (N <<< ((1 : Int32) &&& 31)) its (.int 0)) (hl : own_bg cs) (e1 : own_u16 cs = its) (e2 : Int32.ofNat cs.length = n) : own_SB Z h b t kt N cs := by
 subst e1 e2; exact ⟨hv, hn, hm, hr, Or.inr ⟨hq, V, hl⟩⟩
theorem own_latbg {cs : List Int32} (h : own_lat cs) (g : own_bg cs) : False := by
 obtain ⟨c, hc, q⟩ := g
 have := h c hc; omega
theorem own_SBc {Z : State} {h : Heap} {b t : Addr} {kt : ClassId} {N : Int32} {cs : List Int32} (H : own_SB Z h b t kt N cs) (h2 : cs.length ≤ 2) (hsu : cs.length = 2 → own_bg cs) :
   (cs = [] ∧ cs.length = 0 ∧ own_lat cs ∧ fL1 Z h b (.ref t) ∧ fL2 Z h b (.int 0) ∧ fL3 Z h b (.int 0) ∧ fL0 Z h b (.int 0) ∧ Arv Z h t kt .byte N [] (.int 0)) ∨
   (∃ i0 : Int32, cs = [i0] ∧ cs.length = 1 ∧ own_lat cs ∧ fL1 Z h b (.ref t) ∧ fL2 Z h b (.int 1) ∧ fL3 Z h b (.int 0) ∧ fL0 Z h b (.int 0) ∧ Arv Z h t kt .byte N [.int (own_by i0)] (.int 0)) ∨
   (∃ i0 : Int32, cs = [i0] ∧ cs.length = 1 ∧ own_bg cs ∧ fL1 Z h b (.ref t) ∧ fL2 Z h b (.int 1) ∧ fL3 Z h b (.int 0) ∧ fL0 Z h b (.int 1) ∧ Arv Z h t kt .byte (N <<< ((1 : Int32) &&& 31)) [.int (own_lo i0), .int (own_hi i0)] (.int 0)) ∨
   (∃ i0 i1 : Int32, cs = [i0, i1] ∧ cs.length = 2 ∧ own_bg cs ∧ fL1 Z h b (.ref t) ∧ fL2 Z h b (.int 2) ∧ fL3 Z h b (.int 0) ∧ fL0 Z h b (.int 1) ∧ Arv Z h t kt .byte (N <<< ((1 : Int32) &&& 31)) [.int (own_lo i0), .int (own_hi i0), .int (own_lo i1), .int (own_hi i1)] (.int 0)) := by
 obtain ⟨a1, a2, a3, a4, a5⟩ := H
 rcases cs with _ | ⟨i0, _ | ⟨i1, _ | ⟨i2, r⟩⟩⟩
 · rcases a5 with ⟨q, V, r⟩ | ⟨q, V, r⟩
   · exact Or.inl ⟨rfl, rfl, r, a1, a2, a3, q, V⟩
   · obtain ⟨c, hc, _⟩ := r; cases hc
 · rcases a5 with ⟨q, V, r⟩ | ⟨q, V, r⟩
   · exact Or.inr (Or.inl ⟨i0, rfl, rfl, r, a1, a2, a3, q, V⟩)
   · exact Or.inr (Or.inr (Or.inl ⟨i0, rfl, rfl, r, a1, a2, a3, q, V⟩))
 · rcases a5 with ⟨q, V, r⟩ | ⟨q, V, r⟩
   · exact absurd (hsu rfl) (fun g => own_latbg r g)
   · exact Or.inr (Or.inr (Or.inr ⟨i0, i1, rfl, rfl, r, a1, a2, a3, q, V⟩))
 · exact absurd h2 (by simp only [List.length_cons]; omega)
theorem own_rng_app {a b : List Int32} (h1 : own_rng a) (h2 : own_rng b) : own_rng (a ++ b) := fun c hc => (List.mem_append.mp hc).elim (h1 c) (h2 c)
theorem own_lat_app {a b : List Int32} (h1 : own_lat a) (h2 : own_lat b) : own_lat (a ++ b) := fun c hc => (List.mem_append.mp hc).elim (h1 c) (h2 c)
theorem own_bg_l {a b : List Int32} (h : own_bg a) : own_bg (a ++ b) := by obtain ⟨c, hc, q⟩ := h; exact ⟨c, List.mem_append.mpr (Or.inl hc), q⟩
theorem own_bg_r {a b : List Int32} (h : own_bg b) : own_bg (a ++ b) := by obtain ⟨c, hc, q⟩ := h; exact ⟨c, List.mem_append.mpr (Or.inr hc), q⟩
theorem own_rng1 {c : Int32} (h0 : 0 ≤ c.toInt) (h1 : c.toInt < 65536) : own_rng [c] := fun d hd => by rw [List.mem_singleton.mp hd]; exact ⟨h0, h1⟩
theorem own_255 : (255 : Int32).toInt = 255 := by decide
theorem own_lat1 {c : Int32} (h : ¬ ((255 : Int32) < c)) : own_lat [c] := fun d hd => by
 rw [List.mem_singleton.mp hd]; rw [Int32.lt_iff_toInt_lt, own_255] at h; omega
theorem own_bg1 {c : Int32} {r : List Int32} (h : (255 : Int32) < c) : own_bg (c :: r) := ⟨c, List.mem_cons_self, by rw [Int32.lt_iff_toInt_lt, own_255] at h; exact h⟩
theorem own_nbi (x : Int32) : ((nar .byte (x.toInt8.toInt32)).toInt - x.toInt) % 256 = 0 ∧ -128 ≤ (nar .byte (x.toInt8.toInt32)).toInt ∧ (nar .byte (x.toInt8.toInt32)).toInt < 128 := by
 have h1 := c_i2b x
 have h2 := c_i2b (x.toInt8.toInt32)
 show ((x.toInt8.toInt32).toInt8.toInt32.toInt - x.toInt) % 256 = 0 ∧ -128 ≤ (x.toInt8.toInt32).toInt8.toInt32.toInt ∧ (x.toInt8.toInt32).toInt8.toInt32.toInt < 128
 omega
theorem own_m8 (x : Int32) : ((nar .byte (x.toInt8.toInt32)) &&& (255 : Int32)).toInt = x.toInt % 256 := by
 have q := own_nbi x
 have m := c_mask (nar .byte (x.toInt8.toInt32)) 255 8 (by decide) (by decide)
 omega
theorem own_m6 (x : Int32) : ((nar .byte (x.toInt8.toInt32)) &&& (63 : Int32)).toInt = x.toInt % 64 := by
 have q := own_nbi x
 have m := c_mask (nar .byte (x.toInt8.toInt32)) 63 6 (by decide) (by decide)
 omega
theorem own_bb {c : Int32} (h0 : 0 ≤ c.toInt) (h1 : c.toInt ≤ 255) : (own_by c &&& (255 : Int32)) = c := by
 have m := own_m8 c
 rw [← Int32.toInt_inj]
 show ((nar .byte (c.toInt8.toInt32)) &&& (255 : Int32)).toInt = c.toInt
 omega
theorem own_bbl {c : Int32} {cs : List Int32} (e : cs = [c]) (hr : own_rng cs) (hl : own_lat cs) : (own_by c &&& (255 : Int32)) = c :=
 own_bb (hr c (by rw [e]; exact List.mem_singleton.mpr rfl)).1 (hl c (by rw [e]; exact List.mem_singleton.mpr rfl))
theorem own_gc {c : Int32} (h0 : 0 ≤ c.toInt) (h1 : c.toInt < 65536) : ((((own_lo c) &&& (255 : Int32)) <<< ((0 : Int32) &&& 31)) ||| (((own_hi c) &&& (255 : Int32)) <<< ((8 : Int32) &&& 31))) = c := by
 have m1 : ((own_lo c) &&& (255 : Int32)).toInt = (c >>> ((0 : Int32) &&& 31)).toInt % 256 := own_m8 _
 have m2 : ((own_hi c) &&& (255 : Int32)).toInt = (c >>> ((8 : Int32) &&& 31)).toInt % 256 := own_m8 _
 have s1 := c_ishr c 0 0 (by decide)
 have s2 := c_ishr c 8 8 (by decide)
 have l1 := c_ishl ((own_lo c) &&& (255 : Int32)) 0 0 (by decide)
 have r1 := rng32 (((own_lo c) &&& (255 : Int32)) <<< ((0 : Int32) &&& 31))
 have l2 := c_ishl ((own_hi c) &&& (255 : Int32)) 8 8 (by decide)
 have r2 := rng32 (((own_hi c) &&& (255 : Int32)) <<< ((8 : Int32) &&& 31))
 have A1 : (((own_lo c) &&& (255 : Int32)) <<< ((0 : Int32) &&& 31)).toInt = c.toInt % 256 := by omega
 have A2 : (((own_hi c) &&& (255 : Int32)) <<< ((8 : Int32) &&& 31)).toInt = c.toInt / 256 * 256 := by omega
 have o := c_or' (((own_lo c) &&& (255 : Int32)) <<< ((0 : Int32) &&& 31)) (((own_hi c) &&& (255 : Int32)) <<< ((8 : Int32) &&& 31)) 8 (by decide) 256 (by decide) (by omega) (by omega) (by omega)
 have r3 := rng32 ((((own_lo c) &&& (255 : Int32)) <<< ((0 : Int32) &&& 31)) ||| (((own_hi c) &&& (255 : Int32)) <<< ((8 : Int32) &&& 31)))
 rw [← Int32.toInt_inj]; omega
theorem own_i2c {b : Int32} (h0 : 0 ≤ b.toInt) (h1 : b.toInt < 65536) : b.toUInt32.toUInt16.toUInt32.toInt32 = b := by
 have q := c_i2c b
 rw [← Int32.toInt_inj]; omega
theorem own_narc {a : Int32} (h0 : 0 ≤ a.toInt) (h1 : a.toInt < 65536) : nar .char a = a := own_i2c h0 h1
theorem own_i2cr (q : Int32) : 0 ≤ (q.toUInt32.toUInt16.toUInt32.toInt32).toInt ∧ (q.toUInt32.toUInt16.toUInt32.toInt32).toInt < 65536 := (c_i2c q).2
theorem own_or6 {c x : Int32} (h0 : 0 ≤ c.toInt) (h1 : c.toInt < 65536) (x0 : 0 ≤ x.toInt) (x1 : x.toInt < 64) : ((c <<< ((6 : Int32) &&& 31)) ||| x).toInt = c.toInt * 64 + x.toInt := by
 have l1 := c_ishl c 6 6 (by decide)
 have r1 := rng32 (c <<< ((6 : Int32) &&& 31))
 have A1 : (c <<< ((6 : Int32) &&& 31)).toInt = c.toInt * 64 := by omega
 have o := c_or (c <<< ((6 : Int32) &&& 31)) x 6 (by decide) 64 (by decide) (by omega) x0 x1
 have r3 := rng32 ((c <<< ((6 : Int32) &&& 31)) ||| x)
 omega
-- the bytes of a code point
def own_e10 (q : Int32) : Int32 := nar .byte (q.toInt8.toInt32)
def own_e20 (q : Int32) : Int32 := nar .byte (((192 : Int32) + (q / (64 : Int32))).toInt8.toInt32)
def own_e30 (q : Int32) : Int32 := nar .byte (((224 : Int32) + (q / (4096 : Int32))).toInt8.toInt32)
def own_e40 (q : Int32) : Int32 := nar .byte (((240 : Int32) + (q / (262144 : Int32))).toInt8.toInt32)
def own_t0 (q : Int32) : Int32 := nar .byte (((128 : Int32) + (q % (64 : Int32))).toInt8.toInt32)
def own_t1 (q : Int32) : Int32 := nar .byte (((128 : Int32) + ((q / (64 : Int32)) % (64 : Int32))).toInt8.toInt32)
def own_t2 (q : Int32) : Int32 := nar .byte (((128 : Int32) + ((q / (4096 : Int32)) % (64 : Int32))).toInt8.toInt32)
def own_enc (q : Int32) : List Value :=
 if q < (128 : Int32) then [.int (own_e10 q)] else if q < (2048 : Int32) then [.int (own_e20 q), .int (own_t0 q)] else if q < (65536 : Int32) then [.int (own_e30 q), .int (own_t1 q), .int (own_t0 q)] else [.int (own_e40 q), .int (own_t2 q), .int (own_t1 q), .int (own_t0 q)]
theorem own_enc1 {q : Int32} (h : q < (128 : Int32)) : own_enc q = [.int (own_e10 q)] := if_pos h
theorem own_enc2 {q : Int32} (h1 : ¬ q < (128 : Int32)) (h : q < (2048 : Int32)) : own_enc q = [.int (own_e20 q), .int (own_t0 q)] := by
 unfold own_enc; rw [if_neg h1, if_pos h]
theorem own_enc3 {q : Int32} (h1 : ¬ q < (128 : Int32)) (h2 : ¬ q < (2048 : Int32)) (h : q < (65536 : Int32)) : own_enc q = [.int (own_e30 q), .int (own_t1 q), .int (own_t0 q)] := by
 unfold own_enc; rw [if_neg h1, if_neg h2, if_pos h]
theorem own_enc4 {q : Int32} (h1 : ¬ q < (128 : Int32)) (h2 : ¬ q < (2048 : Int32)) (h : ¬ q < (65536 : Int32)) : own_enc q = [.int (own_e40 q), .int (own_t2 q), .int (own_t1 q), .int (own_t0 q)] := by
 unfold own_enc; rw [if_neg h1, if_neg h2, if_neg h]
def own_cp (q : Int32) : Prop := 0 ≤ q.toInt ∧ q.toInt < 1114112
theorem own_d64 {q : Int32} (h : own_cp q) : (q / (64 : Int32)).toInt = q.toInt / 64 := (c_idiv q 64 64 (by decide) (by decide)).1 h.1
theorem own_d4k {q : Int32} (h : own_cp q) : (q / (4096 : Int32)).toInt = q.toInt / 4096 := (c_idiv q 4096 4096 (by decide) (by decide)).1 h.1
theorem own_d18 {q : Int32} (h : own_cp q) : (q / (262144 : Int32)).toInt = q.toInt / 262144 := (c_idiv q 262144 262144 (by decide) (by decide)).1 h.1
theorem own_r64 {q : Int32} (h : 0 ≤ q.toInt) : (q % (64 : Int32)).toInt = q.toInt % 64 := (c_irem q 64 64 (by decide)).1 h
theorem own_add {k x : Int32} {K : Int} (hk : k.toInt = K) (h0 : 0 ≤ K) (h1 : K < 1000) (h2 : 0 ≤ x.toInt) (h3 : x.toInt < 1000000) : (k + x).toInt = K + x.toInt := by
 have a := c_iadd k x
 have r := rng32 (k + x)
 omega
theorem own_e10v {q : Int32} (h : own_cp q) (h1 : q.toInt < 128) : ((own_e10 q) &&& (255 : Int32)).toInt = q.toInt := by
 have m := own_m8 q
 have := h.1
 show ((nar .byte (q.toInt8.toInt32)) &&& (255 : Int32)).toInt = q.toInt
 omega
theorem own_e20v {q : Int32} (h : own_cp q) (h1 : q.toInt < 2048) : ((own_e20 q) &&& (255 : Int32)).toInt = 192 + q.toInt / 64 := by
 have m := own_m8 ((192 : Int32) + (q / (64 : Int32)))
 have d := own_d64 h
 have := h.1
 rw [own_add (K := 192) (by decide) (by decide) (by decide) (by omega) (by omega), d] at m
 show ((nar .byte (((192 : Int32) + (q / (64 : Int32))).toInt8.toInt32)) &&& (255 : Int32)).toInt = _
 omega
theorem own_e30v {q : Int32} (h : own_cp q) (h1 : q.toInt < 65536) : ((own_e30 q) &&& (255 : Int32)).toInt = 224 + q.toInt / 4096 := by
 have m := own_m8 ((224 : Int32) + (q / (4096 : Int32)))
 have d := own_d4k h
 have := h.1
 rw [own_add (K := 224) (by decide) (by decide) (by decide) (by omega) (by omega), d] at m
 show ((nar .byte (((224 : Int32) + (q / (4096 : Int32))).toInt8.toInt32)) &&& (255 : Int32)).toInt = _
 omega
theorem own_e40v {q : Int32} (h : own_cp q) : ((own_e40 q) &&& (255 : Int32)).toInt = 240 + q.toInt / 262144 := by
 have m := own_m8 ((240 : Int32) + (q / (262144 : Int32)))
 have d := own_d18 h
 have := h.1
 have := h.2
 rw [own_add (K := 240) (by decide) (by decide) (by decide) (by omega) (by omega), d] at m
 show ((nar .byte (((240 : Int32) + (q / (262144 : Int32))).toInt8.toInt32)) &&& (255 : Int32)).toInt = _
 omega
theorem own_t0v {q : Int32} (h : own_cp q) : ((own_t0 q) &&& (63 : Int32)).toInt = q.toInt % 64 := by
 have m := own_m6 ((128 : Int32) + (q % (64 : Int32)))
 have d := own_r64 h.1
 rw [own_add (K := 128) (by decide) (by decide) (by decide) (by omega) (by omega), d] at m
 show ((nar .byte (((128 : Int32) + (q % (64 : Int32))).toInt8.toInt32)) &&& (63 : Int32)).toInt = _
 omega
theorem own_t1v {q : Int32} (h : own_cp q) : ((own_t1 q) &&& (63 : Int32)).toInt = q.toInt / 64 % 64 := by
 have m := own_m6 ((128 : Int32) + ((q / (64 : Int32)) % (64 : Int32)))
 have d0 := own_d64 h
 have := h.1
 have d := own_r64 (q := q / (64 : Int32)) (by omega)
 rw [own_add (K := 128) (by decide) (by decide) (by decide) (by omega) (by omega), d, d0] at m
 show ((nar .byte (((128 : Int32) + ((q / (64 : Int32)) % (64 : Int32))).toInt8.toInt32)) &&& (63 : Int32)).toInt = _
 omega
theorem own_t2v {q : Int32} (h : own_cp q) : ((own_t2 q) &&& (63 : Int32)).toInt = q.toInt / 4096 % 64 := by
 have m := own_m6 ((128 : Int32) + ((q / (4096 : Int32)) % (64 : Int32)))
 have d0 := own_d4k h
 have := h.1
 have d := own_r64 (q := q / (4096 : Int32)) (by omega)
 rw [own_add (K := 128) (by decide) (by decide) (by decide) (by omega) (by omega), d, d0] at m
 show ((nar .byte (((128 : Int32) + ((q / (4096 : Int32)) % (64 : Int32))).toInt8.toInt32)) &&& (63 : Int32)).toInt = _
 omega
theorem own_c128 : (128 : Int32).toInt = 128 := by decide
theorem own_c224 : (224 : Int32).toInt = 224 := by decide
theorem own_c240 : (240 : Int32).toInt = 240 := by decide
theorem own_c2048 : (2048 : Int32).toInt = 2048 := by decide
theorem own_c65536 : (65536 : Int32).toInt = 65536 := by decide
theorem own_lt {q k : Int32} {K : Int} (hk : k.toInt = K) : q < k ↔ q.toInt < K := by rw [Int32.lt_iff_toInt_lt, hk]
-- the decoding
theorem own_dec1 {q : Int32} (h : own_cp q) (h1 : q < (128 : Int32)) : ((own_e10 q) &&& (255 : Int32)) = q := by
 rw [← Int32.toInt_inj]; exact own_e10v h ((own_lt own_c128).mp h1)
theorem own_dec2 {q : Int32} (h : own_cp q) (h1 : q < (2048 : Int32)) : (((((own_e20 q) &&& (255 : Int32)) &&& (31 : Int32)) <<< ((6 : Int32) &&& 31)) ||| ((own_t0 q) &&& (63 : Int32))) = q := by
 have g1 := (own_lt own_c2048).mp h1
 have v := own_e20v h g1
 have m := c_mask ((own_e20 q) &&& (255 : Int32)) 31 5 (by decide) (by decide)
 have t0 := own_t0v h
 have := h.1
 rw [← Int32.toInt_inj, own_or6 (by omega) (by omega) (by omega) (by omega)]
 omega
theorem own_dec3 {q : Int32} (h : own_cp q) (h1 : q < (65536 : Int32)) : (((((((own_e30 q) &&& (255 : Int32)) &&& (15 : Int32)) <<< ((6 : Int32) &&& 31)) ||| ((own_t1 q) &&& (63 : Int32))) <<< ((6 : Int32) &&& 31)) ||| ((own_t0 q) &&& (63 : Int32))) = q := by
 have g1 := (own_lt own_c65536).mp h1
 have v := own_e30v h g1
 have m := c_mask ((own_e30 q) &&& (255 : Int32)) 15 4 (by decide) (by decide)
 have t0 := own_t0v h
 have t1 := own_t1v h
 have := h.1
 have o1 := own_or6 (c := ((own_e30 q) &&& (255 : Int32)) &&& (15 : Int32)) (x := (own_t1 q) &&& (63 : Int32)) (by omega) (by omega) (by omega) (by omega)
 rw [← Int32.toInt_inj, own_or6 (by omega) (by omega) (by omega) (by omega)]
 omega
theorem own_dec4 {q : Int32} (h : own_cp q) : (((((((((own_e40 q) &&& (255 : Int32)) &&& (7 : Int32)) <<< ((6 : Int32) &&& 31)) ||| ((own_t2 q) &&& (63 : Int32))) <<< ((6 : Int32) &&& 31)) ||| ((own_t1 q) &&& (63 : Int32))) <<< ((6 : Int32) &&& 31)) ||| ((own_t0 q) &&& (63 : Int32))) = q := by
 have v := own_e40v h
 have m := c_mask ((own_e40 q) &&& (255 : Int32)) 7 3 (by decide) (by decide)
 have t0 := own_t0v h
 have t1 := own_t1v h
 have t2 := own_t2v h
 have := h.1
 have := h.2
 have o1 := own_or6 (c := ((own_e40 q) &&& (255 : Int32)) &&& (7 : Int32)) (x := (own_t2 q) &&& (63 : Int32)) (by omega) (by omega) (by omega) (by omega)
 have o2 := own_or6 (c := ((((own_e40 q) &&& (255 : Int32)) &&& (7 : Int32)) <<< ((6 : Int32) &&& 31)) ||| ((own_t2 q) &&& (63 : Int32))) (x := (own_t1 q) &&& (63 : Int32)) (by omega) (by omega) (by omega) (by omega)
 rw [← Int32.toInt_inj, own_or6 (by omega) (by omega) (by omega) (by omega)]
 omega
theorem own_l1a {q : Int32} (h : own_cp q) (h1 : q < (128 : Int32)) : ((own_e10 q) &&& (255 : Int32)) < (128 : Int32) := by
 rw [own_lt own_c128, own_e10v h ((own_lt own_c128).mp h1)]; exact (own_lt own_c128).mp h1
theorem own_l2a {q : Int32} (h : own_cp q) (h1 : q < (2048 : Int32)) : ¬ ((own_e20 q) &&& (255 : Int32)) < (128 : Int32) := by
 rw [own_lt own_c128, own_e20v h ((own_lt own_c2048).mp h1)]; have := h.1; omega
theorem own_l2b {q : Int32} (h : own_cp q) (h1 : q < (2048 : Int32)) : ((own_e20 q) &&& (255 : Int32)) < (224 : Int32) := by
 have g := (own_lt own_c2048).mp h1
 rw [own_lt own_c224, own_e20v h g]; omega
theorem own_l3a {q : Int32} (h : own_cp q) (h1 : q < (65536 : Int32)) : ¬ ((own_e30 q) &&& (255 : Int32)) < (128 : Int32) := by
 rw [own_lt own_c128, own_e30v h ((own_lt own_c65536).mp h1)]; have := h.1; omega
theorem own_l3b {q : Int32} (h : own_cp q) (h1 : q < (65536 : Int32)) : ¬ ((own_e30 q) &&& (255 : Int32)) < (224 : Int32) := by
 rw [own_lt own_c224, own_e30v h ((own_lt own_c65536).mp h1)]; have := h.1; omega
theorem own_l3c {q : Int32} (h : own_cp q) (h1 : q < (65536 : Int32)) : ((own_e30 q) &&& (255 : Int32)) < (240 : Int32) := by
 have g := (own_lt own_c65536).mp h1
 rw [own_lt own_c240, own_e30v h g]; omega
theorem own_l4a {q : Int32} (h : own_cp q) : ¬ ((own_e40 q) &&& (255 : Int32)) < (128 : Int32) := by
 rw [own_lt own_c128, own_e40v h]; have := h.1; omega
theorem own_l4b {q : Int32} (h : own_cp q) : ¬ ((own_e40 q) &&& (255 : Int32)) < (224 : Int32) := by
 rw [own_lt own_c224, own_e40v h]; have := h.1; omega
theorem own_l4c {q : Int32} (h : own_cp q) : ¬ ((own_e40 q) &&& (255 : Int32)) < (240 : Int32) := by
 rw [own_lt own_c240, own_e40v h]; have := h.1; omega
-- the units of a code point
def own_HI (q : Int32) : Int32 := nar .char (nar .char ((((q.toUInt32 >>> ((10 : Int32) &&& 31).toUInt32).toInt32) + (55232 : Int32)).toUInt32.toUInt16.toUInt32.toInt32))
def own_LO (q : Int32) : Int32 := nar .char (nar .char (((q &&& (1023 : Int32)) + (56320 : Int32)).toUInt32.toUInt16.toUInt32.toInt32))
def own_un (q : Int32) : List Int32 := if q < (65536 : Int32) then [q.toUInt32.toUInt16.toUInt32.toInt32] else [own_HI q, own_LO q]
theorem own_un1 {q : Int32} (h : q < (65536 : Int32)) : own_un q = [q.toUInt32.toUInt16.toUInt32.toInt32] := if_pos h
theorem own_un2 {q : Int32} (h : ¬ q < (65536 : Int32)) : own_un q = [own_HI q, own_LO q] := if_neg h
theorem own_HIv {q : Int32} (h : own_cp q) : (own_HI q).toInt = q.toInt / 1024 + 55232 := by
 have s := c_iushr q 10 10 (by decide) (by decide)
 have e : (55232 : Int32).toInt = 55232 := by decide
 have := h.1
 have := h.2
 have a := c_iadd ((q.toUInt32 >>> ((10 : Int32) &&& 31).toUInt32).toInt32) 55232
 have r := rng32 (((q.toUInt32 >>> ((10 : Int32) &&& 31).toUInt32).toInt32) + 55232)
 have v : (((q.toUInt32 >>> ((10 : Int32) &&& 31).toUInt32).toInt32) + (55232 : Int32)).toInt = q.toInt / 1024 + 55232 := by omega
 have w := own_narc (a := ((q.toUInt32 >>> ((10 : Int32) &&& 31).toUInt32).toInt32) + (55232 : Int32)) (by omega) (by omega)
 unfold own_HI
 rw [own_i2c (by omega) (by omega), w, w]
 exact v
theorem own_LOv {q : Int32} (h : own_cp q) : (own_LO q).toInt = q.toInt % 1024 + 56320 := by
 have s := c_mask q 1023 10 (by decide) (by decide)
 have e : (56320 : Int32).toInt = 56320 := by decide
 have := h.1
 have := h.2
 have a := c_iadd (q &&& 1023) 56320
 have r := rng32 ((q &&& 1023) + 56320)
 have v : ((q &&& (1023 : Int32)) + (56320 : Int32)).toInt = q.toInt % 1024 + 56320 := by omega
 have w := own_narc (a := (q &&& (1023 : Int32)) + (56320 : Int32)) (by omega) (by omega)
 unfold own_LO
 rw [own_i2c (by omega) (by omega), w, w]
 exact v
theorem own_HIe {q : Int32} (h : own_cp q) (h1 : ¬ q < (65536 : Int32)) : own_HI q = (((55296 : Int32) + ((q - (65536 : Int32)) / (1024 : Int32))).toUInt32.toUInt16.toUInt32.toInt32) := by
 have v := own_HIv h
 have g : ¬ q.toInt < 65536 := fun k => h1 ((own_lt own_c65536).mpr k)
 have s := c_isub q 65536
 have r := rng32 (q - 65536)
 have e := own_c65536
 have := h.2
 have w : (q - (65536 : Int32)).toInt = q.toInt - 65536 := by omega
 have d := (c_idiv (q - 65536) 1024 1024 (by decide) (by decide)).1 (by omega)
 have e2 : (55296 : Int32).toInt = 55296 := by decide
 have a := c_iadd 55296 ((q - 65536) / 1024)
 have r2 := rng32 (55296 + ((q - 65536) / 1024))
 have z : ((55296 : Int32) + ((q - (65536 : Int32)) / (1024 : Int32))).toInt = q.toInt / 1024 + 55232 := by omega
 rw [own_i2c (by omega) (by omega), ← Int32.toInt_inj]
 omega
theorem own_LOe {q : Int32} (h : own_cp q) (h1 : ¬ q < (65536 : Int32)) : own_LO q = (((56320 : Int32) + ((q - (65536 : Int32)) % (1024 : Int32))).toUInt32.toUInt16.toUInt32.toInt32) := by
 have v := own_LOv h
 have g : ¬ q.toInt < 65536 := fun k => h1 ((own_lt own_c65536).mpr k)
 have s := c_isub q 65536
 have r := rng32 (q - 65536)
 have e := own_c65536
 have := h.2
 have w : (q - (65536 : Int32)).toInt = q.toInt - 65536 := by omega
 have d := (c_irem (q - 65536) 1024 1024 (by decide)).1 (by omega)
 have e2 : (56320 : Int32).toInt = 56320 := by decide
 have a := c_iadd 56320 ((q - 65536) % 1024)
 have r2 := rng32 (56320 + ((q - 65536) % 1024))
 have z : ((56320 : Int32) + ((q - (65536 : Int32)) % (1024 : Int32))).toInt = q.toInt % 1024 + 56320 := by omega
 rw [own_i2c (by omega) (by omega), ← Int32.toInt_inj]
 omega
theorem own_hi255 {q : Int32} (h : own_cp q) (h1 : ¬ q < (65536 : Int32)) : (255 : Int32) < own_HI q := by
 have v := own_HIv h
 have := h.1
 rw [Int32.lt_iff_toInt_lt, own_255]; omega
theorem own_unr {q : Int32} (h : own_cp q) : own_rng (own_un q) := by
 by_cases h1 : q < (65536 : Int32)
 · rw [own_un1 h1]; exact own_rng1 (own_i2cr q).1 (own_i2cr q).2
 · rw [own_un2 h1]
   have a := own_HIv h
   have b := own_LOv h
   have := h.1
   have := h.2
   exact own_rng_app (a := [own_HI q]) (own_rng1 (by omega) (by omega)) (own_rng1 (by omega) (by omega))
theorem own_bmp {q : Int32} (h : own_cp q) : ((q.toUInt32 >>> ((16 : Int32) &&& 31).toUInt32).toInt32) = (0 : Int32) ↔ q < (65536 : Int32) := by
 have s := c_iushr q 16 16 (by decide) (by decide)
 have := h.1
 have := h.2
 rw [← Int32.toInt_inj, own_lt own_c65536, own_k0]
 constructor <;> intro k <;> omega
theorem own_val {q : Int32} (h : own_cp q) : ((q.toUInt32 >>> ((16 : Int32) &&& 31).toUInt32).toInt32) < (17 : Int32) := by
 have s := c_iushr q 16 16 (by decide) (by decide)
 have := h.1
 have := h.2
 have e : (17 : Int32).toInt = 17 := by decide
 rw [own_lt e]; omega
-- lists of code points
def own_key : List Int32 → List Value
 | [] => []
 | q :: r => own_enc q ++ own_key r
def own_uns : List Int32 → List Int32
 | [] => []
 | q :: r => own_un q ++ own_uns r
def own_cps (l : List Int32) : Prop := ∀ q ∈ l, own_cp q
theorem own_key_app (a b : List Int32) : own_key (a ++ b) = own_key a ++ own_key b := by
 induction a with
 | nil => rfl
 | cons q r ih => show own_enc q ++ own_key (r ++ b) = _; rw [ih, ← List.append_assoc]; rfl
theorem own_uns_app (a b : List Int32) : own_uns (a ++ b) = own_uns a ++ own_uns b := by
 induction a with
 | nil => rfl
 | cons q r ih => show own_un q ++ own_uns (r ++ b) = _; rw [ih, ← List.append_assoc]; rfl
theorem own_enl (q : Int32) : 1 ≤ (own_enc q).length ∧ (own_enc q).length ≤ 4 := by
 unfold own_enc; split
 · exact ⟨by simp, by simp⟩
 · split
   · exact ⟨by simp, by simp⟩
   · split <;> exact ⟨by simp, by simp⟩
theorem own_unl (q : Int32) : 1 ≤ (own_un q).length ∧ (own_un q).length ≤ 2 := by
 unfold own_un; split <;> exact ⟨by simp, by simp⟩
theorem own_unle (q : Int32) : (own_un q).length ≤ (own_enc q).length ∧ (own_bg (own_un q) → own_cp q → (own_un q).length < (own_enc q).length) := by
 by_cases h1 : q < (128 : Int32)
 · have h4 : q < (65536 : Int32) := (own_lt own_c65536).mpr (by have := (own_lt own_c128).mp h1; omega)
   rw [own_enc1 h1, own_un1 h4]
   refine ⟨by simp, fun g c => ?_⟩
   obtain ⟨d, hd, k⟩ := g
   rw [List.mem_singleton.mp hd, own_i2c c.1 (by have := (own_lt own_c128).mp h1; omega)] at k
   have := (own_lt own_c128).mp h1; omega
 · by_cases h2 : q < (2048 : Int32)
   · have h4 : q < (65536 : Int32) := (own_lt own_c65536).mpr (by have := (own_lt own_c2048).mp h2; omega)
     rw [own_enc2 h1 h2, own_un1 h4]; exact ⟨by simp, fun _ _ => by simp⟩
   · by_cases h3 : q < (65536 : Int32)
     · rw [own_enc3 h1 h2 h3, own_un1 h3]; exact ⟨by simp, fun _ _ => by simp⟩
     · rw [own_enc4 h1 h2 h3, own_un2 h3]; exact ⟨by simp, fun _ _ => by simp⟩
theorem own_unsle (l : List Int32) : (own_uns l).length ≤ (own_key l).length := by
 induction l with
 | nil => exact Nat.le_refl _
 | cons q r ih => show (own_un q ++ own_uns r).length ≤ (own_enc q ++ own_key r).length; rw [List.length_append, List.length_append]; have := (own_unle q).1; omega
theorem own_unslt (l : List Int32) (hc : own_cps l) (g : own_bg (own_uns l)) : (own_uns l).length < (own_key l).length := by
 induction l with
 | nil => obtain ⟨c, hd, _⟩ := g; cases hd
 | cons q r ih =>
   show (own_un q ++ own_uns r).length < (own_enc q ++ own_key r).length
   rw [List.length_append, List.length_append]
   obtain ⟨c, hd, k⟩ := g
   have u := own_unle q
   have w := own_unsle r
   rcases List.mem_append.mp hd with m | m
   · have := u.2 ⟨c, m, k⟩ (hc q List.mem_cons_self); omega
   · have := ih (fun z hz => hc z (List.mem_cons_of_mem _ hz)) ⟨c, m, k⟩; omega
theorem own_unsr (l : List Int32) (hc : own_cps l) : own_rng (own_uns l) := by
 induction l with
 | nil => intro c hd; cases hd
 | cons q r ih => exact own_rng_app (own_unr (hc q List.mem_cons_self)) (ih fun z hz => hc z (List.mem_cons_of_mem _ hz))
theorem own_keyl (l : List Int32) (h : l.length ≤ 2) : (own_key l).length ≤ 8 := by
 rcases l with _ | ⟨a, _ | ⟨b, _ | ⟨c, r⟩⟩⟩
 · exact Nat.zero_le _
 · show (own_enc a ++ []).length ≤ 8; rw [List.append_nil]; have := (own_enl a).2; omega
 · show (own_enc a ++ (own_enc b ++ [])).length ≤ 8; rw [List.append_nil, List.length_append]; have := (own_enl a).2; have := (own_enl b).2; omega
 · simp only [List.length_cons] at h; omega
theorem own_dn1 (l : List Int32) (h : l.length ≤ 1) : (own_uns l).length ≤ 2 := by
 rcases l with _ | ⟨a, _ | ⟨b, r⟩⟩
 · exact Nat.zero_le _
 · show (own_un a ++ []).length ≤ 2; rw [List.append_nil]; exact (own_unl a).2
 · simp only [List.length_cons] at h; omega
theorem own_dn2 (l : List Int32) (h : l.length ≤ 1) (hc : own_cps l) (e : (own_uns l).length = 2) : own_bg (own_uns l) := by
 rcases l with _ | ⟨a, _ | ⟨b, r⟩⟩
 · cases e
 · have e' : (own_un a ++ []).length = 2 := e
   show own_bg (own_un a ++ [])
   rw [List.append_nil] at e' ⊢
   by_cases h1 : a < (65536 : Int32)
   · rw [own_un1 h1] at e'; cases e'
   · rw [own_un2 h1]; exact own_bg1 (own_hi255 (hc a List.mem_cons_self) h1)
 · simp only [List.length_cons] at h; omega
theorem own_gd (p_ l : List Value) (j : Nat) (d : Value) : (p_ ++ l).getD (p_.length + j) d = l.getD j d := by
 rw [List.getD_eq_getElem?_getD, List.getD_eq_getElem?_getD, List.getElem?_append_right (Nat.le_add_right _ _), Nat.add_sub_cancel_left]
theorem own_nxt {vs : List Value} {i : Int32} (k : Int32) {K : Nat} (hk : k.toInt = K) (h : i.toInt = vs.length) (h8 : vs.length ≤ 8) (hK : K ≤ 4) : (i + k).toInt = (vs.length + K : Nat) := by
 have a := c_iadd i k
 have r := rng32 (i + k)
 omega
theorem own_u8l (cs : List Int32) : (own_u8 cs).length = cs.length := by
 induction cs with
 | nil => rfl
 | cons c r ih => show (own_u8 r).length + 1 = r.length + 1; rw [ih]
theorem own_u16l (cs : List Int32) : (own_u16 cs).length = 2 * cs.length := by
 induction cs with
 | nil => rfl
 | cons c r ih => show (own_u16 r).length + 1 + 1 = 2 * (r.length + 1); rw [ih]; omega
theorem own_u8g (cs : List Int32) (k : Nat) (h : k < cs.length) (d : Value) : (own_u8 cs).getD k d = .int (own_by (cs.getD k 0)) := by
 induction cs generalizing k with
 | nil => cases h
 | cons c r ih => cases k with
   | zero => rfl
   | succ k => exact ih k (Nat.lt_of_succ_lt_succ h)
theorem own_u16g (cs : List Int32) (k : Nat) (h : k < cs.length) (d : Value) : (own_u16 cs).getD (2 * k) d = .int (own_lo (cs.getD k 0)) ∧ (own_u16 cs).getD (2 * k + 1) d = .int (own_hi (cs.getD k 0)) := by
 induction cs generalizing k with
 | nil => cases h
 | cons c r ih => cases k with
   | zero => exact ⟨rfl, rfl⟩
   | succ k => exact ih k (Nat.lt_of_succ_lt_succ h)
theorem own_gmem {cs : List Int32} {k : Nat} (h : k < cs.length) : cs.getD k 0 ∈ cs := by
 rw [List.getD_eq_getElem?_getD, List.getElem?_eq_getElem h]; exact List.getElem_mem h
theorem d11_0 : decode k25_ 0 = .ok (.aload_n 0, 1) := by decide +kernel
theorem d11_1 : decode k25_ 1 = .ok (.iload_n 1, 1) := by decide +kernel
theorem d11_2 : decode k25_ 2 = .ok (.invokespecial 50, 3) := by decide +kernel
theorem pd_18 : parseMethodDescriptor "(C)Ljava/lang/AbstractStringBuilder;" = some ⟨[.char], some (.object "java/lang/AbstractStringBuilder")⟩ := by decide +kernel
theorem d11_5 : decode k25_ 5 = .ok (.pop, 1) := by decide +kernel
theorem d11_6 : decode k25_ 6 = .ok (.aload_n 0, 1) := by decide +kernel
theorem d11_7 : decode k25_ 7 = .ok (.areturn, 1) := by decide +kernel
theorem pn_5 : plainName "java/lang/StringBuilder" = true := by first | (simp [plainName, overriddenIn]; done) | decide +kernel
def QsbC (Z : State) (b : Addr) (c_ : Int32) (t : Addr) (N : Int32) (cs : List Int32) (h0 : Heap) (n0 : Nat) (v : Option Value) (h : Heap) (L : List Loc) : Prop := ∃ (t2_ : Addr) (k2_ : ClassId), v = some (.ref b) ∧ Fr n0 L ∧ Keep h0 h [b, t] ∧ (t2_ = t ∨ h0.size ≤ t2_) ∧ n0 ≤ t2_ ∧ b ≠ t2_ ∧ eX1 Z h b ∧ eX0 Z h t2_ ∧ own_SB Z h b t2_ k2_ N (cs ++ [c_])
theorem sbC (l : Launch) (Z : State) (a0 : Array Value) (hw : ∀ d ∈ tables_1, d.before a0 Z = true) (ws : List Jvm.Cond) (b : Addr) (c_ : Int32) (z : Int32) (t : Addr) (kt : ClassId) (N : Int32) (fm : Value) (cs : List Int32) (h0 : Heap) (n0 : Nat) (O : Old Z n0 h0) (j6_ : sT0 Z (.int 1)) (j7_ : sT1 Z (.int 0)) (j8_ : sT2 Z (.int 8)) (j5_ : sT3 Z fm) (hfm : fm.isRef = true) (j4_ : sT4 Z (.int z)) (hz : ¬ (z = (0 : Int32))) (E_b : eX1 Z h0 b) (j9_ : own_SB Z h0 b t kt N cs) (E_t : eX0 Z h0 t) (g_b : n0 ≤ b) (g_t : n0 ≤ t) (nbt : b ≠ t) (hN8 : N.toInt ≤ 8) (h2_ : cs.length ≤ 2) (ksu : cs.length = 2 → own_bg cs) (kc0 : 0 ≤ c_.toInt) (kc6 : c_.toInt < 65536) (hcl : (cs.length : Int) + 1 ≤ N.toInt) :
   own_MF l Z mN25 jdk_67_method_14_code 2 (some (.object "java/lang/StringBuilder")) ws rM15 #[(.ref b), (.int c_)] h0 (QsbC Z b c_ t N cs h0 n0) := by
 refine MetFree.of_bodySF (plainFor_of_name pn_5) hisR ?_
 intro p e s m args below meth c s₁ Bd hml0 hP hK
 obtain ⟨rfl, hZ, hh⟩ := hP
 have hx := Bd.exec
 have hby := Bd.bytes
 have B := @hb _ _ hby
 have hml : c.maxLocals = 2 := hml0
 have hown : s.vm.findClass "java/lang/StringBuilder" = some m.cls := findClass_of_methodNamed Bd.named
 have X0 : Stand p l e rM15 s m #[(.ref b), (.int c_)] below meth c s₁ [] 0 0 := Stand.of_body Bd
 have e0 : s₁.heap = h0 := by rw [← hh, Bd.state]; rfl
 have N0 := Fr.nil n0
 have K0 := Keep.refl h0 [b, t]
 refine own_start (ef_apL0 m b c_) (Q := own_QE s rM15 (QsbC Z b c_ t N cs h0 n0)) ?_
 show oF p e below (s₁.setTop (mkF m 0 #[.val (.ref b), .val (.int c_)] [])) _
 have hrg := own_SB_rng j9_
 rcases own_SBc j9_ h2_ ksu with ⟨hcs, hln, hla, j2_, j1_, j3_, j0_, V_t⟩ | ⟨i0, hcs, hln, hla, j2_, j1_, j3_, j0_, V_t⟩ | ⟨i0, hcs, hln, hbg, j2_, j1_, j3_, j0_, V_t⟩ | ⟨i0, i1, hcs, hln, hbg, j2_, j1_, j3_, j0_, V_t⟩
 ·by_cases hce : (255 : Int32) < c_
  ·show oF p e below (s₁.setTop (mkF m 0 #[.val (.ref b), .val (.int c_)] [])) _
   refine oG (fun _ k => XS.aloadN X0.here hx rfl (B d11_0) rfl rfl (XS.iloadN X0.here hx rfl (B d11_1) rfl k)) ?_
   show oF p e below (s₁.setTop (mkF m 2 #[.val (.ref b), .val (.int c_)] [(.int c_), (.ref b)])) _
   obtain ⟨_, _, ⟨T2V, L2V, k2V, n2V⟩, -, X2V, ⟨Lc2V, hQ2V, l2V, y2V, z2V⟩, st2V⟩ := superBack X0 hx hZ (y := mN19) hown (ow hw 60) (own_same (y := mN19) (ow hw 51) (ow hw 67) (by exact rfl) (by decide)) (ow hw 51) (ow hw 42) (by decide) (backOf (W := 0) (apI0 l Z a0 hw [] b c_ z t kt N fm h0 n0 O j6_ j7_ j8_ j5_ hfm j4_ hz E_b j2_ j0_ j1_ j3_ V_t E_t g_b g_t nbt (by omega) hN8 hce) hZ (ow hw 61) (ow hw 24) (by decide) (by decide)) e0 (Ins.self E_b) (g := (mkF m 2 #[.val (.ref b), .val (.int c_)] [(.int c_), (.ref b)])) rfl (by rw [hml]; rfl) (ow hw 61) (argsL := [(.int c_)]) (rest := []) (lenOf pd_18 rfl) rfl (by show 2 * 0 + _ ≤ _; exact Nat.le_of_eq rfl) (B d11_2) (fun _ _ => ⟨rfl, e0, (by decide : 0 + 1 ≤ _), (by decide : 0 + 16 ≤ _)⟩)
   dsimp only [Pt.U, Pt.locs, Pt.cells, Pt.slots] at X2V l2V y2V z2V st2V hQ2V
   subst y2V z2V
   obtain ⟨t2_2W, k2_2X, rfl, N2Vq, Kq2V, P2V_0, P2V_1, P2V_2, P2V_3, P2V_4, P2V_5, P2V_6, P2V_7⟩ := hQ2V
   refine oG (fun _ k => st2V.trans k) ?_
   have N2V := oL l2V (Fr.app N0 N2Vq)
   have ne_b_t2_271 : b ≠ t2_2W := Nat.ne_of_lt (Nat.lt_of_lt_of_le E_b.lt P2V_0)
   have ne_t_t2_271 : t ≠ t2_2W := Nat.ne_of_lt (Nat.lt_of_lt_of_le E_t.lt P2V_0)
   have g_t2_271 : n0 ≤ t2_2W := Nat.le_trans (own_osz O) P2V_0
   have sz_t2_271 : h0.size ≤ t2_2W := Nat.le_trans K0.1 P2V_0
   have E_b := E_b.keep Kq2V
   have E_t := E_t.keep Kq2V
   clear j2_
   clear j1_
   clear j3_
   clear j0_
   have V_t := V_t.keep Kq2V (ninS (Ne.symm nbt) nin0)
   have O := O.keep Kq2V (allS g_b all0)
   have K2Y := K0.trans Kq2V (allS (Or.inl (List.mem_of_getElem? (i := 0) rfl)) all0)
   have E_b := P2V_1
   have j2_ := P2V_2
   have j0_ := P2V_3
   have j1_ := P2V_4
   have j3_ := P2V_5
   have V_t2_271 := P2V_6
   have E_t2_271 := P2V_7
   show oF p e below (T2V.setTop (mkF m 5 #[.val (.ref b), .val (.int c_)] [(.ref b)])) _
   refine oG (fun _ k => XS.pop X2V.here hx rfl (B d11_5) rfl rfl (XS.aloadN X2V.here hx rfl (B d11_6) rfl rfl k)) ?_
   show oF p e below (T2V.setTop (mkF m 7 #[.val (.ref b), .val (.int c_)] [(.ref b)])) _
   obtain ⟨fs, hr, r1, r2, hW, r3⟩ := X2V.leave (v := some (.ref b)) (fun h => by rw [Bd.returns] at h; cases h)
   refine ⟨_, _, ?_, r1, r2, _, _, rfl, ?_, ⟨_, rfl⟩, hW, r3.mono (by decide) (by decide)⟩
   ·exact X2V.areturnOut hx rfl Bd.returns rfl (B d11_7) hr
   ·show QsbC Z b c_ t N cs h0 n0 _ T2V.heap _
    exact ⟨t2_2W, k2_2X, rfl, N2V, K2Y, (Or.inr sz_t2_271), g_t2_271, ne_b_t2_271, E_b, E_t2_271, (own_SBU j2_ j1_ j3_ (own_rng_app hrg (own_rng1 kc0 kc6)) j0_ V_t2_271 (own_bg_r (own_bg1 hce)) (by rw [hcs] <;> rfl) (by rw [hcs] <;> rfl))⟩
  ·show oF p e below (s₁.setTop (mkF m 0 #[.val (.ref b), .val (.int c_)] [])) _
   refine oG (fun _ k => XS.aloadN X0.here hx rfl (B d11_0) rfl rfl (XS.iloadN X0.here hx rfl (B d11_1) rfl k)) ?_
   show oF p e below (s₁.setTop (mkF m 2 #[.val (.ref b), .val (.int c_)] [(.int c_), (.ref b)])) _
   obtain ⟨_, _, ⟨T2Z, L2Z, k2Z, n2Z⟩, -, X2Z, ⟨Lc2Z, hQ2Z, l2Z, y2Z, z2Z⟩, st2Z⟩ := superBack X0 hx hZ (y := mN19) hown (ow hw 60) (own_same (y := mN19) (ow hw 51) (ow hw 67) (by exact rfl) (by decide)) (ow hw 51) (ow hw 42) (by decide) (backOf (W := 0) (apL0 l Z a0 hw [] b c_ z t kt N h0 n0 O j4_ hz E_b j2_ j0_ j1_ j3_ V_t E_t g_b g_t nbt (by omega) hN8 hce) hZ (ow hw 61) (ow hw 24) (by decide) (by decide)) e0 (Ins.self E_b) (g := (mkF m 2 #[.val (.ref b), .val (.int c_)] [(.int c_), (.ref b)])) rfl (by rw [hml]; rfl) (ow hw 61) (argsL := [(.int c_)]) (rest := []) (lenOf pd_18 rfl) rfl (by show 2 * 0 + _ ≤ _; exact Nat.le_of_eq rfl) (B d11_2) (fun _ _ => ⟨rfl, e0, (by decide : 0 + 0 ≤ _), (by decide : 0 + 0 ≤ _)⟩)
   dsimp only [Pt.U, Pt.locs, Pt.cells, Pt.slots] at X2Z l2Z y2Z z2Z st2Z hQ2Z
   subst y2Z z2Z
   obtain ⟨rfl, N2Zq, Kq2Z, P2Z_0, P2Z_1, P2Z_2, P2Z_3, P2Z_4, P2Z_5, P2Z_6⟩ := hQ2Z
   refine oG (fun _ k => st2Z.trans k) ?_
   have N2Z := oL l2Z (Fr.app N0 N2Zq)
   have E_b := E_b.keep Kq2Z
   have E_t := E_t.keep Kq2Z
   clear j2_
   clear j1_
   clear j3_
   clear j0_
   clear V_t
   have O := O.keep Kq2Z (allS g_b (allS g_t all0))
   have K3a := K0.trans Kq2Z (allS (Or.inl (List.mem_of_getElem? (i := 0) rfl)) (allS (Or.inl (List.mem_of_getElem? (i := 1) rfl)) all0))
   have E_b := P2Z_0
   have j2_ := P2Z_1
   have j0_ := P2Z_2
   have j1_ := P2Z_3
   have j3_ := P2Z_4
   have V_t := P2Z_5
   have E_t := P2Z_6
   show oF p e below (T2Z.setTop (mkF m 5 #[.val (.ref b), .val (.int c_)] [(.ref b)])) _
   refine oG (fun _ k => XS.pop X2Z.here hx rfl (B d11_5) rfl rfl (XS.aloadN X2Z.here hx rfl (B d11_6) rfl rfl k)) ?_
   show oF p e below (T2Z.setTop (mkF m 7 #[.val (.ref b), .val (.int c_)] [(.ref b)])) _
   obtain ⟨fs, hr, r1, r2, hW, r3⟩ := X2Z.leave (v := some (.ref b)) (fun h => by rw [Bd.returns] at h; cases h)
   refine ⟨_, _, ?_, r1, r2, _, _, rfl, ?_, ⟨_, rfl⟩, hW, r3.mono (by decide) (by decide)⟩
   ·exact X2Z.areturnOut hx rfl Bd.returns rfl (B d11_7) hr
   ·show QsbC Z b c_ t N cs h0 n0 _ T2Z.heap _
    exact ⟨t, kt, rfl, N2Z, K3a, (Or.inl rfl), g_t, nbt, E_b, E_t, (own_SBL j2_ j1_ j3_ (own_rng_app hrg (own_rng1 kc0 kc6)) j0_ V_t (own_lat_app hla (own_lat1 hce)) (by rw [hcs] <;> rfl) (by rw [hcs] <;> rfl))⟩
 ·by_cases hce : (255 : Int32) < c_
  ·show oF p e below (s₁.setTop (mkF m 0 #[.val (.ref b), .val (.int c_)] [])) _
   refine oG (fun _ k => XS.aloadN X0.here hx rfl (B d11_0) rfl rfl (XS.iloadN X0.here hx rfl (B d11_1) rfl k)) ?_
   show oF p e below (s₁.setTop (mkF m 2 #[.val (.ref b), .val (.int c_)] [(.int c_), (.ref b)])) _
   obtain ⟨_, _, ⟨T3b, L3b, k3b, n3b⟩, -, X3b, ⟨Lc3b, hQ3b, l3b, y3b, z3b⟩, st3b⟩ := superBack X0 hx hZ (y := mN19) hown (ow hw 60) (own_same (y := mN19) (ow hw 51) (ow hw 67) (by exact rfl) (by decide)) (ow hw 51) (ow hw 42) (by decide) (backOf (W := 0) (apI1 l Z a0 hw [] b c_ z t kt N (own_by i0) fm h0 n0 O j6_ j7_ j8_ j5_ hfm j4_ hz E_b j2_ j0_ j1_ j3_ V_t E_t g_b g_t nbt (by omega) hN8 hce) hZ (ow hw 61) (ow hw 24) (by decide) (by decide)) e0 (Ins.self E_b) (g := (mkF m 2 #[.val (.ref b), .val (.int c_)] [(.int c_), (.ref b)])) rfl (by rw [hml]; rfl) (ow hw 61) (argsL := [(.int c_)]) (rest := []) (lenOf pd_18 rfl) rfl (by show 2 * 0 + _ ≤ _; exact Nat.le_of_eq rfl) (B d11_2) (fun _ _ => ⟨rfl, e0, (by decide : 0 + 1 ≤ _), (by decide : 0 + 16 ≤ _)⟩)
   dsimp only [Pt.U, Pt.locs, Pt.cells, Pt.slots] at X3b l3b y3b z3b st3b hQ3b
   subst y3b z3b
   obtain ⟨t2_3c, k2_3d, rfl, N3bq, Kq3b, P3b_0, P3b_1, P3b_2, P3b_3, P3b_4, P3b_5, P3b_6, P3b_7⟩ := hQ3b
   refine oG (fun _ k => st3b.trans k) ?_
   have N3b := oL l3b (Fr.app N0 N3bq)
   have ne_b_t2_279 : b ≠ t2_3c := Nat.ne_of_lt (Nat.lt_of_lt_of_le E_b.lt P3b_0)
   have ne_t_t2_279 : t ≠ t2_3c := Nat.ne_of_lt (Nat.lt_of_lt_of_le E_t.lt P3b_0)
   have g_t2_279 : n0 ≤ t2_3c := Nat.le_trans (own_osz O) P3b_0
   have sz_t2_279 : h0.size ≤ t2_3c := Nat.le_trans K0.1 P3b_0
   have E_b := E_b.keep Kq3b
   have E_t := E_t.keep Kq3b
   clear j2_
   clear j1_
   clear j3_
   clear j0_
   have V_t := V_t.keep Kq3b (ninS (Ne.symm nbt) nin0)
   have O := O.keep Kq3b (allS g_b all0)
   have K3e := K0.trans Kq3b (allS (Or.inl (List.mem_of_getElem? (i := 0) rfl)) all0)
   have E_b := P3b_1
   have j2_ := P3b_2
   have j0_ := P3b_3
   have j1_ := P3b_4
   have j3_ := P3b_5
   have V_t2_279 := P3b_6
   have E_t2_279 := P3b_7
   show oF p e below (T3b.setTop (mkF m 5 #[.val (.ref b), .val (.int c_)] [(.ref b)])) _
   refine oG (fun _ k => XS.pop X3b.here hx rfl (B d11_5) rfl rfl (XS.aloadN X3b.here hx rfl (B d11_6) rfl rfl k)) ?_
   show oF p e below (T3b.setTop (mkF m 7 #[.val (.ref b), .val (.int c_)] [(.ref b)])) _
   obtain ⟨fs, hr, r1, r2, hW, r3⟩ := X3b.leave (v := some (.ref b)) (fun h => by rw [Bd.returns] at h; cases h)
   refine ⟨_, _, ?_, r1, r2, _, _, rfl, ?_, ⟨_, rfl⟩, hW, r3.mono (by decide) (by decide)⟩
   ·exact X3b.areturnOut hx rfl Bd.returns rfl (B d11_7) hr
   ·show QsbC Z b c_ t N cs h0 n0 _ T3b.heap _
    exact ⟨t2_3c, k2_3d, rfl, N3b, K3e, (Or.inr sz_t2_279), g_t2_279, ne_b_t2_279, E_b, E_t2_279, (own_SBU j2_ j1_ j3_ (own_rng_app hrg (own_rng1 kc0 kc6)) j0_ V_t2_279 (own_bg_r (own_bg1 hce)) (by rw [own_bbl hcs hrg hla, hcs] <;> rfl) (by rw [hcs] <;> rfl))⟩
  ·show oF p e below (s₁.setTop (mkF m 0 #[.val (.ref b), .val (.int c_)] [])) _
   refine oG (fun _ k => XS.aloadN X0.here hx rfl (B d11_0) rfl rfl (XS.iloadN X0.here hx rfl (B d11_1) rfl k)) ?_
   show oF p e below (s₁.setTop (mkF m 2 #[.val (.ref b), .val (.int c_)] [(.int c_), (.ref b)])) _
   obtain ⟨_, _, ⟨T3f, L3f, k3f, n3f⟩, -, X3f, ⟨Lc3f, hQ3f, l3f, y3f, z3f⟩, st3f⟩ := superBack X0 hx hZ (y := mN19) hown (ow hw 60) (own_same (y := mN19) (ow hw 51) (ow hw 67) (by exact rfl) (by decide)) (ow hw 51) (ow hw 42) (by decide) (backOf (W := 0) (apL1 l Z a0 hw [] b c_ z t kt N (own_by i0) h0 n0 O j4_ hz E_b j2_ j0_ j1_ j3_ V_t E_t g_b g_t nbt (by omega) hN8 hce) hZ (ow hw 61) (ow hw 24) (by decide) (by decide)) e0 (Ins.self E_b) (g := (mkF m 2 #[.val (.ref b), .val (.int c_)] [(.int c_), (.ref b)])) rfl (by rw [hml]; rfl) (ow hw 61) (argsL := [(.int c_)]) (rest := []) (lenOf pd_18 rfl) rfl (by show 2 * 0 + _ ≤ _; exact Nat.le_of_eq rfl) (B d11_2) (fun _ _ => ⟨rfl, e0, (by decide : 0 + 0 ≤ _), (by decide : 0 + 0 ≤ _)⟩)
   dsimp only [Pt.U, Pt.locs, Pt.cells, Pt.slots] at X3f l3f y3f z3f st3f hQ3f
   subst y3f z3f
   obtain ⟨rfl, N3fq, Kq3f, P3f_0, P3f_1, P3f_2, P3f_3, P3f_4, P3f_5, P3f_6⟩ := hQ3f
   refine oG (fun _ k => st3f.trans k) ?_
   have N3f := oL l3f (Fr.app N0 N3fq)
   have E_b := E_b.keep Kq3f
   have E_t := E_t.keep Kq3f
   clear j2_
   clear j1_
   clear j3_
   clear j0_
   clear V_t
   have O := O.keep Kq3f (allS g_b (allS g_t all0))
   have K3g := K0.trans Kq3f (allS (Or.inl (List.mem_of_getElem? (i := 0) rfl)) (allS (Or.inl (List.mem_of_getElem? (i := 1) rfl)) all0))
   have E_b := P3f_0
   have j2_ := P3f_1
   have j0_ := P3f_2
   have j1_ := P3f_3
   have j3_ := P3f_4
   have V_t := P3f_5
   have E_t := P3f_6
   show oF p e below (T3f.setTop (mkF m 5 #[.val (.ref b), .val (.int c_)] [(.ref b)])) _
   refine oG (fun _ k => XS.pop X3f.here hx rfl (B d11_5) rfl rfl (XS.aloadN X3f.here hx rfl (B d11_6) rfl rfl k)) ?_
   show oF p e below (T3f.setTop (mkF m 7 #[.val (.ref b), .val (.int c_)] [(.ref b)])) _
   obtain ⟨fs, hr, r1, r2, hW, r3⟩ := X3f.leave (v := some (.ref b)) (fun h => by rw [Bd.returns] at h; cases h)
   refine ⟨_, _, ?_, r1, r2, _, _, rfl, ?_, ⟨_, rfl⟩, hW, r3.mono (by decide) (by decide)⟩
   ·exact X3f.areturnOut hx rfl Bd.returns rfl (B d11_7) hr
   ·show QsbC Z b c_ t N cs h0 n0 _ T3f.heap _
    exact ⟨t, kt, rfl, N3f, K3g, (Or.inl rfl), g_t, nbt, E_b, E_t, (own_SBL j2_ j1_ j3_ (own_rng_app hrg (own_rng1 kc0 kc6)) j0_ V_t (own_lat_app hla (own_lat1 hce)) (by rw [hcs] <;> rfl) (by rw [hcs] <;> rfl))⟩
 ·show oF p e below (s₁.setTop (mkF m 0 #[.val (.ref b), .val (.int c_)] [])) _
  refine oG (fun _ k => XS.aloadN X0.here hx rfl (B d11_0) rfl rfl (XS.iloadN X0.here hx rfl (B d11_1) rfl k)) ?_
  show oF p e below (s₁.setTop (mkF m 2 #[.val (.ref b), .val (.int c_)] [(.int c_), (.ref b)])) _
  obtain ⟨_, _, ⟨T3h, L3h, k3h, n3h⟩, -, X3h, ⟨Lc3h, hQ3h, l3h, y3h, z3h⟩, st3h⟩ := superBack X0 hx hZ (y := mN19) hown (ow hw 60) (own_same (y := mN19) (ow hw 51) (ow hw 67) (by exact rfl) (by decide)) (ow hw 51) (ow hw 42) (by decide) (backOf (W := 0) (apU1 l Z a0 hw [] b c_ z t kt N (own_lo i0) (own_hi i0) fm h0 n0 O j6_ j7_ j8_ j5_ hfm j4_ hz E_b j2_ j0_ j1_ j3_ V_t E_t g_b g_t nbt (by omega) hN8) hZ (ow hw 61) (ow hw 24) (by decide) (by decide)) e0 (Ins.self E_b) (g := (mkF m 2 #[.val (.ref b), .val (.int c_)] [(.int c_), (.ref b)])) rfl (by rw [hml]; rfl) (ow hw 61) (argsL := [(.int c_)]) (rest := []) (lenOf pd_18 rfl) rfl (by show 2 * 0 + _ ≤ _; exact Nat.le_of_eq rfl) (B d11_2) (fun _ _ => ⟨rfl, e0, (by decide : 0 + 0 ≤ _), (by decide : 0 + 0 ≤ _)⟩)
  dsimp only [Pt.U, Pt.locs, Pt.cells, Pt.slots] at X3h l3h y3h z3h st3h hQ3h
  subst y3h z3h
  obtain ⟨rfl, N3hq, Kq3h, P3h_0, P3h_1, P3h_2, P3h_3, P3h_4, P3h_5, P3h_6⟩ := hQ3h
  refine oG (fun _ k => st3h.trans k) ?_
  have N3h := oL l3h (Fr.app N0 N3hq)
  have E_b := E_b.keep Kq3h
  have E_t := E_t.keep Kq3h
  clear j2_
  clear j1_
  clear j3_
  clear j0_
  clear V_t
  have O := O.keep Kq3h (allS g_b (allS g_t all0))
  have K3i := K0.trans Kq3h (allS (Or.inl (List.mem_of_getElem? (i := 0) rfl)) (allS (Or.inl (List.mem_of_getElem? (i := 1) rfl)) all0))
  have E_b := P3h_0
  have j2_ := P3h_1
  have j0_ := P3h_2
  have j1_ := P3h_3
  have j3_ := P3h_4
  have V_t := P3h_5
  have E_t := P3h_6
  show oF p e below (T3h.setTop (mkF m 5 #[.val (.ref b), .val (.int c_)] [(.ref b)])) _
  refine oG (fun _ k => XS.pop X3h.here hx rfl (B d11_5) rfl rfl (XS.aloadN X3h.here hx rfl (B d11_6) rfl rfl k)) ?_
  show oF p e below (T3h.setTop (mkF m 7 #[.val (.ref b), .val (.int c_)] [(.ref b)])) _
  obtain ⟨fs, hr, r1, r2, hW, r3⟩ := X3h.leave (v := some (.ref b)) (fun h => by rw [Bd.returns] at h; cases h)
  refine ⟨_, _, ?_, r1, r2, _, _, rfl, ?_, ⟨_, rfl⟩, hW, r3.mono (by decide) (by decide)⟩
  ·exact X3h.areturnOut hx rfl Bd.returns rfl (B d11_7) hr
  ·show QsbC Z b c_ t N cs h0 n0 _ T3h.heap _
   exact ⟨t, kt, rfl, N3h, K3i, (Or.inl rfl), g_t, nbt, E_b, E_t, (own_SBU j2_ j1_ j3_ (own_rng_app hrg (own_rng1 kc0 kc6)) j0_ V_t (own_bg_l hbg) (by rw [hcs] <;> rfl) (by rw [hcs] <;> rfl))⟩
 ·show oF p e below (s₁.setTop (mkF m 0 #[.val (.ref b), .val (.int c_)] [])) _
  refine oG (fun _ k => XS.aloadN X0.here hx rfl (B d11_0) rfl rfl (XS.iloadN X0.here hx rfl (B d11_1) rfl k)) ?_
  show oF p e below (s₁.setTop (mkF m 2 #[.val (.ref b), .val (.int c_)] [(.int c_), (.ref b)])) _
  obtain ⟨_, _, ⟨T3j, L3j, k3j, n3j⟩, -, X3j, ⟨Lc3j, hQ3j, l3j, y3j, z3j⟩, st3j⟩ := superBack X0 hx hZ (y := mN19) hown (ow hw 60) (own_same (y := mN19) (ow hw 51) (ow hw 67) (by exact rfl) (by decide)) (ow hw 51) (ow hw 42) (by decide) (backOf (W := 0) (apU2 l Z a0 hw [] b c_ z t kt N (own_lo i0) (own_hi i0) (own_lo i1) (own_hi i1) fm h0 n0 O j6_ j7_ j8_ j5_ hfm j4_ hz E_b j2_ j0_ j1_ j3_ V_t E_t g_b g_t nbt (by omega) hN8) hZ (ow hw 61) (ow hw 24) (by decide) (by decide)) e0 (Ins.self E_b) (g := (mkF m 2 #[.val (.ref b), .val (.int c_)] [(.int c_), (.ref b)])) rfl (by rw [hml]; rfl) (ow hw 61) (argsL := [(.int c_)]) (rest := []) (lenOf pd_18 rfl) rfl (by show 2 * 0 + _ ≤ _; exact Nat.le_of_eq rfl) (B d11_2) (fun _ _ => ⟨rfl, e0, (by decide : 0 + 0 ≤ _), (by decide : 0 + 0 ≤ _)⟩)
  dsimp only [Pt.U, Pt.locs, Pt.cells, Pt.slots] at X3j l3j y3j z3j st3j hQ3j
  subst y3j z3j
  obtain ⟨rfl, N3jq, Kq3j, P3j_0, P3j_1, P3j_2, P3j_3, P3j_4, P3j_5, P3j_6⟩ := hQ3j
  refine oG (fun _ k => st3j.trans k) ?_
  have N3j := oL l3j (Fr.app N0 N3jq)
  have E_b := E_b.keep Kq3j
  have E_t := E_t.keep Kq3j
  clear j2_
  clear j1_
  clear j3_
  clear j0_
  clear V_t
  have O := O.keep Kq3j (allS g_b (allS g_t all0))
  have K3k := K0.trans Kq3j (allS (Or.inl (List.mem_of_getElem? (i := 0) rfl)) (allS (Or.inl (List.mem_of_getElem? (i := 1) rfl)) all0))
  have E_b := P3j_0
  have j2_ := P3j_1
  have j0_ := P3j_2
  have j1_ := P3j_3
  have j3_ := P3j_4
  have V_t := P3j_5
  have E_t := P3j_6
  show oF p e below (T3j.setTop (mkF m 5 #[.val (.ref b), .val (.int c_)] [(.ref b)])) _
  refine oG (fun _ k => XS.pop X3j.here hx rfl (B d11_5) rfl rfl (XS.aloadN X3j.here hx rfl (B d11_6) rfl rfl k)) ?_
  show oF p e below (T3j.setTop (mkF m 7 #[.val (.ref b), .val (.int c_)] [(.ref b)])) _
  obtain ⟨fs, hr, r1, r2, hW, r3⟩ := X3j.leave (v := some (.ref b)) (fun h => by rw [Bd.returns] at h; cases h)
  refine ⟨_, _, ?_, r1, r2, _, _, rfl, ?_, ⟨_, rfl⟩, hW, r3.mono (by decide) (by decide)⟩
  ·exact X3j.areturnOut hx rfl Bd.returns rfl (B d11_7) hr
  ·show QsbC Z b c_ t N cs h0 n0 _ T3j.heap _
   exact ⟨t, kt, rfl, N3j, K3k, (Or.inl rfl), g_t, nbt, E_b, E_t, (own_SBU j2_ j1_ j3_ (own_rng_app hrg (own_rng1 kc0 kc6)) j0_ V_t (own_bg_l hbg) (by rw [hcs] <;> rfl) (by rw [hcs] <;> rfl))⟩
theorem d10_0 : decode k26_ 0 = .ok (.aload_n 0, 1) := by decide +kernel
theorem d10_1 : decode k26_ 1 = .ok (.iload_n 1, 1) := by decide +kernel
theorem d10_2 : decode k26_ 2 = .ok (.invokevirtual 284, 3) := by decide +kernel
theorem pd_19 : parseMethodDescriptor "(C)Ljava/lang/StringBuilder;" = some ⟨[.char], some (.object "java/lang/StringBuilder")⟩ := by decide +kernel
theorem d10_5 : decode k26_ 5 = .ok (.areturn, 1) := by decide +kernel
def QsbB (Z : State) (b : Addr) (c_ : Int32) (t : Addr) (N : Int32) (cs : List Int32) (h0 : Heap) (n0 : Nat) (v : Option Value) (h : Heap) (L : List Loc) : Prop := ∃ (t2_ : Addr) (k2_ : ClassId), v = some (.ref b) ∧ Fr n0 L ∧ Keep h0 h [b, t] ∧ (t2_ = t ∨ h0.size ≤ t2_) ∧ n0 ≤ t2_ ∧ b ≠ t2_ ∧ eX1 Z h b ∧ eX0 Z h t2_ ∧ own_SB Z h b t2_ k2_ N (cs ++ [c_])
theorem sbB (l : Launch) (Z : State) (a0 : Array Value) (hw : ∀ d ∈ tables_1, d.before a0 Z = true) (ws : List Jvm.Cond) (b : Addr) (c_ : Int32) (z : Int32) (t : Addr) (kt : ClassId) (N : Int32) (fm : Value) (cs : List Int32) (h0 : Heap) (n0 : Nat) (O : Old Z n0 h0) (j6_ : sT0 Z (.int 1)) (j7_ : sT1 Z (.int 0)) (j8_ : sT2 Z (.int 8)) (j5_ : sT3 Z fm) (hfm : fm.isRef = true) (j4_ : sT4 Z (.int z)) (hz : ¬ (z = (0 : Int32))) (E_b : eX1 Z h0 b) (j9_ : own_SB Z h0 b t kt N cs) (E_t : eX0 Z h0 t) (g_b : n0 ≤ b) (g_t : n0 ≤ t) (nbt : b ≠ t) (hN8 : N.toInt ≤ 8) (h2_ : cs.length ≤ 2) (ksu : cs.length = 2 → own_bg cs) (kc0 : 0 ≤ c_.toInt) (kc6 : c_.toInt < 65536) (hcl : (cs.length : Int) + 1 ≤ N.toInt) :
   own_MF l Z mN26 jdk_67_method_73_code 2 (some (.object "java/lang/AbstractStringBuilder")) ws rM16 #[(.ref b), (.int c_)] h0 (QsbB Z b c_ t N cs h0 n0) := by
 refine MetFree.of_bodySF (plainFor_of_name pn_5) hisR ?_
 intro p e s m args below meth c s₁ Bd hml0 hP hK
 obtain ⟨rfl, hZ, hh⟩ := hP
 have hx := Bd.exec
 have hby := Bd.bytes
 have B := @hb _ _ hby
 have hml : c.maxLocals = 2 := hml0
 have hown : s.vm.findClass "java/lang/StringBuilder" = some m.cls := findClass_of_methodNamed Bd.named
 have X0 : Stand p l e rM16 s m #[(.ref b), (.int c_)] below meth c s₁ [] 0 0 := Stand.of_body Bd
 have e0 : s₁.heap = h0 := by rw [← hh, Bd.state]; rfl
 have N0 := Fr.nil n0
 have K0 := Keep.refl h0 [b, t]
 refine own_start (ef_apL0 m b c_) (Q := own_QE s rM16 (QsbB Z b c_ t N cs h0 n0)) ?_
 show oF p e below (s₁.setTop (mkF m 0 #[.val (.ref b), .val (.int c_)] [])) _
 refine oG (fun _ k => XS.aloadN X0.here hx rfl (B d10_0) rfl rfl (XS.iloadN X0.here hx rfl (B d10_1) rfl k)) ?_
 show oF p e below (s₁.setTop (mkF m 2 #[.val (.ref b), .val (.int c_)] [(.int c_), (.ref b)])) _
 obtain ⟨cq3l, kq3l, q3la, q3lb, q3lc⟩ := isOf hZ e0 E_b
 obtain ⟨_, _, ⟨T3l, L3l, k3l, n3l⟩, -, X3l, ⟨Lc3l, hQ3l, l3l, y3l, z3l⟩, st3l⟩ := X0.virtualBack hx (y := mN25) (z := mN25) hown (mo hZ hw 55) (mo hZ hw 56) (notFace_of_selects (args := #[]) (mo hZ hw 58)) (mo hZ hw 58) (mo hZ hw 57) (by decide) (backOf (W := 0) (sbC l Z a0 hw [] b c_ z t kt N fm cs h0 n0 O j6_ j7_ j8_ j5_ hfm j4_ hz E_b j9_ E_t g_b g_t nbt hN8 h2_ ksu kc0 kc6 hcl) hZ (ow hw 59) (ow hw 16) (by decide) (by decide)) q3la q3lc (g := (mkF m 2 #[.val (.ref b), .val (.int c_)] [(.int c_), (.ref b)])) rfl (by rw [hml]; rfl) (Steps.refl _) (argsL := [(.int c_)]) (rest := []) (lenOf pd_19 rfl) rfl (by show 2 * 0 + _ ≤ _; exact Nat.le_of_eq rfl) (B d10_2) (fun _ _ => ⟨rfl, e0, (by decide : 0 + 1 ≤ _), (by decide : 0 + 16 ≤ _)⟩)
 dsimp only [Pt.U, Pt.locs, Pt.cells, Pt.slots] at X3l l3l y3l z3l st3l hQ3l
 subst y3l z3l
 obtain ⟨t2_3m, k2_3n, rfl, N3lq, Kq3l, P3l_0, P3l_1, P3l_2, P3l_3, P3l_4, P3l_5⟩ := hQ3l
 refine oG (fun _ k => st3l.trans k) ?_
 have N3l := oL l3l (Fr.app N0 N3lq)
 have E_b := E_b.keep Kq3l
 clear j9_
 have E_t := E_t.keep Kq3l
 have O := O.keep Kq3l (allS g_b (allS g_t all0))
 have K3o := K0.trans Kq3l (allS (Or.inl (List.mem_of_getElem? (i := 0) rfl)) (allS (Or.inl (List.mem_of_getElem? (i := 1) rfl)) all0))
 have E_b := P3l_3
 have E_t2_293 := P3l_4
 have j9_ := P3l_5
 show oF p e below (T3l.setTop (mkF m 5 #[.val (.ref b), .val (.int c_)] [(.ref b)])) _
 obtain ⟨fs, hr, r1, r2, hW, r3⟩ := X3l.leave (v := some (.ref b)) (fun h => by rw [Bd.returns] at h; cases h)
 refine ⟨_, _, ?_, r1, r2, _, _, rfl, ?_, ⟨_, rfl⟩, hW, r3.mono (by decide) (by decide)⟩
 ·exact X3l.areturnOut hx rfl Bd.returns rfl (B d10_5) hr
 ·show QsbB Z b c_ t N cs h0 n0 _ T3l.heap _
  exact ⟨t2_3m, k2_3n, rfl, N3l, K3o, (P3l_0.imp id (Nat.le_trans K0.1)), P3l_1, P3l_2, E_b, E_t2_293, j9_⟩
theorem d41_0 : decode k27_ 0 = .ok (.aload_n 0, 1) := by decide +kernel
theorem d41_1 : decode k27_ 1 = .ok (.aload_n 1, 1) := by decide +kernel
theorem d41_2 : decode k27_ 2 = .ok (.invokespecial 41, 3) := by decide +kernel
theorem pd_20 : parseMethodDescriptor "([C)Ljava/lang/AbstractStringBuilder;" = some ⟨[(.array .char)], some (.object "java/lang/AbstractStringBuilder")⟩ := by decide +kernel
theorem d41_5 : decode k27_ 5 = .ok (.pop, 1) := by decide +kernel
theorem d41_6 : decode k27_ 6 = .ok (.aload_n 0, 1) := by decide +kernel
theorem d41_7 : decode k27_ 7 = .ok (.areturn, 1) := by decide +kernel
theorem ef_sbD (m : MethodId) (x0 : Addr) (x1 : Addr) : entryFrame m #[(.ref x0), (.ref x1)] 2 = mkF m 0 #[.val (.ref x0), .val (.ref x1)] [] := by first | (simp [entryFrame, mkF, argsToLocals, Value.category]; done) | rfl
def QsbD (Z : State) (b : Addr) (t : Addr) (N : Int32) (cs : List Int32) (c0_ : Int32) (c1_ : Int32) (h0 : Heap) (n0 : Nat) (v : Option Value) (h : Heap) (L : List Loc) : Prop := ∃ (t2_ : Addr) (k2_ : ClassId), v = some (.ref b) ∧ Fr n0 L ∧ Keep h0 h [b, t] ∧ (t2_ = t ∨ h0.size ≤ t2_) ∧ n0 ≤ t2_ ∧ b ≠ t2_ ∧ eX1 Z h b ∧ eX0 Z h t2_ ∧ own_SB Z h b t2_ k2_ N (cs ++ [c0_, c1_])
theorem sbD (l : Launch) (Z : State) (a0 : Array Value) (hw : ∀ d ∈ tables_1, d.before a0 Z = true) (ws : List Jvm.Cond) (b : Addr) (ch : Addr) (z : Int32) (t : Addr) (kt : ClassId) (N : Int32) (fm : Value) (cs : List Int32) (kc : ClassId) (c0_ : Int32) (c1_ : Int32) (h0 : Heap) (n0 : Nat) (O : Old Z n0 h0) (j6_ : sT0 Z (.int 1)) (j7_ : sT1 Z (.int 0)) (j8_ : sT2 Z (.int 8)) (j5_ : sT3 Z fm) (hfm : fm.isRef = true) (j4_ : sT4 Z (.int z)) (hz : ¬ (z = (0 : Int32))) (E_b : eX1 Z h0 b) (j9_ : own_SB Z h0 b t kt N cs) (E_t : eX0 Z h0 t) (g_b : n0 ≤ b) (g_t : n0 ≤ t) (nbt : b ≠ t) (hN8 : N.toInt ≤ 8) (h2_ : cs.length ≤ 2) (ksu : cs.length = 2 → own_bg cs) (V_ch : Arv Z h0 ch kc .char (2 : Int32) [(.int c0_), (.int c1_)] (.int 0)) (hc0 : (255 : Int32) < c0_) (ntc : t ≠ ch) (nbc : b ≠ ch) (kr : own_rng [c0_, c1_]) (hcl : (cs.length : Int) + 2 ≤ N.toInt) :
   own_MF l Z mN27 jdk_67_method_11_code 2 (some (.object "java/lang/StringBuilder")) ws rM17 #[(.ref b), (.ref ch)] h0 (QsbD Z b t N cs c0_ c1_ h0 n0) := by
 refine MetFree.of_bodySF (plainFor_of_name pn_5) hisR ?_
 intro p e s m args below meth c s₁ Bd hml0 hP hK
 obtain ⟨rfl, hZ, hh⟩ := hP
 have hx := Bd.exec
 have hby := Bd.bytes
 have B := @hb _ _ hby
 have hml : c.maxLocals = 2 := hml0
 have hown : s.vm.findClass "java/lang/StringBuilder" = some m.cls := findClass_of_methodNamed Bd.named
 have X0 : Stand p l e rM17 s m #[(.ref b), (.ref ch)] below meth c s₁ [] 0 0 := Stand.of_body Bd
 have e0 : s₁.heap = h0 := by rw [← hh, Bd.state]; rfl
 have N0 := Fr.nil n0
 have K0 := Keep.refl h0 [b, t]
 refine own_start (ef_sbD m b ch) (Q := own_QE s rM17 (QsbD Z b t N cs c0_ c1_ h0 n0)) ?_
 show oF p e below (s₁.setTop (mkF m 0 #[.val (.ref b), .val (.ref ch)] [])) _
 have hrg := own_SB_rng j9_
 rcases own_SBc j9_ h2_ ksu with ⟨hcs, hln, hla, j2_, j1_, j3_, j0_, V_t⟩ | ⟨i0, hcs, hln, hla, j2_, j1_, j3_, j0_, V_t⟩ | ⟨i0, hcs, hln, hbg, j2_, j1_, j3_, j0_, V_t⟩ | ⟨i0, i1, hcs, hln, hbg, j2_, j1_, j3_, j0_, V_t⟩
 ·show oF p e below (s₁.setTop (mkF m 0 #[.val (.ref b), .val (.ref ch)] [])) _
  refine oG (fun _ k => XS.aloadN X0.here hx rfl (B d41_0) rfl rfl (XS.aloadN X0.here hx rfl (B d41_1) rfl rfl k)) ?_
  show oF p e below (s₁.setTop (mkF m 2 #[.val (.ref b), .val (.ref ch)] [(.ref ch), (.ref b)])) _
  obtain ⟨_, _, ⟨T3p, L3p, k3p, n3p⟩, -, X3p, ⟨Lc3p, hQ3p, l3p, y3p, z3p⟩, st3p⟩ := superBack X0 hx hZ (y := mN24) hown (ow hw 208) (own_same (y := mN24) (ow hw 199) (ow hw 67) (by exact rfl) (by decide)) (ow hw 199) (ow hw 42) (by decide) (backOf (W := 0) (adI0 l Z a0 hw [] b ch z t kt N kc c0_ c1_ fm h0 n0 O j6_ j7_ j8_ j5_ hfm j4_ hz E_b j2_ j0_ j1_ j3_ V_t E_t V_ch g_b g_t nbt (by omega) hN8 hc0 ntc nbc) hZ (ow hw 209) (ow hw 24) (by decide) (by decide)) e0 (Ins.self E_b) (g := (mkF m 2 #[.val (.ref b), .val (.ref ch)] [(.ref ch), (.ref b)])) rfl (by rw [hml]; rfl) (ow hw 209) (argsL := [(.ref ch)]) (rest := []) (lenOf pd_20 rfl) rfl (by show 2 * 0 + _ ≤ _; exact Nat.le_of_eq rfl) (B d41_2) (fun _ _ => ⟨rfl, e0, (by decide : 0 + 1 ≤ _), (by decide : 0 + 16 ≤ _)⟩)
  dsimp only [Pt.U, Pt.locs, Pt.cells, Pt.slots] at X3p l3p y3p z3p st3p hQ3p
  subst y3p z3p
  obtain ⟨t2_3q, k2_3r, rfl, N3pq, Kq3p, P3p_0, P3p_1, P3p_2, P3p_3, P3p_4, P3p_5, P3p_6, P3p_7⟩ := hQ3p
  refine oG (fun _ k => st3p.trans k) ?_
  have N3p := oL l3p (Fr.app N0 N3pq)
  have ne_b_t2_298 : b ≠ t2_3q := Nat.ne_of_lt (Nat.lt_of_lt_of_le E_b.lt P3p_0)
  have ne_t_t2_298 : t ≠ t2_3q := Nat.ne_of_lt (Nat.lt_of_lt_of_le E_t.lt P3p_0)
  have ne_ch_t2_298 : ch ≠ t2_3q := Nat.ne_of_lt (Nat.lt_of_lt_of_le V_ch.lt P3p_0)
  have g_t2_298 : n0 ≤ t2_3q := Nat.le_trans (own_osz O) P3p_0
  have sz_t2_298 : h0.size ≤ t2_3q := Nat.le_trans K0.1 P3p_0
  have E_b := E_b.keep Kq3p
  have E_t := E_t.keep Kq3p
  have V_ch := V_ch.keep Kq3p (ninS (Ne.symm nbc) nin0)
  clear j2_
  clear j1_
  clear j3_
  clear j0_
  have V_t := V_t.keep Kq3p (ninS (Ne.symm nbt) nin0)
  have O := O.keep Kq3p (allS g_b all0)
  have K3s := K0.trans Kq3p (allS (Or.inl (List.mem_of_getElem? (i := 0) rfl)) all0)
  have E_b := P3p_1
  have j2_ := P3p_2
  have j0_ := P3p_3
  have j1_ := P3p_4
  have j3_ := P3p_5
  have V_t2_298 := P3p_6
  have E_t2_298 := P3p_7
  show oF p e below (T3p.setTop (mkF m 5 #[.val (.ref b), .val (.ref ch)] [(.ref b)])) _
  refine oG (fun _ k => XS.pop X3p.here hx rfl (B d41_5) rfl rfl (XS.aloadN X3p.here hx rfl (B d41_6) rfl rfl k)) ?_
  show oF p e below (T3p.setTop (mkF m 7 #[.val (.ref b), .val (.ref ch)] [(.ref b)])) _
  obtain ⟨fs, hr, r1, r2, hW, r3⟩ := X3p.leave (v := some (.ref b)) (fun h => by rw [Bd.returns] at h; cases h)
  refine ⟨_, _, ?_, r1, r2, _, _, rfl, ?_, ⟨_, rfl⟩, hW, r3.mono (by decide) (by decide)⟩
  ·exact X3p.areturnOut hx rfl Bd.returns rfl (B d41_7) hr
  ·show QsbD Z b t N cs c0_ c1_ h0 n0 _ T3p.heap _
   exact ⟨t2_3q, k2_3r, rfl, N3p, K3s, (Or.inr sz_t2_298), g_t2_298, ne_b_t2_298, E_b, E_t2_298, (own_SBU j2_ j1_ j3_ (own_rng_app hrg kr) j0_ V_t2_298 (own_bg_r (own_bg1 hc0)) (by rw [hcs] <;> rfl) (by rw [hcs] <;> rfl))⟩
 ·show oF p e below (s₁.setTop (mkF m 0 #[.val (.ref b), .val (.ref ch)] [])) _
  refine oG (fun _ k => XS.aloadN X0.here hx rfl (B d41_0) rfl rfl (XS.aloadN X0.here hx rfl (B d41_1) rfl rfl k)) ?_
  show oF p e below (s₁.setTop (mkF m 2 #[.val (.ref b), .val (.ref ch)] [(.ref ch), (.ref b)])) _
  obtain ⟨_, _, ⟨T3t, L3t, k3t, n3t⟩, -, X3t, ⟨Lc3t, hQ3t, l3t, y3t, z3t⟩, st3t⟩ := superBack X0 hx hZ (y := mN24) hown (ow hw 208) (own_same (y := mN24) (ow hw 199) (ow hw 67) (by exact rfl) (by decide)) (ow hw 199) (ow hw 42) (by decide) (backOf (W := 0) (adI1 l Z a0 hw [] b ch z t kt N (own_by i0) kc c0_ c1_ fm h0 n0 O j6_ j7_ j8_ j5_ hfm j4_ hz E_b j2_ j0_ j1_ j3_ V_t E_t V_ch g_b g_t nbt (by omega) hN8 hc0 ntc nbc) hZ (ow hw 209) (ow hw 24) (by decide) (by decide)) e0 (Ins.self E_b) (g := (mkF m 2 #[.val (.ref b), .val (.ref ch)] [(.ref ch), (.ref b)])) rfl (by rw [hml]; rfl) (ow hw 209) (argsL := [(.ref ch)]) (rest := []) (lenOf pd_20 rfl) rfl (by show 2 * 0 + _ ≤ _; exact Nat.le_of_eq rfl) (B d41_2) (fun _ _ => ⟨rfl, e0, (by decide : 0 + 1 ≤ _), (by decide : 0 + 16 ≤ _)⟩)
  dsimp only [Pt.U, Pt.locs, Pt.cells, Pt.slots] at X3t l3t y3t z3t st3t hQ3t
  subst y3t z3t
  obtain ⟨t2_3u, k2_3v, rfl, N3tq, Kq3t, P3t_0, P3t_1, P3t_2, P3t_3, P3t_4, P3t_5, P3t_6, P3t_7⟩ := hQ3t
  refine oG (fun _ k => st3t.trans k) ?_
  have N3t := oL l3t (Fr.app N0 N3tq)
  have ne_b_t2_303 : b ≠ t2_3u := Nat.ne_of_lt (Nat.lt_of_lt_of_le E_b.lt P3t_0)
  have ne_t_t2_303 : t ≠ t2_3u := Nat.ne_of_lt (Nat.lt_of_lt_of_le E_t.lt P3t_0)
  have ne_ch_t2_303 : ch ≠ t2_3u := Nat.ne_of_lt (Nat.lt_of_lt_of_le V_ch.lt P3t_0)
  have g_t2_303 : n0 ≤ t2_3u := Nat.le_trans (own_osz O) P3t_0
  have sz_t2_303 : h0.size ≤ t2_3u := Nat.le_trans K0.1 P3t_0
  have E_b := E_b.keep Kq3t
  have E_t := E_t.keep Kq3t
  have V_ch := V_ch.keep Kq3t (ninS (Ne.symm nbc) nin0)
  clear j2_
  clear j1_
  clear j3_
  clear j0_
  have V_t := V_t.keep Kq3t (ninS (Ne.symm nbt) nin0)
  have O := O.keep Kq3t (allS g_b all0)
  have K3w := K0.trans Kq3t (allS (Or.inl (List.mem_of_getElem? (i := 0) rfl)) all0)
  have E_b := P3t_1
  have j2_ := P3t_2
  have j0_ := P3t_3
  have j1_ := P3t_4
  have j3_ := P3t_5
  have V_t2_303 := P3t_6
  have E_t2_303 := P3t_7
  show oF p e below (T3t.setTop (mkF m 5 #[.val (.ref b), .val (.ref ch)] [(.ref b)])) _
  refine oG (fun _ k => XS.pop X3t.here hx rfl (B d41_5) rfl rfl (XS.aloadN X3t.here hx rfl (B d41_6) rfl rfl k)) ?_
  show oF p e below (T3t.setTop (mkF m 7 #[.val (.ref b), .val (.ref ch)] [(.ref b)])) _
  obtain ⟨fs, hr, r1, r2, hW, r3⟩ := X3t.leave (v := some (.ref b)) (fun h => by rw [Bd.returns] at h; cases h)
  refine ⟨_, _, ?_, r1, r2, _, _, rfl, ?_, ⟨_, rfl⟩, hW, r3.mono (by decide) (by decide)⟩
  ·exact X3t.areturnOut hx rfl Bd.returns rfl (B d41_7) hr
  ·show QsbD Z b t N cs c0_ c1_ h0 n0 _ T3t.heap _
   exact ⟨t2_3u, k2_3v, rfl, N3t, K3w, (Or.inr sz_t2_303), g_t2_303, ne_b_t2_303, E_b, E_t2_303, (own_SBU j2_ j1_ j3_ (own_rng_app hrg kr) j0_ V_t2_303 (own_bg_r (own_bg1 hc0)) (by rw [own_bbl hcs hrg hla, hcs] <;> rfl) (by rw [hcs] <;> rfl))⟩
 ·show oF p e below (s₁.setTop (mkF m 0 #[.val (.ref b), .val (.ref ch)] [])) _
  refine oG (fun _ k => XS.aloadN X0.here hx rfl (B d41_0) rfl rfl (XS.aloadN X0.here hx rfl (B d41_1) rfl rfl k)) ?_
  show oF p e below (s₁.setTop (mkF m 2 #[.val (.ref b), .val (.ref ch)] [(.ref ch), (.ref b)])) _
  obtain ⟨_, _, ⟨T3x, L3x, k3x, n3x⟩, -, X3x, ⟨Lc3x, hQ3x, l3x, y3x, z3x⟩, st3x⟩ := superBack X0 hx hZ (y := mN24) hown (ow hw 208) (own_same (y := mN24) (ow hw 199) (ow hw 67) (by exact rfl) (by decide)) (ow hw 199) (ow hw 42) (by decide) (backOf (W := 0) (adU1 l Z a0 hw [] b ch z t kt N (own_lo i0) (own_hi i0) kc c0_ c1_ fm h0 n0 O j6_ j7_ j8_ j5_ hfm j4_ hz E_b j2_ j0_ j1_ j3_ V_t E_t V_ch g_b g_t nbt (by omega) hN8 hc0 ntc nbc) hZ (ow hw 209) (ow hw 24) (by decide) (by decide)) e0 (Ins.self E_b) (g := (mkF m 2 #[.val (.ref b), .val (.ref ch)] [(.ref ch), (.ref b)])) rfl (by rw [hml]; rfl) (ow hw 209) (argsL := [(.ref ch)]) (rest := []) (lenOf pd_20 rfl) rfl (by show 2 * 0 + _ ≤ _; exact Nat.le_of_eq rfl) (B d41_2) (fun _ _ => ⟨rfl, e0, (by decide : 0 + 0 ≤ _), (by decide : 0 + 0 ≤ _)⟩)
  dsimp only [Pt.U, Pt.locs, Pt.cells, Pt.slots] at X3x l3x y3x z3x st3x hQ3x
  subst y3x z3x
  obtain ⟨rfl, N3xq, Kq3x, P3x_0, P3x_1, P3x_2, P3x_3, P3x_4, P3x_5, P3x_6⟩ := hQ3x
  refine oG (fun _ k => st3x.trans k) ?_
  have N3x := oL l3x (Fr.app N0 N3xq)
  have E_b := E_b.keep Kq3x
  have E_t := E_t.keep Kq3x
  have V_ch := V_ch.keep Kq3x (ninS (Ne.symm nbc) (ninS (Ne.symm ntc) nin0))
  clear j2_
  clear j1_
  clear j3_
  clear j0_
  clear V_t
  have O := O.keep Kq3x (allS g_b (allS g_t all0))
  have K3y := K0.trans Kq3x (allS (Or.inl (List.mem_of_getElem? (i := 0) rfl)) (allS (Or.inl (List.mem_of_getElem? (i := 1) rfl)) all0))
  have E_b := P3x_0
  have j2_ := P3x_1
  have j0_ := P3x_2
  have j1_ := P3x_3
  have j3_ := P3x_4
  have V_t := P3x_5
  have E_t := P3x_6
  show oF p e below (T3x.setTop (mkF m 5 #[.val (.ref b), .val (.ref ch)] [(.ref b)])) _
  refine oG (fun _ k => XS.pop X3x.here hx rfl (B d41_5) rfl rfl (XS.aloadN X3x.here hx rfl (B d41_6) rfl rfl k)) ?_
  show oF p e below (T3x.setTop (mkF m 7 #[.val (.ref b), .val (.ref ch)] [(.ref b)])) _
  obtain ⟨fs, hr, r1, r2, hW, r3⟩ := X3x.leave (v := some (.ref b)) (fun h => by rw [Bd.returns] at h; cases h)
  refine ⟨_, _, ?_, r1, r2, _, _, rfl, ?_, ⟨_, rfl⟩, hW, r3.mono (by decide) (by decide)⟩
  ·exact X3x.areturnOut hx rfl Bd.returns rfl (B d41_7) hr
  ·show QsbD Z b t N cs c0_ c1_ h0 n0 _ T3x.heap _
   exact ⟨t, kt, rfl, N3x, K3y, (Or.inl rfl), g_t, nbt, E_b, E_t, (own_SBU j2_ j1_ j3_ (own_rng_app hrg kr) j0_ V_t (own_bg_l hbg) (by rw [hcs] <;> rfl) (by rw [hcs] <;> rfl))⟩
 ·show oF p e below (s₁.setTop (mkF m 0 #[.val (.ref b), .val (.ref ch)] [])) _
  refine oG (fun _ k => XS.aloadN X0.here hx rfl (B d41_0) rfl rfl (XS.aloadN X0.here hx rfl (B d41_1) rfl rfl k)) ?_
  show oF p e below (s₁.setTop (mkF m 2 #[.val (.ref b), .val (.ref ch)] [(.ref ch), (.ref b)])) _
  obtain ⟨_, _, ⟨T3z, L3z, k3z, n3z⟩, -, X3z, ⟨Lc3z, hQ3z, l3z, y3z, z3z⟩, st3z⟩ := superBack X0 hx hZ (y := mN24) hown (ow hw 208) (own_same (y := mN24) (ow hw 199) (ow hw 67) (by exact rfl) (by decide)) (ow hw 199) (ow hw 42) (by decide) (backOf (W := 0) (adU2 l Z a0 hw [] b ch z t kt N (own_lo i0) (own_hi i0) (own_lo i1) (own_hi i1) kc c0_ c1_ fm h0 n0 O j6_ j7_ j8_ j5_ hfm j4_ hz E_b j2_ j0_ j1_ j3_ V_t E_t V_ch g_b g_t nbt (by omega) hN8 hc0 ntc nbc) hZ (ow hw 209) (ow hw 24) (by decide) (by decide)) e0 (Ins.self E_b) (g := (mkF m 2 #[.val (.ref b), .val (.ref ch)] [(.ref ch), (.ref b)])) rfl (by rw [hml]; rfl) (ow hw 209) (argsL := [(.ref ch)]) (rest := []) (lenOf pd_20 rfl) rfl (by show 2 * 0 + _ ≤ _; exact Nat.le_of_eq rfl) (B d41_2) (fun _ _ => ⟨rfl, e0, (by decide : 0 + 0 ≤ _), (by decide : 0 + 0 ≤ _)⟩)
  dsimp only [Pt.U, Pt.locs, Pt.cells, Pt.slots] at X3z l3z y3z z3z st3z hQ3z
  subst y3z z3z
  obtain ⟨rfl, N3zq, Kq3z, P3z_0, P3z_1, P3z_2, P3z_3, P3z_4, P3z_5, P3z_6⟩ := hQ3z
  refine oG (fun _ k => st3z.trans k) ?_
  have N3z := oL l3z (Fr.app N0 N3zq)
  have E_b := E_b.keep Kq3z
  have E_t := E_t.keep Kq3z
  have V_ch := V_ch.keep Kq3z (ninS (Ne.symm nbc) (ninS (Ne.symm ntc) nin0))
  clear j2_
  clear j1_
  clear j3_
  clear j0_
  clear V_t
  have O := O.keep Kq3z (allS g_b (allS g_t all0))
  have K3A := K0.trans Kq3z (allS (Or.inl (List.mem_of_getElem? (i := 0) rfl)) (allS (Or.inl (List.mem_of_getElem? (i := 1) rfl)) all0))
  have E_b := P3z_0
  have j2_ := P3z_1
  have j0_ := P3z_2
  have j1_ := P3z_3
  have j3_ := P3z_4
  have V_t := P3z_5
  have E_t := P3z_6
  show oF p e below (T3z.setTop (mkF m 5 #[.val (.ref b), .val (.ref ch)] [(.ref b)])) _
  refine oG (fun _ k => XS.pop X3z.here hx rfl (B d41_5) rfl rfl (XS.aloadN X3z.here hx rfl (B d41_6) rfl rfl k)) ?_
  show oF p e below (T3z.setTop (mkF m 7 #[.val (.ref b), .val (.ref ch)] [(.ref b)])) _
  obtain ⟨fs, hr, r1, r2, hW, r3⟩ := X3z.leave (v := some (.ref b)) (fun h => by rw [Bd.returns] at h; cases h)
  refine ⟨_, _, ?_, r1, r2, _, _, rfl, ?_, ⟨_, rfl⟩, hW, r3.mono (by decide) (by decide)⟩
  ·exact X3z.areturnOut hx rfl Bd.returns rfl (B d41_7) hr
  ·show QsbD Z b t N cs c0_ c1_ h0 n0 _ T3z.heap _
   exact ⟨t, kt, rfl, N3z, K3A, (Or.inl rfl), g_t, nbt, E_b, E_t, (own_SBU j2_ j1_ j3_ (own_rng_app hrg kr) j0_ V_t (own_bg_l hbg) (by rw [hcs] <;> rfl) (by rw [hcs] <;> rfl))⟩
theorem d40_0 : decode k28_ 0 = .ok (.aload_n 0, 1) := by decide +kernel
theorem d40_1 : decode k28_ 1 = .ok (.aload_n 1, 1) := by decide +kernel
theorem d40_2 : decode k28_ 2 = .ok (.invokevirtual 293, 3) := by decide +kernel
theorem pd_21 : parseMethodDescriptor "([C)Ljava/lang/StringBuilder;" = some ⟨[(.array .char)], some (.object "java/lang/StringBuilder")⟩ := by decide +kernel
theorem d40_5 : decode k28_ 5 = .ok (.areturn, 1) := by decide +kernel
def QsbE (Z : State) (b : Addr) (t : Addr) (N : Int32) (cs : List Int32) (c0_ : Int32) (c1_ : Int32) (h0 : Heap) (n0 : Nat) (v : Option Value) (h : Heap) (L : List Loc) : Prop := ∃ (t2_ : Addr) (k2_ : ClassId), v = some (.ref b) ∧ Fr n0 L ∧ Keep h0 h [b, t] ∧ (t2_ = t ∨ h0.size ≤ t2_) ∧ n0 ≤ t2_ ∧ b ≠ t2_ ∧ eX1 Z h b ∧ eX0 Z h t2_ ∧ own_SB Z h b t2_ k2_ N (cs ++ [c0_, c1_])
theorem sbE (l : Launch) (Z : State) (a0 : Array Value) (hw : ∀ d ∈ tables_1, d.before a0 Z = true) (ws : List Jvm.Cond) (b : Addr) (ch : Addr) (z : Int32) (t : Addr) (kt : ClassId) (N : Int32) (fm : Value) (cs : List Int32) (kc : ClassId) (c0_ : Int32) (c1_ : Int32) (h0 : Heap) (n0 : Nat) (O : Old Z n0 h0) (j6_ : sT0 Z (.int 1)) (j7_ : sT1 Z (.int 0)) (j8_ : sT2 Z (.int 8)) (j5_ : sT3 Z fm) (hfm : fm.isRef = true) (j4_ : sT4 Z (.int z)) (hz : ¬ (z = (0 : Int32))) (E_b : eX1 Z h0 b) (j9_ : own_SB Z h0 b t kt N cs) (E_t : eX0 Z h0 t) (g_b : n0 ≤ b) (g_t : n0 ≤ t) (nbt : b ≠ t) (hN8 : N.toInt ≤ 8) (h2_ : cs.length ≤ 2) (ksu : cs.length = 2 → own_bg cs) (V_ch : Arv Z h0 ch kc .char (2 : Int32) [(.int c0_), (.int c1_)] (.int 0)) (hc0 : (255 : Int32) < c0_) (ntc : t ≠ ch) (nbc : b ≠ ch) (kr : own_rng [c0_, c1_]) (hcl : (cs.length : Int) + 2 ≤ N.toInt) :
   own_MF l Z mN28 jdk_67_method_76_code 2 (some (.object "java/lang/AbstractStringBuilder")) ws rM18 #[(.ref b), (.ref ch)] h0 (QsbE Z b t N cs c0_ c1_ h0 n0) := by
 refine MetFree.of_bodySF (plainFor_of_name pn_5) hisR ?_
 intro p e s m args below meth c s₁ Bd hml0 hP hK
 obtain ⟨rfl, hZ, hh⟩ := hP
 have hx := Bd.exec
 have hby := Bd.bytes
 have B := @hb _ _ hby
 have hml : c.maxLocals = 2 := hml0
 have hown : s.vm.findClass "java/lang/StringBuilder" = some m.cls := findClass_of_methodNamed Bd.named
 have X0 : Stand p l e rM18 s m #[(.ref b), (.ref ch)] below meth c s₁ [] 0 0 := Stand.of_body Bd
 have e0 : s₁.heap = h0 := by rw [← hh, Bd.state]; rfl
 have N0 := Fr.nil n0
 have K0 := Keep.refl h0 [b, t]
 refine own_start (ef_sbD m b ch) (Q := own_QE s rM18 (QsbE Z b t N cs c0_ c1_ h0 n0)) ?_
 show oF p e below (s₁.setTop (mkF m 0 #[.val (.ref b), .val (.ref ch)] [])) _
 refine oG (fun _ k => XS.aloadN X0.here hx rfl (B d40_0) rfl rfl (XS.aloadN X0.here hx rfl (B d40_1) rfl rfl k)) ?_
 show oF p e below (s₁.setTop (mkF m 2 #[.val (.ref b), .val (.ref ch)] [(.ref ch), (.ref b)])) _
 obtain ⟨cq3B, kq3B, q3Ba, q3Bb, q3Bc⟩ := isOf hZ e0 E_b
 obtain ⟨_, _, ⟨T3B, L3B, k3B, n3B⟩, -, X3B, ⟨Lc3B, hQ3B, l3B, y3B, z3B⟩, st3B⟩ := X0.virtualBack hx (y := mN27) (z := mN27) hown (mo hZ hw 203) (mo hZ hw 204) (notFace_of_selects (args := #[]) (mo hZ hw 206)) (mo hZ hw 206) (mo hZ hw 205) (by decide) (backOf (W := 0) (sbD l Z a0 hw [] b ch z t kt N fm cs kc c0_ c1_ h0 n0 O j6_ j7_ j8_ j5_ hfm j4_ hz E_b j9_ E_t g_b g_t nbt hN8 h2_ ksu V_ch hc0 ntc nbc kr hcl) hZ (ow hw 207) (ow hw 16) (by decide) (by decide)) q3Ba q3Bc (g := (mkF m 2 #[.val (.ref b), .val (.ref ch)] [(.ref ch), (.ref b)])) rfl (by rw [hml]; rfl) (Steps.refl _) (argsL := [(.ref ch)]) (rest := []) (lenOf pd_21 rfl) rfl (by show 2 * 0 + _ ≤ _; exact Nat.le_of_eq rfl) (B d40_2) (fun _ _ => ⟨rfl, e0, (by decide : 0 + 1 ≤ _), (by decide : 0 + 16 ≤ _)⟩)
 dsimp only [Pt.U, Pt.locs, Pt.cells, Pt.slots] at X3B l3B y3B z3B st3B hQ3B
 subst y3B z3B
 obtain ⟨t2_3C, k2_3D, rfl, N3Bq, Kq3B, P3B_0, P3B_1, P3B_2, P3B_3, P3B_4, P3B_5⟩ := hQ3B
 refine oG (fun _ k => st3B.trans k) ?_
 have N3B := oL l3B (Fr.app N0 N3Bq)
 have E_b := E_b.keep Kq3B
 clear j9_
 have E_t := E_t.keep Kq3B
 have V_ch := V_ch.keep Kq3B (ninS (Ne.symm nbc) (ninS (Ne.symm ntc) nin0))
 have O := O.keep Kq3B (allS g_b (allS g_t all0))
 have K3E := K0.trans Kq3B (allS (Or.inl (List.mem_of_getElem? (i := 0) rfl)) (allS (Or.inl (List.mem_of_getElem? (i := 1) rfl)) all0))
 have E_b := P3B_3
 have E_t2_314 := P3B_4
 have j9_ := P3B_5
 show oF p e below (T3B.setTop (mkF m 5 #[.val (.ref b), .val (.ref ch)] [(.ref b)])) _
 obtain ⟨fs, hr, r1, r2, hW, r3⟩ := X3B.leave (v := some (.ref b)) (fun h => by rw [Bd.returns] at h; cases h)
 refine ⟨_, _, ?_, r1, r2, _, _, rfl, ?_, ⟨_, rfl⟩, hW, r3.mono (by decide) (by decide)⟩
 ·exact X3B.areturnOut hx rfl Bd.returns rfl (B d40_5) hr
 ·show QsbE Z b t N cs c0_ c1_ h0 n0 _ T3B.heap _
  exact ⟨t2_3C, k2_3D, rfl, N3B, K3E, (P3B_0.imp id (Nat.le_trans K0.1)), P3B_1, P3B_2, E_b, E_t2_314, j9_⟩
theorem d9_0 : decode k29_ 0 = .ok (.iload_n 0, 1) := by decide +kernel
theorem d9_1 : decode k29_ 1 = .ok (.bipush 16, 2) := by decide +kernel
theorem d9_3 : decode k29_ 3 = .ok (.iushr, 1) := by decide +kernel
theorem d9_4 : decode k29_ 4 = .ok (.ifCond .ne 7, 3) := by decide +kernel
theorem d9_7 : decode k29_ 7 = .ok (.iconst 1, 1) := by decide +kernel
theorem d9_8 : decode k29_ 8 = .ok (.goto 4, 3) := by decide +kernel
theorem d9_12 : decode k29_ 12 = .ok (.ireturn, 1) := by decide +kernel
theorem d9_11 : decode k29_ 11 = .ok (.iconst 0, 1) := by decide +kernel
theorem pn_6 : plainName "java/lang/Character" = true := by first | (simp [plainName, overriddenIn]; done) | decide +kernel
def Qbmp (Z : State) (q : Int32) (h0 : Heap) (n0 : Nat) (v : Option Value) (h : Heap) (L : List Loc) : Prop := v = some (.int (own_bi (((q.toUInt32 >>> ((16 : Int32) &&& 31).toUInt32).toInt32) = (0 : Int32)))) ∧ Fr n0 L ∧ h = h0
theorem bmp (l : Launch) (Z : State) (a0 : Array Value) (hw : ∀ d ∈ tables_1, d.before a0 Z = true) (ws : List Jvm.Cond) (q : Int32) (h0 : Heap) (n0 : Nat) :
   own_MF l Z mN29 jdk_89_method_12_code 1 (some .boolean) ws rM0 #[(.int q)] h0 (Qbmp Z q h0 n0) := by
 refine MetFree.of_bodySF (plainFor_of_name pn_6) hisR ?_
 intro p e s m args below meth c s₁ Bd hml0 hP hK
 obtain ⟨rfl, hZ, hh⟩ := hP
 have hx := Bd.exec
 have hby := Bd.bytes
 have B := @hb _ _ hby
 have hml : c.maxLocals = 1 := hml0
 have hown : s.vm.findClass "java/lang/Character" = some m.cls := findClass_of_methodNamed Bd.named
 have X0 : Stand p l e rM0 s m #[(.int q)] below meth c s₁ [] 0 0 := Stand.of_body Bd
 have e0 : s₁.heap = h0 := by rw [← hh, Bd.state]; rfl
 have N0 := Fr.nil n0
 refine own_start (ef_nbl m q) (Q := own_QE s rM0 (Qbmp Z q h0 n0)) ?_
 show oF p e below (s₁.setTop (mkF m 0 #[.val (.int q)] [])) _
 refine oG (fun _ k => XS.iloadN X0.here hx rfl (B d9_0) rfl (XS.bipush X0.here hx rfl (B d9_1) (XS.iushr X0.here hx rfl (B d9_3) rfl k))) ?_
 show oF p e below (s₁.setTop (mkF m 4 #[.val (.int q)] [(.int ((q.toUInt32 >>> ((16 : Int32) &&& 31).toUInt32).toInt32))])) _
 by_cases hc4_318 : ((q.toUInt32 >>> ((16 : Int32) &&& 31).toUInt32).toInt32) = (0 : Int32)
 ·refine oG (fun _ k => XS.ifNo X0.here hx rfl (B d9_4) rfl ((if0 _ _).trans (teq hc4_318).2) (XS.iconst X0.here hx rfl (B d9_7) (XS.goto X0.here hx rfl (pc0 := 8) (pc' := 12) rfl (B d9_8) (by decide) (by decide) k))) ?_
  show oF p e below (s₁.setTop (mkF m 12 #[.val (.int q)] [(.int 1)])) _
  obtain ⟨fs, hr, r1, r2, hW, r3⟩ := X0.leave (v := some (.int 1)) (fun h => by rw [Bd.returns] at h; cases h)
  refine ⟨_, _, ?_, r1, r2, _, _, rfl, ?_, ⟨_, rfl⟩, hW, r3.mono (by decide) (by decide)⟩
  ·exact retN X0 hx (t := .boolean) Bd.returns (by simp) (B d9_12) hr
  ·show Qbmp Z q h0 n0 _ s₁.heap _
   rw [e0]
   exact ⟨(by rw [own_bi1 hc4_318]), N0, rfl⟩
 ·refine oG (fun _ k => XS.ifYes X0.here hx rfl (pc0 := 4) (pc' := 11) rfl (B d9_4) rfl ((if0 _ _).trans (feq hc4_318).2) (by decide) (by decide) (XS.iconst X0.here hx rfl (B d9_11) k)) ?_
  show oF p e below (s₁.setTop (mkF m 12 #[.val (.int q)] [(.int 0)])) _
  obtain ⟨fs, hr, r1, r2, hW, r3⟩ := X0.leave (v := some (.int 0)) (fun h => by rw [Bd.returns] at h; cases h)
  refine ⟨_, _, ?_, r1, r2, _, _, rfl, ?_, ⟨_, rfl⟩, hW, r3.mono (by decide) (by decide)⟩
  ·exact retN X0 hx (t := .boolean) Bd.returns (by simp) (B d9_12) hr
  ·show Qbmp Z q h0 n0 _ s₁.heap _
   rw [e0]
   exact ⟨(by rw [own_bi0 hc4_318]), N0, rfl⟩
theorem d36_0 : decode k30_ 0 = .ok (.iload_n 0, 1) := by decide +kernel
theorem d36_1 : decode k30_ 1 = .ok (.bipush 16, 2) := by decide +kernel
theorem d36_3 : decode k30_ 3 = .ok (.iushr, 1) := by decide +kernel
theorem d36_4 : decode k30_ 4 = .ok (.istore_n 1, 1) := by decide +kernel
theorem d36_5 : decode k30_ 5 = .ok (.iload_n 1, 1) := by decide +kernel
theorem d36_6 : decode k30_ 6 = .ok (.bipush 17, 2) := by decide +kernel
theorem d36_8 : decode k30_ 8 = .ok (.if_icmp .ge 7, 3) := by decide +kernel
theorem d36_11 : decode k30_ 11 = .ok (.iconst 1, 1) := by decide +kernel
theorem d36_12 : decode k30_ 12 = .ok (.goto 4, 3) := by decide +kernel
theorem d36_16 : decode k30_ 16 = .ok (.ireturn, 1) := by decide +kernel
theorem ef_vcp (m : MethodId) (x0 : Int32) : entryFrame m #[(.int x0)] 2 = mkF m 0 #[.val (.int x0), .unset] [] := by first | (simp [entryFrame, mkF, argsToLocals, Value.category]; done) | rfl
def Qvcp (Z : State)  (h0 : Heap) (n0 : Nat) (v : Option Value) (h : Heap) (L : List Loc) : Prop := v = some (.int 1) ∧ Fr n0 L ∧ h = h0
theorem vcp (l : Launch) (Z : State) (a0 : Array Value) (hw : ∀ d ∈ tables_1, d.before a0 Z = true) (ws : List Jvm.Cond) (q : Int32) (h0 : Heap) (n0 : Nat) (hva : ((q.toUInt32 >>> ((16 : Int32) &&& 31).toUInt32).toInt32) < (17 : Int32)) :
   own_MF l Z mN30 jdk_89_method_11_code 2 (some .boolean) ws rM0 #[(.int q)] h0 (Qvcp Z  h0 n0) := by
 refine MetFree.of_bodySF (plainFor_of_name pn_6) hisR ?_
 intro p e s m args below meth c s₁ Bd hml0 hP hK
 obtain ⟨rfl, hZ, hh⟩ := hP
 have hx := Bd.exec
 have hby := Bd.bytes
 have B := @hb _ _ hby
 have hml : c.maxLocals = 2 := hml0
 have hown : s.vm.findClass "java/lang/Character" = some m.cls := findClass_of_methodNamed Bd.named
 have X0 : Stand p l e rM0 s m #[(.int q)] below meth c s₁ [] 0 0 := Stand.of_body Bd
 have e0 : s₁.heap = h0 := by rw [← hh, Bd.state]; rfl
 have N0 := Fr.nil n0
 refine own_start (ef_vcp m q) (Q := own_QE s rM0 (Qvcp Z  h0 n0)) ?_
 show oF p e below (s₁.setTop (mkF m 0 #[.val (.int q), .unset] [])) _
 refine oG (fun _ k => XS.iloadN X0.here hx rfl (B d36_0) rfl (XS.bipush X0.here hx rfl (B d36_1) (XS.iushr X0.here hx rfl (B d36_3) rfl (XS.istoreN X0.here hx rfl (B d36_4) rfl (l' := #[.val (.int q), .val (.int ((q.toUInt32 >>> ((16 : Int32) &&& 31).toUInt32).toInt32))]) rfl (XS.iloadN X0.here hx rfl (B d36_5) rfl (XS.bipush X0.here hx rfl (B d36_6) (XS.icmpNo X0.here hx rfl (B d36_8) rfl (tlt hva).2.1 (XS.iconst X0.here hx rfl (B d36_11) (XS.goto X0.here hx rfl (pc0 := 12) (pc' := 16) rfl (B d36_12) (by decide) (by decide) k))))))))) ?_
 show oF p e below (s₁.setTop (mkF m 16 #[.val (.int q), .val (.int ((q.toUInt32 >>> ((16 : Int32) &&& 31).toUInt32).toInt32))] [(.int 1)])) _
 obtain ⟨fs, hr, r1, r2, hW, r3⟩ := X0.leave (v := some (.int 1)) (fun h => by rw [Bd.returns] at h; cases h)
 refine ⟨_, _, ?_, r1, r2, _, _, rfl, ?_, ⟨_, rfl⟩, hW, r3.mono (by decide) (by decide)⟩
 ·exact retN X0 hx (t := .boolean) Bd.returns (by simp) (B d36_16) hr
 ·show Qvcp Z  h0 n0 _ s₁.heap _
  rw [e0]
  exact ⟨rfl, N0, rfl⟩
theorem d38_0 : decode k31_ 0 = .ok (.iload_n 0, 1) := by decide +kernel
theorem d38_1 : decode k31_ 1 = .ok (.sipush 1023, 3) := by decide +kernel
theorem d38_4 : decode k31_ 4 = .ok (.iand, 1) := by decide +kernel
theorem d38_5 : decode k31_ 5 = .ok (.ldc 76, 2) := by decide +kernel
theorem d38_7 : decode k31_ 7 = .ok (.iadd, 1) := by decide +kernel
theorem d38_8 : decode k31_ 8 = .ok (.i2c, 1) := by decide +kernel
theorem d38_9 : decode k31_ 9 = .ok (.ireturn, 1) := by decide +kernel
def Qlsr (Z : State) (q : Int32) (h0 : Heap) (n0 : Nat) (v : Option Value) (h : Heap) (L : List Loc) : Prop := v = some (.int (nar .char (((q &&& (1023 : Int32)) + (56320 : Int32)).toUInt32.toUInt16.toUInt32.toInt32))) ∧ Fr n0 L ∧ h = h0
theorem lsr (l : Launch) (Z : State) (a0 : Array Value) (hw : ∀ d ∈ tables_1, d.before a0 Z = true) (ws : List Jvm.Cond) (q : Int32) (h0 : Heap) (n0 : Nat) :
   own_MF l Z mN31 jdk_89_method_29_code 1 (some .char) ws rM0 #[(.int q)] h0 (Qlsr Z q h0 n0) := by
 refine MetFree.of_bodySF (plainFor_of_name pn_6) hisR ?_
 intro p e s m args below meth c s₁ Bd hml0 hP hK
 obtain ⟨rfl, hZ, hh⟩ := hP
 have hx := Bd.exec
 have hby := Bd.bytes
 have B := @hb _ _ hby
 have hml : c.maxLocals = 1 := hml0
 have hown : s.vm.findClass "java/lang/Character" = some m.cls := findClass_of_methodNamed Bd.named
 have X0 : Stand p l e rM0 s m #[(.int q)] below meth c s₁ [] 0 0 := Stand.of_body Bd
 have e0 : s₁.heap = h0 := by rw [← hh, Bd.state]; rfl
 have N0 := Fr.nil n0
 refine own_start (ef_nbl m q) (Q := own_QE s rM0 (Qlsr Z q h0 n0)) ?_
 show oF p e below (s₁.setTop (mkF m 0 #[.val (.int q)] [])) _
 refine oG (fun _ k => XS.iloadN X0.here hx rfl (B d38_0) rfl (XS.sipush X0.here hx rfl (B d38_1) (XS.iand X0.here hx rfl (B d38_4) rfl k))) ?_
 show oF p e below (s₁.setTop (mkF m 5 #[.val (.int q)] [(.int (q &&& (1023 : Int32)))])) _
 refine oG (fun _ k => X0.ldcInt hx hown (mo hZ hw 192) (g := (mkF m 5 #[.val (.int q)] [(.int (q &&& (1023 : Int32)))])) rfl (B d38_5) _ k) ?_
 show oF p e below (s₁.setTop (mkF m 7 #[.val (.int q)] [(.int 56320), (.int (q &&& (1023 : Int32)))])) _
 refine oG (fun _ k => XS.iadd X0.here hx rfl (B d38_7) rfl (XS.i2c X0.here hx rfl (B d38_8) rfl k)) ?_
 show oF p e below (s₁.setTop (mkF m 9 #[.val (.int q)] [(.int (((q &&& (1023 : Int32)) + (56320 : Int32)).toUInt32.toUInt16.toUInt32.toInt32))])) _
 obtain ⟨fs, hr, r1, r2, hW, r3⟩ := X0.leave (v := some (.int (nar .char (((q &&& (1023 : Int32)) + (56320 : Int32)).toUInt32.toUInt16.toUInt32.toInt32)))) (fun h => by rw [Bd.returns] at h; cases h)
 refine ⟨_, _, ?_, r1, r2, _, _, rfl, ?_, ⟨_, rfl⟩, hW, r3.mono (by decide) (by decide)⟩
 ·exact retN X0 hx (t := .char) Bd.returns (by simp) (B d38_9) hr
 ·show Qlsr Z q h0 n0 _ s₁.heap _
  rw [e0]
  exact ⟨rfl, N0, rfl⟩
theorem d39_0 : decode k32_ 0 = .ok (.iload_n 0, 1) := by decide +kernel
theorem d39_1 : decode k32_ 1 = .ok (.bipush 10, 2) := by decide +kernel
theorem d39_3 : decode k32_ 3 = .ok (.iushr, 1) := by decide +kernel
theorem d39_4 : decode k32_ 4 = .ok (.ldc 110, 2) := by decide +kernel
theorem d39_6 : decode k32_ 6 = .ok (.iadd, 1) := by decide +kernel
theorem d39_7 : decode k32_ 7 = .ok (.i2c, 1) := by decide +kernel
theorem d39_8 : decode k32_ 8 = .ok (.ireturn, 1) := by decide +kernel
def Qhsr (Z : State) (q : Int32) (h0 : Heap) (n0 : Nat) (v : Option Value) (h : Heap) (L : List Loc) : Prop := v = some (.int (nar .char ((((q.toUInt32 >>> ((10 : Int32) &&& 31).toUInt32).toInt32) + (55232 : Int32)).toUInt32.toUInt16.toUInt32.toInt32))) ∧ Fr n0 L ∧ h = h0
theorem hsr (l : Launch) (Z : State) (a0 : Array Value) (hw : ∀ d ∈ tables_1, d.before a0 Z = true) (ws : List Jvm.Cond) (q : Int32) (h0 : Heap) (n0 : Nat) :
   own_MF l Z mN32 jdk_89_method_28_code 1 (some .char) ws rM0 #[(.int q)] h0 (Qhsr Z q h0 n0) := by
 refine MetFree.of_bodySF (plainFor_of_name pn_6) hisR ?_
 intro p e s m args below meth c s₁ Bd hml0 hP hK
 obtain ⟨rfl, hZ, hh⟩ := hP
 have hx := Bd.exec
 have hby := Bd.bytes
 have B := @hb _ _ hby
 have hml : c.maxLocals = 1 := hml0
 have hown : s.vm.findClass "java/lang/Character" = some m.cls := findClass_of_methodNamed Bd.named
 have X0 : Stand p l e rM0 s m #[(.int q)] below meth c s₁ [] 0 0 := Stand.of_body Bd
 have e0 : s₁.heap = h0 := by rw [← hh, Bd.state]; rfl
 have N0 := Fr.nil n0
 refine own_start (ef_nbl m q) (Q := own_QE s rM0 (Qhsr Z q h0 n0)) ?_
 show oF p e below (s₁.setTop (mkF m 0 #[.val (.int q)] [])) _
 refine oG (fun _ k => XS.iloadN X0.here hx rfl (B d39_0) rfl (XS.bipush X0.here hx rfl (B d39_1) (XS.iushr X0.here hx rfl (B d39_3) rfl k))) ?_
 show oF p e below (s₁.setTop (mkF m 4 #[.val (.int q)] [(.int ((q.toUInt32 >>> ((10 : Int32) &&& 31).toUInt32).toInt32))])) _
 refine oG (fun _ k => X0.ldcInt hx hown (mo hZ hw 196) (g := (mkF m 4 #[.val (.int q)] [(.int ((q.toUInt32 >>> ((10 : Int32) &&& 31).toUInt32).toInt32))])) rfl (B d39_4) _ k) ?_
 show oF p e below (s₁.setTop (mkF m 6 #[.val (.int q)] [(.int 55232), (.int ((q.toUInt32 >>> ((10 : Int32) &&& 31).toUInt32).toInt32))])) _
 refine oG (fun _ k => XS.iadd X0.here hx rfl (B d39_6) rfl (XS.i2c X0.here hx rfl (B d39_7) rfl k)) ?_
 show oF p e below (s₁.setTop (mkF m 8 #[.val (.int q)] [(.int ((((q.toUInt32 >>> ((10 : Int32) &&& 31).toUInt32).toInt32) + (55232 : Int32)).toUInt32.toUInt16.toUInt32.toInt32))])) _
 obtain ⟨fs, hr, r1, r2, hW, r3⟩ := X0.leave (v := some (.int (nar .char ((((q.toUInt32 >>> ((10 : Int32) &&& 31).toUInt32).toInt32) + (55232 : Int32)).toUInt32.toUInt16.toUInt32.toInt32)))) (fun h => by rw [Bd.returns] at h; cases h)
 refine ⟨_, _, ?_, r1, r2, _, _, rfl, ?_, ⟨_, rfl⟩, hW, r3.mono (by decide) (by decide)⟩
 ·exact retN X0 hx (t := .char) Bd.returns (by simp) (B d39_8) hr
 ·show Qhsr Z q h0 n0 _ s₁.heap _
  rw [e0]
  exact ⟨rfl, N0, rfl⟩
theorem d37_0 : decode k33_ 0 = .ok (.aload_n 1, 1) := by decide +kernel
theorem d37_1 : decode k33_ 1 = .ok (.iload_n 2, 1) := by decide +kernel
theorem d37_2 : decode k33_ 2 = .ok (.iconst 1, 1) := by decide +kernel
theorem d37_3 : decode k33_ 3 = .ok (.iadd, 1) := by decide +kernel
theorem d37_4 : decode k33_ 4 = .ok (.iload_n 0, 1) := by decide +kernel
theorem d37_5 : decode k33_ 5 = .ok (.invokestatic 133, 3) := by decide +kernel
theorem pd_22 : parseMethodDescriptor "(I)C" = some ⟨[.int], some .char⟩ := by decide +kernel
theorem d37_8 : decode k33_ 8 = .ok (.castore, 1) := by decide +kernel
theorem d37_9 : decode k33_ 9 = .ok (.aload_n 1, 1) := by decide +kernel
theorem d37_10 : decode k33_ 10 = .ok (.iload_n 2, 1) := by decide +kernel
theorem d37_11 : decode k33_ 11 = .ok (.iload_n 0, 1) := by decide +kernel
theorem d37_12 : decode k33_ 12 = .ok (.invokestatic 136, 3) := by decide +kernel
theorem d37_15 : decode k33_ 15 = .ok (.castore, 1) := by decide +kernel
theorem d37_16 : decode k33_ 16 = .ok (.return_, 1) := by decide +kernel
theorem ef_tsr (m : MethodId) (x0 : Int32) (x1 : Addr) (x2 : Int32) : entryFrame m #[(.int x0), (.ref x1), (.int x2)] 3 = mkF m 0 #[.val (.int x0), .val (.ref x1), .val (.int x2)] [] := by first | (simp [entryFrame, mkF, argsToLocals, Value.category]; done) | rfl
def Qtsr (Z : State) (q : Int32) (a : Addr) (ka : ClassId) (h0 : Heap) (n0 : Nat) (v : Option Value) (h : Heap) (L : List Loc) : Prop := v = none ∧ Fr n0 L ∧ Keep h0 h [a] ∧ Arv Z h a ka .char (2 : Int32) [(.int (own_HI q)), (.int (own_LO q))] (.int 0)
theorem tsr (l : Launch) (Z : State) (a0 : Array Value) (hw : ∀ d ∈ tables_1, d.before a0 Z = true) (ws : List Jvm.Cond) (q : Int32) (a : Addr) (ka : ClassId) (h0 : Heap) (n0 : Nat) (O : Old Z n0 h0) (V_a : Arv Z h0 a ka .char (2 : Int32) [(.int 0), (.int 0)] (.int 0)) (g_a : n0 ≤ a) :
   own_MF l Z mN33 jdk_89_method_32_code 3 none ws rM1 #[(.int q), (.ref a), (.int 0)] h0 (Qtsr Z q a ka h0 n0) := by
 refine MetFree.of_bodySF (plainFor_of_name pn_6) hisR ?_
 intro p e s m args below meth c s₁ Bd hml0 hP hK
 obtain ⟨rfl, hZ, hh⟩ := hP
 have hx := Bd.exec
 have hby := Bd.bytes
 have B := @hb _ _ hby
 have hml : c.maxLocals = 3 := hml0
 have hown : s.vm.findClass "java/lang/Character" = some m.cls := findClass_of_methodNamed Bd.named
 have X0 : Stand p l e rM1 s m #[(.int q), (.ref a), (.int 0)] below meth c s₁ [] 0 0 := Stand.of_body Bd
 have e0 : s₁.heap = h0 := by rw [← hh, Bd.state]; rfl
 have N0 := Fr.nil n0
 have K0 := Keep.refl h0 [a]
 refine own_start (ef_tsr m q a (0 : Int32)) (Q := own_QE s rM1 (Qtsr Z q a ka h0 n0)) ?_
 show oF p e below (s₁.setTop (mkF m 0 #[.val (.int q), .val (.ref a), .val (.int 0)] [])) _
 refine oG (fun _ k => XS.aloadN X0.here hx rfl (B d37_0) rfl rfl (XS.iloadN X0.here hx rfl (B d37_1) rfl (XS.iconst X0.here hx rfl (B d37_2) (XS.iadd X0.here hx rfl (B d37_3) rfl (XS.iloadN X0.here hx rfl (B d37_4) rfl k))))) ?_
 show oF p e below (s₁.setTop (mkF m 5 #[.val (.int q), .val (.ref a), .val (.int 0)] [(.int q), (.int 1), (.ref a)])) _
 obtain ⟨_, _, ⟨T3F, L3F, k3F, n3F⟩, -, X3F, ⟨Lc3F, hQ3F, l3F, y3F, z3F⟩, st3F⟩ := Jvm.LawKit.callS X0 hx (y := mN31) hown (mo hZ hw 189) (mo hZ hw 190) (mo hZ hw 47) (mo hZ hw 191) (by decide) (backOf (W := 2) (lsr l Z a0 hw [] q h0 n0 ) hZ (ow hw 191) (ow hw 47) (by decide) (by decide)) (g := (mkF m 5 #[.val (.int q), .val (.ref a), .val (.int 0)] [(.int q), (.int 1), (.ref a)])) rfl (by rw [hml]; rfl) (argsL := [(.int q)]) (rest := [(.int 1), (.ref a)]) (lenOf pd_22 rfl) rfl (by show 2 * 0 + _ ≤ _; exact Nat.le_of_eq rfl) (B d37_5) (fun _ _ => ⟨rfl, e0, (by decide : 0 + 0 ≤ _), (by decide : 0 + 0 ≤ _)⟩)
 dsimp only [Pt.U, Pt.locs, Pt.cells, Pt.slots] at X3F l3F y3F z3F st3F hQ3F
 subst y3F z3F
 obtain ⟨rfl, N3Fq, e3F⟩ := hQ3F
 refine oG st3F ?_
 have N3F := oL l3F (Fr.app N0 N3Fq)
 obtain ⟨cl3G, A3G, q3G, S3G, M3G, H3G, G3G⟩ := id V_a
 have hin3G : ¬ ((1 : Int32) < 0 ∨ cl3G.slots.size ≤ ((1 : Int32)).toNatClampNeg) := inb_of S3G ⟨by decide, by decide⟩
 obtain ⟨T3G, h3G, X3G, e3G, W3G, st3G⟩ := stC X3F hx hZ e3F A3G (j := (1 : Int32)) hin3G (g := (mkF m 8 #[.val (.int q), .val (.ref a), .val (.int 0)] [(.int (nar .char (((q &&& (1023 : Int32)) + (56320 : Int32)).toUInt32.toUInt16.toUInt32.toInt32))), (.int 1), (.ref a)])) rfl rfl (B d37_8)
 refine oG st3G ?_
 have O := O.wr W3G g_a
 have K3H := K0.wr W3G (Or.inl (List.mem_of_getElem? (i := 0) rfl))
 have V_a : Arv Z h3G a ka .char (2 : Int32) [(.int 0), (.int (nar .char (nar .char (((q &&& (1023 : Int32)) + (56320 : Int32)).toUInt32.toUInt16.toUInt32.toInt32))))] (.int 0) := Arv.set A3G q3G S3G M3G H3G G3G (fits_nar_char _) W3G 1 rfl (Nat.le_of_ble_eq_true rfl)
 have N3G := Fr.snoc X3G N3F g_a
 show oF p e below (T3G.setTop (mkF m 9 #[.val (.int q), .val (.ref a), .val (.int 0)] [])) _
 refine oG (fun _ k => XS.aloadN X3G.here hx rfl (B d37_9) rfl rfl (XS.iloadN X3G.here hx rfl (B d37_10) rfl (XS.iloadN X3G.here hx rfl (B d37_11) rfl k))) ?_
 show oF p e below (T3G.setTop (mkF m 12 #[.val (.int q), .val (.ref a), .val (.int 0)] [(.int q), (.int 0), (.ref a)])) _
 obtain ⟨_, _, ⟨T3I, L3I, k3I, n3I⟩, -, X3I, ⟨Lc3I, hQ3I, l3I, y3I, z3I⟩, st3I⟩ := Jvm.LawKit.callS X3G hx (y := mN32) hown (mo hZ hw 193) (mo hZ hw 194) (mo hZ hw 47) (mo hZ hw 195) (by decide) (backOf (W := 2) (hsr l Z a0 hw [] q h3G n0 ) hZ (ow hw 195) (ow hw 47) (by decide) (by decide)) (g := (mkF m 12 #[.val (.int q), .val (.ref a), .val (.int 0)] [(.int q), (.int 0), (.ref a)])) rfl (by rw [hml]; rfl) (argsL := [(.int q)]) (rest := [(.int 0), (.ref a)]) (lenOf pd_22 rfl) rfl (by show 2 * 0 + _ ≤ _; exact Nat.le_of_eq rfl) (B d37_12) (fun _ _ => ⟨rfl, e3G, (by decide : 0 + 0 ≤ _), (by decide : 0 + 0 ≤ _)⟩)
 dsimp only [Pt.U, Pt.locs, Pt.cells, Pt.slots] at X3I l3I y3I z3I st3I hQ3I
 subst y3I z3I
 obtain ⟨rfl, N3Iq, e3I⟩ := hQ3I
 refine oG st3I ?_
 have N3I := oL l3I (Fr.app N3G N3Iq)
 obtain ⟨cl3J, A3J, q3J, S3J, M3J, H3J, G3J⟩ := id V_a
 have hin3J : ¬ ((0 : Int32) < 0 ∨ cl3J.slots.size ≤ ((0 : Int32)).toNatClampNeg) := inb_of S3J ⟨by decide, by decide⟩
 obtain ⟨T3J, h3J, X3J, e3J, W3J, st3J⟩ := stC X3I hx hZ e3I A3J (j := (0 : Int32)) hin3J (g := (mkF m 15 #[.val (.int q), .val (.ref a), .val (.int 0)] [(.int (nar .char ((((q.toUInt32 >>> ((10 : Int32) &&& 31).toUInt32).toInt32) + (55232 : Int32)).toUInt32.toUInt16.toUInt32.toInt32))), (.int 0), (.ref a)])) rfl rfl (B d37_15)
 refine oG st3J ?_
 have O := O.wr W3J g_a
 have K3K := K3H.wr W3J (Or.inl (List.mem_of_getElem? (i := 0) rfl))
 have V_a : Arv Z h3J a ka .char (2 : Int32) [(.int (nar .char (nar .char ((((q.toUInt32 >>> ((10 : Int32) &&& 31).toUInt32).toInt32) + (55232 : Int32)).toUInt32.toUInt16.toUInt32.toInt32)))), (.int (nar .char (nar .char (((q &&& (1023 : Int32)) + (56320 : Int32)).toUInt32.toUInt16.toUInt32.toInt32))))] (.int 0) := Arv.set A3J q3J S3J M3J H3J G3J (fits_nar_char _) W3J 0 rfl (Nat.le_of_ble_eq_true rfl)
 have N3J := Fr.snoc X3J N3I g_a
 show oF p e below (T3J.setTop (mkF m 16 #[.val (.int q), .val (.ref a), .val (.int 0)] [])) _
 obtain ⟨fs, hr, r1, r2, hW, r3⟩ := X3J.leave (v := none) (fun _ => rfl)
 refine ⟨_, _, ?_, r1, r2, _, _, rfl, ?_, ⟨_, rfl⟩, hW, r3.mono (by decide) (by decide)⟩
 ·exact X3J.returnOut hx Bd.returns (B d37_16) hr
 ·show Qtsr Z q a ka h0 n0 _ T3J.heap _
  rw [e3J]
  exact ⟨rfl, N3J, K3K, V_a⟩
theorem d35_0 : decode k34_ 0 = .ok (.iload_n 0, 1) := by decide +kernel
theorem d35_1 : decode k34_ 1 = .ok (.invokestatic 111, 3) := by decide +kernel
theorem pd_23 : parseMethodDescriptor "(I)Z" = some ⟨[.int], some .boolean⟩ := by decide +kernel
theorem d35_4 : decode k34_ 4 = .ok (.ifCond .eq 12, 3) := by decide +kernel
theorem d35_16 : decode k34_ 16 = .ok (.iload_n 0, 1) := by decide +kernel
theorem d35_17 : decode k34_ 17 = .ok (.invokestatic 115, 3) := by decide +kernel
theorem d35_20 : decode k34_ 20 = .ok (.ifCond .eq 15, 3) := by decide +kernel
theorem d35_23 : decode k34_ 23 = .ok (.iconst 2, 1) := by decide +kernel
theorem d35_24 : decode k34_ 24 = .ok (.newarray .char, 2) := by decide +kernel
theorem d35_26 : decode k34_ 26 = .ok (.astore_n 1, 1) := by decide +kernel
theorem d35_27 : decode k34_ 27 = .ok (.iload_n 0, 1) := by decide +kernel
theorem d35_28 : decode k34_ 28 = .ok (.aload_n 1, 1) := by decide +kernel
theorem d35_29 : decode k34_ 29 = .ok (.iconst 0, 1) := by decide +kernel
theorem d35_30 : decode k34_ 30 = .ok (.invokestatic 118, 3) := by decide +kernel
theorem pd_24 : parseMethodDescriptor "(I[CI)V" = some ⟨[.int, (.array .char), .int], none⟩ := by decide +kernel
theorem d35_33 : decode k34_ 33 = .ok (.aload_n 1, 1) := by decide +kernel
theorem d35_34 : decode k34_ 34 = .ok (.areturn, 1) := by decide +kernel
def Qtch (Z : State) (q : Int32) (h0 : Heap) (n0 : Nat) (v : Option Value) (h : Heap) (L : List Loc) : Prop := ∃ (ch_ : Addr) (kc_ : ClassId), v = some (.ref ch_) ∧ Fr n0 L ∧ Keep h0 h [] ∧ h0.size ≤ ch_ ∧ Arv Z h ch_ kc_ .char (2 : Int32) [(.int (own_HI q)), (.int (own_LO q))] (.int 0)
theorem tch (l : Launch) (Z : State) (a0 : Array Value) (hw : ∀ d ∈ tables_1, d.before a0 Z = true) (ws : List Jvm.Cond) (q : Int32) (h0 : Heap) (n0 : Nat) (O : Old Z n0 h0) (hbm : ¬ (((q.toUInt32 >>> ((16 : Int32) &&& 31).toUInt32).toInt32) = (0 : Int32))) (hva : ((q.toUInt32 >>> ((16 : Int32) &&& 31).toUInt32).toInt32) < (17 : Int32)) :
   own_MF l Z mN34 jdk_89_method_31_code 2 (some (.array .char)) ws rM19 #[(.int q)] h0 (Qtch Z q h0 n0) := by
 refine MetFree.of_bodySF (plainFor_of_name pn_6) hisR ?_
 intro p e s m args below meth c s₁ Bd hml0 hP hK
 obtain ⟨rfl, hZ, hh⟩ := hP
 have hx := Bd.exec
 have hby := Bd.bytes
 have B := @hb _ _ hby
 have hml : c.maxLocals = 2 := hml0
 have hown : s.vm.findClass "java/lang/Character" = some m.cls := findClass_of_methodNamed Bd.named
 have X0 : Stand p l e rM19 s m #[(.int q)] below meth c s₁ [] 0 0 := Stand.of_body Bd
 have e0 : s₁.heap = h0 := by rw [← hh, Bd.state]; rfl
 have N0 := Fr.nil n0
 have K0 := Keep.refl h0 []
 refine own_start (ef_vcp m q) (Q := own_QE s rM19 (Qtch Z q h0 n0)) ?_
 show oF p e below (s₁.setTop (mkF m 0 #[.val (.int q), .unset] [])) _
 refine oG (fun _ k => XS.iloadN X0.here hx rfl (B d35_0) rfl k) ?_
 show oF p e below (s₁.setTop (mkF m 1 #[.val (.int q), .unset] [(.int q)])) _
 obtain ⟨_, _, ⟨T3L, L3L, k3L, n3L⟩, -, X3L, ⟨Lc3L, hQ3L, l3L, y3L, z3L⟩, st3L⟩ := Jvm.LawKit.callS X0 hx (y := mN29) hown (mo hZ hw 181) (mo hZ hw 46) (mo hZ hw 47) (mo hZ hw 48) (by decide) (backOf (W := 0) (bmp l Z a0 hw [] q h0 n0 ) hZ (ow hw 48) (ow hw 47) (by decide) (by decide)) (g := (mkF m 1 #[.val (.int q), .unset] [(.int q)])) rfl (by rw [hml]; rfl) (argsL := [(.int q)]) (rest := []) (lenOf pd_23 rfl) rfl (by show 2 * 0 + _ ≤ _; exact Nat.le_of_eq rfl) (B d35_1) (fun _ _ => ⟨rfl, e0, (by decide : 0 + 0 ≤ _), (by decide : 0 + 0 ≤ _)⟩)
 dsimp only [Pt.U, Pt.locs, Pt.cells, Pt.slots] at X3L l3L y3L z3L st3L hQ3L
 subst y3L z3L
 obtain ⟨rfl, N3Lq, e3L⟩ := hQ3L
 refine oG st3L ?_
 have N3L := oL l3L (Fr.app N0 N3Lq)
 show oF p e below (T3L.setTop (mkF m 4 #[.val (.int q), .unset] [(.int (own_bi (((q.toUInt32 >>> ((16 : Int32) &&& 31).toUInt32).toInt32) = (0 : Int32))))])) _
 refine oG (fun _ k => XS.ifYes X3L.here hx rfl (pc0 := 4) (pc' := 16) rfl (B d35_4) rfl ((if0 _ _).trans (teq (own_bz hbm)).1) (by decide) (by decide) (XS.iloadN X3L.here hx rfl (B d35_16) rfl k)) ?_
 show oF p e below (T3L.setTop (mkF m 17 #[.val (.int q), .unset] [(.int q)])) _
 obtain ⟨_, _, ⟨T3M, L3M, k3M, n3M⟩, -, X3M, ⟨Lc3M, hQ3M, l3M, y3M, z3M⟩, st3M⟩ := Jvm.LawKit.callS X3L hx (y := mN30) hown (mo hZ hw 182) (mo hZ hw 183) (mo hZ hw 47) (mo hZ hw 184) (by decide) (backOf (W := 0) (vcp l Z a0 hw [] q h0 n0 hva) hZ (ow hw 184) (ow hw 47) (by decide) (by decide)) (g := (mkF m 17 #[.val (.int q), .unset] [(.int q)])) rfl (by rw [hml]; rfl) (argsL := [(.int q)]) (rest := []) (lenOf pd_23 rfl) rfl (by show 2 * 0 + _ ≤ _; exact Nat.le_of_eq rfl) (B d35_17) (fun _ _ => ⟨rfl, e3L, (by decide : 0 + 0 ≤ _), (by decide : 0 + 0 ≤ _)⟩)
 dsimp only [Pt.U, Pt.locs, Pt.cells, Pt.slots] at X3M l3M y3M z3M st3M hQ3M
 subst y3M z3M
 obtain ⟨rfl, N3Mq, e3M⟩ := hQ3M
 refine oG st3M ?_
 have N3M := oL l3M (Fr.app N3L N3Mq)
 show oF p e below (T3M.setTop (mkF m 20 #[.val (.int q), .unset] [(.int 1)])) _
 refine oG (fun _ k => XS.ifNo X3M.here hx rfl (B d35_20) rfl ((if0 _ _).trans (feq (by decide : ¬ ((1 : Int32) = (0 : Int32)))).1) (XS.iconst X3M.here hx rfl (B d35_23) k)) ?_
 show oF p e below (T3M.setTop (mkF m 24 #[.val (.int q), .unset] [(.int 2)])) _
 obtain ⟨T3N, h3N, k3N, X3N, e3N, E3N, A3N, B3N, st3N⟩ := newPE X3M hx hZ (ow hw 185) e3M (g := (mkF m 24 #[.val (.int q), .unset] [(.int 2)])) rfl (B d35_24) rfl (by decide) (cap := 2) (by decide) (by decide) (by decide) (by decide) (ad := "[C") (by decide)
 obtain ⟨b3N, g3N⟩ : ∃ z, z = h0.size := ⟨_, rfl⟩
 rw [← g3N] at A3N st3N B3N
 refine oG st3N ?_
 have j74_ : n0 ≤ b3N := Nat.le_trans (own_osz O) (Nat.le_of_eq g3N.symm)
 have j75_ : h0.size ≤ b3N := Nat.le_trans K0.1 (Nat.le_of_eq g3N.symm)
 have O := O.ext E3N
 have K3O := K0.ext E3N
 have j76_ := B3N
 have j44_ : Arv Z h3N b3N k3N .char (2 : Int32) [(.int 0), (.int 0)] (.int 0) := (Arv.new A3N (by decide)).pad (pad_rep [] (.int 0) 2)
 show oF p e below (T3N.setTop (mkF m 26 #[.val (.int q), .unset] [(.ref b3N)])) _
 refine oG (fun _ k => XS.astoreN X3N.here hx rfl (B d35_26) rfl rfl (l' := #[.val (.int q), .val (.ref b3N)]) rfl (XS.iloadN X3N.here hx rfl (B d35_27) rfl (XS.aloadN X3N.here hx rfl (B d35_28) rfl rfl (XS.iconst X3N.here hx rfl (B d35_29) k)))) ?_
 show oF p e below (T3N.setTop (mkF m 30 #[.val (.int q), .val (.ref b3N)] [(.int 0), (.ref b3N), (.int q)])) _
 obtain ⟨_, _, ⟨T3P, L3P, k3P, n3P⟩, -, X3P, ⟨Lc3P, hQ3P, l3P, y3P, z3P⟩, st3P⟩ := Jvm.LawKit.callS X3N hx (y := mN33) hown (mo hZ hw 186) (mo hZ hw 187) (mo hZ hw 47) (mo hZ hw 188) (by decide) (backOf (W := 0) (tsr l Z a0 hw [] q b3N k3N h3N n0 O j44_ j74_) hZ (ow hw 188) (ow hw 47) (by decide) (by decide)) (g := (mkF m 30 #[.val (.int q), .val (.ref b3N)] [(.int 0), (.ref b3N), (.int q)])) rfl (by rw [hml]; rfl) (argsL := [(.int q), (.ref b3N), (.int 0)]) (rest := []) (lenOf pd_24 rfl) rfl (by show 2 * 0 + _ ≤ _; exact Nat.le_of_eq rfl) (B d35_30) (fun _ _ => ⟨rfl, e3N, (by decide : 1 + 0 ≤ _), (by decide : 2 + 0 ≤ _)⟩)
 dsimp only [Pt.U, Pt.locs, Pt.cells, Pt.slots] at X3P l3P y3P z3P st3P hQ3P
 subst y3P z3P
 obtain ⟨rfl, N3Pq, Kq3P, P3P_0⟩ := hQ3P
 refine oG st3P ?_
 have N3P := oL l3P (Fr.app N3M N3Pq)
 have j76_ := j76_.keep Kq3P
 clear j44_
 have O := O.keep Kq3P (allS j74_ all0)
 have K3Q := K3O.trans Kq3P (allS (Or.inr j75_) all0)
 have j44_ := P3P_0
 show oF p e below (T3P.setTop (mkF m 33 #[.val (.int q), .val (.ref b3N)] [])) _
 refine oG (fun _ k => XS.aloadN X3P.here hx rfl (B d35_33) rfl rfl k) ?_
 show oF p e below (T3P.setTop (mkF m 34 #[.val (.int q), .val (.ref b3N)] [(.ref b3N)])) _
 obtain ⟨fs, hr, r1, r2, hW, r3⟩ := X3P.leave (v := some (.ref b3N)) (fun h => by rw [Bd.returns] at h; cases h)
 refine ⟨_, _, ?_, r1, r2, _, _, rfl, ?_, ⟨_, rfl⟩, hW, r3.mono (by decide) (by decide)⟩
 ·exact X3P.areturnOut hx rfl Bd.returns rfl (B d35_34) hr
 ·show Qtch Z q h0 n0 _ T3P.heap _
  exact ⟨b3N, k3N, rfl, N3P, K3Q, j75_, j44_⟩
theorem own_cl1 {q N : Int32} {cs : List Int32} (h : q < (65536 : Int32)) (hl : ((cs ++ own_un q).length : Int) ≤ N.toInt) : (cs.length : Int) + 1 ≤ N.toInt := by
 rw [own_un1 h, List.length_append] at hl; simp only [List.length_cons, List.length_nil] at hl; omega
theorem own_cl2 {q N : Int32} {cs : List Int32} (h : ¬ q < (65536 : Int32)) (hl : ((cs ++ own_un q).length : Int) ≤ N.toInt) : (cs.length : Int) + 2 ≤ N.toInt := by
 rw [own_un2 h, List.length_append] at hl; simp only [List.length_cons, List.length_nil] at hl; omega
theorem d8_0 : decode k35_ 0 = .ok (.iload_n 1, 1) := by decide +kernel
theorem d8_1 : decode k35_ 1 = .ok (.invokestatic 286, 3) := by decide +kernel
theorem d8_4 : decode k35_ 4 = .ok (.ifCond .eq 10, 3) := by decide +kernel
theorem d8_7 : decode k35_ 7 = .ok (.aload_n 0, 1) := by decide +kernel
theorem d8_8 : decode k35_ 8 = .ok (.iload_n 1, 1) := by decide +kernel
theorem d8_9 : decode k35_ 9 = .ok (.i2c, 1) := by decide +kernel
theorem d8_10 : decode k35_ 10 = .ok (.invokevirtual 290, 3) := by decide +kernel
theorem d8_13 : decode k35_ 13 = .ok (.areturn, 1) := by decide +kernel
theorem d8_14 : decode k35_ 14 = .ok (.aload_n 0, 1) := by decide +kernel
theorem d8_15 : decode k35_ 15 = .ok (.iload_n 1, 1) := by decide +kernel
theorem d8_16 : decode k35_ 16 = .ok (.invokestatic 293, 3) := by decide +kernel
theorem pd_25 : parseMethodDescriptor "(I)[C" = some ⟨[.int], some (.array .char)⟩ := by decide +kernel
theorem d8_19 : decode k35_ 19 = .ok (.invokevirtual 297, 3) := by decide +kernel
theorem d8_22 : decode k35_ 22 = .ok (.areturn, 1) := by decide +kernel
def Qacp (Z : State) (b : Addr) (q : Int32) (t : Addr) (N : Int32) (cs : List Int32) (h0 : Heap) (n0 : Nat) (v : Option Value) (h : Heap) (L : List Loc) : Prop := ∃ (t2_ : Addr) (k2_ : ClassId), v = some (.ref b) ∧ Fr n0 L ∧ Keep h0 h [b, t] ∧ (t2_ = t ∨ h0.size ≤ t2_) ∧ n0 ≤ t2_ ∧ b ≠ t2_ ∧ eX1 Z h b ∧ eX0 Z h t2_ ∧ own_SB Z h b t2_ k2_ N (cs ++ own_un q)
theorem acp (l : Launch) (Z : State) (a0 : Array Value) (hw : ∀ d ∈ tables_1, d.before a0 Z = true) (ws : List Jvm.Cond) (b : Addr) (q : Int32) (z : Int32) (t : Addr) (kt : ClassId) (N : Int32) (fm : Value) (cs : List Int32) (h0 : Heap) (n0 : Nat) (O : Old Z n0 h0) (j6_ : sT0 Z (.int 1)) (j7_ : sT1 Z (.int 0)) (j8_ : sT2 Z (.int 8)) (j5_ : sT3 Z fm) (hfm : fm.isRef = true) (j4_ : sT4 Z (.int z)) (hz : ¬ (z = (0 : Int32))) (E_b : eX1 Z h0 b) (j9_ : own_SB Z h0 b t kt N cs) (E_t : eX0 Z h0 t) (g_b : n0 ≤ b) (g_t : n0 ≤ t) (nbt : b ≠ t) (hN8 : N.toInt ≤ 8) (h2_ : cs.length ≤ 2) (ksu : cs.length = 2 → own_bg cs) (hcp : own_cp q) (hcl : ((cs ++ own_un q).length : Int) ≤ N.toInt) :
   own_MF l Z mN35 jdk_68_method_37_code 2 (some (.object "java/lang/AbstractStringBuilder")) ws rM20 #[(.ref b), (.int q)] h0 (Qacp Z b q t N cs h0 n0) := by
 refine MetFree.of_bodySF (plainFor_of_name pn_4) hisR ?_
 intro p e s m args below meth c s₁ Bd hml0 hP hK
 obtain ⟨rfl, hZ, hh⟩ := hP
 have hx := Bd.exec
 have hby := Bd.bytes
 have B := @hb _ _ hby
 have hml : c.maxLocals = 2 := hml0
 have hown : s.vm.findClass "java/lang/AbstractStringBuilder" = some m.cls := findClass_of_methodNamed Bd.named
 have X0 : Stand p l e rM20 s m #[(.ref b), (.int q)] below meth c s₁ [] 0 0 := Stand.of_body Bd
 have e0 : s₁.heap = h0 := by rw [← hh, Bd.state]; rfl
 have N0 := Fr.nil n0
 have K0 := Keep.refl h0 [b, t]
 refine own_start (ef_apL0 m b q) (Q := own_QE s rM20 (Qacp Z b q t N cs h0 n0)) ?_
 show oF p e below (s₁.setTop (mkF m 0 #[.val (.ref b), .val (.int q)] [])) _
 refine oG (fun _ k => XS.iloadN X0.here hx rfl (B d8_0) rfl k) ?_
 show oF p e below (s₁.setTop (mkF m 1 #[.val (.ref b), .val (.int q)] [(.int q)])) _
 obtain ⟨_, _, ⟨T3R, L3R, k3R, n3R⟩, -, X3R, ⟨Lc3R, hQ3R, l3R, y3R, z3R⟩, st3R⟩ := Jvm.LawKit.callS X0 hx (y := mN29) hown (mo hZ hw 45) (mo hZ hw 46) (mo hZ hw 47) (mo hZ hw 48) (by decide) (backOf (W := 0) (bmp l Z a0 hw [] q h0 n0 ) hZ (ow hw 48) (ow hw 47) (by decide) (by decide)) (g := (mkF m 1 #[.val (.ref b), .val (.int q)] [(.int q)])) rfl (by rw [hml]; rfl) (argsL := [(.int q)]) (rest := []) (lenOf pd_23 rfl) rfl (by show 2 * 0 + _ ≤ _; exact Nat.le_of_eq rfl) (B d8_1) (fun _ _ => ⟨rfl, e0, (by decide : 0 + 0 ≤ _), (by decide : 0 + 0 ≤ _)⟩)
 dsimp only [Pt.U, Pt.locs, Pt.cells, Pt.slots] at X3R l3R y3R z3R st3R hQ3R
 subst y3R z3R
 obtain ⟨rfl, N3Rq, e3R⟩ := hQ3R
 refine oG st3R ?_
 have N3R := oL l3R (Fr.app N0 N3Rq)
 show oF p e below (T3R.setTop (mkF m 4 #[.val (.ref b), .val (.int q)] [(.int (own_bi (((q.toUInt32 >>> ((16 : Int32) &&& 31).toUInt32).toInt32) = (0 : Int32))))])) _
 by_cases hc4_339 : ((q.toUInt32 >>> ((16 : Int32) &&& 31).toUInt32).toInt32) = (0 : Int32)
 ·refine oG (fun _ k => XS.ifNo X3R.here hx rfl (B d8_4) rfl ((if0 _ _).trans (feq (own_bn hc4_339)).1) (XS.aloadN X3R.here hx rfl (B d8_7) rfl rfl (XS.iloadN X3R.here hx rfl (B d8_8) rfl (XS.i2c X3R.here hx rfl (B d8_9) rfl k)))) ?_
  show oF p e below (T3R.setTop (mkF m 10 #[.val (.ref b), .val (.int q)] [(.int (q.toUInt32.toUInt16.toUInt32.toInt32)), (.ref b)])) _
  obtain ⟨cq3S, kq3S, q3Sa, q3Sb, q3Sc⟩ := isOf hZ e3R E_b
  obtain ⟨_, _, ⟨T3S, L3S, k3S, n3S⟩, -, X3S, ⟨Lc3S, hQ3S, l3S, y3S, z3S⟩, st3S⟩ := X3R.virtualBack hx (y := mN19) (z := mN26) hown (mo hZ hw 49) (mo hZ hw 50) (own_nf (args := #[]) (mo hZ hw 67) (by exact rfl)) (mo hZ hw 52) (mo hZ hw 53) (by decide) (backOf (W := 0) (sbB l Z a0 hw [] b (q.toUInt32.toUInt16.toUInt32.toInt32) z t kt N fm cs h0 n0 O j6_ j7_ j8_ j5_ hfm j4_ hz E_b j9_ E_t g_b g_t nbt hN8 h2_ ksu (own_i2cr _).1 (own_i2cr _).2 (own_cl1 ((own_bmp hcp).mp hc4_339) hcl)) hZ (ow hw 54) (ow hw 16) (by decide) (by decide)) q3Sa q3Sc (g := (mkF m 10 #[.val (.ref b), .val (.int q)] [(.int (q.toUInt32.toUInt16.toUInt32.toInt32)), (.ref b)])) rfl (by rw [hml]; rfl) (Steps.refl _) (argsL := [(.int (q.toUInt32.toUInt16.toUInt32.toInt32))]) (rest := []) (lenOf pd_18 rfl) rfl (by show 2 * 0 + _ ≤ _; exact Nat.le_of_eq rfl) (B d8_10) (fun _ _ => ⟨rfl, e3R, (by decide : 0 + 1 ≤ _), (by decide : 0 + 16 ≤ _)⟩)
  dsimp only [Pt.U, Pt.locs, Pt.cells, Pt.slots] at X3S l3S y3S z3S st3S hQ3S
  subst y3S z3S
  obtain ⟨t2_3T, k2_3U, rfl, N3Sq, Kq3S, P3S_0, P3S_1, P3S_2, P3S_3, P3S_4, P3S_5⟩ := hQ3S
  refine oG (fun _ k => st3S.trans k) ?_
  have N3S := oL l3S (Fr.app N3R N3Sq)
  have E_b := E_b.keep Kq3S
  clear j9_
  have E_t := E_t.keep Kq3S
  have O := O.keep Kq3S (allS g_b (allS g_t all0))
  have K3V := K0.trans Kq3S (allS (Or.inl (List.mem_of_getElem? (i := 0) rfl)) (allS (Or.inl (List.mem_of_getElem? (i := 1) rfl)) all0))
  have E_b := P3S_3
  have E_t2_341 := P3S_4
  have j9_ := P3S_5
  show oF p e below (T3S.setTop (mkF m 13 #[.val (.ref b), .val (.int q)] [(.ref b)])) _
  obtain ⟨fs, hr, r1, r2, hW, r3⟩ := X3S.leave (v := some (.ref b)) (fun h => by rw [Bd.returns] at h; cases h)
  refine ⟨_, _, ?_, r1, r2, _, _, rfl, ?_, ⟨_, rfl⟩, hW, r3.mono (by decide) (by decide)⟩
  ·exact X3S.areturnOut hx rfl Bd.returns rfl (B d8_13) hr
  ·show Qacp Z b q t N cs h0 n0 _ T3S.heap _
   exact ⟨t2_3T, k2_3U, rfl, N3S, K3V, (P3S_0.imp id (Nat.le_trans K0.1)), P3S_1, P3S_2, E_b, E_t2_341, (by rw [own_un1 ((own_bmp hcp).mp hc4_339)]; exact j9_)⟩
 ·refine oG (fun _ k => XS.ifYes X3R.here hx rfl (pc0 := 4) (pc' := 14) rfl (B d8_4) rfl ((if0 _ _).trans (teq (own_bz hc4_339)).1) (by decide) (by decide) (XS.aloadN X3R.here hx rfl (B d8_14) rfl rfl (XS.iloadN X3R.here hx rfl (B d8_15) rfl k))) ?_
  show oF p e below (T3R.setTop (mkF m 16 #[.val (.ref b), .val (.int q)] [(.int q), (.ref b)])) _
  obtain ⟨_, _, ⟨T3W, L3W, k3W, n3W⟩, -, X3W, ⟨Lc3W, hQ3W, l3W, y3W, z3W⟩, st3W⟩ := Jvm.LawKit.callS X3R hx (y := mN34) hown (mo hZ hw 178) (mo hZ hw 179) (mo hZ hw 47) (mo hZ hw 180) (by decide) (backOf (W := 1) (tch l Z a0 hw [] q h0 n0 O hc4_339 (own_val hcp)) hZ (ow hw 180) (ow hw 47) (by decide) (by decide)) (g := (mkF m 16 #[.val (.ref b), .val (.int q)] [(.int q), (.ref b)])) rfl (by rw [hml]; rfl) (argsL := [(.int q)]) (rest := [(.ref b)]) (lenOf pd_25 rfl) rfl (by show 2 * 0 + _ ≤ _; exact Nat.le_of_eq rfl) (B d8_16) (fun _ _ => ⟨rfl, e3R, (by decide : 0 + 1 ≤ _), (by decide : 0 + 2 ≤ _)⟩)
  dsimp only [Pt.U, Pt.locs, Pt.cells, Pt.slots] at X3W l3W y3W z3W st3W hQ3W
  subst y3W z3W
  obtain ⟨ch_3X, kc_3Y, rfl, N3Wq, Kq3W, P3W_0, P3W_1⟩ := hQ3W
  refine oG st3W ?_
  have N3W := oL l3W (Fr.app N3R N3Wq)
  have j77_ : b ≠ ch_3X := Nat.ne_of_lt (Nat.lt_of_lt_of_le E_b.lt P3W_0)
  have j78_ : t ≠ ch_3X := Nat.ne_of_lt (Nat.lt_of_lt_of_le E_t.lt P3W_0)
  have g_ch_346 : n0 ≤ ch_3X := Nat.le_trans (own_osz O) P3W_0
  have sz_ch_346 : h0.size ≤ ch_3X := Nat.le_trans K0.1 P3W_0
  have E_b := E_b.keep Kq3W
  have j9_ := own_SB_keep j9_ Kq3W nin0 nin0
  have E_t := E_t.keep Kq3W
  have O := O.keep Kq3W all0
  have K3Z := K0.trans Kq3W all0
  have j51_ := P3W_1
  obtain ⟨cq4a, kq4a, q4aa, q4ab, q4ac⟩ := isOf hZ rfl E_b
  obtain ⟨_, _, ⟨T4a, L4a, k4a, n4a⟩, -, X4a, ⟨Lc4a, hQ4a, l4a, y4a, z4a⟩, st4a⟩ := X3W.virtualBack hx (y := mN24) (z := mN28) hown (mo hZ hw 197) (mo hZ hw 198) (own_nf (args := #[]) (mo hZ hw 67) (by exact rfl)) (mo hZ hw 200) (mo hZ hw 201) (by decide) (backOf (W := 0) (sbE l Z a0 hw [] b ch_3X z t kt N fm cs kc_3Y (own_HI q) (own_LO q) (T3W.heap) n0 O j6_ j7_ j8_ j5_ hfm j4_ hz E_b j9_ E_t g_b g_t nbt hN8 h2_ ksu j51_ (own_hi255 hcp (fun z => hc4_339 ((own_bmp hcp).mpr z))) j78_ j77_ (by rw [← own_un2 (fun z => hc4_339 ((own_bmp hcp).mpr z))]; exact own_unr hcp) (own_cl2 (fun z => hc4_339 ((own_bmp hcp).mpr z)) hcl)) hZ (ow hw 202) (ow hw 16) (by decide) (by decide)) q4aa q4ac (g := (mkF m 19 #[.val (.ref b), .val (.int q)] [(.ref ch_3X), (.ref b)])) rfl (by rw [hml]; rfl) (Steps.refl _) (argsL := [(.ref ch_3X)]) (rest := []) (lenOf pd_20 rfl) rfl (by show 2 * 0 + _ ≤ _; exact Nat.le_of_eq rfl) (B d8_19) (fun _ _ => ⟨rfl, rfl, (by decide : 1 + 1 ≤ _), (by decide : 2 + 16 ≤ _)⟩)
  dsimp only [Pt.U, Pt.locs, Pt.cells, Pt.slots] at X4a l4a y4a z4a st4a hQ4a
  subst y4a z4a
  obtain ⟨t2_4b, k2_4c, rfl, N4aq, Kq4a, P4a_0, P4a_1, P4a_2, P4a_3, P4a_4, P4a_5⟩ := hQ4a
  refine oG (fun _ k => st4a.trans k) ?_
  have N4a := oL l4a (Fr.app N3W N4aq)
  have E_b := E_b.keep Kq4a
  clear j9_
  have E_t := E_t.keep Kq4a
  have j51_ := j51_.keep Kq4a (ninS (Ne.symm j77_) (ninS (Ne.symm j78_) nin0))
  have O := O.keep Kq4a (allS g_b (allS g_t all0))
  have K4d := K3Z.trans Kq4a (allS (Or.inl (List.mem_of_getElem? (i := 0) rfl)) (allS (Or.inl (List.mem_of_getElem? (i := 1) rfl)) all0))
  have E_b := P4a_3
  have E_t2_350 := P4a_4
  have j9_ := P4a_5
  show oF p e below (T4a.setTop (mkF m 22 #[.val (.ref b), .val (.int q)] [(.ref b)])) _
  obtain ⟨fs, hr, r1, r2, hW, r3⟩ := X4a.leave (v := some (.ref b)) (fun h => by rw [Bd.returns] at h; cases h)
  refine ⟨_, _, ?_, r1, r2, _, _, rfl, ?_, ⟨_, rfl⟩, hW, r3.mono (by decide) (by decide)⟩
  ·exact X4a.areturnOut hx rfl Bd.returns rfl (B d8_22) hr
  ·show Qacp Z b q t N cs h0 n0 _ T4a.heap _
   exact ⟨t2_4b, k2_4c, rfl, N4a, K4d, (P4a_0.imp id (Nat.le_trans K3Z.1)), P4a_1, P4a_2, E_b, E_t2_350, (by rw [own_un2 (fun z => hc4_339 ((own_bmp hcp).mpr z))]; exact j9_)⟩
theorem d7_0 : decode k36_ 0 = .ok (.aload_n 0, 1) := by decide +kernel
theorem d7_1 : decode k36_ 1 = .ok (.iload_n 1, 1) := by decide +kernel
theorem d7_2 : decode k36_ 2 = .ok (.invokespecial 65, 3) := by decide +kernel
theorem pd_26 : parseMethodDescriptor "(I)Ljava/lang/AbstractStringBuilder;" = some ⟨[.int], some (.object "java/lang/AbstractStringBuilder")⟩ := by decide +kernel
theorem d7_5 : decode k36_ 5 = .ok (.pop, 1) := by decide +kernel
theorem d7_6 : decode k36_ 6 = .ok (.aload_n 0, 1) := by decide +kernel
theorem d7_7 : decode k36_ 7 = .ok (.areturn, 1) := by decide +kernel
def Qscp (Z : State) (b : Addr) (q : Int32) (t : Addr) (N : Int32) (cs : List Int32) (h0 : Heap) (n0 : Nat) (v : Option Value) (h : Heap) (L : List Loc) : Prop := ∃ (t2_ : Addr) (k2_ : ClassId), v = some (.ref b) ∧ Fr n0 L ∧ Keep h0 h [b, t] ∧ (t2_ = t ∨ h0.size ≤ t2_) ∧ n0 ≤ t2_ ∧ b ≠ t2_ ∧ eX1 Z h b ∧ eX0 Z h t2_ ∧ own_SB Z h b t2_ k2_ N (cs ++ own_un q)
theorem scp (l : Launch) (Z : State) (a0 : Array Value) (hw : ∀ d ∈ tables_1, d.before a0 Z = true) (ws : List Jvm.Cond) (b : Addr) (q : Int32) (z : Int32) (t : Addr) (kt : ClassId) (N : Int32) (fm : Value) (cs : List Int32) (h0 : Heap) (n0 : Nat) (O : Old Z n0 h0) (j6_ : sT0 Z (.int 1)) (j7_ : sT1 Z (.int 0)) (j8_ : sT2 Z (.int 8)) (j5_ : sT3 Z fm) (hfm : fm.isRef = true) (j4_ : sT4 Z (.int z)) (hz : ¬ (z = (0 : Int32))) (E_b : eX1 Z h0 b) (j9_ : own_SB Z h0 b t kt N cs) (E_t : eX0 Z h0 t) (g_b : n0 ≤ b) (g_t : n0 ≤ t) (nbt : b ≠ t) (hN8 : N.toInt ≤ 8) (h2_ : cs.length ≤ 2) (ksu : cs.length = 2 → own_bg cs) (hcp : own_cp q) (hcl : ((cs ++ own_un q).length : Int) ≤ N.toInt) :
   own_MF l Z mN36 jdk_67_method_19_code 2 (some (.object "java/lang/StringBuilder")) ws rM21 #[(.ref b), (.int q)] h0 (Qscp Z b q t N cs h0 n0) := by
 refine MetFree.of_bodySF (plainFor_of_name pn_5) hisR ?_
 intro p e s m args below meth c s₁ Bd hml0 hP hK
 obtain ⟨rfl, hZ, hh⟩ := hP
 have hx := Bd.exec
 have hby := Bd.bytes
 have B := @hb _ _ hby
 have hml : c.maxLocals = 2 := hml0
 have hown : s.vm.findClass "java/lang/StringBuilder" = some m.cls := findClass_of_methodNamed Bd.named
 have X0 : Stand p l e rM21 s m #[(.ref b), (.int q)] below meth c s₁ [] 0 0 := Stand.of_body Bd
 have e0 : s₁.heap = h0 := by rw [← hh, Bd.state]; rfl
 have N0 := Fr.nil n0
 have K0 := Keep.refl h0 [b, t]
 refine own_start (ef_apL0 m b q) (Q := own_QE s rM21 (Qscp Z b q t N cs h0 n0)) ?_
 show oF p e below (s₁.setTop (mkF m 0 #[.val (.ref b), .val (.int q)] [])) _
 refine oG (fun _ k => XS.aloadN X0.here hx rfl (B d7_0) rfl rfl (XS.iloadN X0.here hx rfl (B d7_1) rfl k)) ?_
 show oF p e below (s₁.setTop (mkF m 2 #[.val (.ref b), .val (.int q)] [(.int q), (.ref b)])) _
 obtain ⟨_, _, ⟨T4e, L4e, k4e, n4e⟩, -, X4e, ⟨Lc4e, hQ4e, l4e, y4e, z4e⟩, st4e⟩ := superBack X0 hx hZ (y := mN35) hown (ow hw 40) (own_same (y := mN35) (ow hw 41) (ow hw 67) (by exact rfl) (by decide)) (ow hw 41) (ow hw 42) (by decide) (backOf (W := 0) (acp l Z a0 hw [] b q z t kt N fm cs h0 n0 O j6_ j7_ j8_ j5_ hfm j4_ hz E_b j9_ E_t g_b g_t nbt hN8 h2_ ksu hcp hcl) hZ (ow hw 44) (ow hw 24) (by decide) (by decide)) e0 (Ins.self E_b) (g := (mkF m 2 #[.val (.ref b), .val (.int q)] [(.int q), (.ref b)])) rfl (by rw [hml]; rfl) (ow hw 44) (argsL := [(.int q)]) (rest := []) (lenOf pd_26 rfl) rfl (by show 2 * 0 + _ ≤ _; exact Nat.le_of_eq rfl) (B d7_2) (fun _ _ => ⟨rfl, e0, (by decide : 0 + 2 ≤ _), (by decide : 0 + 18 ≤ _)⟩)
 dsimp only [Pt.U, Pt.locs, Pt.cells, Pt.slots] at X4e l4e y4e z4e st4e hQ4e
 subst y4e z4e
 obtain ⟨t2_4f, k2_4g, rfl, N4eq, Kq4e, P4e_0, P4e_1, P4e_2, P4e_3, P4e_4, P4e_5⟩ := hQ4e
 refine oG (fun _ k => st4e.trans k) ?_
 have N4e := oL l4e (Fr.app N0 N4eq)
 have E_b := E_b.keep Kq4e
 clear j9_
 have E_t := E_t.keep Kq4e
 have O := O.keep Kq4e (allS g_b (allS g_t all0))
 have K4h := K0.trans Kq4e (allS (Or.inl (List.mem_of_getElem? (i := 0) rfl)) (allS (Or.inl (List.mem_of_getElem? (i := 1) rfl)) all0))
 have E_b := P4e_3
 have E_t2_355 := P4e_4
 have j9_ := P4e_5
 show oF p e below (T4e.setTop (mkF m 5 #[.val (.ref b), .val (.int q)] [(.ref b)])) _
 refine oG (fun _ k => XS.pop X4e.here hx rfl (B d7_5) rfl rfl (XS.aloadN X4e.here hx rfl (B d7_6) rfl rfl k)) ?_
 show oF p e below (T4e.setTop (mkF m 7 #[.val (.ref b), .val (.int q)] [(.ref b)])) _
 obtain ⟨fs, hr, r1, r2, hW, r3⟩ := X4e.leave (v := some (.ref b)) (fun h => by rw [Bd.returns] at h; cases h)
 refine ⟨_, _, ?_, r1, r2, _, _, rfl, ?_, ⟨_, rfl⟩, hW, r3.mono (by decide) (by decide)⟩
 ·exact X4e.areturnOut hx rfl Bd.returns rfl (B d7_7) hr
 ·show Qscp Z b q t N cs h0 n0 _ T4e.heap _
  exact ⟨t2_4f, k2_4g, rfl, N4e, K4h, (P4e_0.imp id (Nat.le_trans K0.1)), P4e_1, P4e_2, E_b, E_t2_355, j9_⟩
theorem own_le8 {N : Int32} (h0 : 0 ≤ N.toInt) (h8 : N.toInt ≤ 8) : N.toNatClampNeg ≤ 8 := by
 have := own_cn h0; omega
theorem d5_0 : decode k37_ 0 = .ok (.aload_n 0, 1) := by decide +kernel
theorem d5_1 : decode k37_ 1 = .ok (.invokespecial 3, 3) := by decide +kernel
theorem d5_4 : decode k37_ 4 = .ok (.getstatic 18, 3) := by decide +kernel
theorem d5_7 : decode k37_ 7 = .ok (.ifCond .eq 18, 3) := by decide +kernel
theorem d5_10 : decode k37_ 10 = .ok (.aload_n 0, 1) := by decide +kernel
theorem d5_11 : decode k37_ 11 = .ok (.iload_n 1, 1) := by decide +kernel
theorem d5_12 : decode k37_ 12 = .ok (.newarray .byte, 2) := by decide +kernel
theorem d5_14 : decode k37_ 14 = .ok (.putfield 15, 3) := by decide +kernel
theorem d5_17 : decode k37_ 17 = .ok (.aload_n 0, 1) := by decide +kernel
theorem d5_18 : decode k37_ 18 = .ok (.iconst 0, 1) := by decide +kernel
theorem d5_19 : decode k37_ 19 = .ok (.putfield 22, 3) := by decide +kernel
theorem d5_22 : decode k37_ 22 = .ok (.goto 16, 3) := by decide +kernel
theorem d5_38 : decode k37_ 38 = .ok (.return_, 1) := by decide +kernel
def Qai (Z : State) (b : Addr) (N : Int32) (h0 : Heap) (n0 : Nat) (v : Option Value) (h : Heap) (L : List Loc) : Prop := ∃ (t_ : Addr) (k_ : ClassId), v = none ∧ Fr n0 L ∧ Keep h0 h [b] ∧ h0.size ≤ t_ ∧ eX1 Z h b ∧ eX0 Z h t_ ∧ own_SB Z h b t_ k_ N ([] : List Int32)
theorem ai (l : Launch) (Z : State) (a0 : Array Value) (hw : ∀ d ∈ tables_1, d.before a0 Z = true) (ws : List Jvm.Cond) (b : Addr) (N : Int32) (z : Int32) (h0 : Heap) (n0 : Nat) (O : Old Z n0 h0) (j4_ : sT4 Z (.int z)) (hz : ¬ (z = (0 : Int32))) (E_b : eX1 Z h0 b) (j2_ : fL1 Z h0 b .null) (j0_ : fL0 Z h0 b (.int 0)) (j1_ : fL2 Z h0 b (.int 0)) (j3_ : fL3 Z h0 b (.int 0)) (g_b : n0 ≤ b) (hN0 : 0 ≤ N.toInt) (hN8 : N.toInt ≤ 8) :
   own_MF l Z mN37 jdk_68_method_2_code 2 none ws rM22 #[(.ref b), (.int N)] h0 (Qai Z b N h0 n0) := by
 refine MetFree.of_bodySF (plainFor_of_name pn_4) hisR ?_
 intro p e s m args below meth c s₁ Bd hml0 hP hK
 obtain ⟨rfl, hZ, hh⟩ := hP
 have hx := Bd.exec
 have hby := Bd.bytes
 have B := @hb _ _ hby
 have hml : c.maxLocals = 2 := hml0
 have hown : s.vm.findClass "java/lang/AbstractStringBuilder" = some m.cls := findClass_of_methodNamed Bd.named
 have X0 : Stand p l e rM22 s m #[(.ref b), (.int N)] below meth c s₁ [] 0 0 := Stand.of_body Bd
 have e0 : s₁.heap = h0 := by rw [← hh, Bd.state]; rfl
 have N0 := Fr.nil n0
 have K0 := Keep.refl h0 [b]
 refine own_start (ef_apL0 m b N) (Q := own_QE s rM22 (Qai Z b N h0 n0)) ?_
 show oF p e below (s₁.setTop (mkF m 0 #[.val (.ref b), .val (.int N)] [])) _
 refine oG (fun _ k => XS.aloadN X0.here hx rfl (B d5_0) rfl rfl k) ?_
 show oF p e below (s₁.setTop (mkF m 1 #[.val (.ref b), .val (.int N)] [(.ref b)])) _
 obtain ⟨T4i, X4i, e4i, st4i⟩ := initO X0 hx hZ hown (ow hw 26) (ow hw 27) (ow hw 28) e0 (g := (mkF m 1 #[.val (.ref b), .val (.int N)] [(.ref b)])) rfl (by rw [hml]; rfl) rfl (B d5_1) (by decide) (W := 0) (by show 2 * 0 + _ ≤ _; exact Nat.le_of_eq rfl) (by decide)
 refine oG st4i ?_
 obtain ⟨T4j, X4j, e4j, st4j⟩ := getS2 X4i hx hZ hown (host := "") (Or.inl (ow hw 29)) Via.refl e4i (j4_.ext O.2) (g := (mkF m 4 #[.val (.ref b), .val (.int N)] [])) rfl (B d5_4)
 refine oG st4j ?_
 show oF p e below (T4j.setTop (mkF m 7 #[.val (.ref b), .val (.int N)] [(.int z)])) _
 refine oG (fun _ k => XS.ifNo X4j.here hx rfl (B d5_7) rfl ((if0 _ _).trans (feq hz).1) (XS.aloadN X4j.here hx rfl (B d5_10) rfl rfl (XS.iloadN X4j.here hx rfl (B d5_11) rfl k))) ?_
 show oF p e below (T4j.setTop (mkF m 12 #[.val (.ref b), .val (.int N)] [(.int N), (.ref b)])) _
 obtain ⟨T4k, h4k, k4k, X4k, e4k, E4k, A4k, B4k, st4k⟩ := newPE X4j hx hZ (ow hw 6) e4j (g := (mkF m 12 #[.val (.ref b), .val (.int N)] [(.int N), (.ref b)])) rfl (B d5_12) rfl (own_nn hN0) (cap := 8) (own_le8 hN0 hN8) (by decide) (by decide) (by decide) (ad := "[B") (by decide)
 obtain ⟨b4k, g4k⟩ : ∃ z, z = h0.size := ⟨_, rfl⟩
 rw [← g4k] at A4k st4k B4k
 refine oG st4k ?_
 have j79_ : b ≠ b4k := Nat.ne_of_lt (Nat.lt_of_lt_of_le E_b.lt (Nat.le_of_eq g4k.symm))
 have g_b361 : n0 ≤ b4k := Nat.le_trans (own_osz O) (Nat.le_of_eq g4k.symm)
 have sz_b361 : h0.size ≤ b4k := Nat.le_trans K0.1 (Nat.le_of_eq g4k.symm)
 have E_b := E_b.ext E4k
 have j2_ := j2_.ext E4k
 have j0_ := j0_.ext E4k
 have j1_ := j1_.ext E4k
 have j3_ := j3_.ext E4k
 have O := O.ext E4k
 have K4l := K0.ext E4k
 have j39_ := B4k
 have j40_ : Arv Z h4k b4k k4k .byte N [] (.int 0) := Arv.new A4k (own_nn hN0)
 obtain ⟨T4m, h4m, X4m, e4m, W4m, st4m⟩ := putF X4k hx hZ hown (host := "") (Or.inl (ow hw 31)) Via.refl e4k j2_ E_b (Or.inl (ow hw 32)) (ow hw 15) (ty := (.array .byte)) (by decide) rfl rfl (g := (mkF m 14 #[.val (.ref b), .val (.int N)] [(.ref b4k), (.ref b)])) rfl rfl (B d5_14)
 refine oG st4m ?_
 have E_b := E_b.wr W4m
 have j0_ := j0_.other W4m (Or.inr (slot_ne (Or.inl (ow hw 34)) (Or.inl (ow hw 32)) (by decide) (t := .byte) (t' := (.array .byte)) (by decide) (by decide)))
 have j1_ := j1_.other W4m (Or.inr (slot_ne (Or.inl (ow hw 63)) (Or.inl (ow hw 32)) (by decide) (t := .int) (t' := (.array .byte)) (by decide) (by decide)))
 have j3_ := j3_.other W4m (Or.inr (slot_ne (Or.inl (ow hw 268)) (Or.inl (ow hw 32)) (by decide) (t := .boolean) (t' := (.array .byte)) (by decide) (by decide)))
 have j39_ := j39_.wr W4m
 have j40_ := j40_.other W4m (Ne.symm j79_)
 have O := O.wr W4m g_b
 have K4n := K4l.wr W4m (Or.inl (List.mem_of_getElem? (i := 0) rfl))
 have j2_ := j2_.same W4m
 have N4m := Fr.snoc X4m N0 g_b
 show oF p e below (T4m.setTop (mkF m 17 #[.val (.ref b), .val (.int N)] [])) _
 refine oG (fun _ k => XS.aloadN X4m.here hx rfl (B d5_17) rfl rfl (XS.iconst X4m.here hx rfl (B d5_18) k)) ?_
 show oF p e below (T4m.setTop (mkF m 19 #[.val (.ref b), .val (.int N)] [(.int 0), (.ref b)])) _
 obtain ⟨T4o, h4o, X4o, e4o, W4o, st4o⟩ := putF X4m hx hZ hown (host := "") (Or.inl (ow hw 33)) Via.refl e4m j0_ E_b (Or.inl (ow hw 34)) (ow hw 15) (ty := .byte) (by decide) rfl rfl (g := (mkF m 19 #[.val (.ref b), .val (.int N)] [(.int 0), (.ref b)])) rfl rfl (B d5_19)
 refine oG st4o ?_
 have E_b := E_b.wr W4o
 have j2_ := j2_.other W4o (Or.inr (slot_ne (Or.inl (ow hw 32)) (Or.inl (ow hw 34)) (by decide) (t := (.array .byte)) (t' := .byte) (by decide) (by decide)))
 have j1_ := j1_.other W4o (Or.inr (slot_ne (Or.inl (ow hw 63)) (Or.inl (ow hw 34)) (by decide) (t := .int) (t' := .byte) (by decide) (by decide)))
 have j3_ := j3_.other W4o (Or.inr (slot_ne (Or.inl (ow hw 268)) (Or.inl (ow hw 34)) (by decide) (t := .boolean) (t' := .byte) (by decide) (by decide)))
 have j39_ := j39_.wr W4o
 have j40_ := j40_.other W4o (Ne.symm j79_)
 have O := O.wr W4o g_b
 have K4p := K4n.wr W4o (Or.inl (List.mem_of_getElem? (i := 0) rfl))
 have j0_ := j0_.same W4o
 have N4o := Fr.snoc X4o N4m g_b
 show oF p e below (T4o.setTop (mkF m 22 #[.val (.ref b), .val (.int N)] [])) _
 refine oG (fun _ k => XS.goto X4o.here hx rfl (pc0 := 22) (pc' := 38) rfl (B d5_22) (by decide) (by decide) k) ?_
 show oF p e below (T4o.setTop (mkF m 38 #[.val (.ref b), .val (.int N)] [])) _
 obtain ⟨fs, hr, r1, r2, hW, r3⟩ := X4o.leave (v := none) (fun _ => rfl)
 refine ⟨_, _, ?_, r1, r2, _, _, rfl, ?_, ⟨_, rfl⟩, hW, r3.mono (by decide) (by decide)⟩
 ·exact X4o.returnOut hx Bd.returns (B d5_38) hr
 ·show Qai Z b N h0 n0 _ T4o.heap _
  rw [e4o]
  exact ⟨b4k, k4k, rfl, N4o, K4p, sz_b361, E_b, j39_, (own_SBL j2_ j1_ j3_ (fun _ hz => by cases hz) j0_ j40_ (fun _ hz => by cases hz) rfl rfl)⟩
theorem d4_0 : decode k38_ 0 = .ok (.aload_n 0, 1) := by decide +kernel
theorem d4_1 : decode k38_ 1 = .ok (.iload_n 1, 1) := by decide +kernel
theorem d4_2 : decode k38_ 2 = .ok (.invokespecial 1, 3) := by decide +kernel
theorem d4_5 : decode k38_ 5 = .ok (.return_, 1) := by decide +kernel
def Qsi (Z : State) (b : Addr) (N : Int32) (h0 : Heap) (n0 : Nat) (v : Option Value) (h : Heap) (L : List Loc) : Prop := ∃ (t_ : Addr) (k_ : ClassId), v = none ∧ Fr n0 L ∧ Keep h0 h [b] ∧ h0.size ≤ t_ ∧ eX1 Z h b ∧ eX0 Z h t_ ∧ own_SB Z h b t_ k_ N ([] : List Int32)
theorem si (l : Launch) (Z : State) (a0 : Array Value) (hw : ∀ d ∈ tables_1, d.before a0 Z = true) (ws : List Jvm.Cond) (b : Addr) (N : Int32) (z : Int32) (h0 : Heap) (n0 : Nat) (O : Old Z n0 h0) (j4_ : sT4 Z (.int z)) (hz : ¬ (z = (0 : Int32))) (E_b : eX1 Z h0 b) (j2_ : fL1 Z h0 b .null) (j0_ : fL0 Z h0 b (.int 0)) (j1_ : fL2 Z h0 b (.int 0)) (j3_ : fL3 Z h0 b (.int 0)) (g_b : n0 ≤ b) (hN0 : 0 ≤ N.toInt) (hN8 : N.toInt ≤ 8) :
   own_MF l Z mN38 jdk_67_method_2_code 2 none ws rM23 #[(.ref b), (.int N)] h0 (Qsi Z b N h0 n0) := by
 refine MetFree.of_bodySF (plainFor_of_name pn_5) hisR ?_
 intro p e s m args below meth c s₁ Bd hml0 hP hK
 obtain ⟨rfl, hZ, hh⟩ := hP
 have hx := Bd.exec
 have hby := Bd.bytes
 have B := @hb _ _ hby
 have hml : c.maxLocals = 2 := hml0
 have hown : s.vm.findClass "java/lang/StringBuilder" = some m.cls := findClass_of_methodNamed Bd.named
 have X0 : Stand p l e rM23 s m #[(.ref b), (.int N)] below meth c s₁ [] 0 0 := Stand.of_body Bd
 have e0 : s₁.heap = h0 := by rw [← hh, Bd.state]; rfl
 have N0 := Fr.nil n0
 have K0 := Keep.refl h0 [b]
 refine own_start (ef_apL0 m b N) (Q := own_QE s rM23 (Qsi Z b N h0 n0)) ?_
 show oF p e below (s₁.setTop (mkF m 0 #[.val (.ref b), .val (.int N)] [])) _
 refine oG (fun _ k => XS.aloadN X0.here hx rfl (B d4_0) rfl rfl (XS.iloadN X0.here hx rfl (B d4_1) rfl k)) ?_
 show oF p e below (s₁.setTop (mkF m 2 #[.val (.ref b), .val (.int N)] [(.int N), (.ref b)])) _
 obtain ⟨_, _, ⟨T4q, L4q, k4q, n4q⟩, -, X4q, ⟨Lc4q, hQ4q, l4q, y4q, z4q⟩, st4q⟩ := X0.specialBack hx (y := mN37) rfl hown (mo hZ hw 20) (mo hZ hw 21) (mo hZ hw 25) (by decide) (backOf (W := 0) (ai l Z a0 hw [] b N z h0 n0 O j4_ hz E_b j2_ j0_ j1_ j3_ g_b hN0 hN8) hZ (ow hw 25) (ow hw 24) (by decide) (by decide)) (g := (mkF m 2 #[.val (.ref b), .val (.int N)] [(.int N), (.ref b)])) rfl (by rw [hml]; rfl) (Steps.refl _) (a := b) (argsL := [(.int N)]) (rest := []) (lenOf pd_12 rfl) rfl (by show 2 * 0 + _ ≤ _; exact Nat.le_of_eq rfl) (B d4_2) (fun _ _ => ⟨rfl, e0, (by decide : 0 + 1 ≤ _), (by decide : 0 + 8 ≤ _)⟩)
 dsimp only [Pt.U, Pt.locs, Pt.cells, Pt.slots] at X4q l4q y4q z4q st4q hQ4q
 subst y4q z4q
 obtain ⟨t_4r, k_4s, rfl, N4qq, Kq4q, P4q_0, P4q_1, P4q_2, P4q_3⟩ := hQ4q
 refine oG (fun _ k => st4q.trans k) ?_
 have N4q := oL l4q (Fr.app N0 N4qq)
 have ne_b_t_369 : b ≠ t_4r := Nat.ne_of_lt (Nat.lt_of_lt_of_le E_b.lt P4q_0)
 have g_t_369 : n0 ≤ t_4r := Nat.le_trans (own_osz O) P4q_0
 have sz_t_369 : h0.size ≤ t_4r := Nat.le_trans K0.1 P4q_0
 have E_b := E_b.keep Kq4q
 clear j2_
 clear j0_
 clear j1_
 clear j3_
 have O := O.keep Kq4q (allS g_b all0)
 have K4t := K0.trans Kq4q (allS (Or.inl (List.mem_of_getElem? (i := 0) rfl)) all0)
 have E_b := P4q_1
 have E_t_369 := P4q_2
 have j9_ := P4q_3
 show oF p e below (T4q.setTop (mkF m 5 #[.val (.ref b), .val (.int N)] [])) _
 obtain ⟨fs, hr, r1, r2, hW, r3⟩ := X4q.leave (v := none) (fun _ => rfl)
 refine ⟨_, _, ?_, r1, r2, _, _, rfl, ?_, ⟨_, rfl⟩, hW, r3.mono (by decide) (by decide)⟩
 ·exact X4q.returnOut hx Bd.returns (B d4_5) hr
 ·show Qsi Z b N h0 n0 _ T4q.heap _
  exact ⟨t_4r, k_4s, rfl, N4q, K4t, sz_t_369, E_b, E_t_369, j9_⟩
def own_mn (a b : Int32) : Int32 := if b < a then b else a
theorem own_us (vs : List Value) (dv : Value) : ∀ (k : Nat), k ≤ vs.length → vs.take k = (List.range k).map fun i => vs.getD (0 + i) dv := by
 intro k hk
 apply List.ext_getElem
 · simp; omega
 · intro i h1 h2
   simp at h1 h2 ⊢
   have : i < vs.length := by omega
   simp [List.getD_eq_getElem?_getD, this]
theorem own_cut (dv : Value) (us : List Value) (k j : Nat) : (([] ++ List.replicate k dv).take ((0 : Int32).toNatClampNeg) ++ us ++ ([] ++ List.replicate k dv).drop ((0 : Int32).toNatClampNeg + j)) = us ++ List.replicate (k - j) dv := by
 have e : (0 : Int32).toNatClampNeg = 0 := by decide
 rw [e]; simp
theorem own_min {a b : Int32} (h : a < b) : own_mn b a = a := by
 unfold own_mn; exact if_pos h
def own_ST (Z : State) (h : Heap) (s_ t : Addr) (kt : ClassId) (cs : List Int32) : Prop :=
 fL4 Z h s_ (.ref t) ∧ own_rng cs ∧
 ((fL5 Z h s_ (.int 0) ∧ Arv Z h t kt .byte (Int32.ofNat cs.length) (own_u8 cs) (.int 0) ∧ own_lat cs) ∨
  (fL5 Z h s_ (.int 1) ∧ Arv Z h t kt .byte ((Int32.ofNat cs.length) <<< ((1 : Int32) &&& 31)) (own_u16 cs) (.int 0) ∧ True))
theorem own_ST_ext {Z : State} {h h' : Heap} {b t : Addr} {kt : ClassId} {cs : List Int32} (F : own_ST Z h b t kt cs) (E : Ext h h') : own_ST Z h' b t kt cs := by
 obtain ⟨a1, a4, a5⟩ := F
 refine ⟨a1.ext E, a4, ?_⟩
 rcases a5 with ⟨q, V, r⟩ | ⟨q, V, r⟩
 · exact Or.inl ⟨q.ext E, V.ext E, r⟩
 · exact Or.inr ⟨q.ext E, V.ext E, r⟩
theorem own_ST_wr {Z : State} {h h' : Heap} {b t a : Addr} {kt : ClassId} {cs : List Int32} {sl : Nat} {v : Value} (F : own_ST Z h b t kt cs) (W : Wr h h' a sl v) (n1 : b ≠ a) (n2 : t ≠ a) : own_ST Z h' b t kt cs := by
 obtain ⟨a1, a4, a5⟩ := F
 refine ⟨a1.other W (Or.inl n1), a4, ?_⟩
 rcases a5 with ⟨q, V, r⟩ | ⟨q, V, r⟩
 · exact Or.inl ⟨q.other W (Or.inl n1), V.other W n2, r⟩
 · exact Or.inr ⟨q.other W (Or.inl n1), V.other W n2, r⟩
theorem own_ST_keep {Z : State} {h h' : Heap} {b t : Addr} {kt : ClassId} {cs : List Int32} {ws : List Addr} (F : own_ST Z h b t kt cs) (K : Keep h h' ws) (n1 : b ∉ ws) (n2 : t ∉ ws) : own_ST Z h' b t kt cs := by
 obtain ⟨a1, a4, a5⟩ := F
 refine ⟨a1.keep K n1, a4, ?_⟩
 rcases a5 with ⟨q, V, r⟩ | ⟨q, V, r⟩
 · exact Or.inl ⟨q.keep K n1, V.keep K n2, r⟩
 · exact Or.inr ⟨q.keep K n1, V.keep K n2, r⟩
theorem own_oi {cs : List Int32} (h4 : cs.length ≤ 4) : (Int32.ofNat cs.length).toInt = (cs.length : Int) := Int32.toInt_ofNat_of_lt (by omega)
theorem own_oc {cs : List Int32} (h4 : cs.length ≤ 4) : (Int32.ofNat cs.length).toNatClampNeg = cs.length := by
 have a := own_oi h4
 have b := own_cn (N := Int32.ofNat cs.length) (by omega)
 omega
theorem own_on0 {cs : List Int32} (h4 : cs.length ≤ 4) : ¬ (Int32.ofNat cs.length) < 0 := own_nn (by rw [own_oi h4]; omega)
theorem own_on1 {cs : List Int32} (h4 : cs.length ≤ 4) : (Int32.ofNat cs.length).toNatClampNeg ≤ (own_u8 cs).length := by rw [own_oc h4, own_u8l]; exact Nat.le_refl _
theorem own_on2 {cs : List Int32} {N : Int32} (h4 : cs.length ≤ 4) (hle : (cs.length : Int) ≤ N.toInt) : (Int32.ofNat cs.length).toNatClampNeg ≤ N.toNatClampNeg := by
 rw [own_oc h4]; have := own_cn (N := N) (by omega); omega
theorem own_on3 {cs : List Int32} (h4 : cs.length ≤ 4) : (Int32.ofNat cs.length).toNatClampNeg ≤ 9 := by rw [own_oc h4]; omega
theorem own_on4 {cs : List Int32} {N : Int32} (h4 : cs.length ≤ 4) (hle : (cs.length : Int) ≤ N.toInt) (hne : ¬ ((Int32.ofNat cs.length) = N)) : (Int32.ofNat cs.length) < N := by
 rw [← Int32.toInt_inj, own_oi h4] at hne
 rw [Int32.lt_iff_toInt_lt, own_oi h4]; omega
theorem own_tk8 {cs : List Int32} (h4 : cs.length ≤ 4) : (own_u8 cs).take (Int32.ofNat cs.length).toNatClampNeg = own_u8 cs := by
 rw [own_oc h4]; exact List.take_of_length_le (by rw [own_u8l]; exact Nat.le_refl _)
theorem own_zi {cs : List Int32} (h4 : cs.length ≤ 4) : ((Int32.ofNat cs.length) <<< ((1 : Int32) &&& 31)).toInt = 2 * (cs.length : Int) := by
 have a := own_oi h4
 have b := own_x2i (N := Int32.ofNat cs.length) (by omega) (by omega)
 show (own_x2 (Int32.ofNat cs.length)).toInt = _
 omega
theorem own_zc {cs : List Int32} (h4 : cs.length ≤ 4) : ((Int32.ofNat cs.length) <<< ((1 : Int32) &&& 31)).toNatClampNeg = 2 * cs.length := by
 have a := own_zi h4
 have b := own_cn (N := (Int32.ofNat cs.length) <<< ((1 : Int32) &&& 31)) (by omega)
 omega
theorem own_oz0 {cs : List Int32} (h4 : cs.length ≤ 4) : ¬ ((Int32.ofNat cs.length) <<< ((1 : Int32) &&& 31)) < 0 := own_nn (by rw [own_zi h4]; omega)
theorem own_oz1 {cs : List Int32} (h4 : cs.length ≤ 4) : ((Int32.ofNat cs.length) <<< ((1 : Int32) &&& 31)).toNatClampNeg ≤ (own_u16 cs).length := by rw [own_zc h4, own_u16l]; exact Nat.le_refl _
theorem own_oz2 {cs : List Int32} {N : Int32} (h4 : cs.length ≤ 4) (hle : (cs.length : Int) ≤ N.toInt) (h8 : N.toInt ≤ 8) : ((Int32.ofNat cs.length) <<< ((1 : Int32) &&& 31)).toNatClampNeg ≤ (N <<< ((1 : Int32) &&& 31)).toNatClampNeg := by
 have b := own_x2i (N := N) (by omega) h8
 have c := own_cn (N := own_x2 N) (by omega)
 rw [own_zc h4]
 show 2 * cs.length ≤ (own_x2 N).toNatClampNeg
 omega
theorem own_oz3 {cs : List Int32} (h4 : cs.length ≤ 4) : ((Int32.ofNat cs.length) <<< ((1 : Int32) &&& 31)).toNatClampNeg ≤ 9 := by rw [own_zc h4]; omega
theorem own_oz4 {cs : List Int32} {N : Int32} (h4 : cs.length ≤ 4) (hl : (cs.length : Int) < N.toInt) (h8 : N.toInt ≤ 8) : ((Int32.ofNat cs.length) <<< ((1 : Int32) &&& 31)) < (N <<< ((1 : Int32) &&& 31)) := by
 have b := own_x2i (N := N) (by omega) h8
 rw [Int32.lt_iff_toInt_lt, own_zi h4]
 show 2 * (cs.length : Int) < (own_x2 N).toInt
 omega
theorem own_oz5 {cs : List Int32} {N : Int32} (h4 : cs.length ≤ 4) (hl : (cs.length : Int) < N.toInt) (h8 : N.toInt ≤ 8) : ¬ (((Int32.ofNat cs.length) <<< ((1 : Int32) &&& 31)) = (N <<< ((1 : Int32) &&& 31))) := by
 have b := own_x2i (N := N) (by omega) h8
 rw [← Int32.toInt_inj, own_zi h4]
 show ¬ (2 * (cs.length : Int) = (own_x2 N).toInt)
 omega
theorem own_tk16 {cs : List Int32} (h4 : cs.length ≤ 4) : (own_u16 cs).take ((Int32.ofNat cs.length) <<< ((1 : Int32) &&& 31)).toNatClampNeg = own_u16 cs := by
 rw [own_zc h4]; exact List.take_of_length_le (by rw [own_u16l]; exact Nat.le_refl _)
theorem own_sh1 {cs : List Int32} (h4 : cs.length ≤ 4) : (((Int32.ofNat cs.length) <<< ((1 : Int32) &&& 31)) >>> ((1 : Int32) &&& 31)) = Int32.ofNat cs.length := by
 have a := own_zi h4
 have b := own_oi h4
 have c := own_hf (M := (Int32.ofNat cs.length) <<< ((1 : Int32) &&& 31))
 rw [← Int32.toInt_inj]; omega
theorem own_j0 {i : Int32} {k_ : Nat} {cs : List Int32} (hik : i.toInt = (k_ : Int)) (hkl : k_ < cs.length) (h4 : cs.length ≤ 4) : (i <<< ((1 : Int32) &&& 31)).toInt = 2 * (k_ : Int) := by
 have b := own_x2i (N := i) (by omega) (by omega)
 show (own_x2 i).toInt = _
 omega
theorem own_j1 {i : Int32} {k_ : Nat} {cs : List Int32} (hik : i.toInt = (k_ : Int)) (hkl : k_ < cs.length) (h4 : cs.length ≤ 4) : ((i <<< ((1 : Int32) &&& 31)) + (1 : Int32)).toInt = 2 * (k_ : Int) + 1 := by
 have a := own_j0 hik hkl h4
 have b := c_iadd (i <<< ((1 : Int32) &&& 31)) 1
 have c := rng32 ((i <<< ((1 : Int32) &&& 31)) + 1)
 have d := own_k1
 omega
theorem own_ja {i : Int32} {k_ : Nat} {cs : List Int32} (hik : i.toInt = (k_ : Int)) (hkl : k_ < cs.length) (h4 : cs.length ≤ 4) : ¬ ((i <<< ((1 : Int32) &&& 31)) < 0) ∧ (i <<< ((1 : Int32) &&& 31)) < ((Int32.ofNat cs.length) <<< ((1 : Int32) &&& 31)) := by
 have a := own_j0 hik hkl h4
 exact ⟨own_nn (by omega), by rw [Int32.lt_iff_toInt_lt, a, own_zi h4]; omega⟩
theorem own_jb {i : Int32} {k_ : Nat} {cs : List Int32} (hik : i.toInt = (k_ : Int)) (hkl : k_ < cs.length) (h4 : cs.length ≤ 4) : ¬ (((i <<< ((1 : Int32) &&& 31)) + (1 : Int32)) < 0) ∧ ((i <<< ((1 : Int32) &&& 31)) + (1 : Int32)) < ((Int32.ofNat cs.length) <<< ((1 : Int32) &&& 31)) := by
 have a := own_j1 hik hkl h4
 exact ⟨own_nn (by omega), by rw [Int32.lt_iff_toInt_lt, a, own_zi h4]; omega⟩
theorem own_jc {i : Int32} {k_ : Nat} {cs : List Int32} (hik : i.toInt = (k_ : Int)) (hkl : k_ < cs.length) (h4 : cs.length ≤ 4) : (own_u16 cs).getD (i <<< ((1 : Int32) &&& 31)).toNatClampNeg (.int 0) = .int (own_lo (cs.getD k_ 0)) := by
 have a := own_j0 hik hkl h4
 have b := own_cn (N := i <<< ((1 : Int32) &&& 31)) (by omega)
 have e : (i <<< ((1 : Int32) &&& 31)).toNatClampNeg = 2 * k_ := by omega
 rw [e]; exact (own_u16g cs k_ hkl _).1
theorem own_jd {i : Int32} {k_ : Nat} {cs : List Int32} (hik : i.toInt = (k_ : Int)) (hkl : k_ < cs.length) (h4 : cs.length ≤ 4) : (own_u16 cs).getD ((i <<< ((1 : Int32) &&& 31)) + (1 : Int32)).toNatClampNeg (.int 0) = .int (own_hi (cs.getD k_ 0)) := by
 have a := own_j1 hik hkl h4
 have b := own_cn (N := (i <<< ((1 : Int32) &&& 31)) + (1 : Int32)) (by omega)
 have e : ((i <<< ((1 : Int32) &&& 31)) + (1 : Int32)).toNatClampNeg = 2 * k_ + 1 := by omega
 rw [e]; exact (own_u16g cs k_ hkl _).2
theorem own_je {i : Int32} {k_ : Nat} (hik : i.toInt = (k_ : Int)) : ¬ (i < (0 : Int32)) := own_nn (by omega)
theorem own_jf {i : Int32} {k_ : Nat} {cs : List Int32} (hik : i.toInt = (k_ : Int)) (hkl : k_ < cs.length) (h4 : cs.length ≤ 4) : i < (((Int32.ofNat cs.length) <<< ((1 : Int32) &&& 31)) >>> ((1 : Int32) &&& 31)) := by
 rw [own_sh1 h4, Int32.lt_iff_toInt_lt, own_oi h4]; omega
theorem own_jg {i : Int32} {k_ : Nat} {cs : List Int32} (hik : i.toInt = (k_ : Int)) (hkl : k_ < cs.length) (h4 : cs.length ≤ 4) : i < (Int32.ofNat cs.length) := by
 rw [Int32.lt_iff_toInt_lt, own_oi h4]; omega
theorem own_jh {i : Int32} {k_ : Nat} {cs : List Int32} (hik : i.toInt = (k_ : Int)) (hkl : k_ < cs.length) : (own_u8 cs).getD i.toNatClampNeg (.int 0) = .int (own_by (cs.getD k_ 0)) := by
 have b := own_cn (N := i) (by omega)
 have e : i.toNatClampNeg = k_ := by omega
 rw [e]; exact own_u8g cs k_ hkl _
theorem own_ca8 {cs : List Int32} {k_ : Nat} (hr : own_rng cs) (hl : own_lat cs) (hk : k_ < cs.length) : nar .char (nar .char (((own_by (cs.getD k_ 0)) &&& (255 : Int32)).toUInt32.toUInt16.toUInt32.toInt32)) = cs.getD k_ 0 := by
 have a := hr _ (own_gmem hk)
 have b := hl _ (own_gmem hk)
 rw [own_bb a.1 b, own_i2c a.1 a.2, own_narc a.1 a.2, own_narc a.1 a.2]
theorem own_ca16 {cs : List Int32} {k_ : Nat} (hr : own_rng cs) (hk : k_ < cs.length) : nar .char (nar .char (nar .char (((((own_lo (cs.getD k_ 0)) &&& (255 : Int32)) <<< ((0 : Int32) &&& 31)) ||| (((own_hi (cs.getD k_ 0)) &&& (255 : Int32)) <<< ((8 : Int32) &&& 31))).toUInt32.toUInt16.toUInt32.toInt32))) = cs.getD k_ 0 := by
 have a := hr _ (own_gmem hk)
 rw [own_gc a.1 a.2, own_i2c a.1 a.2, own_narc a.1 a.2, own_narc a.1 a.2, own_narc a.1 a.2]
theorem own_gdI (p_ l : List Int32) (j : Nat) (d : Int32) : (p_ ++ l).getD (p_.length + j) d = l.getD j d := by
 rw [List.getD_eq_getElem?_getD, List.getD_eq_getElem?_getD, List.getElem?_append_right (Nat.le_add_right _ _), Nat.add_sub_cancel_left]
theorem own_h1 {cs pr po : List Int32} {q : Int32} (ecs : cs = pr ++ (own_un q ++ po)) : pr.length < cs.length := by
 rw [ecs, List.length_append, List.length_append]; have := (own_unl q).1; omega
theorem own_h2 {cs pr po : List Int32} {q : Int32} (ecs : cs = pr ++ (own_un q ++ po)) (h : ¬ q < (65536 : Int32)) : pr.length + 1 < cs.length := by
 rw [ecs, own_un2 h, List.length_append, List.length_append]; simp only [List.length_cons, List.length_nil]; omega
theorem own_h3 {cs pr po : List Int32} {q i : Int32} (hip : i.toInt = (pr.length : Int)) (h4 : cs.length ≤ 4) (ecs : cs = pr ++ (own_un q ++ po)) : (i + (1 : Int32)).toInt = ((pr.length + 1 : Nat) : Int) := by
 have a := own_h1 ecs
 have b := c_iadd i 1
 have c := rng32 (i + 1)
 have d := own_k1
 omega
theorem own_hu1 {cs pr po : List Int32} {q : Int32} (ecs : cs = pr ++ (own_un q ++ po)) (h : q < (65536 : Int32)) : (cs.getD pr.length 0) = (q.toUInt32.toUInt16.toUInt32.toInt32) := by
 have g := own_gdI pr (own_un q ++ po) 0 0
 rw [Nat.add_zero] at g
 rw [ecs, g, own_un1 h]; rfl
theorem own_hu2 {cs pr po : List Int32} {q : Int32} (ecs : cs = pr ++ (own_un q ++ po)) (hcp : own_cp q) (h : ¬ q < (65536 : Int32)) : (cs.getD pr.length 0) = (((55296 : Int32) + ((q - (65536 : Int32)) / (1024 : Int32))).toUInt32.toUInt16.toUInt32.toInt32) := by
 have g := own_gdI pr (own_un q ++ po) 0 0
 rw [Nat.add_zero] at g
 rw [ecs, g, own_un2 h, ← own_HIe hcp h]; rfl
theorem own_hu3 {cs pr po : List Int32} {q : Int32} (ecs : cs = pr ++ (own_un q ++ po)) (hcp : own_cp q) (h : ¬ q < (65536 : Int32)) : (cs.getD (pr.length + 1) 0) = (((56320 : Int32) + ((q - (65536 : Int32)) % (1024 : Int32))).toUInt32.toUInt16.toUInt32.toInt32) := by
 have g := own_gdI pr (own_un q ++ po) 1 0
 rw [ecs, g, own_un2 h, ← own_LOe hcp h]; rfl
theorem d19_0 : decode k39_ 0 = .ok (.aload_n 0, 1) := by decide +kernel
theorem d19_1 : decode k39_ 1 = .ok (.getfield 15, 3) := by decide +kernel
theorem d19_4 : decode k39_ 4 = .ok (.areturn, 1) := by decide +kernel
def Qgv (Z : State) (t : Addr) (h0 : Heap) (n0 : Nat) (v : Option Value) (h : Heap) (L : List Loc) : Prop := v = some (.ref t) ∧ Fr n0 L ∧ h = h0
theorem gv (l : Launch) (Z : State) (a0 : Array Value) (hw : ∀ d ∈ tables_1, d.before a0 Z = true) (ws : List Jvm.Cond) (b : Addr) (t : Addr) (h0 : Heap) (n0 : Nat) (O : Old Z n0 h0) (j2_ : fL1 Z h0 b (.ref t)) :
   own_MF l Z mN39 jdk_68_method_64_code 1 (some (.array .byte)) ws rM0 #[(.ref b)] h0 (Qgv Z t h0 n0) := by
 refine MetFree.of_bodySF (plainFor_of_name pn_4) hisR ?_
 intro p e s m args below meth c s₁ Bd hml0 hP hK
 obtain ⟨rfl, hZ, hh⟩ := hP
 have hx := Bd.exec
 have hby := Bd.bytes
 have B := @hb _ _ hby
 have hml : c.maxLocals = 1 := hml0
 have hown : s.vm.findClass "java/lang/AbstractStringBuilder" = some m.cls := findClass_of_methodNamed Bd.named
 have X0 : Stand p l e rM0 s m #[(.ref b)] below meth c s₁ [] 0 0 := Stand.of_body Bd
 have e0 : s₁.heap = h0 := by rw [← hh, Bd.state]; rfl
 have N0 := Fr.nil n0
 refine own_start (ef_ul m b) (Q := own_QE s rM0 (Qgv Z t h0 n0)) ?_
 show oF p e below (s₁.setTop (mkF m 0 #[.val (.ref b)] [])) _
 refine oG (fun _ k => XS.aloadN X0.here hx rfl (B d19_0) rfl rfl k) ?_
 show oF p e below (s₁.setTop (mkF m 1 #[.val (.ref b)] [(.ref b)])) _
 obtain ⟨T4u, X4u, e4u, st4u⟩ := getF X0 hx hZ hown (host := "") (Or.inl (ow hw 31)) Via.refl e0 j2_ (g := (mkF m 1 #[.val (.ref b)] [(.ref b)])) rfl rfl (B d19_1)
 refine oG st4u ?_
 show oF p e below (T4u.setTop (mkF m 4 #[.val (.ref b)] [(.ref t)])) _
 obtain ⟨fs, hr, r1, r2, hW, r3⟩ := X4u.leave (v := some (.ref t)) (fun h => by rw [Bd.returns] at h; cases h)
 refine ⟨_, _, ?_, r1, r2, _, _, rfl, ?_, ⟨_, rfl⟩, hW, r3.mono (by decide) (by decide)⟩
 ·exact X4u.areturnOut hx rfl Bd.returns rfl (B d19_4) hr
 ·show Qgv Z t h0 n0 _ T4u.heap _
  rw [e4u]
  exact ⟨rfl, N0, rfl⟩
theorem d21_0 : decode k40_ 0 = .ok (.aload_n 0, 1) := by decide +kernel
theorem d21_1 : decode k40_ 1 = .ok (.getfield 79, 3) := by decide +kernel
theorem d21_4 : decode k40_ 4 = .ok (.ireturn, 1) := by decide +kernel
def Qal (Z : State) (cn : Int32) (h0 : Heap) (n0 : Nat) (v : Option Value) (h : Heap) (L : List Loc) : Prop := v = some (.int cn) ∧ Fr n0 L ∧ h = h0
theorem al (l : Launch) (Z : State) (a0 : Array Value) (hw : ∀ d ∈ tables_1, d.before a0 Z = true) (ws : List Jvm.Cond) (b : Addr) (cn : Int32) (h0 : Heap) (n0 : Nat) (O : Old Z n0 h0) (j1_ : fL2 Z h0 b (.int cn)) :
   own_MF l Z mN40 jdk_68_method_6_code 1 (some .int) ws rM0 #[(.ref b)] h0 (Qal Z cn h0 n0) := by
 refine MetFree.of_bodySF (plainFor_of_name pn_4) hisR ?_
 intro p e s m args below meth c s₁ Bd hml0 hP hK
 obtain ⟨rfl, hZ, hh⟩ := hP
 have hx := Bd.exec
 have hby := Bd.bytes
 have B := @hb _ _ hby
 have hml : c.maxLocals = 1 := hml0
 have hown : s.vm.findClass "java/lang/AbstractStringBuilder" = some m.cls := findClass_of_methodNamed Bd.named
 have X0 : Stand p l e rM0 s m #[(.ref b)] below meth c s₁ [] 0 0 := Stand.of_body Bd
 have e0 : s₁.heap = h0 := by rw [← hh, Bd.state]; rfl
 have N0 := Fr.nil n0
 refine own_start (ef_ul m b) (Q := own_QE s rM0 (Qal Z cn h0 n0)) ?_
 show oF p e below (s₁.setTop (mkF m 0 #[.val (.ref b)] [])) _
 refine oG (fun _ k => XS.aloadN X0.here hx rfl (B d21_0) rfl rfl k) ?_
 show oF p e below (s₁.setTop (mkF m 1 #[.val (.ref b)] [(.ref b)])) _
 obtain ⟨T4v, X4v, e4v, st4v⟩ := getF X0 hx hZ hown (host := "") (Or.inl (ow hw 62)) Via.refl e0 j1_ (g := (mkF m 1 #[.val (.ref b)] [(.ref b)])) rfl rfl (B d21_1)
 refine oG st4v ?_
 show oF p e below (T4v.setTop (mkF m 4 #[.val (.ref b)] [(.int cn)])) _
 obtain ⟨fs, hr, r1, r2, hW, r3⟩ := X4v.leave (v := some (.int cn)) (fun h => by rw [Bd.returns] at h; cases h)
 refine ⟨_, _, ?_, r1, r2, _, _, rfl, ?_, ⟨_, rfl⟩, hW, r3.mono (by decide) (by decide)⟩
 ·exact own_retI X4v hx Bd.returns (B d21_4) hr
 ·show Qal Z cn h0 n0 _ T4v.heap _
  rw [e4v]
  exact ⟨rfl, N0, rfl⟩
theorem d20_0 : decode k41_ 0 = .ok (.aload_n 0, 1) := by decide +kernel
theorem d20_1 : decode k41_ 1 = .ok (.invokespecial 343, 3) := by decide +kernel
theorem pd_27 : parseMethodDescriptor "()I" = some ⟨[], some .int⟩ := by decide +kernel
theorem d20_4 : decode k41_ 4 = .ok (.ireturn, 1) := by decide +kernel
def Qsl (Z : State) (cn : Int32) (h0 : Heap) (n0 : Nat) (v : Option Value) (h : Heap) (L : List Loc) : Prop := v = some (.int cn) ∧ Fr n0 L ∧ h = h0
theorem sl (l : Launch) (Z : State) (a0 : Array Value) (hw : ∀ d ∈ tables_1, d.before a0 Z = true) (ws : List Jvm.Cond) (b : Addr) (cn : Int32) (h0 : Heap) (n0 : Nat) (O : Old Z n0 h0) (E_b : eX1 Z h0 b) (j1_ : fL2 Z h0 b (.int cn)) :
   own_MF l Z mN41 jdk_67_method_93_code 1 (some .int) ws rM24 #[(.ref b)] h0 (Qsl Z cn h0 n0) := by
 refine MetFree.of_bodySF (plainFor_of_name pn_5) hisR ?_
 intro p e s m args below meth c s₁ Bd hml0 hP hK
 obtain ⟨rfl, hZ, hh⟩ := hP
 have hx := Bd.exec
 have hby := Bd.bytes
 have B := @hb _ _ hby
 have hml : c.maxLocals = 1 := hml0
 have hown : s.vm.findClass "java/lang/StringBuilder" = some m.cls := findClass_of_methodNamed Bd.named
 have X0 : Stand p l e rM24 s m #[(.ref b)] below meth c s₁ [] 0 0 := Stand.of_body Bd
 have e0 : s₁.heap = h0 := by rw [← hh, Bd.state]; rfl
 have N0 := Fr.nil n0
 refine own_start (ef_ul m b) (Q := own_QE s rM24 (Qsl Z cn h0 n0)) ?_
 show oF p e below (s₁.setTop (mkF m 0 #[.val (.ref b)] [])) _
 refine oG (fun _ k => XS.aloadN X0.here hx rfl (B d20_0) rfl rfl k) ?_
 show oF p e below (s₁.setTop (mkF m 1 #[.val (.ref b)] [(.ref b)])) _
 obtain ⟨_, _, ⟨T4w, L4w, k4w, n4w⟩, -, X4w, ⟨Lc4w, hQ4w, l4w, y4w, z4w⟩, st4w⟩ := superBack X0 hx hZ (y := mN40) hown (ow hw 104) (own_same (y := mN40) (ow hw 100) (ow hw 67) (by exact rfl) (by decide)) (ow hw 100) (ow hw 42) (by decide) (backOf (W := 0) (al l Z a0 hw [] b cn h0 n0 O j1_) hZ (ow hw 105) (ow hw 24) (by decide) (by decide)) e0 (Ins.self E_b) (g := (mkF m 1 #[.val (.ref b)] [(.ref b)])) rfl (by rw [hml]; rfl) (ow hw 105) (argsL := []) (rest := []) (lenOf pd_27 rfl) rfl (by show 2 * 0 + _ ≤ _; exact Nat.le_of_eq rfl) (B d20_1) (fun _ _ => ⟨rfl, e0, (by decide : 0 + 0 ≤ _), (by decide : 0 + 0 ≤ _)⟩)
 dsimp only [Pt.U, Pt.locs, Pt.cells, Pt.slots] at X4w l4w y4w z4w st4w hQ4w
 subst y4w z4w
 obtain ⟨rfl, N4wq, e4w⟩ := hQ4w
 refine oG (fun _ k => st4w.trans k) ?_
 have N4w := oL l4w (Fr.app N0 N4wq)
 show oF p e below (T4w.setTop (mkF m 4 #[.val (.ref b)] [(.int cn)])) _
 obtain ⟨fs, hr, r1, r2, hW, r3⟩ := X4w.leave (v := some (.int cn)) (fun h => by rw [Bd.returns] at h; cases h)
 refine ⟨_, _, ?_, r1, r2, _, _, rfl, ?_, ⟨_, rfl⟩, hW, r3.mono (by decide) (by decide)⟩
 ·exact own_retI X4w hx Bd.returns (B d20_4) hr
 ·show Qsl Z cn h0 n0 _ T4w.heap _
  rw [e4w]
  exact ⟨rfl, N4w, rfl⟩
theorem d34_0 : decode k42_ 0 = .ok (.iload_n 0, 1) := by decide +kernel
theorem d34_1 : decode k42_ 1 = .ok (.iload_n 1, 1) := by decide +kernel
theorem d34_2 : decode k42_ 2 = .ok (.if_icmp .gt 7, 3) := by decide +kernel
theorem d34_9 : decode k42_ 9 = .ok (.iload_n 1, 1) := by decide +kernel
theorem d34_10 : decode k42_ 10 = .ok (.ireturn, 1) := by decide +kernel
theorem d34_5 : decode k42_ 5 = .ok (.iload_n 0, 1) := by decide +kernel
theorem d34_6 : decode k42_ 6 = .ok (.goto 4, 3) := by decide +kernel
def Qmnn (Z : State) (a : Int32) (b : Int32) (h0 : Heap) (n0 : Nat) (v : Option Value) (h : Heap) (L : List Loc) : Prop := v = some (.int (own_mn a b)) ∧ Fr n0 L ∧ h = h0
theorem mnn (l : Launch) (Z : State) (a0 : Array Value) (hw : ∀ d ∈ tables_1, d.before a0 Z = true) (ws : List Jvm.Cond) (a : Int32) (b : Int32) (h0 : Heap) (n0 : Nat) :
   own_MF l Z mN42 jdk_29_method_69_code 2 (some .int) ws rM0 #[(.int a), (.int b)] h0 (Qmnn Z a b h0 n0) := by
 refine MetFree.of_bodySF (Jvm.Free.JP.mathPlain rfl (by decide +kernel)) hisR ?_
 intro p e s m args below meth c s₁ Bd hml0 hP hK
 obtain ⟨rfl, hZ, hh⟩ := hP
 have hx := Bd.exec
 have hby := Bd.bytes
 have B := @hb _ _ hby
 have hml : c.maxLocals = 2 := hml0
 have hown : s.vm.findClass "java/lang/Math" = some m.cls := findClass_of_methodNamed Bd.named
 have X0 : Stand p l e rM0 s m #[(.int a), (.int b)] below meth c s₁ [] 0 0 := Stand.of_body Bd
 have e0 : s₁.heap = h0 := by rw [← hh, Bd.state]; rfl
 have N0 := Fr.nil n0
 refine own_start (ef_sci m a b) (Q := own_QE s rM0 (Qmnn Z a b h0 n0)) ?_
 show oF p e below (s₁.setTop (mkF m 0 #[.val (.int a), .val (.int b)] [])) _
 refine oG (fun _ k => XS.iloadN X0.here hx rfl (B d34_0) rfl (XS.iloadN X0.here hx rfl (B d34_1) rfl k)) ?_
 show oF p e below (s₁.setTop (mkF m 2 #[.val (.int a), .val (.int b)] [(.int b), (.int a)])) _
 by_cases hc2_379 : b < a
 ·refine oG (fun _ k => XS.icmpYes X0.here hx rfl (pc0 := 2) (pc' := 9) rfl (B d34_2) rfl (tlt hc2_379).2.2.1 (by decide) (by decide) (XS.iloadN X0.here hx rfl (B d34_9) rfl k)) ?_
  show oF p e below (s₁.setTop (mkF m 10 #[.val (.int a), .val (.int b)] [(.int b)])) _
  obtain ⟨fs, hr, r1, r2, hW, r3⟩ := X0.leave (v := some (.int b)) (fun h => by rw [Bd.returns] at h; cases h)
  refine ⟨_, _, ?_, r1, r2, _, _, rfl, ?_, ⟨_, rfl⟩, hW, r3.mono (by decide) (by decide)⟩
  ·exact own_retI X0 hx Bd.returns (B d34_10) hr
  ·show Qmnn Z a b h0 n0 _ s₁.heap _
   rw [e0]
   exact ⟨(by simp [own_mn, hc2_379]), N0, rfl⟩
 ·refine oG (fun _ k => XS.icmpNo X0.here hx rfl (B d34_2) rfl (flt hc2_379).2.2.1 (XS.iloadN X0.here hx rfl (B d34_5) rfl (XS.goto X0.here hx rfl (pc0 := 6) (pc' := 10) rfl (B d34_6) (by decide) (by decide) k))) ?_
  show oF p e below (s₁.setTop (mkF m 10 #[.val (.int a), .val (.int b)] [(.int a)])) _
  obtain ⟨fs, hr, r1, r2, hW, r3⟩ := X0.leave (v := some (.int a)) (fun h => by rw [Bd.returns] at h; cases h)
  refine ⟨_, _, ?_, r1, r2, _, _, rfl, ?_, ⟨_, rfl⟩, hW, r3.mono (by decide) (by decide)⟩
  ·exact own_retI X0 hx Bd.returns (B d34_10) hr
  ·show Qmnn Z a b h0 n0 _ s₁.heap _
   rw [e0]
   exact ⟨(by simp [own_mn, hc2_379]), N0, rfl⟩
theorem d33_0 : decode k43_ 0 = .ok (.iload_n 1, 1) := by decide +kernel
theorem d33_1 : decode k43_ 1 = .ok (.iload_n 0, 1) := by decide +kernel
theorem d33_2 : decode k43_ 2 = .ok (.if_icmp .ge 35, 3) := by decide +kernel
theorem d33_37 : decode k43_ 37 = .ok (.return_, 1) := by decide +kernel
theorem pn_7 : plainName "java/util/Arrays" = true := by first | (simp [plainName, overriddenIn]; done) | decide +kernel
def Qckl (Z : State)  (h0 : Heap) (n0 : Nat) (v : Option Value) (h : Heap) (L : List Loc) : Prop := v = none ∧ Fr n0 L ∧ h = h0
theorem ckl (l : Launch) (Z : State) (a0 : Array Value) (hw : ∀ d ∈ tables_1, d.before a0 Z = true) (ws : List Jvm.Cond) (pa : Int32) (h0 : Heap) (n0 : Nat) (hp : ¬ (pa < (0 : Int32))) :
   own_MF l Z mN43 jdk_65_method_131_code 2 none ws rM0 #[(.int 0), (.int pa)] h0 (Qckl Z  h0 n0) := by
 refine MetFree.of_bodySF (plainFor_of_name pn_7) hisR ?_
 intro p e s m args below meth c s₁ Bd hml0 hP hK
 obtain ⟨rfl, hZ, hh⟩ := hP
 have hx := Bd.exec
 have hby := Bd.bytes
 have B := @hb _ _ hby
 have hml : c.maxLocals = 2 := hml0
 have hown : s.vm.findClass "java/util/Arrays" = some m.cls := findClass_of_methodNamed Bd.named
 have X0 : Stand p l e rM0 s m #[(.int 0), (.int pa)] below meth c s₁ [] 0 0 := Stand.of_body Bd
 have e0 : s₁.heap = h0 := by rw [← hh, Bd.state]; rfl
 have N0 := Fr.nil n0
 refine own_start (ef_sci m (0 : Int32) pa) (Q := own_QE s rM0 (Qckl Z  h0 n0)) ?_
 show oF p e below (s₁.setTop (mkF m 0 #[.val (.int 0), .val (.int pa)] [])) _
 refine oG (fun _ k => XS.iloadN X0.here hx rfl (B d33_0) rfl (XS.iloadN X0.here hx rfl (B d33_1) rfl (XS.icmpYes X0.here hx rfl (pc0 := 2) (pc' := 37) rfl (B d33_2) rfl (flt hp).2.1 (by decide) (by decide) k))) ?_
 show oF p e below (s₁.setTop (mkF m 37 #[.val (.int 0), .val (.int pa)] [])) _
 obtain ⟨fs, hr, r1, r2, hW, r3⟩ := X0.leave (v := none) (fun _ => rfl)
 refine ⟨_, _, ?_, r1, r2, _, _, rfl, ?_, ⟨_, rfl⟩, hW, r3.mono (by decide) (by decide)⟩
 ·exact X0.returnOut hx Bd.returns (B d33_37) hr
 ·show Qckl Z  h0 n0 _ s₁.heap _
  rw [e0]
  exact ⟨rfl, N0, rfl⟩
theorem d32_0 : decode k44_ 0 = .ok (.iload_n 1, 1) := by decide +kernel
theorem d32_1 : decode k44_ 1 = .ok (.iload_n 2, 1) := by decide +kernel
theorem d32_2 : decode k44_ 2 = .ok (.invokestatic 343, 3) := by decide +kernel
theorem d32_5 : decode k44_ 5 = .ok (.iload_n 2, 1) := by decide +kernel
theorem d32_6 : decode k44_ 6 = .ok (.iload_n 1, 1) := by decide +kernel
theorem d32_7 : decode k44_ 7 = .ok (.isub, 1) := by decide +kernel
theorem d32_8 : decode k44_ 8 = .ok (.istore_n 3, 1) := by decide +kernel
theorem d32_9 : decode k44_ 9 = .ok (.iload_n 3, 1) := by decide +kernel
theorem d32_10 : decode k44_ 10 = .ok (.newarray .byte, 2) := by decide +kernel
theorem d32_12 : decode k44_ 12 = .ok (.astore 4, 2) := by decide +kernel
theorem d32_14 : decode k44_ 14 = .ok (.aload_n 0, 1) := by decide +kernel
theorem d32_15 : decode k44_ 15 = .ok (.iload_n 1, 1) := by decide +kernel
theorem d32_16 : decode k44_ 16 = .ok (.aload 4, 2) := by decide +kernel
theorem d32_18 : decode k44_ 18 = .ok (.iconst 0, 1) := by decide +kernel
theorem d32_19 : decode k44_ 19 = .ok (.aload_n 0, 1) := by decide +kernel
theorem d32_20 : decode k44_ 20 = .ok (.arraylength, 1) := by decide +kernel
theorem d32_21 : decode k44_ 21 = .ok (.iload_n 1, 1) := by decide +kernel
theorem d32_22 : decode k44_ 22 = .ok (.isub, 1) := by decide +kernel
theorem d32_23 : decode k44_ 23 = .ok (.iload_n 3, 1) := by decide +kernel
theorem d32_24 : decode k44_ 24 = .ok (.invokestatic 304, 3) := by decide +kernel
theorem pd_28 : parseMethodDescriptor "(II)I" = some ⟨[.int, .int], some .int⟩ := by decide +kernel
theorem d32_27 : decode k44_ 27 = .ok (.invokestatic 150, 3) := by decide +kernel
theorem d32_30 : decode k44_ 30 = .ok (.aload 4, 2) := by decide +kernel
theorem d32_32 : decode k44_ 32 = .ok (.areturn, 1) := by decide +kernel
theorem ef_crb (m : MethodId) (x0 : Addr) (x1 : Int32) (x2 : Int32) : entryFrame m #[(.ref x0), (.int x1), (.int x2)] 5 = mkF m 0 #[.val (.ref x0), .val (.int x1), .val (.int x2), .unset, .unset] [] := by first | (simp [entryFrame, mkF, argsToLocals, Value.category]; done) | rfl
def Qcrb (Z : State) (cn : Int32) (vs : List Value) (h0 : Heap) (n0 : Nat) (v : Option Value) (h : Heap) (L : List Loc) : Prop := ∃ (b_ : Addr) (k_ : ClassId), v = some (.ref b_) ∧ Fr n0 L ∧ Keep h0 h [] ∧ h0.size ≤ b_ ∧ Arv Z h b_ k_ .byte (cn - (0 : Int32)) (vs.take cn.toNatClampNeg) (.int 0) ∧ eX0 Z h b_
theorem crb (l : Launch) (Z : State) (a0 : Array Value) (hw : ∀ d ∈ tables_1, d.before a0 Z = true) (ws : List Jvm.Cond) (a : Addr) (cn : Int32) (ka : ClassId) (N : Int32) (vs : List Value) (h0 : Heap) (n0 : Nat) (O : Old Z n0 h0) (V_a : Arv Z h0 a ka .byte N vs (.int 0)) (hn0 : ¬ cn < 0) (hvl : cn.toNatClampNeg ≤ vs.length) (hnN : cn.toNatClampNeg ≤ N.toNatClampNeg) (hcap : cn.toNatClampNeg ≤ 9) (hlt : cn < N) :
   own_MF l Z mN44 jdk_65_method_133_code 5 (some (.array .byte)) ws rM25 #[(.ref a), (.int 0), (.int cn)] h0 (Qcrb Z cn vs h0 n0) := by
 refine MetFree.of_bodySF (plainFor_of_name pn_7) hisR ?_
 intro p e s m args below meth c s₁ Bd hml0 hP hK
 obtain ⟨rfl, hZ, hh⟩ := hP
 have hx := Bd.exec
 have hby := Bd.bytes
 have B := @hb _ _ hby
 have hml : c.maxLocals = 5 := hml0
 have hown : s.vm.findClass "java/util/Arrays" = some m.cls := findClass_of_methodNamed Bd.named
 have X0 : Stand p l e rM25 s m #[(.ref a), (.int 0), (.int cn)] below meth c s₁ [] 0 0 := Stand.of_body Bd
 have e0 : s₁.heap = h0 := by rw [← hh, Bd.state]; rfl
 have N0 := Fr.nil n0
 have K0 := Keep.refl h0 []
 refine own_start (ef_crb m a (0 : Int32) cn) (Q := own_QE s rM25 (Qcrb Z cn vs h0 n0)) ?_
 show oF p e below (s₁.setTop (mkF m 0 #[.val (.ref a), .val (.int 0), .val (.int cn), .unset, .unset] [])) _
 refine oG (fun _ k => XS.iloadN X0.here hx rfl (B d32_0) rfl (XS.iloadN X0.here hx rfl (B d32_1) rfl k)) ?_
 show oF p e below (s₁.setTop (mkF m 2 #[.val (.ref a), .val (.int 0), .val (.int cn), .unset, .unset] [(.int cn), (.int 0)])) _
 obtain ⟨_, _, ⟨T4x, L4x, k4x, n4x⟩, -, X4x, ⟨Lc4x, hQ4x, l4x, y4x, z4x⟩, st4x⟩ := Jvm.LawKit.callS X0 hx (y := mN43) hown (mo hZ hw 166) (mo hZ hw 167) (mo hZ hw 111) (mo hZ hw 168) (by decide) (backOf (W := 0) (ckl l Z a0 hw [] cn h0 n0 hn0) hZ (ow hw 168) (ow hw 111) (by decide) (by decide)) (g := (mkF m 2 #[.val (.ref a), .val (.int 0), .val (.int cn), .unset, .unset] [(.int cn), (.int 0)])) rfl (by rw [hml]; rfl) (argsL := [(.int 0), (.int cn)]) (rest := []) (lenOf pd_2 rfl) rfl (by show 2 * 0 + _ ≤ _; exact Nat.le_of_eq rfl) (B d32_2) (fun _ _ => ⟨rfl, e0, (by decide : 0 + 0 ≤ _), (by decide : 0 + 0 ≤ _)⟩)
 dsimp only [Pt.U, Pt.locs, Pt.cells, Pt.slots] at X4x l4x y4x z4x st4x hQ4x
 subst y4x z4x
 obtain ⟨rfl, N4xq, e4x⟩ := hQ4x
 refine oG st4x ?_
 have N4x := oL l4x (Fr.app N0 N4xq)
 show oF p e below (T4x.setTop (mkF m 5 #[.val (.ref a), .val (.int 0), .val (.int cn), .unset, .unset] [])) _
 refine oG (fun _ k => XS.iloadN X4x.here hx rfl (B d32_5) rfl (XS.iloadN X4x.here hx rfl (B d32_6) rfl (XS.isub X4x.here hx rfl (B d32_7) rfl (XS.istoreN X4x.here hx rfl (B d32_8) rfl (l' := #[.val (.ref a), .val (.int 0), .val (.int cn), .val (.int (cn - (0 : Int32))), .unset]) rfl (XS.iloadN X4x.here hx rfl (B d32_9) rfl k))))) ?_
 show oF p e below (T4x.setTop (mkF m 10 #[.val (.ref a), .val (.int 0), .val (.int cn), .val (.int (cn - (0 : Int32))), .unset] [(.int (cn - (0 : Int32)))])) _
 obtain ⟨T4y, h4y, k4y, X4y, e4y, E4y, A4y, B4y, st4y⟩ := newPE X4x hx hZ (ow hw 6) e4x (g := (mkF m 10 #[.val (.ref a), .val (.int 0), .val (.int cn), .val (.int (cn - (0 : Int32))), .unset] [(.int (cn - (0 : Int32)))])) rfl (B d32_10) rfl (by rw [Int32.sub_zero]; exact hn0) (cap := 9) (by rw [Int32.sub_zero]; exact hcap) (by decide) (by decide) (by decide) (ad := "[B") (by decide)
 obtain ⟨b4y, g4y⟩ : ∃ z, z = h0.size := ⟨_, rfl⟩
 rw [← g4y] at A4y st4y B4y
 refine oG st4y ?_
 have ne_a_b384 : a ≠ b4y := Nat.ne_of_lt (Nat.lt_of_lt_of_le V_a.lt (Nat.le_of_eq g4y.symm))
 have j80_ : n0 ≤ b4y := Nat.le_trans (own_osz O) (Nat.le_of_eq g4y.symm)
 have j81_ : h0.size ≤ b4y := Nat.le_trans K0.1 (Nat.le_of_eq g4y.symm)
 have V_a := V_a.ext E4y
 have O := O.ext E4y
 have K4z := K0.ext E4y
 have j52_ := B4y
 have j41_ : Arv Z h4y b4y k4y .byte (cn - (0 : Int32)) [] (.int 0) := Arv.new A4y (by rw [Int32.sub_zero]; exact hn0)
 show oF p e below (T4y.setTop (mkF m 12 #[.val (.ref a), .val (.int 0), .val (.int cn), .val (.int (cn - (0 : Int32))), .unset] [(.ref b4y)])) _
 refine oG (fun _ k => XS.astore X4y.here hx rfl (B d32_12) rfl rfl (l' := #[.val (.ref a), .val (.int 0), .val (.int cn), .val (.int (cn - (0 : Int32))), .val (.ref b4y)]) rfl (XS.aloadN X4y.here hx rfl (B d32_14) rfl rfl (XS.iloadN X4y.here hx rfl (B d32_15) rfl (XS.aload X4y.here hx rfl (B d32_16) rfl rfl (XS.iconst X4y.here hx rfl (B d32_18) (XS.aloadN X4y.here hx rfl (B d32_19) rfl rfl k)))))) ?_
 show oF p e below (T4y.setTop (mkF m 20 #[.val (.ref a), .val (.int 0), .val (.int cn), .val (.int (cn - (0 : Int32))), .val (.ref b4y)] [(.ref a), (.int 0), (.ref b4y), (.int 0), (.ref a)])) _
 obtain ⟨cl4A, A4A, -, S4A, M4A, -, -⟩ := id V_a
 refine oG (fun _ k => X4y.arraylength hx (own_eqE e4y A4A.1) (State.isArrayOf_alike hZ.alike A4A.2.1) (g := (mkF m 20 #[.val (.ref a), .val (.int 0), .val (.int cn), .val (.int (cn - (0 : Int32))), .val (.ref b4y)] [(.ref a), (.int 0), (.ref b4y), (.int 0), (.ref a)])) rfl rfl (B d32_20) _ (by rw [len_of S4A M4A]; exact k)) ?_
 show oF p e below (T4y.setTop (mkF m 21 #[.val (.ref a), .val (.int 0), .val (.int cn), .val (.int (cn - (0 : Int32))), .val (.ref b4y)] [(.int N), (.int 0), (.ref b4y), (.int 0), (.ref a)])) _
 refine oG (fun _ k => XS.iloadN X4y.here hx rfl (B d32_21) rfl (XS.isub X4y.here hx rfl (B d32_22) rfl (XS.iloadN X4y.here hx rfl (B d32_23) rfl k))) ?_
 show oF p e below (T4y.setTop (mkF m 24 #[.val (.ref a), .val (.int 0), .val (.int cn), .val (.int (cn - (0 : Int32))), .val (.ref b4y)] [(.int (cn - (0 : Int32))), (.int (N - (0 : Int32))), (.int 0), (.ref b4y), (.int 0), (.ref a)])) _
 obtain ⟨_, _, ⟨T4B, L4B, k4B, n4B⟩, -, X4B, ⟨Lc4B, hQ4B, l4B, y4B, z4B⟩, st4B⟩ := Jvm.LawKit.callS X4y hx (y := mN42) hown (mo hZ hw 169) (mo hZ hw 170) (mo hZ hw 171) (mo hZ hw 172) (by decide) (backOf (W := 4) (mnn l Z a0 hw [] (N - (0 : Int32)) (cn - (0 : Int32)) h4y n0 ) hZ (ow hw 172) (ow hw 171) (by decide) (by decide)) (g := (mkF m 24 #[.val (.ref a), .val (.int 0), .val (.int cn), .val (.int (cn - (0 : Int32))), .val (.ref b4y)] [(.int (cn - (0 : Int32))), (.int (N - (0 : Int32))), (.int 0), (.ref b4y), (.int 0), (.ref a)])) rfl (by rw [hml]; rfl) (argsL := [(.int (N - (0 : Int32))), (.int (cn - (0 : Int32)))]) (rest := [(.int 0), (.ref b4y), (.int 0), (.ref a)]) (lenOf pd_28 rfl) rfl (by show 2 * 0 + _ ≤ _; exact Nat.le_of_eq rfl) (B d32_24) (fun _ _ => ⟨rfl, e4y, (by decide : 1 + 0 ≤ _), (by decide : 9 + 0 ≤ _)⟩)
 dsimp only [Pt.U, Pt.locs, Pt.cells, Pt.slots] at X4B l4B y4B z4B st4B hQ4B
 subst y4B z4B
 obtain ⟨rfl, N4Bq, e4B⟩ := hQ4B
 refine oG st4B ?_
 have N4B := oL l4B (Fr.app N4x N4Bq)
 show oF p e below (T4B.setTop (mkF m 27 #[.val (.ref a), .val (.int 0), .val (.int cn), .val (.int (cn - (0 : Int32))), .val (.ref b4y)] [(.int (own_mn (N - (0 : Int32)) (cn - (0 : Int32)))), (.int 0), (.ref b4y), (.int 0), (.ref a)])) _
 rw [show own_mn (N - (0 : Int32)) (cn - (0 : Int32)) = cn from by rw [Int32.sub_zero, Int32.sub_zero]; exact own_min hlt]
 have j41_ := j41_.pad (pad_rep [] (.int 0) cn.toNatClampNeg)
 show oF p e below (T4B.setTop (mkF m 27 #[.val (.ref a), .val (.int 0), .val (.int cn), .val (.int (cn - (0 : Int32))), .val (.ref b4y)] [(.int cn), (.int 0), (.ref b4y), (.int 0), (.ref a)])) _
 obtain ⟨T4C, h4C, L4C, X4C, e4C, Nq4C, Kq4C, V4C, st4C⟩ := cpA X4B hx hZ hown (ow hw 173) (ow hw 176) (ow hw 174) (ow hw 175) e4B V_a j41_ (Or.inl ⟨rfl, rfl⟩) (by decide) (by decide) hn0 (by rw [show (0 : Int32).toNatClampNeg = 0 from by decide]; omega) (by rw [show (0 : Int32).toNatClampNeg = 0 from by decide, Int32.sub_zero]; omega) (sp := (0 : Int32)) (dp := (0 : Int32)) (us := vs.take cn.toNatClampNeg) (own_us vs _ _ hvl) (by rw [show (0 : Int32).toNatClampNeg = 0 from by decide]; simp <;> omega) N4B j80_ (g := (mkF m 27 #[.val (.ref a), .val (.int 0), .val (.int cn), .val (.int (cn - (0 : Int32))), .val (.ref b4y)] [(.int cn), (.int 0), (.ref b4y), (.int 0), (.ref a)])) rfl (by rw [hml]; rfl) rfl (B d32_27) (by decide) (W := 0) (by show 2 * 0 + _ ≤ _; exact Nat.le_of_eq rfl) (by decide)
 rw [own_cut, Nat.sub_self, List.replicate_zero, List.append_nil] at V4C
 refine oG st4C ?_
 have V_a := V_a.keep Kq4C (ninS ne_a_b384 nin0)
 have j52_ := j52_.keep Kq4C
 have O := O.keep Kq4C (allS j80_ all0)
 have K4D := K4z.trans Kq4C (allS (Or.inr j81_) all0)
 have j41_ := V4C
 show oF p e below (T4C.setTop (mkF m 30 #[.val (.ref a), .val (.int 0), .val (.int cn), .val (.int (cn - (0 : Int32))), .val (.ref b4y)] [])) _
 refine oG (fun _ k => XS.aload X4C.here hx rfl (B d32_30) rfl rfl k) ?_
 show oF p e below (T4C.setTop (mkF m 32 #[.val (.ref a), .val (.int 0), .val (.int cn), .val (.int (cn - (0 : Int32))), .val (.ref b4y)] [(.ref b4y)])) _
 obtain ⟨fs, hr, r1, r2, hW, r3⟩ := X4C.leave (v := some (.ref b4y)) (fun h => by rw [Bd.returns] at h; cases h)
 refine ⟨_, _, ?_, r1, r2, _, _, rfl, ?_, ⟨_, rfl⟩, hW, r3.mono (by decide) (by decide)⟩
 ·exact X4C.areturnOut hx rfl Bd.returns rfl (B d32_32) hr
 ·show Qcrb Z cn vs h0 n0 _ T4C.heap _
  rw [e4C]
  exact ⟨b4y, k4y, rfl, Nq4C, K4D, j81_, j41_, j52_⟩
theorem d22_0 : decode k45_ 0 = .ok (.iload_n 1, 1) := by decide +kernel
theorem d22_1 : decode k45_ 1 = .ok (.ifCond .ne 9, 3) := by decide +kernel
theorem d22_4 : decode k45_ 4 = .ok (.iload_n 2, 1) := by decide +kernel
theorem d22_5 : decode k45_ 5 = .ok (.aload_n 0, 1) := by decide +kernel
theorem d22_6 : decode k45_ 6 = .ok (.arraylength, 1) := by decide +kernel
theorem d22_7 : decode k45_ 7 = .ok (.if_icmp .eq 10, 3) := by decide +kernel
theorem d22_10 : decode k45_ 10 = .ok (.aload_n 0, 1) := by decide +kernel
theorem d22_11 : decode k45_ 11 = .ok (.iload_n 1, 1) := by decide +kernel
theorem d22_12 : decode k45_ 12 = .ok (.iload_n 2, 1) := by decide +kernel
theorem d22_13 : decode k45_ 13 = .ok (.invokestatic 339, 3) := by decide +kernel
theorem pd_29 : parseMethodDescriptor "([BII)[B" = some ⟨[(.array .byte), .int, .int], some (.array .byte)⟩ := by decide +kernel
theorem d22_16 : decode k45_ 16 = .ok (.areturn, 1) := by decide +kernel
def QcrL (Z : State) (cn : Int32) (vs : List Value) (h0 : Heap) (n0 : Nat) (v : Option Value) (h : Heap) (L : List Loc) : Prop := ∃ (b_ : Addr) (k_ : ClassId), v = some (.ref b_) ∧ Fr n0 L ∧ Keep h0 h [] ∧ h0.size ≤ b_ ∧ Arv Z h b_ k_ .byte cn (vs.take cn.toNatClampNeg) (.int 0) ∧ eX0 Z h b_
theorem crL (l : Launch) (Z : State) (a0 : Array Value) (hw : ∀ d ∈ tables_1, d.before a0 Z = true) (ws : List Jvm.Cond) (a : Addr) (cn : Int32) (ka : ClassId) (N : Int32) (vs : List Value) (h0 : Heap) (n0 : Nat) (O : Old Z n0 h0) (V_a : Arv Z h0 a ka .byte N vs (.int 0)) (E_a : eX0 Z h0 a) (hn0 : ¬ cn < 0) (hvl : cn.toNatClampNeg ≤ vs.length) (hnN : cn.toNatClampNeg ≤ N.toNatClampNeg) (hcap : cn.toNatClampNeg ≤ 9) (hlt : cn < N) (hne : ¬ (cn = N)) :
   own_MF l Z mN45 jdk_65_method_132_code 3 (some (.array .byte)) ws rM26 #[(.ref a), (.int 0), (.int cn)] h0 (QcrL Z cn vs h0 n0) := by
 refine MetFree.of_bodySF (plainFor_of_name pn_7) hisR ?_
 intro p e s m args below meth c s₁ Bd hml0 hP hK
 obtain ⟨rfl, hZ, hh⟩ := hP
 have hx := Bd.exec
 have hby := Bd.bytes
 have B := @hb _ _ hby
 have hml : c.maxLocals = 3 := hml0
 have hown : s.vm.findClass "java/util/Arrays" = some m.cls := findClass_of_methodNamed Bd.named
 have X0 : Stand p l e rM26 s m #[(.ref a), (.int 0), (.int cn)] below meth c s₁ [] 0 0 := Stand.of_body Bd
 have e0 : s₁.heap = h0 := by rw [← hh, Bd.state]; rfl
 have N0 := Fr.nil n0
 have K0 := Keep.refl h0 []
 refine own_start (ef_pt m a (0 : Int32) cn) (Q := own_QE s rM26 (QcrL Z cn vs h0 n0)) ?_
 show oF p e below (s₁.setTop (mkF m 0 #[.val (.ref a), .val (.int 0), .val (.int cn)] [])) _
 refine oG (fun _ k => XS.iloadN X0.here hx rfl (B d22_0) rfl (XS.ifNo X0.here hx rfl (B d22_1) rfl ((if0 _ _).trans (teq (by decide : (0 : Int32) = (0 : Int32))).2) (XS.iloadN X0.here hx rfl (B d22_4) rfl (XS.aloadN X0.here hx rfl (B d22_5) rfl rfl k)))) ?_
 show oF p e below (s₁.setTop (mkF m 6 #[.val (.ref a), .val (.int 0), .val (.int cn)] [(.ref a), (.int cn)])) _
 obtain ⟨cl4E, A4E, -, S4E, M4E, -, -⟩ := id V_a
 refine oG (fun _ k => X0.arraylength hx (own_eqE e0 A4E.1) (State.isArrayOf_alike hZ.alike A4E.2.1) (g := (mkF m 6 #[.val (.ref a), .val (.int 0), .val (.int cn)] [(.ref a), (.int cn)])) rfl rfl (B d22_6) _ (by rw [len_of S4E M4E]; exact k)) ?_
 show oF p e below (s₁.setTop (mkF m 7 #[.val (.ref a), .val (.int 0), .val (.int cn)] [(.int N), (.int cn)])) _
 refine oG (fun _ k => XS.icmpNo X0.here hx rfl (B d22_7) rfl (feq hne).1 (XS.aloadN X0.here hx rfl (B d22_10) rfl rfl (XS.iloadN X0.here hx rfl (B d22_11) rfl (XS.iloadN X0.here hx rfl (B d22_12) rfl k)))) ?_
 show oF p e below (s₁.setTop (mkF m 13 #[.val (.ref a), .val (.int 0), .val (.int cn)] [(.int cn), (.int 0), (.ref a)])) _
 obtain ⟨_, _, ⟨T4F, L4F, k4F, n4F⟩, -, X4F, ⟨Lc4F, hQ4F, l4F, y4F, z4F⟩, st4F⟩ := Jvm.LawKit.callS X0 hx (y := mN44) hown (mo hZ hw 163) (mo hZ hw 164) (mo hZ hw 111) (mo hZ hw 165) (by decide) (backOf (W := 0) (crb l Z a0 hw [] a cn ka N vs h0 n0 O V_a hn0 hvl hnN hcap hlt) hZ (ow hw 165) (ow hw 111) (by decide) (by decide)) (g := (mkF m 13 #[.val (.ref a), .val (.int 0), .val (.int cn)] [(.int cn), (.int 0), (.ref a)])) rfl (by rw [hml]; rfl) (argsL := [(.ref a), (.int 0), (.int cn)]) (rest := []) (lenOf pd_29 rfl) rfl (by show 2 * 0 + _ ≤ _; exact Nat.le_of_eq rfl) (B d22_13) (fun _ _ => ⟨rfl, e0, (by decide : 0 + 1 ≤ _), (by decide : 0 + 9 ≤ _)⟩)
 dsimp only [Pt.U, Pt.locs, Pt.cells, Pt.slots] at X4F l4F y4F z4F st4F hQ4F
 subst y4F z4F
 obtain ⟨b_4G, k_4H, rfl, N4Fq, Kq4F, P4F_0, P4F_1, P4F_2⟩ := hQ4F
 refine oG st4F ?_
 have N4F := oL l4F (Fr.app N0 N4Fq)
 have ne_a_b_393 : a ≠ b_4G := Nat.ne_of_lt (Nat.lt_of_lt_of_le V_a.lt P4F_0)
 have g_b_393 : n0 ≤ b_4G := Nat.le_trans (own_osz O) P4F_0
 have sz_b_393 : h0.size ≤ b_4G := Nat.le_trans K0.1 P4F_0
 have V_a := V_a.keep Kq4F nin0
 have E_a := E_a.keep Kq4F
 have O := O.keep Kq4F all0
 have K4I := K0.trans Kq4F all0
 have j82_ := P4F_1
 have E_b_393 := P4F_2
 show oF p e below (T4F.setTop (mkF m 16 #[.val (.ref a), .val (.int 0), .val (.int cn)] [(.ref b_4G)])) _
 obtain ⟨fs, hr, r1, r2, hW, r3⟩ := X4F.leave (v := some (.ref b_4G)) (fun h => by rw [Bd.returns] at h; cases h)
 refine ⟨_, _, ?_, r1, r2, _, _, rfl, ?_, ⟨_, rfl⟩, hW, r3.mono (by decide) (by decide)⟩
 ·exact X4F.areturnOut hx rfl Bd.returns rfl (B d22_16) hr
 ·show QcrL Z cn vs h0 n0 _ T4F.heap _
  exact ⟨b_4G, k_4H, rfl, N4F, K4I, sz_b_393, (by rw [Int32.sub_zero] at j82_; exact j82_), E_b_393⟩
theorem d22_17 : decode k45_ 17 = .ok (.aload_n 0, 1) := by decide +kernel
theorem d22_18 : decode k45_ 18 = .ok (.invokevirtual 310, 3) := by decide +kernel
theorem d22_21 : decode k45_ 21 = .ok (.checkcast 311, 3) := by decide +kernel
theorem d22_24 : decode k45_ 24 = .ok (.areturn, 1) := by decide +kernel
def QcrE (Z : State) (cn : Int32) (vs : List Value) (h0 : Heap) (n0 : Nat) (v : Option Value) (h : Heap) (L : List Loc) : Prop := ∃ (b_ : Addr) (k_ : ClassId), v = some (.ref b_) ∧ Fr n0 L ∧ Keep h0 h [] ∧ h0.size ≤ b_ ∧ Arv Z h b_ k_ .byte cn (vs.take cn.toNatClampNeg) (.int 0) ∧ eX0 Z h b_
theorem crE (l : Launch) (Z : State) (a0 : Array Value) (hw : ∀ d ∈ tables_1, d.before a0 Z = true) (ws : List Jvm.Cond) (a : Addr) (cn : Int32) (ka : ClassId) (N : Int32) (vs : List Value) (h0 : Heap) (n0 : Nat) (O : Old Z n0 h0) (V_a : Arv Z h0 a ka .byte N vs (.int 0)) (E_a : eX0 Z h0 a) (hn0 : ¬ cn < 0) (hvl : cn.toNatClampNeg ≤ vs.length) (hnN : cn.toNatClampNeg ≤ N.toNatClampNeg) (hcap : cn.toNatClampNeg ≤ 9) (heq : cn = N) (htk : vs.take cn.toNatClampNeg = vs) :
   own_MF l Z mN45 jdk_65_method_132_code 3 (some (.array .byte)) ws rM27 #[(.ref a), (.int 0), (.int cn)] h0 (QcrE Z cn vs h0 n0) := by
 refine MetFree.of_bodySF (plainFor_of_name pn_7) hisR ?_
 intro p e s m args below meth c s₁ Bd hml0 hP hK
 obtain ⟨rfl, hZ, hh⟩ := hP
 have hx := Bd.exec
 have hby := Bd.bytes
 have B := @hb _ _ hby
 have hml : c.maxLocals = 3 := hml0
 have hown : s.vm.findClass "java/util/Arrays" = some m.cls := findClass_of_methodNamed Bd.named
 have X0 : Stand p l e rM27 s m #[(.ref a), (.int 0), (.int cn)] below meth c s₁ [] 0 0 := Stand.of_body Bd
 have e0 : s₁.heap = h0 := by rw [← hh, Bd.state]; rfl
 have N0 := Fr.nil n0
 have K0 := Keep.refl h0 []
 refine own_start (ef_pt m a (0 : Int32) cn) (Q := own_QE s rM27 (QcrE Z cn vs h0 n0)) ?_
 show oF p e below (s₁.setTop (mkF m 0 #[.val (.ref a), .val (.int 0), .val (.int cn)] [])) _
 refine oG (fun _ k => XS.iloadN X0.here hx rfl (B d22_0) rfl (XS.ifNo X0.here hx rfl (B d22_1) rfl ((if0 _ _).trans (teq (by decide : (0 : Int32) = (0 : Int32))).2) (XS.iloadN X0.here hx rfl (B d22_4) rfl (XS.aloadN X0.here hx rfl (B d22_5) rfl rfl k)))) ?_
 show oF p e below (s₁.setTop (mkF m 6 #[.val (.ref a), .val (.int 0), .val (.int cn)] [(.ref a), (.int cn)])) _
 obtain ⟨cl4J, A4J, -, S4J, M4J, -, -⟩ := id V_a
 refine oG (fun _ k => X0.arraylength hx (own_eqE e0 A4J.1) (State.isArrayOf_alike hZ.alike A4J.2.1) (g := (mkF m 6 #[.val (.ref a), .val (.int 0), .val (.int cn)] [(.ref a), (.int cn)])) rfl rfl (B d22_6) _ (by rw [len_of S4J M4J]; exact k)) ?_
 show oF p e below (s₁.setTop (mkF m 7 #[.val (.ref a), .val (.int 0), .val (.int cn)] [(.int N), (.int cn)])) _
 refine oG (fun _ k => XS.icmpYes X0.here hx rfl (pc0 := 7) (pc' := 17) rfl (B d22_7) rfl (teq heq).1 (by decide) (by decide) (XS.aloadN X0.here hx rfl (B d22_17) rfl rfl k)) ?_
 show oF p e below (s₁.setTop (mkF m 18 #[.val (.ref a), .val (.int 0), .val (.int cn)] [(.ref a)])) _
 obtain ⟨T4K, h4K, X4K, e4K, E4K, A4K, B4K, st4K⟩ := cloneH X0 hx hZ hown (ow hw 113) (ow hw 114) (ow hw 118) (ow hw 116) (ow hw 117) (ow hw 119) e0 (Arv.arh V_a) E_a (g := (mkF m 18 #[.val (.ref a), .val (.int 0), .val (.int cn)] [(.ref a)])) rfl (by rw [hml]; rfl) rfl (B d22_18) (by decide) (W := 0) (cap := 9) (by show 2 * 0 + _ ≤ _; exact Nat.le_of_eq rfl) (by decide) (by rw [← heq]; exact hcap) (by decide) (by decide)
 obtain ⟨b4K, g4K⟩ : ∃ z, z = h0.size := ⟨_, rfl⟩
 rw [← g4K] at A4K B4K st4K
 refine oG st4K ?_
 have ne_a_b398 : a ≠ b4K := Nat.ne_of_lt (Nat.lt_of_lt_of_le V_a.lt (Nat.le_of_eq g4K.symm))
 have g_b398 : n0 ≤ b4K := Nat.le_trans (own_osz O) (Nat.le_of_eq g4K.symm)
 have sz_b398 : h0.size ≤ b4K := Nat.le_trans K0.1 (Nat.le_of_eq g4K.symm)
 have V_a := V_a.ext E4K
 have E_a := E_a.ext E4K
 have O := O.ext E4K
 have K4L := K0.ext E4K
 have V_b398 : Arv Z h4K b4K ka .byte N vs (.int 0) := A4K
 have j83_ := B4K
 obtain ⟨T4M, X4M, e4M, st4M⟩ := castY X4K hx hZ hown (ow hw 120) e4K (Ins.self j83_) (g := (mkF m 21 #[.val (.ref a), .val (.int 0), .val (.int cn)] [(.ref b4K)])) rfl rfl (B d22_21)
 refine oG st4M ?_
 show oF p e below (T4M.setTop (mkF m 24 #[.val (.ref a), .val (.int 0), .val (.int cn)] [(.ref b4K)])) _
 obtain ⟨fs, hr, r1, r2, hW, r3⟩ := X4M.leave (v := some (.ref b4K)) (fun h => by rw [Bd.returns] at h; cases h)
 refine ⟨_, _, ?_, r1, r2, _, _, rfl, ?_, ⟨_, rfl⟩, hW, r3.mono (by decide) (by decide)⟩
 ·exact X4M.areturnOut hx rfl Bd.returns rfl (B d22_24) hr
 ·show QcrE Z cn vs h0 n0 _ T4M.heap _
  rw [e4M]
  exact ⟨b4K, ka, rfl, N0, K4L, sz_b398, (by rw [htk, heq]; exact V_b398), j83_⟩
theorem d18_0 : decode k46_ 0 = .ok (.aload_n 0, 1) := by decide +kernel
theorem d18_1 : decode k46_ 1 = .ok (.invokespecial 1, 3) := by decide +kernel
theorem d18_4 : decode k46_ 4 = .ok (.aload_n 1, 1) := by decide +kernel
theorem d18_5 : decode k46_ 5 = .ok (.invokevirtual 552, 3) := by decide +kernel
theorem pd_30 : parseMethodDescriptor "()[B" = some ⟨[], some (.array .byte)⟩ := by decide +kernel
theorem d18_8 : decode k46_ 8 = .ok (.astore_n 3, 1) := by decide +kernel
theorem d18_9 : decode k46_ 9 = .ok (.aload_n 1, 1) := by decide +kernel
theorem d18_10 : decode k46_ 10 = .ok (.invokevirtual 549, 3) := by decide +kernel
theorem d18_13 : decode k46_ 13 = .ok (.istore 4, 2) := by decide +kernel
theorem d18_15 : decode k46_ 15 = .ok (.aload_n 1, 1) := by decide +kernel
theorem d18_16 : decode k46_ 16 = .ok (.invokevirtual 1047, 3) := by decide +kernel
theorem d18_19 : decode k46_ 19 = .ok (.ifCond .eq 22, 3) := by decide +kernel
theorem d18_22 : decode k46_ 22 = .ok (.aload_n 0, 1) := by decide +kernel
theorem d18_23 : decode k46_ 23 = .ok (.iconst 0, 1) := by decide +kernel
theorem d18_24 : decode k46_ 24 = .ok (.putfield 15, 3) := by decide +kernel
theorem d18_27 : decode k46_ 27 = .ok (.aload_n 0, 1) := by decide +kernel
theorem d18_28 : decode k46_ 28 = .ok (.aload_n 3, 1) := by decide +kernel
theorem d18_29 : decode k46_ 29 = .ok (.iconst 0, 1) := by decide +kernel
theorem d18_30 : decode k46_ 30 = .ok (.iload 4, 2) := by decide +kernel
theorem d18_32 : decode k46_ 32 = .ok (.invokestatic 54, 3) := by decide +kernel
theorem d18_35 : decode k46_ 35 = .ok (.putfield 9, 3) := by decide +kernel
theorem d18_38 : decode k46_ 38 = .ok (.goto 59, 3) := by decide +kernel
theorem d18_97 : decode k46_ 97 = .ok (.return_, 1) := by decide +kernel
theorem d18_41 : decode k46_ 41 = .ok (.getstatic 38, 3) := by decide +kernel
theorem d18_44 : decode k46_ 44 = .ok (.ifCond .eq 35, 3) := by decide +kernel
theorem d18_47 : decode k46_ 47 = .ok (.aload_n 1, 1) := by decide +kernel
theorem d18_48 : decode k46_ 48 = .ok (.getfield 1048, 3) := by decide +kernel
theorem d18_51 : decode k46_ 51 = .ok (.ifCond .eq 28, 3) := by decide +kernel
theorem d18_79 : decode k46_ 79 = .ok (.aload_n 0, 1) := by decide +kernel
theorem d18_80 : decode k46_ 80 = .ok (.iconst 1, 1) := by decide +kernel
theorem d18_81 : decode k46_ 81 = .ok (.putfield 15, 3) := by decide +kernel
theorem d18_84 : decode k46_ 84 = .ok (.aload_n 0, 1) := by decide +kernel
theorem d18_85 : decode k46_ 85 = .ok (.aload_n 3, 1) := by decide +kernel
theorem d18_86 : decode k46_ 86 = .ok (.iconst 0, 1) := by decide +kernel
theorem d18_87 : decode k46_ 87 = .ok (.iload 4, 2) := by decide +kernel
theorem d18_89 : decode k46_ 89 = .ok (.iconst 1, 1) := by decide +kernel
theorem d18_90 : decode k46_ 90 = .ok (.ishl, 1) := by decide +kernel
theorem d18_91 : decode k46_ 91 = .ok (.invokestatic 54, 3) := by decide +kernel
theorem d18_94 : decode k46_ 94 = .ok (.putfield 9, 3) := by decide +kernel
theorem ef_sv (m : MethodId) (x0 : Addr) (x1 : Addr) : entryFrame m #[(.ref x0), (.ref x1), .null] 5 = mkF m 0 #[.val (.ref x0), .val (.ref x1), .val .null, .unset, .unset] [] := by first | (simp [entryFrame, mkF, argsToLocals, Value.category]; done) | rfl
def Qsv (Z : State) (s_ : Addr) (cs : List Int32) (h0 : Heap) (n0 : Nat) (v : Option Value) (h : Heap) (L : List Loc) : Prop := ∃ (t2_ : Addr) (k2_ : ClassId), v = none ∧ Fr n0 L ∧ Keep h0 h [s_] ∧ h0.size ≤ t2_ ∧ eX2 Z h s_ ∧ own_ST Z h s_ t2_ k2_ cs
theorem sv (l : Launch) (Z : State) (a0 : Array Value) (hw : ∀ d ∈ tables_1, d.before a0 Z = true) (ws : List Jvm.Cond) (s_ : Addr) (b : Addr) (z : Int32) (t : Addr) (kt : ClassId) (N : Int32) (cs : List Int32) (h0 : Heap) (n0 : Nat) (O : Old Z n0 h0) (j4_ : sT4 Z (.int z)) (hz : ¬ (z = (0 : Int32))) (E_b : eX1 Z h0 b) (j9_ : own_SB Z h0 b t kt N cs) (E_t : eX0 Z h0 t) (hN8 : N.toInt ≤ 8) (h4 : cs.length ≤ 4) (hle_ : (cs.length : Int) ≤ N.toInt) (hlt_ : own_bg cs → (cs.length : Int) < N.toInt) (E_s_ : eX2 Z h0 s_) (j12_ : fL4 Z h0 s_ .null) (j10_ : fL5 Z h0 s_ (.int 0)) (g_s : n0 ≤ s_) (nsb : s_ ≠ b) (nst : s_ ≠ t) :
   own_MF l Z mN46 jdk_42_method_150_code 5 none ws rM28 #[(.ref s_), (.ref b), .null] h0 (Qsv Z s_ cs h0 n0) := by
 refine MetFree.of_bodySF (plainFor_of_name pn_2) hisR ?_
 intro p e s m args below meth c s₁ Bd hml0 hP hK
 obtain ⟨rfl, hZ, hh⟩ := hP
 have hx := Bd.exec
 have hby := Bd.bytes
 have B := @hb _ _ hby
 have hml : c.maxLocals = 5 := hml0
 have hown : s.vm.findClass "java/lang/String" = some m.cls := findClass_of_methodNamed Bd.named
 have hnm := (name_of_methodNamed Bd.named Bd.method).1
 have X0 : Stand p l e rM28 s m #[(.ref s_), (.ref b), .null] below meth c s₁ [] 0 0 := Stand.of_body Bd
 have e0 : s₁.heap = h0 := by rw [← hh, Bd.state]; rfl
 have N0 := Fr.nil n0
 have K0 := Keep.refl h0 [s_]
 refine own_start (ef_sv m s_ b) (Q := own_QE s rM28 (Qsv Z s_ cs h0 n0)) ?_
 show oF p e below (s₁.setTop (mkF m 0 #[.val (.ref s_), .val (.ref b), .val .null, .unset, .unset] [])) _
 obtain ⟨j2_, j1_, j3_, hrg, hd⟩ := j9_
 rcases hd with ⟨j0_, V_t, hla⟩ | ⟨j0_, V_t, hbg⟩
 ·show oF p e below (s₁.setTop (mkF m 0 #[.val (.ref s_), .val (.ref b), .val .null, .unset, .unset] [])) _
  refine oG (fun _ k => XS.aloadN X0.here hx rfl (B d18_0) rfl rfl k) ?_
  show oF p e below (s₁.setTop (mkF m 1 #[.val (.ref s_), .val (.ref b), .val .null, .unset, .unset] [(.ref s_)])) _
  obtain ⟨T4N, X4N, e4N, st4N⟩ := initO X0 hx hZ hown (ow hw 92) (ow hw 27) (ow hw 28) e0 (g := (mkF m 1 #[.val (.ref s_), .val (.ref b), .val .null, .unset, .unset] [(.ref s_)])) rfl (by rw [hml]; rfl) rfl (B d18_1) (by decide) (W := 0) (by show 2 * 0 + _ ≤ _; exact Nat.le_of_eq rfl) (by decide)
  refine oG st4N ?_
  show oF p e below (T4N.setTop (mkF m 4 #[.val (.ref s_), .val (.ref b), .val .null, .unset, .unset] [])) _
  refine oG (fun _ k => XS.aloadN X4N.here hx rfl (B d18_4) rfl rfl k) ?_
  show oF p e below (T4N.setTop (mkF m 5 #[.val (.ref s_), .val (.ref b), .val .null, .unset, .unset] [(.ref b)])) _
  obtain ⟨cq4O, kq4O, q4Oa, q4Ob, q4Oc⟩ := isOf hZ e4N E_b
  obtain ⟨_, _, ⟨T4O, L4O, k4O, n4O⟩, -, X4O, ⟨Lc4O, hQ4O, l4O, y4O, z4O⟩, st4O⟩ := X4N.virtualBack hx (y := mN39) (z := mN39) hown (mo hZ hw 93) (mo hZ hw 94) (notFace_of_selects (args := #[]) (mo hZ hw 96)) (mo hZ hw 96) (mo hZ hw 95) (by decide) (backOf (W := 0) (gv l Z a0 hw [] b t h0 n0 O j2_) hZ (ow hw 97) (ow hw 24) (by decide) (by decide)) q4Oa q4Oc (g := (mkF m 5 #[.val (.ref s_), .val (.ref b), .val .null, .unset, .unset] [(.ref b)])) rfl (by rw [hml]; rfl) (Steps.refl _) (argsL := []) (rest := []) (lenOf pd_30 rfl) rfl (by show 2 * 0 + _ ≤ _; exact Nat.le_of_eq rfl) (B d18_5) (fun _ _ => ⟨rfl, e4N, (by decide : 0 + 0 ≤ _), (by decide : 0 + 0 ≤ _)⟩)
  dsimp only [Pt.U, Pt.locs, Pt.cells, Pt.slots] at X4O l4O y4O z4O st4O hQ4O
  subst y4O z4O
  obtain ⟨rfl, N4Oq, e4O⟩ := hQ4O
  refine oG (fun _ k => st4O.trans k) ?_
  have N4O := oL l4O (Fr.app N0 N4Oq)
  show oF p e below (T4O.setTop (mkF m 8 #[.val (.ref s_), .val (.ref b), .val .null, .unset, .unset] [(.ref t)])) _
  refine oG (fun _ k => XS.astoreN X4O.here hx rfl (B d18_8) rfl rfl (l' := #[.val (.ref s_), .val (.ref b), .val .null, .val (.ref t), .unset]) rfl (XS.aloadN X4O.here hx rfl (B d18_9) rfl rfl k)) ?_
  show oF p e below (T4O.setTop (mkF m 10 #[.val (.ref s_), .val (.ref b), .val .null, .val (.ref t), .unset] [(.ref b)])) _
  obtain ⟨cq4P, kq4P, q4Pa, q4Pb, q4Pc⟩ := isOf hZ e4O E_b
  obtain ⟨_, _, ⟨T4P, L4P, k4P, n4P⟩, -, X4P, ⟨Lc4P, hQ4P, l4P, y4P, z4P⟩, st4P⟩ := X4O.virtualBack hx (y := mN40) (z := mN41) hown (mo hZ hw 98) (mo hZ hw 99) (own_nf (args := #[]) (mo hZ hw 67) (by exact rfl)) (mo hZ hw 101) (mo hZ hw 102) (by decide) (backOf (W := 0) (sl l Z a0 hw [] b (Int32.ofNat cs.length) h0 n0 O E_b j1_) hZ (ow hw 103) (ow hw 16) (by decide) (by decide)) q4Pa q4Pc (g := (mkF m 10 #[.val (.ref s_), .val (.ref b), .val .null, .val (.ref t), .unset] [(.ref b)])) rfl (by rw [hml]; rfl) (Steps.refl _) (argsL := []) (rest := []) (lenOf pd_27 rfl) rfl (by show 2 * 0 + _ ≤ _; exact Nat.le_of_eq rfl) (B d18_10) (fun _ _ => ⟨rfl, e4O, (by decide : 0 + 0 ≤ _), (by decide : 0 + 0 ≤ _)⟩)
  dsimp only [Pt.U, Pt.locs, Pt.cells, Pt.slots] at X4P l4P y4P z4P st4P hQ4P
  subst y4P z4P
  obtain ⟨rfl, N4Pq, e4P⟩ := hQ4P
  refine oG (fun _ k => st4P.trans k) ?_
  have N4P := oL l4P (Fr.app N4O N4Pq)
  show oF p e below (T4P.setTop (mkF m 13 #[.val (.ref s_), .val (.ref b), .val .null, .val (.ref t), .unset] [(.int (Int32.ofNat cs.length))])) _
  refine oG (fun _ k => XS.istore X4P.here hx rfl (B d18_13) rfl (l' := #[.val (.ref s_), .val (.ref b), .val .null, .val (.ref t), .val (.int (Int32.ofNat cs.length))]) rfl (XS.aloadN X4P.here hx rfl (B d18_15) rfl rfl k)) ?_
  show oF p e below (T4P.setTop (mkF m 16 #[.val (.ref s_), .val (.ref b), .val .null, .val (.ref t), .val (.int (Int32.ofNat cs.length))] [(.ref b)])) _
  obtain ⟨cq4Q, kq4Q, q4Qa, q4Qb, q4Qc⟩ := isOf hZ e4P E_b
  obtain ⟨_, _, ⟨T4Q, L4Q, k4Q, n4Q⟩, -, X4Q, ⟨Lc4Q, hQ4Q, l4Q, y4Q, z4Q⟩, st4Q⟩ := X4P.virtualBack hx (y := mN15) (z := mN15) hown (mo hZ hw 106) (mo hZ hw 70) (notFace_of_selects (args := #[]) (mo hZ hw 72)) (mo hZ hw 72) (mo hZ hw 71) (by decide) (backOf (W := 0) (il0 l Z a0 hw [] b z h0 n0 O j4_ hz j0_) hZ (ow hw 73) (ow hw 24) (by decide) (by decide)) q4Qa q4Qc (g := (mkF m 16 #[.val (.ref s_), .val (.ref b), .val .null, .val (.ref t), .val (.int (Int32.ofNat cs.length))] [(.ref b)])) rfl (by rw [hml]; rfl) (Steps.refl _) (argsL := []) (rest := []) (lenOf pd_10 rfl) rfl (by show 2 * 0 + _ ≤ _; exact Nat.le_of_eq rfl) (B d18_16) (fun _ _ => ⟨rfl, e4P, (by decide : 0 + 0 ≤ _), (by decide : 0 + 0 ≤ _)⟩)
  dsimp only [Pt.U, Pt.locs, Pt.cells, Pt.slots] at X4Q l4Q y4Q z4Q st4Q hQ4Q
  subst y4Q z4Q
  obtain ⟨rfl, N4Qq, e4Q⟩ := hQ4Q
  refine oG (fun _ k => st4Q.trans k) ?_
  have N4Q := oL l4Q (Fr.app N4P N4Qq)
  show oF p e below (T4Q.setTop (mkF m 19 #[.val (.ref s_), .val (.ref b), .val .null, .val (.ref t), .val (.int (Int32.ofNat cs.length))] [(.int 1)])) _
  refine oG (fun _ k => XS.ifNo X4Q.here hx rfl (B d18_19) rfl ((if0 _ _).trans (feq (by decide : ¬ ((1 : Int32) = (0 : Int32)))).1) (XS.aloadN X4Q.here hx rfl (B d18_22) rfl rfl (XS.iconst X4Q.here hx rfl (B d18_23) k))) ?_
  show oF p e below (T4Q.setTop (mkF m 24 #[.val (.ref s_), .val (.ref b), .val .null, .val (.ref t), .val (.int (Int32.ofNat cs.length))] [(.int 0), (.ref s_)])) _
  obtain ⟨T4R, h4R, X4R, e4R, W4R, st4R⟩ := putF X4Q hx hZ hown (host := "") (Or.inl (ow hw 107)) Via.refl e4Q j10_ E_s_ (Or.inr ⟨(ow hw 108), rfl, hnm⟩) (ow hw 84) (ty := .byte) (by decide) rfl rfl (g := (mkF m 24 #[.val (.ref s_), .val (.ref b), .val .null, .val (.ref t), .val (.int (Int32.ofNat cs.length))] [(.int 0), (.ref s_)])) rfl rfl (B d18_24)
  refine oG st4R ?_
  have E_b := E_b.wr W4R
  have E_t := E_t.wr W4R
  have E_s_ := E_s_.wr W4R
  have j12_ := j12_.other W4R (Or.inr (slot_ne (Or.inr (ow hw 123)) (Or.inr (ow hw 108)) (by decide) (t := (.array .byte)) (t' := .byte) (by decide) (by decide)))
  have j2_ := j2_.other W4R (Or.inl (Ne.symm nsb))
  have j1_ := j1_.other W4R (Or.inl (Ne.symm nsb))
  have j3_ := j3_.other W4R (Or.inl (Ne.symm nsb))
  have j0_ := j0_.other W4R (Or.inl (Ne.symm nsb))
  have V_t := V_t.other W4R (Ne.symm nst)
  have O := O.wr W4R g_s
  have K4S := K0.wr W4R (Or.inl (List.mem_of_getElem? (i := 0) rfl))
  have j10_ := j10_.same W4R
  have N4R := Fr.snoc X4R N4Q g_s
  show oF p e below (T4R.setTop (mkF m 27 #[.val (.ref s_), .val (.ref b), .val .null, .val (.ref t), .val (.int (Int32.ofNat cs.length))] [])) _
  refine oG (fun _ k => XS.aloadN X4R.here hx rfl (B d18_27) rfl rfl (XS.aloadN X4R.here hx rfl (B d18_28) rfl rfl (XS.iconst X4R.here hx rfl (B d18_29) (XS.iload X4R.here hx rfl (B d18_30) rfl k)))) ?_
  show oF p e below (T4R.setTop (mkF m 32 #[.val (.ref s_), .val (.ref b), .val .null, .val (.ref t), .val (.int (Int32.ofNat cs.length))] [(.int (Int32.ofNat cs.length)), (.int 0), (.ref t), (.ref s_)])) _
  by_cases hse : (Int32.ofNat cs.length) = N
  ·show oF p e below (T4R.setTop (mkF m 32 #[.val (.ref s_), .val (.ref b), .val .null, .val (.ref t), .val (.int (Int32.ofNat cs.length))] [(.int (Int32.ofNat cs.length)), (.int 0), (.ref t), (.ref s_)])) _
   obtain ⟨_, _, ⟨T4T, L4T, k4T, n4T⟩, -, X4T, ⟨Lc4T, hQ4T, l4T, y4T, z4T⟩, st4T⟩ := Jvm.LawKit.callS X4R hx (y := mN45) hown (mo hZ hw 109) (mo hZ hw 110) (mo hZ hw 111) (mo hZ hw 112) (by decide) (backOf (W := 1) (crE l Z a0 hw [] t (Int32.ofNat cs.length) kt N (own_u8 cs) h4R n0 O V_t E_t (own_on0 h4) (own_on1 h4) (own_on2 h4 hle_) (own_on3 h4) hse (own_tk8 h4)) hZ (ow hw 112) (ow hw 111) (by decide) (by decide)) (g := (mkF m 32 #[.val (.ref s_), .val (.ref b), .val .null, .val (.ref t), .val (.int (Int32.ofNat cs.length))] [(.int (Int32.ofNat cs.length)), (.int 0), (.ref t), (.ref s_)])) rfl (by rw [hml]; rfl) (argsL := [(.ref t), (.int 0), (.int (Int32.ofNat cs.length))]) (rest := [(.ref s_)]) (lenOf pd_29 rfl) rfl (by show 2 * 0 + _ ≤ _; exact Nat.le_of_eq rfl) (B d18_32) (fun _ _ => ⟨rfl, e4R, (by decide : 0 + 1 ≤ _), (by decide : 0 + 9 ≤ _)⟩)
   dsimp only [Pt.U, Pt.locs, Pt.cells, Pt.slots] at X4T l4T y4T z4T st4T hQ4T
   subst y4T z4T
   obtain ⟨b_4U, k_4V, rfl, N4Tq, Kq4T, P4T_0, P4T_1, P4T_2⟩ := hQ4T
   refine oG st4T ?_
   have N4T := oL l4T (Fr.app N4R N4Tq)
   have ne_b_b_409 : b ≠ b_4U := Nat.ne_of_lt (Nat.lt_of_lt_of_le E_b.lt P4T_0)
   have ne_t_b_409 : t ≠ b_4U := Nat.ne_of_lt (Nat.lt_of_lt_of_le E_t.lt P4T_0)
   have ne_s__b_409 : s_ ≠ b_4U := Nat.ne_of_lt (Nat.lt_of_lt_of_le E_s_.lt P4T_0)
   have g_b_409 : n0 ≤ b_4U := Nat.le_trans (own_osz O) P4T_0
   have sz_b_409 : h0.size ≤ b_4U := Nat.le_trans K4S.1 P4T_0
   have E_b := E_b.keep Kq4T
   have E_t := E_t.keep Kq4T
   have E_s_ := E_s_.keep Kq4T
   have j12_ := j12_.keep Kq4T nin0
   have j10_ := j10_.keep Kq4T nin0
   have j2_ := j2_.keep Kq4T nin0
   have j1_ := j1_.keep Kq4T nin0
   have j3_ := j3_.keep Kq4T nin0
   have j0_ := j0_.keep Kq4T nin0
   have V_t := V_t.keep Kq4T nin0
   have O := O.keep Kq4T all0
   have K4W := K4S.trans Kq4T all0
   have j45_ := P4T_1
   have j84_ := P4T_2
   obtain ⟨T4X, h4X, X4X, e4X, W4X, st4X⟩ := putF X4T hx hZ hown (host := "") (Or.inl (ow hw 122)) Via.refl rfl j12_ E_s_ (Or.inr ⟨(ow hw 123), rfl, hnm⟩) (ow hw 84) (ty := (.array .byte)) (by decide) rfl rfl (g := (mkF m 35 #[.val (.ref s_), .val (.ref b), .val .null, .val (.ref t), .val (.int (Int32.ofNat cs.length))] [(.ref b_4U), (.ref s_)])) rfl rfl (B d18_35)
   refine oG st4X ?_
   have E_b := E_b.wr W4X
   have E_t := E_t.wr W4X
   have E_s_ := E_s_.wr W4X
   have j10_ := j10_.other W4X (Or.inr (slot_ne (Or.inr (ow hw 108)) (Or.inr (ow hw 123)) (by decide) (t := .byte) (t' := (.array .byte)) (by decide) (by decide)))
   have j2_ := j2_.other W4X (Or.inl (Ne.symm nsb))
   have j1_ := j1_.other W4X (Or.inl (Ne.symm nsb))
   have j3_ := j3_.other W4X (Or.inl (Ne.symm nsb))
   have j0_ := j0_.other W4X (Or.inl (Ne.symm nsb))
   have V_t := V_t.other W4X (Ne.symm nst)
   have j45_ := j45_.other W4X (Ne.symm ne_s__b_409)
   have j84_ := j84_.wr W4X
   have O := O.wr W4X g_s
   have K4Y := K4W.wr W4X (Or.inl (List.mem_of_getElem? (i := 0) rfl))
   have j12_ := j12_.same W4X
   have N4X := Fr.snoc X4X N4T g_s
   show oF p e below (T4X.setTop (mkF m 38 #[.val (.ref s_), .val (.ref b), .val .null, .val (.ref t), .val (.int (Int32.ofNat cs.length))] [])) _
   refine oG (fun _ k => XS.goto X4X.here hx rfl (pc0 := 38) (pc' := 97) rfl (B d18_38) (by decide) (by decide) k) ?_
   show oF p e below (T4X.setTop (mkF m 97 #[.val (.ref s_), .val (.ref b), .val .null, .val (.ref t), .val (.int (Int32.ofNat cs.length))] [])) _
   obtain ⟨fs, hr, r1, r2, hW, r3⟩ := X4X.leave (v := none) (fun _ => rfl)
   refine ⟨_, _, ?_, r1, r2, _, _, rfl, ?_, ⟨_, rfl⟩, hW, r3.mono (by decide) (by decide)⟩
   ·exact X4X.returnOut hx Bd.returns (B d18_97) hr
   ·show Qsv Z s_ cs h0 n0 _ T4X.heap _
    rw [e4X]
    exact ⟨b_4U, k_4V, rfl, N4X, K4Y, sz_b_409, E_s_, ⟨j12_, hrg, Or.inl ⟨j10_, (by rw [own_tk8 h4] at j45_; exact j45_), hla⟩⟩⟩
  ·show oF p e below (T4R.setTop (mkF m 32 #[.val (.ref s_), .val (.ref b), .val .null, .val (.ref t), .val (.int (Int32.ofNat cs.length))] [(.int (Int32.ofNat cs.length)), (.int 0), (.ref t), (.ref s_)])) _
   obtain ⟨_, _, ⟨T4Z, L4Z, k4Z, n4Z⟩, -, X4Z, ⟨Lc4Z, hQ4Z, l4Z, y4Z, z4Z⟩, st4Z⟩ := Jvm.LawKit.callS X4R hx (y := mN45) hown (mo hZ hw 109) (mo hZ hw 110) (mo hZ hw 111) (mo hZ hw 112) (by decide) (backOf (W := 1) (crL l Z a0 hw [] t (Int32.ofNat cs.length) kt N (own_u8 cs) h4R n0 O V_t E_t (own_on0 h4) (own_on1 h4) (own_on2 h4 hle_) (own_on3 h4) (own_on4 h4 hle_ hse) hse) hZ (ow hw 112) (ow hw 111) (by decide) (by decide)) (g := (mkF m 32 #[.val (.ref s_), .val (.ref b), .val .null, .val (.ref t), .val (.int (Int32.ofNat cs.length))] [(.int (Int32.ofNat cs.length)), (.int 0), (.ref t), (.ref s_)])) rfl (by rw [hml]; rfl) (argsL := [(.ref t), (.int 0), (.int (Int32.ofNat cs.length))]) (rest := [(.ref s_)]) (lenOf pd_29 rfl) rfl (by show 2 * 0 + _ ≤ _; exact Nat.le_of_eq rfl) (B d18_32) (fun _ _ => ⟨rfl, e4R, (by decide : 0 + 1 ≤ _), (by decide : 0 + 9 ≤ _)⟩)
   dsimp only [Pt.U, Pt.locs, Pt.cells, Pt.slots] at X4Z l4Z y4Z z4Z st4Z hQ4Z
   subst y4Z z4Z
   obtain ⟨b_5a, k_5b, rfl, N4Zq, Kq4Z, P4Z_0, P4Z_1, P4Z_2⟩ := hQ4Z
   refine oG st4Z ?_
   have N4Z := oL l4Z (Fr.app N4R N4Zq)
   have ne_b_b_416 : b ≠ b_5a := Nat.ne_of_lt (Nat.lt_of_lt_of_le E_b.lt P4Z_0)
   have ne_t_b_416 : t ≠ b_5a := Nat.ne_of_lt (Nat.lt_of_lt_of_le E_t.lt P4Z_0)
   have ne_s__b_416 : s_ ≠ b_5a := Nat.ne_of_lt (Nat.lt_of_lt_of_le E_s_.lt P4Z_0)
   have g_b_416 : n0 ≤ b_5a := Nat.le_trans (own_osz O) P4Z_0
   have sz_b_416 : h0.size ≤ b_5a := Nat.le_trans K4S.1 P4Z_0
   have E_b := E_b.keep Kq4Z
   have E_t := E_t.keep Kq4Z
   have E_s_ := E_s_.keep Kq4Z
   have j12_ := j12_.keep Kq4Z nin0
   have j10_ := j10_.keep Kq4Z nin0
   have j2_ := j2_.keep Kq4Z nin0
   have j1_ := j1_.keep Kq4Z nin0
   have j3_ := j3_.keep Kq4Z nin0
   have j0_ := j0_.keep Kq4Z nin0
   have V_t := V_t.keep Kq4Z nin0
   have O := O.keep Kq4Z all0
   have K5c := K4S.trans Kq4Z all0
   have j46_ := P4Z_1
   have j85_ := P4Z_2
   obtain ⟨T5d, h5d, X5d, e5d, W5d, st5d⟩ := putF X4Z hx hZ hown (host := "") (Or.inl (ow hw 122)) Via.refl rfl j12_ E_s_ (Or.inr ⟨(ow hw 123), rfl, hnm⟩) (ow hw 84) (ty := (.array .byte)) (by decide) rfl rfl (g := (mkF m 35 #[.val (.ref s_), .val (.ref b), .val .null, .val (.ref t), .val (.int (Int32.ofNat cs.length))] [(.ref b_5a), (.ref s_)])) rfl rfl (B d18_35)
   refine oG st5d ?_
   have E_b := E_b.wr W5d
   have E_t := E_t.wr W5d
   have E_s_ := E_s_.wr W5d
   have j10_ := j10_.other W5d (Or.inr (slot_ne (Or.inr (ow hw 108)) (Or.inr (ow hw 123)) (by decide) (t := .byte) (t' := (.array .byte)) (by decide) (by decide)))
   have j2_ := j2_.other W5d (Or.inl (Ne.symm nsb))
   have j1_ := j1_.other W5d (Or.inl (Ne.symm nsb))
   have j3_ := j3_.other W5d (Or.inl (Ne.symm nsb))
   have j0_ := j0_.other W5d (Or.inl (Ne.symm nsb))
   have V_t := V_t.other W5d (Ne.symm nst)
   have j46_ := j46_.other W5d (Ne.symm ne_s__b_416)
   have j85_ := j85_.wr W5d
   have O := O.wr W5d g_s
   have K5e := K5c.wr W5d (Or.inl (List.mem_of_getElem? (i := 0) rfl))
   have j12_ := j12_.same W5d
   have N5d := Fr.snoc X5d N4Z g_s
   show oF p e below (T5d.setTop (mkF m 38 #[.val (.ref s_), .val (.ref b), .val .null, .val (.ref t), .val (.int (Int32.ofNat cs.length))] [])) _
   refine oG (fun _ k => XS.goto X5d.here hx rfl (pc0 := 38) (pc' := 97) rfl (B d18_38) (by decide) (by decide) k) ?_
   show oF p e below (T5d.setTop (mkF m 97 #[.val (.ref s_), .val (.ref b), .val .null, .val (.ref t), .val (.int (Int32.ofNat cs.length))] [])) _
   obtain ⟨fs, hr, r1, r2, hW, r3⟩ := X5d.leave (v := none) (fun _ => rfl)
   refine ⟨_, _, ?_, r1, r2, _, _, rfl, ?_, ⟨_, rfl⟩, hW, r3.mono (by decide) (by decide)⟩
   ·exact X5d.returnOut hx Bd.returns (B d18_97) hr
   ·show Qsv Z s_ cs h0 n0 _ T5d.heap _
    rw [e5d]
    exact ⟨b_5a, k_5b, rfl, N5d, K5e, sz_b_416, E_s_, ⟨j12_, hrg, Or.inl ⟨j10_, (by rw [own_tk8 h4] at j46_; exact j46_), hla⟩⟩⟩
 ·show oF p e below (s₁.setTop (mkF m 0 #[.val (.ref s_), .val (.ref b), .val .null, .unset, .unset] [])) _
  refine oG (fun _ k => XS.aloadN X0.here hx rfl (B d18_0) rfl rfl k) ?_
  show oF p e below (s₁.setTop (mkF m 1 #[.val (.ref s_), .val (.ref b), .val .null, .unset, .unset] [(.ref s_)])) _
  obtain ⟨T5f, X5f, e5f, st5f⟩ := initO X0 hx hZ hown (ow hw 92) (ow hw 27) (ow hw 28) e0 (g := (mkF m 1 #[.val (.ref s_), .val (.ref b), .val .null, .unset, .unset] [(.ref s_)])) rfl (by rw [hml]; rfl) rfl (B d18_1) (by decide) (W := 0) (by show 2 * 0 + _ ≤ _; exact Nat.le_of_eq rfl) (by decide)
  refine oG st5f ?_
  show oF p e below (T5f.setTop (mkF m 4 #[.val (.ref s_), .val (.ref b), .val .null, .unset, .unset] [])) _
  refine oG (fun _ k => XS.aloadN X5f.here hx rfl (B d18_4) rfl rfl k) ?_
  show oF p e below (T5f.setTop (mkF m 5 #[.val (.ref s_), .val (.ref b), .val .null, .unset, .unset] [(.ref b)])) _
  obtain ⟨cq5g, kq5g, q5ga, q5gb, q5gc⟩ := isOf hZ e5f E_b
  obtain ⟨_, _, ⟨T5g, L5g, k5g, n5g⟩, -, X5g, ⟨Lc5g, hQ5g, l5g, y5g, z5g⟩, st5g⟩ := X5f.virtualBack hx (y := mN39) (z := mN39) hown (mo hZ hw 93) (mo hZ hw 94) (notFace_of_selects (args := #[]) (mo hZ hw 96)) (mo hZ hw 96) (mo hZ hw 95) (by decide) (backOf (W := 0) (gv l Z a0 hw [] b t h0 n0 O j2_) hZ (ow hw 97) (ow hw 24) (by decide) (by decide)) q5ga q5gc (g := (mkF m 5 #[.val (.ref s_), .val (.ref b), .val .null, .unset, .unset] [(.ref b)])) rfl (by rw [hml]; rfl) (Steps.refl _) (argsL := []) (rest := []) (lenOf pd_30 rfl) rfl (by show 2 * 0 + _ ≤ _; exact Nat.le_of_eq rfl) (B d18_5) (fun _ _ => ⟨rfl, e5f, (by decide : 0 + 0 ≤ _), (by decide : 0 + 0 ≤ _)⟩)
  dsimp only [Pt.U, Pt.locs, Pt.cells, Pt.slots] at X5g l5g y5g z5g st5g hQ5g
  subst y5g z5g
  obtain ⟨rfl, N5gq, e5g⟩ := hQ5g
  refine oG (fun _ k => st5g.trans k) ?_
  have N5g := oL l5g (Fr.app N0 N5gq)
  show oF p e below (T5g.setTop (mkF m 8 #[.val (.ref s_), .val (.ref b), .val .null, .unset, .unset] [(.ref t)])) _
  refine oG (fun _ k => XS.astoreN X5g.here hx rfl (B d18_8) rfl rfl (l' := #[.val (.ref s_), .val (.ref b), .val .null, .val (.ref t), .unset]) rfl (XS.aloadN X5g.here hx rfl (B d18_9) rfl rfl k)) ?_
  show oF p e below (T5g.setTop (mkF m 10 #[.val (.ref s_), .val (.ref b), .val .null, .val (.ref t), .unset] [(.ref b)])) _
  obtain ⟨cq5h, kq5h, q5ha, q5hb, q5hc⟩ := isOf hZ e5g E_b
  obtain ⟨_, _, ⟨T5h, L5h, k5h, n5h⟩, -, X5h, ⟨Lc5h, hQ5h, l5h, y5h, z5h⟩, st5h⟩ := X5g.virtualBack hx (y := mN40) (z := mN41) hown (mo hZ hw 98) (mo hZ hw 99) (own_nf (args := #[]) (mo hZ hw 67) (by exact rfl)) (mo hZ hw 101) (mo hZ hw 102) (by decide) (backOf (W := 0) (sl l Z a0 hw [] b (Int32.ofNat cs.length) h0 n0 O E_b j1_) hZ (ow hw 103) (ow hw 16) (by decide) (by decide)) q5ha q5hc (g := (mkF m 10 #[.val (.ref s_), .val (.ref b), .val .null, .val (.ref t), .unset] [(.ref b)])) rfl (by rw [hml]; rfl) (Steps.refl _) (argsL := []) (rest := []) (lenOf pd_27 rfl) rfl (by show 2 * 0 + _ ≤ _; exact Nat.le_of_eq rfl) (B d18_10) (fun _ _ => ⟨rfl, e5g, (by decide : 0 + 0 ≤ _), (by decide : 0 + 0 ≤ _)⟩)
  dsimp only [Pt.U, Pt.locs, Pt.cells, Pt.slots] at X5h l5h y5h z5h st5h hQ5h
  subst y5h z5h
  obtain ⟨rfl, N5hq, e5h⟩ := hQ5h
  refine oG (fun _ k => st5h.trans k) ?_
  have N5h := oL l5h (Fr.app N5g N5hq)
  show oF p e below (T5h.setTop (mkF m 13 #[.val (.ref s_), .val (.ref b), .val .null, .val (.ref t), .unset] [(.int (Int32.ofNat cs.length))])) _
  refine oG (fun _ k => XS.istore X5h.here hx rfl (B d18_13) rfl (l' := #[.val (.ref s_), .val (.ref b), .val .null, .val (.ref t), .val (.int (Int32.ofNat cs.length))]) rfl (XS.aloadN X5h.here hx rfl (B d18_15) rfl rfl k)) ?_
  show oF p e below (T5h.setTop (mkF m 16 #[.val (.ref s_), .val (.ref b), .val .null, .val (.ref t), .val (.int (Int32.ofNat cs.length))] [(.ref b)])) _
  obtain ⟨cq5i, kq5i, q5ia, q5ib, q5ic⟩ := isOf hZ e5h E_b
  obtain ⟨_, _, ⟨T5i, L5i, k5i, n5i⟩, -, X5i, ⟨Lc5i, hQ5i, l5i, y5i, z5i⟩, st5i⟩ := X5h.virtualBack hx (y := mN15) (z := mN15) hown (mo hZ hw 106) (mo hZ hw 70) (notFace_of_selects (args := #[]) (mo hZ hw 72)) (mo hZ hw 72) (mo hZ hw 71) (by decide) (backOf (W := 0) (il1 l Z a0 hw [] b z h0 n0 O j4_ hz j0_) hZ (ow hw 73) (ow hw 24) (by decide) (by decide)) q5ia q5ic (g := (mkF m 16 #[.val (.ref s_), .val (.ref b), .val .null, .val (.ref t), .val (.int (Int32.ofNat cs.length))] [(.ref b)])) rfl (by rw [hml]; rfl) (Steps.refl _) (argsL := []) (rest := []) (lenOf pd_10 rfl) rfl (by show 2 * 0 + _ ≤ _; exact Nat.le_of_eq rfl) (B d18_16) (fun _ _ => ⟨rfl, e5h, (by decide : 0 + 0 ≤ _), (by decide : 0 + 0 ≤ _)⟩)
  dsimp only [Pt.U, Pt.locs, Pt.cells, Pt.slots] at X5i l5i y5i z5i st5i hQ5i
  subst y5i z5i
  obtain ⟨rfl, N5iq, e5i⟩ := hQ5i
  refine oG (fun _ k => st5i.trans k) ?_
  have N5i := oL l5i (Fr.app N5h N5iq)
  show oF p e below (T5i.setTop (mkF m 19 #[.val (.ref s_), .val (.ref b), .val .null, .val (.ref t), .val (.int (Int32.ofNat cs.length))] [(.int 0)])) _
  refine oG (fun _ k => XS.ifYes X5i.here hx rfl (pc0 := 19) (pc' := 41) rfl (B d18_19) rfl ((if0 _ _).trans (teq (by decide : (0 : Int32) = (0 : Int32))).1) (by decide) (by decide) k) ?_
  show oF p e below (T5i.setTop (mkF m 41 #[.val (.ref s_), .val (.ref b), .val .null, .val (.ref t), .val (.int (Int32.ofNat cs.length))] [])) _
  obtain ⟨T5j, X5j, e5j, st5j⟩ := getS2 X5i hx hZ hown (host := "") (Or.inl (ow hw 138)) Via.refl e5i (j4_.ext O.2) (g := (mkF m 41 #[.val (.ref s_), .val (.ref b), .val .null, .val (.ref t), .val (.int (Int32.ofNat cs.length))] [])) rfl (B d18_41)
  refine oG st5j ?_
  show oF p e below (T5j.setTop (mkF m 44 #[.val (.ref s_), .val (.ref b), .val .null, .val (.ref t), .val (.int (Int32.ofNat cs.length))] [(.int z)])) _
  refine oG (fun _ k => XS.ifNo X5j.here hx rfl (B d18_44) rfl ((if0 _ _).trans (feq hz).1) (XS.aloadN X5j.here hx rfl (B d18_47) rfl rfl k)) ?_
  show oF p e below (T5j.setTop (mkF m 48 #[.val (.ref s_), .val (.ref b), .val .null, .val (.ref t), .val (.int (Int32.ofNat cs.length))] [(.ref b)])) _
  obtain ⟨T5k, X5k, e5k, st5k⟩ := getF X5j hx hZ hown (host := "") (Or.inl (ow hw 267)) Via.refl e5j j3_ (g := (mkF m 48 #[.val (.ref s_), .val (.ref b), .val .null, .val (.ref t), .val (.int (Int32.ofNat cs.length))] [(.ref b)])) rfl rfl (B d18_48)
  refine oG st5k ?_
  show oF p e below (T5k.setTop (mkF m 51 #[.val (.ref s_), .val (.ref b), .val .null, .val (.ref t), .val (.int (Int32.ofNat cs.length))] [(.int 0)])) _
  refine oG (fun _ k => XS.ifYes X5k.here hx rfl (pc0 := 51) (pc' := 79) rfl (B d18_51) rfl ((if0 _ _).trans (teq (by decide : (0 : Int32) = (0 : Int32))).1) (by decide) (by decide) (XS.aloadN X5k.here hx rfl (B d18_79) rfl rfl (XS.iconst X5k.here hx rfl (B d18_80) k))) ?_
  show oF p e below (T5k.setTop (mkF m 81 #[.val (.ref s_), .val (.ref b), .val .null, .val (.ref t), .val (.int (Int32.ofNat cs.length))] [(.int 1), (.ref s_)])) _
  obtain ⟨T5l, h5l, X5l, e5l, W5l, st5l⟩ := putF X5k hx hZ hown (host := "") (Or.inl (ow hw 107)) Via.refl e5k j10_ E_s_ (Or.inr ⟨(ow hw 108), rfl, hnm⟩) (ow hw 84) (ty := .byte) (by decide) rfl rfl (g := (mkF m 81 #[.val (.ref s_), .val (.ref b), .val .null, .val (.ref t), .val (.int (Int32.ofNat cs.length))] [(.int 1), (.ref s_)])) rfl rfl (B d18_81)
  refine oG st5l ?_
  have E_b := E_b.wr W5l
  have E_t := E_t.wr W5l
  have E_s_ := E_s_.wr W5l
  have j12_ := j12_.other W5l (Or.inr (slot_ne (Or.inr (ow hw 123)) (Or.inr (ow hw 108)) (by decide) (t := (.array .byte)) (t' := .byte) (by decide) (by decide)))
  have j2_ := j2_.other W5l (Or.inl (Ne.symm nsb))
  have j1_ := j1_.other W5l (Or.inl (Ne.symm nsb))
  have j3_ := j3_.other W5l (Or.inl (Ne.symm nsb))
  have j0_ := j0_.other W5l (Or.inl (Ne.symm nsb))
  have V_t := V_t.other W5l (Ne.symm nst)
  have O := O.wr W5l g_s
  have K5m := K0.wr W5l (Or.inl (List.mem_of_getElem? (i := 0) rfl))
  have j10_ := j10_.same W5l
  have N5l := Fr.snoc X5l N5i g_s
  show oF p e below (T5l.setTop (mkF m 84 #[.val (.ref s_), .val (.ref b), .val .null, .val (.ref t), .val (.int (Int32.ofNat cs.length))] [])) _
  refine oG (fun _ k => XS.aloadN X5l.here hx rfl (B d18_84) rfl rfl (XS.aloadN X5l.here hx rfl (B d18_85) rfl rfl (XS.iconst X5l.here hx rfl (B d18_86) (XS.iload X5l.here hx rfl (B d18_87) rfl (XS.iconst X5l.here hx rfl (B d18_89) (XS.ishl X5l.here hx rfl (B d18_90) rfl k)))))) ?_
  show oF p e below (T5l.setTop (mkF m 91 #[.val (.ref s_), .val (.ref b), .val .null, .val (.ref t), .val (.int (Int32.ofNat cs.length))] [(.int ((Int32.ofNat cs.length) <<< ((1 : Int32) &&& 31))), (.int 0), (.ref t), (.ref s_)])) _
  obtain ⟨_, _, ⟨T5n, L5n, k5n, n5n⟩, -, X5n, ⟨Lc5n, hQ5n, l5n, y5n, z5n⟩, st5n⟩ := Jvm.LawKit.callS X5l hx (y := mN45) hown (mo hZ hw 109) (mo hZ hw 110) (mo hZ hw 111) (mo hZ hw 112) (by decide) (backOf (W := 1) (crL l Z a0 hw [] t ((Int32.ofNat cs.length) <<< ((1 : Int32) &&& 31)) kt (N <<< ((1 : Int32) &&& 31)) (own_u16 cs) h5l n0 O V_t E_t (own_oz0 h4) (own_oz1 h4) (own_oz2 h4 hle_ hN8) (own_oz3 h4) (own_oz4 h4 (hlt_ hbg) hN8) (own_oz5 h4 (hlt_ hbg) hN8)) hZ (ow hw 112) (ow hw 111) (by decide) (by decide)) (g := (mkF m 91 #[.val (.ref s_), .val (.ref b), .val .null, .val (.ref t), .val (.int (Int32.ofNat cs.length))] [(.int ((Int32.ofNat cs.length) <<< ((1 : Int32) &&& 31))), (.int 0), (.ref t), (.ref s_)])) rfl (by rw [hml]; rfl) (argsL := [(.ref t), (.int 0), (.int ((Int32.ofNat cs.length) <<< ((1 : Int32) &&& 31)))]) (rest := [(.ref s_)]) (lenOf pd_29 rfl) rfl (by show 2 * 0 + _ ≤ _; exact Nat.le_of_eq rfl) (B d18_91) (fun _ _ => ⟨rfl, e5l, (by decide : 0 + 1 ≤ _), (by decide : 0 + 9 ≤ _)⟩)
  dsimp only [Pt.U, Pt.locs, Pt.cells, Pt.slots] at X5n l5n y5n z5n st5n hQ5n
  subst y5n z5n
  obtain ⟨b_5o, k_5p, rfl, N5nq, Kq5n, P5n_0, P5n_1, P5n_2⟩ := hQ5n
  refine oG st5n ?_
  have N5n := oL l5n (Fr.app N5l N5nq)
  have ne_b_b_431 : b ≠ b_5o := Nat.ne_of_lt (Nat.lt_of_lt_of_le E_b.lt P5n_0)
  have ne_t_b_431 : t ≠ b_5o := Nat.ne_of_lt (Nat.lt_of_lt_of_le E_t.lt P5n_0)
  have ne_s__b_431 : s_ ≠ b_5o := Nat.ne_of_lt (Nat.lt_of_lt_of_le E_s_.lt P5n_0)
  have g_b_431 : n0 ≤ b_5o := Nat.le_trans (own_osz O) P5n_0
  have sz_b_431 : h0.size ≤ b_5o := Nat.le_trans K5m.1 P5n_0
  have E_b := E_b.keep Kq5n
  have E_t := E_t.keep Kq5n
  have E_s_ := E_s_.keep Kq5n
  have j12_ := j12_.keep Kq5n nin0
  have j10_ := j10_.keep Kq5n nin0
  have j2_ := j2_.keep Kq5n nin0
  have j1_ := j1_.keep Kq5n nin0
  have j3_ := j3_.keep Kq5n nin0
  have j0_ := j0_.keep Kq5n nin0
  have V_t := V_t.keep Kq5n nin0
  have O := O.keep Kq5n all0
  have K5q := K5m.trans Kq5n all0
  have j47_ := P5n_1
  have j86_ := P5n_2
  obtain ⟨T5r, h5r, X5r, e5r, W5r, st5r⟩ := putF X5n hx hZ hown (host := "") (Or.inl (ow hw 122)) Via.refl rfl j12_ E_s_ (Or.inr ⟨(ow hw 123), rfl, hnm⟩) (ow hw 84) (ty := (.array .byte)) (by decide) rfl rfl (g := (mkF m 94 #[.val (.ref s_), .val (.ref b), .val .null, .val (.ref t), .val (.int (Int32.ofNat cs.length))] [(.ref b_5o), (.ref s_)])) rfl rfl (B d18_94)
  refine oG st5r ?_
  have E_b := E_b.wr W5r
  have E_t := E_t.wr W5r
  have E_s_ := E_s_.wr W5r
  have j10_ := j10_.other W5r (Or.inr (slot_ne (Or.inr (ow hw 108)) (Or.inr (ow hw 123)) (by decide) (t := .byte) (t' := (.array .byte)) (by decide) (by decide)))
  have j2_ := j2_.other W5r (Or.inl (Ne.symm nsb))
  have j1_ := j1_.other W5r (Or.inl (Ne.symm nsb))
  have j3_ := j3_.other W5r (Or.inl (Ne.symm nsb))
  have j0_ := j0_.other W5r (Or.inl (Ne.symm nsb))
  have V_t := V_t.other W5r (Ne.symm nst)
  have j47_ := j47_.other W5r (Ne.symm ne_s__b_431)
  have j86_ := j86_.wr W5r
  have O := O.wr W5r g_s
  have K5s := K5q.wr W5r (Or.inl (List.mem_of_getElem? (i := 0) rfl))
  have j12_ := j12_.same W5r
  have N5r := Fr.snoc X5r N5n g_s
  show oF p e below (T5r.setTop (mkF m 97 #[.val (.ref s_), .val (.ref b), .val .null, .val (.ref t), .val (.int (Int32.ofNat cs.length))] [])) _
  obtain ⟨fs, hr, r1, r2, hW, r3⟩ := X5r.leave (v := none) (fun _ => rfl)
  refine ⟨_, _, ?_, r1, r2, _, _, rfl, ?_, ⟨_, rfl⟩, hW, r3.mono (by decide) (by decide)⟩
  ·exact X5r.returnOut hx Bd.returns (B d18_97) hr
  ·show Qsv Z s_ cs h0 n0 _ T5r.heap _
   rw [e5r]
   exact ⟨b_5o, k_5p, rfl, N5r, K5s, sz_b_431, E_s_, ⟨j12_, hrg, Or.inr ⟨j10_, (by rw [own_tk16 h4] at j47_; exact j47_), trivial⟩⟩⟩
theorem d17_0 : decode k47_ 0 = .ok (.aload_n 0, 1) := by decide +kernel
theorem d17_1 : decode k47_ 1 = .ok (.aload_n 1, 1) := by decide +kernel
theorem d17_2 : decode k47_ 2 = .ok (.aconst_null, 1) := by decide +kernel
theorem d17_3 : decode k47_ 3 = .ok (.invokespecial 489, 3) := by decide +kernel
theorem pd_31 : parseMethodDescriptor "(Ljava/lang/AbstractStringBuilder;Ljava/lang/Void;)V" = some ⟨[(.object "java/lang/AbstractStringBuilder"), (.object "java/lang/Void")], none⟩ := by decide +kernel
theorem d17_6 : decode k47_ 6 = .ok (.return_, 1) := by decide +kernel
def Qsw (Z : State) (s_ : Addr) (cs : List Int32) (h0 : Heap) (n0 : Nat) (v : Option Value) (h : Heap) (L : List Loc) : Prop := ∃ (t2_ : Addr) (k2_ : ClassId), v = none ∧ Fr n0 L ∧ Keep h0 h [s_] ∧ h0.size ≤ t2_ ∧ eX2 Z h s_ ∧ own_ST Z h s_ t2_ k2_ cs
theorem sw (l : Launch) (Z : State) (a0 : Array Value) (hw : ∀ d ∈ tables_1, d.before a0 Z = true) (ws : List Jvm.Cond) (s_ : Addr) (b : Addr) (z : Int32) (t : Addr) (kt : ClassId) (N : Int32) (cs : List Int32) (h0 : Heap) (n0 : Nat) (O : Old Z n0 h0) (j4_ : sT4 Z (.int z)) (hz : ¬ (z = (0 : Int32))) (E_b : eX1 Z h0 b) (j9_ : own_SB Z h0 b t kt N cs) (E_t : eX0 Z h0 t) (hN8 : N.toInt ≤ 8) (h4 : cs.length ≤ 4) (hle_ : (cs.length : Int) ≤ N.toInt) (hlt_ : own_bg cs → (cs.length : Int) < N.toInt) (E_s_ : eX2 Z h0 s_) (j12_ : fL4 Z h0 s_ .null) (j10_ : fL5 Z h0 s_ (.int 0)) (g_s : n0 ≤ s_) (nsb : s_ ≠ b) (nst : s_ ≠ t) :
   own_MF l Z mN47 jdk_42_method_53_code 2 none ws rM29 #[(.ref s_), (.ref b)] h0 (Qsw Z s_ cs h0 n0) := by
 refine MetFree.of_bodySF (plainFor_of_name pn_2) hisR ?_
 intro p e s m args below meth c s₁ Bd hml0 hP hK
 obtain ⟨rfl, hZ, hh⟩ := hP
 have hx := Bd.exec
 have hby := Bd.bytes
 have B := @hb _ _ hby
 have hml : c.maxLocals = 2 := hml0
 have hown : s.vm.findClass "java/lang/String" = some m.cls := findClass_of_methodNamed Bd.named
 have X0 : Stand p l e rM29 s m #[(.ref s_), (.ref b)] below meth c s₁ [] 0 0 := Stand.of_body Bd
 have e0 : s₁.heap = h0 := by rw [← hh, Bd.state]; rfl
 have N0 := Fr.nil n0
 have K0 := Keep.refl h0 [s_]
 refine own_start (ef_sbD m s_ b) (Q := own_QE s rM29 (Qsw Z s_ cs h0 n0)) ?_
 show oF p e below (s₁.setTop (mkF m 0 #[.val (.ref s_), .val (.ref b)] [])) _
 refine oG (fun _ k => XS.aloadN X0.here hx rfl (B d17_0) rfl rfl (XS.aloadN X0.here hx rfl (B d17_1) rfl rfl (XS.aconstNull X0.here hx rfl (B d17_2) k))) ?_
 show oF p e below (s₁.setTop (mkF m 3 #[.val (.ref s_), .val (.ref b)] [.null, (.ref b), (.ref s_)])) _
 obtain ⟨_, _, ⟨T5t, L5t, k5t, n5t⟩, -, X5t, ⟨Lc5t, hQ5t, l5t, y5t, z5t⟩, st5t⟩ := X0.specialBack hx (y := mN46) rfl hown (mo hZ hw 89) (mo hZ hw 90) (mo hZ hw 91) (by decide) (backOf (W := 0) (sv l Z a0 hw [] s_ b z t kt N cs h0 n0 O j4_ hz E_b j9_ E_t hN8 h4 hle_ hlt_ E_s_ j12_ j10_ g_s nsb nst) hZ (ow hw 91) (ow hw 30) (by decide) (by decide)) (g := (mkF m 3 #[.val (.ref s_), .val (.ref b)] [.null, (.ref b), (.ref s_)])) rfl (by rw [hml]; rfl) (Steps.refl _) (a := s_) (argsL := [(.ref b), .null]) (rest := []) (lenOf pd_31 rfl) rfl (by show 2 * 0 + _ ≤ _; exact Nat.le_of_eq rfl) (B d17_3) (fun _ _ => ⟨rfl, e0, (by decide : 0 + 1 ≤ _), (by decide : 0 + 9 ≤ _)⟩)
 dsimp only [Pt.U, Pt.locs, Pt.cells, Pt.slots] at X5t l5t y5t z5t st5t hQ5t
 subst y5t z5t
 obtain ⟨t2_5u, k2_5v, rfl, N5tq, Kq5t, P5t_0, P5t_1, P5t_2⟩ := hQ5t
 refine oG (fun _ k => st5t.trans k) ?_
 have N5t := oL l5t (Fr.app N0 N5tq)
 have ne_b_t2_438 : b ≠ t2_5u := Nat.ne_of_lt (Nat.lt_of_lt_of_le E_b.lt P5t_0)
 have ne_t_t2_438 : t ≠ t2_5u := Nat.ne_of_lt (Nat.lt_of_lt_of_le E_t.lt P5t_0)
 have ne_s__t2_438 : s_ ≠ t2_5u := Nat.ne_of_lt (Nat.lt_of_lt_of_le E_s_.lt P5t_0)
 have g_t2_438 : n0 ≤ t2_5u := Nat.le_trans (own_osz O) P5t_0
 have sz_t2_438 : h0.size ≤ t2_5u := Nat.le_trans K0.1 P5t_0
 have E_b := E_b.keep Kq5t
 have j9_ := own_SB_keep j9_ Kq5t (ninS (Ne.symm nsb) nin0) (ninS (Ne.symm nst) nin0)
 have E_t := E_t.keep Kq5t
 have E_s_ := E_s_.keep Kq5t
 clear j12_
 clear j10_
 have O := O.keep Kq5t (allS g_s all0)
 have K5w := K0.trans Kq5t (allS (Or.inl (List.mem_of_getElem? (i := 0) rfl)) all0)
 have E_s_ := P5t_1
 have j15_ := P5t_2
 show oF p e below (T5t.setTop (mkF m 6 #[.val (.ref s_), .val (.ref b)] [])) _
 obtain ⟨fs, hr, r1, r2, hW, r3⟩ := X5t.leave (v := none) (fun _ => rfl)
 refine ⟨_, _, ?_, r1, r2, _, _, rfl, ?_, ⟨_, rfl⟩, hW, r3.mono (by decide) (by decide)⟩
 ·exact X5t.returnOut hx Bd.returns (B d17_6) hr
 ·show Qsw Z s_ cs h0 n0 _ T5t.heap _
  exact ⟨t2_5u, k2_5v, rfl, N5t, K5w, sz_t2_438, E_s_, j15_⟩
theorem d16_0 : decode k48_ 0 = .ok (.new 18, 3) := by decide +kernel
theorem d16_3 : decode k48_ 3 = .ok (.dup, 1) := by decide +kernel
theorem d16_4 : decode k48_ 4 = .ok (.aload_n 0, 1) := by decide +kernel
theorem d16_5 : decode k48_ 5 = .ok (.invokespecial 137, 3) := by decide +kernel
theorem pd_32 : parseMethodDescriptor "(Ljava/lang/StringBuilder;)V" = some ⟨[(.object "java/lang/StringBuilder")], none⟩ := by decide +kernel
theorem d16_8 : decode k48_ 8 = .ok (.areturn, 1) := by decide +kernel
def Qts (Z : State) (cs : List Int32) (h0 : Heap) (n0 : Nat) (v : Option Value) (h : Heap) (L : List Loc) : Prop := ∃ (s_ : Addr) (t2_ : Addr) (k2_ : ClassId), v = some (.ref s_) ∧ Fr n0 L ∧ Keep h0 h [] ∧ h0.size ≤ s_ ∧ h0.size ≤ t2_ ∧ eX2 Z h s_ ∧ own_ST Z h s_ t2_ k2_ cs
theorem ts (l : Launch) (Z : State) (a0 : Array Value) (hw : ∀ d ∈ tables_1, d.before a0 Z = true) (ws : List Jvm.Cond) (b : Addr) (z : Int32) (t : Addr) (kt : ClassId) (N : Int32) (cs : List Int32) (h0 : Heap) (n0 : Nat) (O : Old Z n0 h0) (j4_ : sT4 Z (.int z)) (hz : ¬ (z = (0 : Int32))) (E_b : eX1 Z h0 b) (j9_ : own_SB Z h0 b t kt N cs) (E_t : eX0 Z h0 t) (hN8 : N.toInt ≤ 8) (h4 : cs.length ≤ 4) (hle_ : (cs.length : Int) ≤ N.toInt) (hlt_ : own_bg cs → (cs.length : Int) < N.toInt) :
   own_MF l Z mN48 jdk_67_method_42_code 1 (some (.object "java/lang/String")) ws rM30 #[(.ref b)] h0 (Qts Z cs h0 n0) := by
 refine MetFree.of_bodySF (plainFor_of_name pn_5) hisR ?_
 intro p e s m args below meth c s₁ Bd hml0 hP hK
 obtain ⟨rfl, hZ, hh⟩ := hP
 have hx := Bd.exec
 have hby := Bd.bytes
 have B := @hb _ _ hby
 have hml : c.maxLocals = 1 := hml0
 have hown : s.vm.findClass "java/lang/StringBuilder" = some m.cls := findClass_of_methodNamed Bd.named
 have X0 : Stand p l e rM30 s m #[(.ref b)] below meth c s₁ [] 0 0 := Stand.of_body Bd
 have e0 : s₁.heap = h0 := by rw [← hh, Bd.state]; rfl
 have N0 := Fr.nil n0
 have K0 := Keep.refl h0 []
 refine own_start (ef_ul m b) (Q := own_QE s rM30 (Qts Z cs h0 n0)) ?_
 show oF p e below (s₁.setTop (mkF m 0 #[.val (.ref b)] [])) _
 obtain ⟨T5x, h5x, X5x, e5x, E5x, A5x, D5x, -, st5x⟩ := newO X0 hx hZ hown (ow hw 83) (ow hw 84) (ow hw 30) e0 (g := (mkF m 0 #[.val (.ref b)] [])) rfl (B d16_0) (by decide) (by decide)
 obtain ⟨b5x, g5x⟩ : ∃ z, z = h0.size := ⟨_, rfl⟩
 rw [← g5x] at A5x D5x st5x
 refine oG st5x ?_
 have j87_ : b ≠ b5x := Nat.ne_of_lt (Nat.lt_of_lt_of_le E_b.lt (Nat.le_of_eq g5x.symm))
 have j88_ : t ≠ b5x := Nat.ne_of_lt (Nat.lt_of_lt_of_le E_t.lt (Nat.le_of_eq g5x.symm))
 have j89_ : n0 ≤ b5x := Nat.le_trans (own_osz O) (Nat.le_of_eq g5x.symm)
 have j90_ : h0.size ≤ b5x := Nat.le_trans K0.1 (Nat.le_of_eq g5x.symm)
 have E_b := E_b.ext E5x
 have j9_ := own_SB_ext j9_ E5x
 have E_t := E_t.ext E5x
 have O := O.ext E5x
 have K5y := K0.ext E5x
 have j28_ := A5x
 have j91_ : fL5 Z h5x b5x (.int 0) := D5x (Or.inr (ow hw 108)) (ty := .byte) (by decide)
 have j92_ : fL4 Z h5x b5x .null := D5x (Or.inr (ow hw 123)) (ty := (.array .byte)) (by decide)
 show oF p e below (T5x.setTop (mkF m 3 #[.val (.ref b)] [(.ref b5x)])) _
 refine oG (fun _ k => XS.dup X5x.here hx rfl (B d16_3) rfl rfl (XS.aloadN X5x.here hx rfl (B d16_4) rfl rfl k)) ?_
 show oF p e below (T5x.setTop (mkF m 5 #[.val (.ref b)] [(.ref b), (.ref b5x), (.ref b5x)])) _
 obtain ⟨_, _, ⟨T5z, L5z, k5z, n5z⟩, -, X5z, ⟨Lc5z, hQ5z, l5z, y5z, z5z⟩, st5z⟩ := X5x.specialBack hx (y := mN47) rfl hown (mo hZ hw 85) (mo hZ hw 86) (mo hZ hw 88) (by decide) (backOf (W := 1) (sw l Z a0 hw [] b5x b z t kt N cs h5x n0 O j4_ hz E_b j9_ E_t hN8 h4 hle_ hlt_ j28_ j92_ j91_ j89_ (Ne.symm j87_) (Ne.symm j88_)) hZ (ow hw 88) (ow hw 30) (by decide) (by decide)) (g := (mkF m 5 #[.val (.ref b)] [(.ref b), (.ref b5x), (.ref b5x)])) rfl (by rw [hml]; rfl) (Steps.refl _) (a := b5x) (argsL := [(.ref b)]) (rest := [(.ref b5x)]) (lenOf pd_32 rfl) rfl (by show 2 * 0 + _ ≤ _; exact Nat.le_of_eq rfl) (B d16_5) (fun _ _ => ⟨rfl, e5x, (by decide : 1 + 1 ≤ _), (by decide : 4 + 9 ≤ _)⟩)
 dsimp only [Pt.U, Pt.locs, Pt.cells, Pt.slots] at X5z l5z y5z z5z st5z hQ5z
 subst y5z z5z
 obtain ⟨t2_5A, k2_5B, rfl, N5zq, Kq5z, P5z_0, P5z_1, P5z_2⟩ := hQ5z
 refine oG (fun _ k => st5z.trans k) ?_
 have N5z := oL l5z (Fr.app N0 N5zq)
 have ne_b_t2_445 : b ≠ t2_5A := Nat.ne_of_lt (Nat.lt_of_lt_of_le E_b.lt P5z_0)
 have ne_t_t2_445 : t ≠ t2_5A := Nat.ne_of_lt (Nat.lt_of_lt_of_le E_t.lt P5z_0)
 have ne_b442_t2_445 : b5x ≠ t2_5A := Nat.ne_of_lt (Nat.lt_of_lt_of_le j28_.lt P5z_0)
 have g_t2_445 : n0 ≤ t2_5A := Nat.le_trans (own_osz O) P5z_0
 have sz_t2_445 : h0.size ≤ t2_5A := Nat.le_trans K5y.1 P5z_0
 have E_b := E_b.keep Kq5z
 have j9_ := own_SB_keep j9_ Kq5z (ninS j87_ nin0) (ninS j88_ nin0)
 have E_t := E_t.keep Kq5z
 have j28_ := j28_.keep Kq5z
 clear j91_
 clear j92_
 have O := O.keep Kq5z (allS j89_ all0)
 have K5C := K5y.trans Kq5z (allS (Or.inr j90_) all0)
 have j28_ := P5z_1
 have O_own_ST_b442 := P5z_2
 show oF p e below (T5z.setTop (mkF m 8 #[.val (.ref b)] [(.ref b5x)])) _
 obtain ⟨fs, hr, r1, r2, hW, r3⟩ := X5z.leave (v := some (.ref b5x)) (fun h => by rw [Bd.returns] at h; cases h)
 refine ⟨_, _, ?_, r1, r2, _, _, rfl, ?_, ⟨_, rfl⟩, hW, r3.mono (by decide) (by decide)⟩
 ·exact X5z.areturnOut hx rfl Bd.returns rfl (B d16_8) hr
 ·show Qts Z cs h0 n0 _ T5z.heap _
  exact ⟨b5x, t2_5A, k2_5B, rfl, N5z, K5C, j90_, sz_t2_445, j28_, O_own_ST_b442⟩
theorem d25_0 : decode k49_ 0 = .ok (.getstatic 38, 3) := by decide +kernel
theorem d25_3 : decode k49_ 3 = .ok (.ifCond .eq 10, 3) := by decide +kernel
theorem d25_6 : decode k49_ 6 = .ok (.aload_n 0, 1) := by decide +kernel
theorem d25_7 : decode k49_ 7 = .ok (.getfield 15, 3) := by decide +kernel
theorem d25_10 : decode k49_ 10 = .ok (.goto 4, 3) := by decide +kernel
theorem d25_14 : decode k49_ 14 = .ok (.ireturn, 1) := by decide +kernel
def Qcd0 (Z : State)  (h0 : Heap) (n0 : Nat) (v : Option Value) (h : Heap) (L : List Loc) : Prop := v = some (.int 0) ∧ Fr n0 L ∧ h = h0
theorem cd0 (l : Launch) (Z : State) (a0 : Array Value) (hw : ∀ d ∈ tables_1, d.before a0 Z = true) (ws : List Jvm.Cond) (s_ : Addr) (z : Int32) (h0 : Heap) (n0 : Nat) (O : Old Z n0 h0) (j4_ : sT4 Z (.int z)) (hz : ¬ (z = (0 : Int32))) (j10_ : fL5 Z h0 s_ (.int 0)) :
   own_MF l Z mN49 jdk_42_method_152_code 1 (some .byte) ws rM0 #[(.ref s_)] h0 (Qcd0 Z  h0 n0) := by
 refine MetFree.of_bodySF (plainFor_of_name pn_2) hisR ?_
 intro p e s m args below meth c s₁ Bd hml0 hP hK
 obtain ⟨rfl, hZ, hh⟩ := hP
 have hx := Bd.exec
 have hby := Bd.bytes
 have B := @hb _ _ hby
 have hml : c.maxLocals = 1 := hml0
 have hown : s.vm.findClass "java/lang/String" = some m.cls := findClass_of_methodNamed Bd.named
 have X0 : Stand p l e rM0 s m #[(.ref s_)] below meth c s₁ [] 0 0 := Stand.of_body Bd
 have e0 : s₁.heap = h0 := by rw [← hh, Bd.state]; rfl
 have N0 := Fr.nil n0
 refine own_start (ef_ul m s_) (Q := own_QE s rM0 (Qcd0 Z  h0 n0)) ?_
 show oF p e below (s₁.setTop (mkF m 0 #[.val (.ref s_)] [])) _
 obtain ⟨T5D, X5D, e5D, st5D⟩ := getS2 X0 hx hZ hown (host := "") (Or.inl (ow hw 138)) Via.refl e0 (j4_.ext O.2) (g := (mkF m 0 #[.val (.ref s_)] [])) rfl (B d25_0)
 refine oG st5D ?_
 show oF p e below (T5D.setTop (mkF m 3 #[.val (.ref s_)] [(.int z)])) _
 refine oG (fun _ k => XS.ifNo X5D.here hx rfl (B d25_3) rfl ((if0 _ _).trans (feq hz).1) (XS.aloadN X5D.here hx rfl (B d25_6) rfl rfl k)) ?_
 show oF p e below (T5D.setTop (mkF m 7 #[.val (.ref s_)] [(.ref s_)])) _
 obtain ⟨T5E, X5E, e5E, st5E⟩ := getF X5D hx hZ hown (host := "") (Or.inl (ow hw 107)) Via.refl e5D j10_ (g := (mkF m 7 #[.val (.ref s_)] [(.ref s_)])) rfl rfl (B d25_7)
 refine oG st5E ?_
 show oF p e below (T5E.setTop (mkF m 10 #[.val (.ref s_)] [(.int 0)])) _
 refine oG (fun _ k => XS.goto X5E.here hx rfl (pc0 := 10) (pc' := 14) rfl (B d25_10) (by decide) (by decide) k) ?_
 show oF p e below (T5E.setTop (mkF m 14 #[.val (.ref s_)] [(.int 0)])) _
 obtain ⟨fs, hr, r1, r2, hW, r3⟩ := X5E.leave (v := some (.int 0)) (fun h => by rw [Bd.returns] at h; cases h)
 refine ⟨_, _, ?_, r1, r2, _, _, rfl, ?_, ⟨_, rfl⟩, hW, r3.mono (by decide) (by decide)⟩
 ·exact retN X5E hx (t := .byte) Bd.returns (by simp) (B d25_14) hr
 ·show Qcd0 Z  h0 n0 _ T5E.heap _
  rw [e5E]
  exact ⟨rfl, N0, rfl⟩
theorem d28_0 : decode k50_ 0 = .ok (.getstatic 38, 3) := by decide +kernel
theorem d28_3 : decode k50_ 3 = .ok (.ifCond .eq 14, 3) := by decide +kernel
theorem d28_6 : decode k50_ 6 = .ok (.aload_n 0, 1) := by decide +kernel
theorem d28_7 : decode k50_ 7 = .ok (.getfield 15, 3) := by decide +kernel
theorem d28_10 : decode k50_ 10 = .ok (.ifCond .ne 7, 3) := by decide +kernel
theorem d28_13 : decode k50_ 13 = .ok (.iconst 1, 1) := by decide +kernel
theorem d28_14 : decode k50_ 14 = .ok (.goto 4, 3) := by decide +kernel
theorem d28_18 : decode k50_ 18 = .ok (.ireturn, 1) := by decide +kernel
def Qsl0 (Z : State)  (h0 : Heap) (n0 : Nat) (v : Option Value) (h : Heap) (L : List Loc) : Prop := v = some (.int 1) ∧ Fr n0 L ∧ h = h0
theorem sl0 (l : Launch) (Z : State) (a0 : Array Value) (hw : ∀ d ∈ tables_1, d.before a0 Z = true) (ws : List Jvm.Cond) (s_ : Addr) (z : Int32) (h0 : Heap) (n0 : Nat) (O : Old Z n0 h0) (j4_ : sT4 Z (.int z)) (hz : ¬ (z = (0 : Int32))) (j10_ : fL5 Z h0 s_ (.int 0)) :
   own_MF l Z mN50 jdk_42_method_154_code 1 (some .boolean) ws rM0 #[(.ref s_)] h0 (Qsl0 Z  h0 n0) := by
 refine MetFree.of_bodySF (plainFor_of_name pn_2) hisR ?_
 intro p e s m args below meth c s₁ Bd hml0 hP hK
 obtain ⟨rfl, hZ, hh⟩ := hP
 have hx := Bd.exec
 have hby := Bd.bytes
 have B := @hb _ _ hby
 have hml : c.maxLocals = 1 := hml0
 have hown : s.vm.findClass "java/lang/String" = some m.cls := findClass_of_methodNamed Bd.named
 have X0 : Stand p l e rM0 s m #[(.ref s_)] below meth c s₁ [] 0 0 := Stand.of_body Bd
 have e0 : s₁.heap = h0 := by rw [← hh, Bd.state]; rfl
 have N0 := Fr.nil n0
 refine own_start (ef_ul m s_) (Q := own_QE s rM0 (Qsl0 Z  h0 n0)) ?_
 show oF p e below (s₁.setTop (mkF m 0 #[.val (.ref s_)] [])) _
 obtain ⟨T5F, X5F, e5F, st5F⟩ := getS2 X0 hx hZ hown (host := "") (Or.inl (ow hw 138)) Via.refl e0 (j4_.ext O.2) (g := (mkF m 0 #[.val (.ref s_)] [])) rfl (B d28_0)
 refine oG st5F ?_
 show oF p e below (T5F.setTop (mkF m 3 #[.val (.ref s_)] [(.int z)])) _
 refine oG (fun _ k => XS.ifNo X5F.here hx rfl (B d28_3) rfl ((if0 _ _).trans (feq hz).1) (XS.aloadN X5F.here hx rfl (B d28_6) rfl rfl k)) ?_
 show oF p e below (T5F.setTop (mkF m 7 #[.val (.ref s_)] [(.ref s_)])) _
 obtain ⟨T5G, X5G, e5G, st5G⟩ := getF X5F hx hZ hown (host := "") (Or.inl (ow hw 107)) Via.refl e5F j10_ (g := (mkF m 7 #[.val (.ref s_)] [(.ref s_)])) rfl rfl (B d28_7)
 refine oG st5G ?_
 show oF p e below (T5G.setTop (mkF m 10 #[.val (.ref s_)] [(.int 0)])) _
 refine oG (fun _ k => XS.ifNo X5G.here hx rfl (B d28_10) rfl ((if0 _ _).trans (teq (by decide : (0 : Int32) = (0 : Int32))).2) (XS.iconst X5G.here hx rfl (B d28_13) (XS.goto X5G.here hx rfl (pc0 := 14) (pc' := 18) rfl (B d28_14) (by decide) (by decide) k))) ?_
 show oF p e below (T5G.setTop (mkF m 18 #[.val (.ref s_)] [(.int 1)])) _
 obtain ⟨fs, hr, r1, r2, hW, r3⟩ := X5G.leave (v := some (.int 1)) (fun h => by rw [Bd.returns] at h; cases h)
 refine ⟨_, _, ?_, r1, r2, _, _, rfl, ?_, ⟨_, rfl⟩, hW, r3.mono (by decide) (by decide)⟩
 ·exact retN X5G hx (t := .boolean) Bd.returns (by simp) (B d28_18) hr
 ·show Qsl0 Z  h0 n0 _ T5G.heap _
  rw [e5G]
  exact ⟨rfl, N0, rfl⟩
def Qcd1 (Z : State)  (h0 : Heap) (n0 : Nat) (v : Option Value) (h : Heap) (L : List Loc) : Prop := v = some (.int 1) ∧ Fr n0 L ∧ h = h0
theorem cd1 (l : Launch) (Z : State) (a0 : Array Value) (hw : ∀ d ∈ tables_1, d.before a0 Z = true) (ws : List Jvm.Cond) (s_ : Addr) (z : Int32) (h0 : Heap) (n0 : Nat) (O : Old Z n0 h0) (j4_ : sT4 Z (.int z)) (hz : ¬ (z = (0 : Int32))) (j10_ : fL5 Z h0 s_ (.int 1)) :
   own_MF l Z mN49 jdk_42_method_152_code 1 (some .byte) ws rM0 #[(.ref s_)] h0 (Qcd1 Z  h0 n0) := by
 refine MetFree.of_bodySF (plainFor_of_name pn_2) hisR ?_
 intro p e s m args below meth c s₁ Bd hml0 hP hK
 obtain ⟨rfl, hZ, hh⟩ := hP
 have hx := Bd.exec
 have hby := Bd.bytes
 have B := @hb _ _ hby
 have hml : c.maxLocals = 1 := hml0
 have hown : s.vm.findClass "java/lang/String" = some m.cls := findClass_of_methodNamed Bd.named
 have X0 : Stand p l e rM0 s m #[(.ref s_)] below meth c s₁ [] 0 0 := Stand.of_body Bd
 have e0 : s₁.heap = h0 := by rw [← hh, Bd.state]; rfl
 have N0 := Fr.nil n0
 refine own_start (ef_ul m s_) (Q := own_QE s rM0 (Qcd1 Z  h0 n0)) ?_
 show oF p e below (s₁.setTop (mkF m 0 #[.val (.ref s_)] [])) _
 obtain ⟨T5H, X5H, e5H, st5H⟩ := getS2 X0 hx hZ hown (host := "") (Or.inl (ow hw 138)) Via.refl e0 (j4_.ext O.2) (g := (mkF m 0 #[.val (.ref s_)] [])) rfl (B d25_0)
 refine oG st5H ?_
 show oF p e below (T5H.setTop (mkF m 3 #[.val (.ref s_)] [(.int z)])) _
 refine oG (fun _ k => XS.ifNo X5H.here hx rfl (B d25_3) rfl ((if0 _ _).trans (feq hz).1) (XS.aloadN X5H.here hx rfl (B d25_6) rfl rfl k)) ?_
 show oF p e below (T5H.setTop (mkF m 7 #[.val (.ref s_)] [(.ref s_)])) _
 obtain ⟨T5I, X5I, e5I, st5I⟩ := getF X5H hx hZ hown (host := "") (Or.inl (ow hw 107)) Via.refl e5H j10_ (g := (mkF m 7 #[.val (.ref s_)] [(.ref s_)])) rfl rfl (B d25_7)
 refine oG st5I ?_
 show oF p e below (T5I.setTop (mkF m 10 #[.val (.ref s_)] [(.int 1)])) _
 refine oG (fun _ k => XS.goto X5I.here hx rfl (pc0 := 10) (pc' := 14) rfl (B d25_10) (by decide) (by decide) k) ?_
 show oF p e below (T5I.setTop (mkF m 14 #[.val (.ref s_)] [(.int 1)])) _
 obtain ⟨fs, hr, r1, r2, hW, r3⟩ := X5I.leave (v := some (.int 1)) (fun h => by rw [Bd.returns] at h; cases h)
 refine ⟨_, _, ?_, r1, r2, _, _, rfl, ?_, ⟨_, rfl⟩, hW, r3.mono (by decide) (by decide)⟩
 ·exact retN X5I hx (t := .byte) Bd.returns (by simp) (B d25_14) hr
 ·show Qcd1 Z  h0 n0 _ T5I.heap _
  rw [e5I]
  exact ⟨rfl, N0, rfl⟩
theorem d28_17 : decode k50_ 17 = .ok (.iconst 0, 1) := by decide +kernel
def Qsl1 (Z : State)  (h0 : Heap) (n0 : Nat) (v : Option Value) (h : Heap) (L : List Loc) : Prop := v = some (.int 0) ∧ Fr n0 L ∧ h = h0
theorem sl1 (l : Launch) (Z : State) (a0 : Array Value) (hw : ∀ d ∈ tables_1, d.before a0 Z = true) (ws : List Jvm.Cond) (s_ : Addr) (z : Int32) (h0 : Heap) (n0 : Nat) (O : Old Z n0 h0) (j4_ : sT4 Z (.int z)) (hz : ¬ (z = (0 : Int32))) (j10_ : fL5 Z h0 s_ (.int 1)) :
   own_MF l Z mN50 jdk_42_method_154_code 1 (some .boolean) ws rM0 #[(.ref s_)] h0 (Qsl1 Z  h0 n0) := by
 refine MetFree.of_bodySF (plainFor_of_name pn_2) hisR ?_
 intro p e s m args below meth c s₁ Bd hml0 hP hK
 obtain ⟨rfl, hZ, hh⟩ := hP
 have hx := Bd.exec
 have hby := Bd.bytes
 have B := @hb _ _ hby
 have hml : c.maxLocals = 1 := hml0
 have hown : s.vm.findClass "java/lang/String" = some m.cls := findClass_of_methodNamed Bd.named
 have X0 : Stand p l e rM0 s m #[(.ref s_)] below meth c s₁ [] 0 0 := Stand.of_body Bd
 have e0 : s₁.heap = h0 := by rw [← hh, Bd.state]; rfl
 have N0 := Fr.nil n0
 refine own_start (ef_ul m s_) (Q := own_QE s rM0 (Qsl1 Z  h0 n0)) ?_
 show oF p e below (s₁.setTop (mkF m 0 #[.val (.ref s_)] [])) _
 obtain ⟨T5J, X5J, e5J, st5J⟩ := getS2 X0 hx hZ hown (host := "") (Or.inl (ow hw 138)) Via.refl e0 (j4_.ext O.2) (g := (mkF m 0 #[.val (.ref s_)] [])) rfl (B d28_0)
 refine oG st5J ?_
 show oF p e below (T5J.setTop (mkF m 3 #[.val (.ref s_)] [(.int z)])) _
 refine oG (fun _ k => XS.ifNo X5J.here hx rfl (B d28_3) rfl ((if0 _ _).trans (feq hz).1) (XS.aloadN X5J.here hx rfl (B d28_6) rfl rfl k)) ?_
 show oF p e below (T5J.setTop (mkF m 7 #[.val (.ref s_)] [(.ref s_)])) _
 obtain ⟨T5K, X5K, e5K, st5K⟩ := getF X5J hx hZ hown (host := "") (Or.inl (ow hw 107)) Via.refl e5J j10_ (g := (mkF m 7 #[.val (.ref s_)] [(.ref s_)])) rfl rfl (B d28_7)
 refine oG st5K ?_
 show oF p e below (T5K.setTop (mkF m 10 #[.val (.ref s_)] [(.int 1)])) _
 refine oG (fun _ k => XS.ifYes X5K.here hx rfl (pc0 := 10) (pc' := 17) rfl (B d28_10) rfl ((if0 _ _).trans (feq (by decide : ¬ ((1 : Int32) = (0 : Int32)))).2) (by decide) (by decide) (XS.iconst X5K.here hx rfl (B d28_17) k)) ?_
 show oF p e below (T5K.setTop (mkF m 18 #[.val (.ref s_)] [(.int 0)])) _
 obtain ⟨fs, hr, r1, r2, hW, r3⟩ := X5K.leave (v := some (.int 0)) (fun h => by rw [Bd.returns] at h; cases h)
 refine ⟨_, _, ?_, r1, r2, _, _, rfl, ?_, ⟨_, rfl⟩, hW, r3.mono (by decide) (by decide)⟩
 ·exact retN X5K hx (t := .boolean) Bd.returns (by simp) (B d28_18) hr
 ·show Qsl1 Z  h0 n0 _ T5K.heap _
  rw [e5K]
  exact ⟨rfl, N0, rfl⟩
theorem d24_0 : decode k51_ 0 = .ok (.aload_n 0, 1) := by decide +kernel
theorem d24_1 : decode k51_ 1 = .ok (.getfield 9, 3) := by decide +kernel
theorem d24_4 : decode k51_ 4 = .ok (.arraylength, 1) := by decide +kernel
theorem d24_5 : decode k51_ 5 = .ok (.aload_n 0, 1) := by decide +kernel
theorem d24_6 : decode k51_ 6 = .ok (.invokevirtual 335, 3) := by decide +kernel
theorem pd_33 : parseMethodDescriptor "()B" = some ⟨[], some .byte⟩ := by decide +kernel
theorem d24_9 : decode k51_ 9 = .ok (.ishr, 1) := by decide +kernel
theorem d24_10 : decode k51_ 10 = .ok (.ireturn, 1) := by decide +kernel
def Qslen (Z : State) (cs : List Int32) (h0 : Heap) (n0 : Nat) (v : Option Value) (h : Heap) (L : List Loc) : Prop := v = some (.int (Int32.ofNat cs.length)) ∧ Fr n0 L ∧ h = h0
theorem slen (l : Launch) (Z : State) (a0 : Array Value) (hw : ∀ d ∈ tables_1, d.before a0 Z = true) (ws : List Jvm.Cond) (s_ : Addr) (z : Int32) (t : Addr) (kt : ClassId) (cs : List Int32) (h0 : Heap) (n0 : Nat) (O : Old Z n0 h0) (j4_ : sT4 Z (.int z)) (hz : ¬ (z = (0 : Int32))) (E_s_ : eX2 Z h0 s_) (j15_ : own_ST Z h0 s_ t kt cs) (h4 : cs.length ≤ 4) :
   own_MF l Z mN51 jdk_42_method_54_code 1 (some .int) ws rM31 #[(.ref s_)] h0 (Qslen Z cs h0 n0) := by
 refine MetFree.of_bodySF (plainFor_of_name pn_2) hisR ?_
 intro p e s m args below meth c s₁ Bd hml0 hP hK
 obtain ⟨rfl, hZ, hh⟩ := hP
 have hx := Bd.exec
 have hby := Bd.bytes
 have B := @hb _ _ hby
 have hml : c.maxLocals = 1 := hml0
 have hown : s.vm.findClass "java/lang/String" = some m.cls := findClass_of_methodNamed Bd.named
 have X0 : Stand p l e rM31 s m #[(.ref s_)] below meth c s₁ [] 0 0 := Stand.of_body Bd
 have e0 : s₁.heap = h0 := by rw [← hh, Bd.state]; rfl
 have N0 := Fr.nil n0
 refine own_start (ef_ul m s_) (Q := own_QE s rM31 (Qslen Z cs h0 n0)) ?_
 show oF p e below (s₁.setTop (mkF m 0 #[.val (.ref s_)] [])) _
 obtain ⟨j12_, hrg, hd⟩ := j15_
 rcases hd with ⟨j10_, V_t, hla⟩ | ⟨j10_, V_t, -⟩
 ·show oF p e below (s₁.setTop (mkF m 0 #[.val (.ref s_)] [])) _
  refine oG (fun _ k => XS.aloadN X0.here hx rfl (B d24_0) rfl rfl k) ?_
  show oF p e below (s₁.setTop (mkF m 1 #[.val (.ref s_)] [(.ref s_)])) _
  obtain ⟨T5L, X5L, e5L, st5L⟩ := getF X0 hx hZ hown (host := "") (Or.inl (ow hw 122)) Via.refl e0 j12_ (g := (mkF m 1 #[.val (.ref s_)] [(.ref s_)])) rfl rfl (B d24_1)
  refine oG st5L ?_
  show oF p e below (T5L.setTop (mkF m 4 #[.val (.ref s_)] [(.ref t)])) _
  obtain ⟨cl5M, A5M, -, S5M, M5M, -, -⟩ := id V_t
  refine oG (fun _ k => X5L.arraylength hx (own_eqE e5L A5M.1) (State.isArrayOf_alike hZ.alike A5M.2.1) (g := (mkF m 4 #[.val (.ref s_)] [(.ref t)])) rfl rfl (B d24_4) _ (by rw [len_of S5M M5M]; exact k)) ?_
  show oF p e below (T5L.setTop (mkF m 5 #[.val (.ref s_)] [(.int (Int32.ofNat cs.length))])) _
  refine oG (fun _ k => XS.aloadN X5L.here hx rfl (B d24_5) rfl rfl k) ?_
  show oF p e below (T5L.setTop (mkF m 6 #[.val (.ref s_)] [(.ref s_), (.int (Int32.ofNat cs.length))])) _
  obtain ⟨cq5N, kq5N, q5Na, q5Nb, q5Nc⟩ := isOf hZ e5L E_s_
  obtain ⟨_, _, ⟨T5N, L5N, k5N, n5N⟩, -, X5N, ⟨Lc5N, hQ5N, l5N, y5N, z5N⟩, st5N⟩ := X5L.virtualBack hx (y := mN49) (z := mN49) hown (mo hZ hw 133) (mo hZ hw 134) (notFace_of_selects (args := #[]) (mo hZ hw 136)) (mo hZ hw 136) (mo hZ hw 135) (by decide) (backOf (W := 1) (cd0 l Z a0 hw [] s_ z h0 n0 O j4_ hz j10_) hZ (ow hw 137) (ow hw 30) (by decide) (by decide)) q5Na q5Nc (g := (mkF m 6 #[.val (.ref s_)] [(.ref s_), (.int (Int32.ofNat cs.length))])) rfl (by rw [hml]; rfl) (Steps.refl _) (argsL := []) (rest := [(.int (Int32.ofNat cs.length))]) (lenOf pd_33 rfl) rfl (by show 2 * 0 + _ ≤ _; exact Nat.le_of_eq rfl) (B d24_6) (fun _ _ => ⟨rfl, e5L, (by decide : 0 + 0 ≤ _), (by decide : 0 + 0 ≤ _)⟩)
  dsimp only [Pt.U, Pt.locs, Pt.cells, Pt.slots] at X5N l5N y5N z5N st5N hQ5N
  subst y5N z5N
  obtain ⟨rfl, N5Nq, e5N⟩ := hQ5N
  refine oG (fun _ k => st5N.trans k) ?_
  have N5N := oL l5N (Fr.app N0 N5Nq)
  show oF p e below (T5N.setTop (mkF m 9 #[.val (.ref s_)] [(.int 0), (.int (Int32.ofNat cs.length))])) _
  refine oG (fun _ k => XS.ishr X5N.here hx rfl (B d24_9) rfl k) ?_
  show oF p e below (T5N.setTop (mkF m 10 #[.val (.ref s_)] [(.int ((Int32.ofNat cs.length) >>> ((0 : Int32) &&& 31)))])) _
  obtain ⟨fs, hr, r1, r2, hW, r3⟩ := X5N.leave (v := some (.int ((Int32.ofNat cs.length) >>> ((0 : Int32) &&& 31)))) (fun h => by rw [Bd.returns] at h; cases h)
  refine ⟨_, _, ?_, r1, r2, _, _, rfl, ?_, ⟨_, rfl⟩, hW, r3.mono (by decide) (by decide)⟩
  ·exact own_retI X5N hx Bd.returns (B d24_10) hr
  ·show Qslen Z cs h0 n0 _ T5N.heap _
   rw [e5N]
   exact ⟨(by rw [own_sh0]), N5N, rfl⟩
 ·show oF p e below (s₁.setTop (mkF m 0 #[.val (.ref s_)] [])) _
  refine oG (fun _ k => XS.aloadN X0.here hx rfl (B d24_0) rfl rfl k) ?_
  show oF p e below (s₁.setTop (mkF m 1 #[.val (.ref s_)] [(.ref s_)])) _
  obtain ⟨T5O, X5O, e5O, st5O⟩ := getF X0 hx hZ hown (host := "") (Or.inl (ow hw 122)) Via.refl e0 j12_ (g := (mkF m 1 #[.val (.ref s_)] [(.ref s_)])) rfl rfl (B d24_1)
  refine oG st5O ?_
  show oF p e below (T5O.setTop (mkF m 4 #[.val (.ref s_)] [(.ref t)])) _
  obtain ⟨cl5P, A5P, -, S5P, M5P, -, -⟩ := id V_t
  refine oG (fun _ k => X5O.arraylength hx (own_eqE e5O A5P.1) (State.isArrayOf_alike hZ.alike A5P.2.1) (g := (mkF m 4 #[.val (.ref s_)] [(.ref t)])) rfl rfl (B d24_4) _ (by rw [len_of S5P M5P]; exact k)) ?_
  show oF p e below (T5O.setTop (mkF m 5 #[.val (.ref s_)] [(.int ((Int32.ofNat cs.length) <<< ((1 : Int32) &&& 31)))])) _
  refine oG (fun _ k => XS.aloadN X5O.here hx rfl (B d24_5) rfl rfl k) ?_
  show oF p e below (T5O.setTop (mkF m 6 #[.val (.ref s_)] [(.ref s_), (.int ((Int32.ofNat cs.length) <<< ((1 : Int32) &&& 31)))])) _
  obtain ⟨cq5Q, kq5Q, q5Qa, q5Qb, q5Qc⟩ := isOf hZ e5O E_s_
  obtain ⟨_, _, ⟨T5Q, L5Q, k5Q, n5Q⟩, -, X5Q, ⟨Lc5Q, hQ5Q, l5Q, y5Q, z5Q⟩, st5Q⟩ := X5O.virtualBack hx (y := mN49) (z := mN49) hown (mo hZ hw 133) (mo hZ hw 134) (notFace_of_selects (args := #[]) (mo hZ hw 136)) (mo hZ hw 136) (mo hZ hw 135) (by decide) (backOf (W := 1) (cd1 l Z a0 hw [] s_ z h0 n0 O j4_ hz j10_) hZ (ow hw 137) (ow hw 30) (by decide) (by decide)) q5Qa q5Qc (g := (mkF m 6 #[.val (.ref s_)] [(.ref s_), (.int ((Int32.ofNat cs.length) <<< ((1 : Int32) &&& 31)))])) rfl (by rw [hml]; rfl) (Steps.refl _) (argsL := []) (rest := [(.int ((Int32.ofNat cs.length) <<< ((1 : Int32) &&& 31)))]) (lenOf pd_33 rfl) rfl (by show 2 * 0 + _ ≤ _; exact Nat.le_of_eq rfl) (B d24_6) (fun _ _ => ⟨rfl, e5O, (by decide : 0 + 0 ≤ _), (by decide : 0 + 0 ≤ _)⟩)
  dsimp only [Pt.U, Pt.locs, Pt.cells, Pt.slots] at X5Q l5Q y5Q z5Q st5Q hQ5Q
  subst y5Q z5Q
  obtain ⟨rfl, N5Qq, e5Q⟩ := hQ5Q
  refine oG (fun _ k => st5Q.trans k) ?_
  have N5Q := oL l5Q (Fr.app N0 N5Qq)
  show oF p e below (T5Q.setTop (mkF m 9 #[.val (.ref s_)] [(.int 1), (.int ((Int32.ofNat cs.length) <<< ((1 : Int32) &&& 31)))])) _
  refine oG (fun _ k => XS.ishr X5Q.here hx rfl (B d24_9) rfl k) ?_
  show oF p e below (T5Q.setTop (mkF m 10 #[.val (.ref s_)] [(.int (((Int32.ofNat cs.length) <<< ((1 : Int32) &&& 31)) >>> ((1 : Int32) &&& 31)))])) _
  obtain ⟨fs, hr, r1, r2, hW, r3⟩ := X5Q.leave (v := some (.int (((Int32.ofNat cs.length) <<< ((1 : Int32) &&& 31)) >>> ((1 : Int32) &&& 31)))) (fun h => by rw [Bd.returns] at h; cases h)
  refine ⟨_, _, ?_, r1, r2, _, _, rfl, ?_, ⟨_, rfl⟩, hW, r3.mono (by decide) (by decide)⟩
  ·exact own_retI X5Q hx Bd.returns (B d24_10) hr
  ·show Qslen Z cs h0 n0 _ T5Q.heap _
   rw [e5Q]
   exact ⟨(by rw [own_sh1 h4]), N5Q, rfl⟩
theorem d29_0 : decode k52_ 0 = .ok (.iload_n 1, 1) := by decide +kernel
theorem d29_1 : decode k52_ 1 = .ok (.aload_n 0, 1) := by decide +kernel
theorem d29_2 : decode k52_ 2 = .ok (.arraylength, 1) := by decide +kernel
theorem d29_3 : decode k52_ 3 = .ok (.invokestatic 9, 3) := by decide +kernel
theorem d29_6 : decode k52_ 6 = .ok (.aload_n 0, 1) := by decide +kernel
theorem d29_7 : decode k52_ 7 = .ok (.iload_n 1, 1) := by decide +kernel
theorem d29_8 : decode k52_ 8 = .ok (.baload, 1) := by decide +kernel
theorem d29_9 : decode k52_ 9 = .ok (.sipush 255, 3) := by decide +kernel
theorem d29_12 : decode k52_ 12 = .ok (.iand, 1) := by decide +kernel
theorem d29_13 : decode k52_ 13 = .ok (.i2c, 1) := by decide +kernel
theorem d29_14 : decode k52_ 14 = .ok (.ireturn, 1) := by decide +kernel
def Qlca (Z : State) (x_ : Int32) (h0 : Heap) (n0 : Nat) (v : Option Value) (h : Heap) (L : List Loc) : Prop := v = some (.int (nar .char ((x_ &&& (255 : Int32)).toUInt32.toUInt16.toUInt32.toInt32))) ∧ Fr n0 L ∧ h = h0
theorem lca (l : Launch) (Z : State) (a0 : Array Value) (hw : ∀ d ∈ tables_1, d.before a0 Z = true) (ws : List Jvm.Cond) (t : Addr) (i : Int32) (fm : Value) (kt : ClassId) (M : Int32) (vs : List Value) (x_ : Int32) (h0 : Heap) (n0 : Nat) (O : Old Z n0 h0) (j5_ : sT3 Z fm) (hfm : fm.isRef = true) (V_t : Arv Z h0 t kt .byte M vs (.int 0)) (hi0 : ¬ (i < (0 : Int32))) (hi1 : i < M) (hat : vs.getD i.toNatClampNeg (.int 0) = (.int x_)) :
   own_MF l Z mN52 jdk_43_method_2_code 2 (some .char) ws rM2 #[(.ref t), (.int i)] h0 (Qlca Z x_ h0 n0) := by
 refine MetFree.of_bodySF (plainFor_of_name pn_3) hisR ?_
 intro p e s m args below meth c s₁ Bd hml0 hP hK
 obtain ⟨rfl, hZ, hh⟩ := hP
 have hx := Bd.exec
 have hby := Bd.bytes
 have B := @hb _ _ hby
 have hml : c.maxLocals = 2 := hml0
 have hown : s.vm.findClass "java/lang/StringLatin1" = some m.cls := findClass_of_methodNamed Bd.named
 have X0 : Stand p l e rM2 s m #[(.ref t), (.int i)] below meth c s₁ [] 0 0 := Stand.of_body Bd
 have e0 : s₁.heap = h0 := by rw [← hh, Bd.state]; rfl
 have N0 := Fr.nil n0
 refine own_start (ef_apL0 m t i) (Q := own_QE s rM2 (Qlca Z x_ h0 n0)) ?_
 show oF p e below (s₁.setTop (mkF m 0 #[.val (.ref t), .val (.int i)] [])) _
 refine oG (fun _ k => XS.iloadN X0.here hx rfl (B d29_0) rfl (XS.aloadN X0.here hx rfl (B d29_1) rfl rfl k)) ?_
 show oF p e below (s₁.setTop (mkF m 2 #[.val (.ref t), .val (.int i)] [(.ref t), (.int i)])) _
 obtain ⟨cl5R, A5R, -, S5R, M5R, -, -⟩ := id V_t
 refine oG (fun _ k => X0.arraylength hx (own_eqE e0 A5R.1) (State.isArrayOf_alike hZ.alike A5R.2.1) (g := (mkF m 2 #[.val (.ref t), .val (.int i)] [(.ref t), (.int i)])) rfl rfl (B d29_2) _ (by rw [len_of S5R M5R]; exact k)) ?_
 show oF p e below (s₁.setTop (mkF m 3 #[.val (.ref t), .val (.int i)] [(.int M), (.int i)])) _
 obtain ⟨_, _, ⟨T5S, L5S, k5S, n5S⟩, -, X5S, ⟨Lc5S, hQ5S, l5S, y5S, z5S⟩, st5S⟩ := Jvm.LawKit.callS X0 hx (y := mN3) hown (mo hZ hw 155) (mo hZ hw 156) (mo hZ hw 30) (mo hZ hw 157) (by decide) (backOf (W := 0) (sci l Z a0 hw [] i M fm h0 n0 O j5_ hfm hi0 hi1) hZ (ow hw 157) (ow hw 30) (by decide) (by decide)) (g := (mkF m 3 #[.val (.ref t), .val (.int i)] [(.int M), (.int i)])) rfl (by rw [hml]; rfl) (argsL := [(.int i), (.int M)]) (rest := []) (lenOf pd_2 rfl) rfl (by show 2 * 0 + _ ≤ _; exact Nat.le_of_eq rfl) (B d29_3) (fun _ _ => ⟨rfl, e0, (by decide : 0 + 0 ≤ _), (by decide : 0 + 0 ≤ _)⟩)
 dsimp only [Pt.U, Pt.locs, Pt.cells, Pt.slots] at X5S l5S y5S z5S st5S hQ5S
 subst y5S z5S
 obtain ⟨rfl, N5Sq, e5S⟩ := hQ5S
 refine oG st5S ?_
 have N5S := oL l5S (Fr.app N0 N5Sq)
 show oF p e below (T5S.setTop (mkF m 6 #[.val (.ref t), .val (.int i)] [])) _
 refine oG (fun _ k => XS.aloadN X5S.here hx rfl (B d29_6) rfl rfl (XS.iloadN X5S.here hx rfl (B d29_7) rfl k)) ?_
 show oF p e below (T5S.setTop (mkF m 8 #[.val (.ref t), .val (.int i)] [(.int i), (.ref t)])) _
 obtain ⟨cl5T, A5T, q5T, S5T, M5T, H5T, G5T⟩ := id V_t
 have hin5T : ¬ (i < 0 ∨ cl5T.slots.size ≤ (i).toNatClampNeg) := inb_of S5T ⟨hi0, hi1⟩
 have hat5T : cl5T.slots[(i).toNatClampNeg]? = some (.int x_) := Has.at H5T hin5T hat
 refine oG (fun _ k => X5S.baloadBytes hx (j := i) (v := (.int x_)) (own_eqE e5S A5T.1) (State.isArrayOf_alike hZ.alike A5T.2.1) A5T.2.2 hin5T hat5T (g := (mkF m 8 #[.val (.ref t), .val (.int i)] [(.int i), (.ref t)])) rfl rfl (B d29_8) _ k) ?_
 show oF p e below (T5S.setTop (mkF m 9 #[.val (.ref t), .val (.int i)] [(.int x_)])) _
 refine oG (fun _ k => XS.sipush X5S.here hx rfl (B d29_9) (XS.iand X5S.here hx rfl (B d29_12) rfl (XS.i2c X5S.here hx rfl (B d29_13) rfl k))) ?_
 show oF p e below (T5S.setTop (mkF m 14 #[.val (.ref t), .val (.int i)] [(.int ((x_ &&& (255 : Int32)).toUInt32.toUInt16.toUInt32.toInt32))])) _
 obtain ⟨fs, hr, r1, r2, hW, r3⟩ := X5S.leave (v := some (.int (nar .char ((x_ &&& (255 : Int32)).toUInt32.toUInt16.toUInt32.toInt32)))) (fun h => by rw [Bd.returns] at h; cases h)
 refine ⟨_, _, ?_, r1, r2, _, _, rfl, ?_, ⟨_, rfl⟩, hW, r3.mono (by decide) (by decide)⟩
 ·exact retN X5S hx (t := .char) Bd.returns (by simp) (B d29_14) hr
 ·show Qlca Z x_ h0 n0 _ T5S.heap _
  rw [e5S]
  exact ⟨rfl, N5S, rfl⟩
theorem d61_0 : decode k53_ 0 = .ok (.getstatic 44, 3) := by decide +kernel
theorem d61_3 : decode k53_ 3 = .ok (.ifCond .ne 25, 3) := by decide +kernel
theorem d61_28 : decode k53_ 28 = .ok (.iload_n 1, 1) := by decide +kernel
theorem d61_29 : decode k53_ 29 = .ok (.iconst 1, 1) := by decide +kernel
theorem d61_30 : decode k53_ 30 = .ok (.ishl, 1) := by decide +kernel
theorem d61_31 : decode k53_ 31 = .ok (.istore_n 1, 1) := by decide +kernel
theorem d61_32 : decode k53_ 32 = .ok (.aload_n 0, 1) := by decide +kernel
theorem d61_33 : decode k53_ 33 = .ok (.iload_n 1, 1) := by decide +kernel
theorem d61_34 : decode k53_ 34 = .ok (.iinc 1 1, 3) := by decide +kernel
theorem d61_37 : decode k53_ 37 = .ok (.baload, 1) := by decide +kernel
theorem d61_38 : decode k53_ 38 = .ok (.sipush 255, 3) := by decide +kernel
theorem d61_41 : decode k53_ 41 = .ok (.iand, 1) := by decide +kernel
theorem d61_42 : decode k53_ 42 = .ok (.getstatic 59, 3) := by decide +kernel
theorem d61_45 : decode k53_ 45 = .ok (.ishl, 1) := by decide +kernel
theorem d61_46 : decode k53_ 46 = .ok (.aload_n 0, 1) := by decide +kernel
theorem d61_47 : decode k53_ 47 = .ok (.iload_n 1, 1) := by decide +kernel
theorem d61_48 : decode k53_ 48 = .ok (.baload, 1) := by decide +kernel
theorem d61_49 : decode k53_ 49 = .ok (.sipush 255, 3) := by decide +kernel
theorem d61_52 : decode k53_ 52 = .ok (.iand, 1) := by decide +kernel
theorem d61_53 : decode k53_ 53 = .ok (.getstatic 63, 3) := by decide +kernel
theorem d61_56 : decode k53_ 56 = .ok (.ishl, 1) := by decide +kernel
theorem d61_57 : decode k53_ 57 = .ok (.ior, 1) := by decide +kernel
theorem d61_58 : decode k53_ 58 = .ok (.i2c, 1) := by decide +kernel
theorem d61_59 : decode k53_ 59 = .ok (.ireturn, 1) := by decide +kernel
def Qgch (Z : State) (x_ : Int32) (y_ : Int32) (h0 : Heap) (n0 : Nat) (v : Option Value) (h : Heap) (L : List Loc) : Prop := v = some (.int (nar .char (((((x_ &&& (255 : Int32)) <<< ((0 : Int32) &&& 31)) ||| ((y_ &&& (255 : Int32)) <<< ((8 : Int32) &&& 31))).toUInt32.toUInt16.toUInt32.toInt32)))) ∧ Fr n0 L ∧ h = h0
theorem gch (l : Launch) (Z : State) (a0 : Array Value) (hw : ∀ d ∈ tables_1, d.before a0 Z = true) (ws : List Jvm.Cond) (t : Addr) (i : Int32) (kt : ClassId) (M : Int32) (vs : List Value) (x_ : Int32) (y_ : Int32) (h0 : Heap) (n0 : Nat) (O : Old Z n0 h0) (j6_ : sT0 Z (.int 1)) (j7_ : sT1 Z (.int 0)) (j8_ : sT2 Z (.int 8)) (V_t : Arv Z h0 t kt .byte M vs (.int 0)) (ha_ : ¬ ((i <<< ((1 : Int32) &&& 31)) < 0) ∧ (i <<< ((1 : Int32) &&& 31)) < M) (hb_ : ¬ (((i <<< ((1 : Int32) &&& 31)) + (1 : Int32)) < 0) ∧ ((i <<< ((1 : Int32) &&& 31)) + (1 : Int32)) < M) (hat : vs.getD (i <<< ((1 : Int32) &&& 31)).toNatClampNeg (.int 0) = (.int x_)) (hau : vs.getD ((i <<< ((1 : Int32) &&& 31)) + (1 : Int32)).toNatClampNeg (.int 0) = (.int y_)) :
   own_MF l Z mN53 jdk_52_method_5_code 2 (some .char) ws rM0 #[(.ref t), (.int i)] h0 (Qgch Z x_ y_ h0 n0) := by
 refine MetFree.of_bodySF (plainFor_of_name pn_0) hisR ?_
 intro p e s m args below meth c s₁ Bd hml0 hP hK
 obtain ⟨rfl, hZ, hh⟩ := hP
 have hx := Bd.exec
 have hby := Bd.bytes
 have B := @hb _ _ hby
 have hml : c.maxLocals = 2 := hml0
 have hown : s.vm.findClass "java/lang/StringUTF16" = some m.cls := findClass_of_methodNamed Bd.named
 have X0 : Stand p l e rM0 s m #[(.ref t), (.int i)] below meth c s₁ [] 0 0 := Stand.of_body Bd
 have e0 : s₁.heap = h0 := by rw [← hh, Bd.state]; rfl
 have N0 := Fr.nil n0
 refine own_start (ef_apL0 m t i) (Q := own_QE s rM0 (Qgch Z x_ y_ h0 n0)) ?_
 show oF p e below (s₁.setTop (mkF m 0 #[.val (.ref t), .val (.int i)] [])) _
 obtain ⟨T5U, X5U, e5U, st5U⟩ := getS2 X0 hx hZ hown (host := "") (Or.inl (ow hw 264)) Via.refl e0 (j6_.ext O.2) (g := (mkF m 0 #[.val (.ref t), .val (.int i)] [])) rfl (B d61_0)
 refine oG st5U ?_
 show oF p e below (T5U.setTop (mkF m 3 #[.val (.ref t), .val (.int i)] [(.int 1)])) _
 refine oG (fun _ k => XS.ifYes X5U.here hx rfl (pc0 := 3) (pc' := 28) rfl (B d61_3) rfl ((if0 _ _).trans (feq (by decide : ¬ ((1 : Int32) = (0 : Int32)))).2) (by decide) (by decide) (XS.iloadN X5U.here hx rfl (B d61_28) rfl (XS.iconst X5U.here hx rfl (B d61_29) (XS.ishl X5U.here hx rfl (B d61_30) rfl (XS.istoreN X5U.here hx rfl (B d61_31) rfl (l' := #[.val (.ref t), .val (.int (i <<< ((1 : Int32) &&& 31)))]) rfl (XS.aloadN X5U.here hx rfl (B d61_32) rfl rfl (XS.iloadN X5U.here hx rfl (B d61_33) rfl (XS.iinc X5U.here hx rfl (B d61_34) rfl (l' := #[.val (.ref t), .val (.int ((i <<< ((1 : Int32) &&& 31)) + (1 : Int32)))]) rfl k)))))))) ?_
 show oF p e below (T5U.setTop (mkF m 37 #[.val (.ref t), .val (.int ((i <<< ((1 : Int32) &&& 31)) + (1 : Int32)))] [(.int (i <<< ((1 : Int32) &&& 31))), (.ref t)])) _
 obtain ⟨cl5V, A5V, q5V, S5V, M5V, H5V, G5V⟩ := id V_t
 have hin5V : ¬ ((i <<< ((1 : Int32) &&& 31)) < 0 ∨ cl5V.slots.size ≤ ((i <<< ((1 : Int32) &&& 31))).toNatClampNeg) := inb_of S5V ha_
 have hat5V : cl5V.slots[((i <<< ((1 : Int32) &&& 31))).toNatClampNeg]? = some (.int x_) := Has.at H5V hin5V hat
 refine oG (fun _ k => X5U.baloadBytes hx (j := (i <<< ((1 : Int32) &&& 31))) (v := (.int x_)) (own_eqE e5U A5V.1) (State.isArrayOf_alike hZ.alike A5V.2.1) A5V.2.2 hin5V hat5V (g := (mkF m 37 #[.val (.ref t), .val (.int ((i <<< ((1 : Int32) &&& 31)) + (1 : Int32)))] [(.int (i <<< ((1 : Int32) &&& 31))), (.ref t)])) rfl rfl (B d61_37) _ k) ?_
 show oF p e below (T5U.setTop (mkF m 38 #[.val (.ref t), .val (.int ((i <<< ((1 : Int32) &&& 31)) + (1 : Int32)))] [(.int x_)])) _
 refine oG (fun _ k => XS.sipush X5U.here hx rfl (B d61_38) (XS.iand X5U.here hx rfl (B d61_41) rfl k)) ?_
 show oF p e below (T5U.setTop (mkF m 42 #[.val (.ref t), .val (.int ((i <<< ((1 : Int32) &&& 31)) + (1 : Int32)))] [(.int (x_ &&& (255 : Int32)))])) _
 obtain ⟨T5W, X5W, e5W, st5W⟩ := getS2 X5U hx hZ hown (host := "") (Or.inl (ow hw 265)) Via.refl e5U (j7_.ext O.2) (g := (mkF m 42 #[.val (.ref t), .val (.int ((i <<< ((1 : Int32) &&& 31)) + (1 : Int32)))] [(.int (x_ &&& (255 : Int32)))])) rfl (B d61_42)
 refine oG st5W ?_
 show oF p e below (T5W.setTop (mkF m 45 #[.val (.ref t), .val (.int ((i <<< ((1 : Int32) &&& 31)) + (1 : Int32)))] [(.int 0), (.int (x_ &&& (255 : Int32)))])) _
 refine oG (fun _ k => XS.ishl X5W.here hx rfl (B d61_45) rfl (XS.aloadN X5W.here hx rfl (B d61_46) rfl rfl (XS.iloadN X5W.here hx rfl (B d61_47) rfl k))) ?_
 show oF p e below (T5W.setTop (mkF m 48 #[.val (.ref t), .val (.int ((i <<< ((1 : Int32) &&& 31)) + (1 : Int32)))] [(.int ((i <<< ((1 : Int32) &&& 31)) + (1 : Int32))), (.ref t), (.int ((x_ &&& (255 : Int32)) <<< ((0 : Int32) &&& 31)))])) _
 obtain ⟨cl5X, A5X, q5X, S5X, M5X, H5X, G5X⟩ := id V_t
 have hin5X : ¬ (((i <<< ((1 : Int32) &&& 31)) + (1 : Int32)) < 0 ∨ cl5X.slots.size ≤ (((i <<< ((1 : Int32) &&& 31)) + (1 : Int32))).toNatClampNeg) := inb_of S5X hb_
 have hat5X : cl5X.slots[(((i <<< ((1 : Int32) &&& 31)) + (1 : Int32))).toNatClampNeg]? = some (.int y_) := Has.at H5X hin5X hau
 refine oG (fun _ k => X5W.baloadBytes hx (j := ((i <<< ((1 : Int32) &&& 31)) + (1 : Int32))) (v := (.int y_)) (own_eqE e5W A5X.1) (State.isArrayOf_alike hZ.alike A5X.2.1) A5X.2.2 hin5X hat5X (g := (mkF m 48 #[.val (.ref t), .val (.int ((i <<< ((1 : Int32) &&& 31)) + (1 : Int32)))] [(.int ((i <<< ((1 : Int32) &&& 31)) + (1 : Int32))), (.ref t), (.int ((x_ &&& (255 : Int32)) <<< ((0 : Int32) &&& 31)))])) rfl rfl (B d61_48) _ k) ?_
 show oF p e below (T5W.setTop (mkF m 49 #[.val (.ref t), .val (.int ((i <<< ((1 : Int32) &&& 31)) + (1 : Int32)))] [(.int y_), (.int ((x_ &&& (255 : Int32)) <<< ((0 : Int32) &&& 31)))])) _
 refine oG (fun _ k => XS.sipush X5W.here hx rfl (B d61_49) (XS.iand X5W.here hx rfl (B d61_52) rfl k)) ?_
 show oF p e below (T5W.setTop (mkF m 53 #[.val (.ref t), .val (.int ((i <<< ((1 : Int32) &&& 31)) + (1 : Int32)))] [(.int (y_ &&& (255 : Int32))), (.int ((x_ &&& (255 : Int32)) <<< ((0 : Int32) &&& 31)))])) _
 obtain ⟨T5Y, X5Y, e5Y, st5Y⟩ := getS2 X5W hx hZ hown (host := "") (Or.inl (ow hw 266)) Via.refl e5W (j8_.ext O.2) (g := (mkF m 53 #[.val (.ref t), .val (.int ((i <<< ((1 : Int32) &&& 31)) + (1 : Int32)))] [(.int (y_ &&& (255 : Int32))), (.int ((x_ &&& (255 : Int32)) <<< ((0 : Int32) &&& 31)))])) rfl (B d61_53)
 refine oG st5Y ?_
 show oF p e below (T5Y.setTop (mkF m 56 #[.val (.ref t), .val (.int ((i <<< ((1 : Int32) &&& 31)) + (1 : Int32)))] [(.int 8), (.int (y_ &&& (255 : Int32))), (.int ((x_ &&& (255 : Int32)) <<< ((0 : Int32) &&& 31)))])) _
 refine oG (fun _ k => XS.ishl X5Y.here hx rfl (B d61_56) rfl (XS.ior X5Y.here hx rfl (B d61_57) rfl (XS.i2c X5Y.here hx rfl (B d61_58) rfl k))) ?_
 show oF p e below (T5Y.setTop (mkF m 59 #[.val (.ref t), .val (.int ((i <<< ((1 : Int32) &&& 31)) + (1 : Int32)))] [(.int ((((x_ &&& (255 : Int32)) <<< ((0 : Int32) &&& 31)) ||| ((y_ &&& (255 : Int32)) <<< ((8 : Int32) &&& 31))).toUInt32.toUInt16.toUInt32.toInt32))])) _
 obtain ⟨fs, hr, r1, r2, hW, r3⟩ := X5Y.leave (v := some (.int (nar .char ((((x_ &&& (255 : Int32)) <<< ((0 : Int32) &&& 31)) ||| ((y_ &&& (255 : Int32)) <<< ((8 : Int32) &&& 31))).toUInt32.toUInt16.toUInt32.toInt32)))) (fun h => by rw [Bd.returns] at h; cases h)
 refine ⟨_, _, ?_, r1, r2, _, _, rfl, ?_, ⟨_, rfl⟩, hW, r3.mono (by decide) (by decide)⟩
 ·exact retN X5Y hx (t := .char) Bd.returns (by simp) (B d61_59) hr
 ·show Qgch Z x_ y_ h0 n0 _ T5Y.heap _
  rw [e5Y]
  exact ⟨(by first | rfl | (congr 1)), N0, rfl⟩
theorem d59_0 : decode k54_ 0 = .ok (.iload_n 1, 1) := by decide +kernel
theorem d59_1 : decode k54_ 1 = .ok (.aload_n 0, 1) := by decide +kernel
theorem d59_2 : decode k54_ 2 = .ok (.invokestatic 67, 3) := by decide +kernel
theorem d59_5 : decode k54_ 5 = .ok (.aload_n 0, 1) := by decide +kernel
theorem d59_6 : decode k54_ 6 = .ok (.iload_n 1, 1) := by decide +kernel
theorem d59_7 : decode k54_ 7 = .ok (.invokestatic 71, 3) := by decide +kernel
theorem pd_34 : parseMethodDescriptor "([BI)C" = some ⟨[(.array .byte), .int], some .char⟩ := by decide +kernel
theorem d59_10 : decode k54_ 10 = .ok (.ireturn, 1) := by decide +kernel
def Quca (Z : State) (x_ : Int32) (y_ : Int32) (h0 : Heap) (n0 : Nat) (v : Option Value) (h : Heap) (L : List Loc) : Prop := v = some (.int (nar .char (nar .char (((((x_ &&& (255 : Int32)) <<< ((0 : Int32) &&& 31)) ||| ((y_ &&& (255 : Int32)) <<< ((8 : Int32) &&& 31))).toUInt32.toUInt16.toUInt32.toInt32))))) ∧ Fr n0 L ∧ h = h0
theorem uca (l : Launch) (Z : State) (a0 : Array Value) (hw : ∀ d ∈ tables_1, d.before a0 Z = true) (ws : List Jvm.Cond) (t : Addr) (i : Int32) (fm : Value) (kt : ClassId) (M : Int32) (vs : List Value) (x_ : Int32) (y_ : Int32) (h0 : Heap) (n0 : Nat) (O : Old Z n0 h0) (j6_ : sT0 Z (.int 1)) (j7_ : sT1 Z (.int 0)) (j8_ : sT2 Z (.int 8)) (j5_ : sT3 Z fm) (hfm : fm.isRef = true) (V_t : Arv Z h0 t kt .byte M vs (.int 0)) (ha_ : ¬ ((i <<< ((1 : Int32) &&& 31)) < 0) ∧ (i <<< ((1 : Int32) &&& 31)) < M) (hb_ : ¬ (((i <<< ((1 : Int32) &&& 31)) + (1 : Int32)) < 0) ∧ ((i <<< ((1 : Int32) &&& 31)) + (1 : Int32)) < M) (hat : vs.getD (i <<< ((1 : Int32) &&& 31)).toNatClampNeg (.int 0) = (.int x_)) (hau : vs.getD ((i <<< ((1 : Int32) &&& 31)) + (1 : Int32)).toNatClampNeg (.int 0) = (.int y_)) (hi0 : ¬ (i < (0 : Int32))) (hi1 : i < (M >>> ((1 : Int32) &&& 31))) :
   own_MF l Z mN54 jdk_52_method_83_code 2 (some .char) ws rM3 #[(.ref t), (.int i)] h0 (Quca Z x_ y_ h0 n0) := by
 refine MetFree.of_bodySF (plainFor_of_name pn_0) hisR ?_
 intro p e s m args below meth c s₁ Bd hml0 hP hK
 obtain ⟨rfl, hZ, hh⟩ := hP
 have hx := Bd.exec
 have hby := Bd.bytes
 have B := @hb _ _ hby
 have hml : c.maxLocals = 2 := hml0
 have hown : s.vm.findClass "java/lang/StringUTF16" = some m.cls := findClass_of_methodNamed Bd.named
 have X0 : Stand p l e rM3 s m #[(.ref t), (.int i)] below meth c s₁ [] 0 0 := Stand.of_body Bd
 have e0 : s₁.heap = h0 := by rw [← hh, Bd.state]; rfl
 have N0 := Fr.nil n0
 refine own_start (ef_apL0 m t i) (Q := own_QE s rM3 (Quca Z x_ y_ h0 n0)) ?_
 show oF p e below (s₁.setTop (mkF m 0 #[.val (.ref t), .val (.int i)] [])) _
 refine oG (fun _ k => XS.iloadN X0.here hx rfl (B d59_0) rfl (XS.aloadN X0.here hx rfl (B d59_1) rfl rfl k)) ?_
 show oF p e below (s₁.setTop (mkF m 2 #[.val (.ref t), .val (.int i)] [(.ref t), (.int i)])) _
 obtain ⟨_, _, ⟨T5Z, L5Z, k5Z, n5Z⟩, -, X5Z, ⟨Lc5Z, hQ5Z, l5Z, y5Z, z5Z⟩, st5Z⟩ := Jvm.LawKit.callS X0 hx (y := mN4) hown (mo hZ hw 272) (mo hZ hw 273) (mo hZ hw 222) (mo hZ hw 274) (by decide) (backOf (W := 0) (uci l Z a0 hw [] i t kt M vs fm h0 n0 O j5_ hfm V_t hi0 hi1) hZ (ow hw 274) (ow hw 222) (by decide) (by decide)) (g := (mkF m 2 #[.val (.ref t), .val (.int i)] [(.ref t), (.int i)])) rfl (by rw [hml]; rfl) (argsL := [(.int i), (.ref t)]) (rest := []) (lenOf pd_3 rfl) rfl (by show 2 * 0 + _ ≤ _; exact Nat.le_of_eq rfl) (B d59_2) (fun _ _ => ⟨rfl, e0, (by decide : 0 + 0 ≤ _), (by decide : 0 + 0 ≤ _)⟩)
 dsimp only [Pt.U, Pt.locs, Pt.cells, Pt.slots] at X5Z l5Z y5Z z5Z st5Z hQ5Z
 subst y5Z z5Z
 obtain ⟨rfl, N5Zq, e5Z⟩ := hQ5Z
 refine oG st5Z ?_
 have N5Z := oL l5Z (Fr.app N0 N5Zq)
 show oF p e below (T5Z.setTop (mkF m 5 #[.val (.ref t), .val (.int i)] [])) _
 refine oG (fun _ k => XS.aloadN X5Z.here hx rfl (B d59_5) rfl rfl (XS.iloadN X5Z.here hx rfl (B d59_6) rfl k)) ?_
 show oF p e below (T5Z.setTop (mkF m 7 #[.val (.ref t), .val (.int i)] [(.int i), (.ref t)])) _
 obtain ⟨_, _, ⟨T6a, L6a, k6a, n6a⟩, -, X6a, ⟨Lc6a, hQ6a, l6a, y6a, z6a⟩, st6a⟩ := Jvm.LawKit.callS X5Z hx (y := mN53) hown (mo hZ hw 276) (mo hZ hw 277) (mo hZ hw 222) (mo hZ hw 278) (by decide) (backOf (W := 0) (gch l Z a0 hw [] t i kt M vs x_ y_ h0 n0 O j6_ j7_ j8_ V_t ha_ hb_ hat hau) hZ (ow hw 278) (ow hw 222) (by decide) (by decide)) (g := (mkF m 7 #[.val (.ref t), .val (.int i)] [(.int i), (.ref t)])) rfl (by rw [hml]; rfl) (argsL := [(.ref t), (.int i)]) (rest := []) (lenOf pd_34 rfl) rfl (by show 2 * 0 + _ ≤ _; exact Nat.le_of_eq rfl) (B d59_7) (fun _ _ => ⟨rfl, e5Z, (by decide : 0 + 0 ≤ _), (by decide : 0 + 0 ≤ _)⟩)
 dsimp only [Pt.U, Pt.locs, Pt.cells, Pt.slots] at X6a l6a y6a z6a st6a hQ6a
 subst y6a z6a
 obtain ⟨rfl, N6aq, e6a⟩ := hQ6a
 refine oG st6a ?_
 have N6a := oL l6a (Fr.app N5Z N6aq)
 show oF p e below (T6a.setTop (mkF m 10 #[.val (.ref t), .val (.int i)] [(.int (nar .char (((((x_ &&& (255 : Int32)) <<< ((0 : Int32) &&& 31)) ||| ((y_ &&& (255 : Int32)) <<< ((8 : Int32) &&& 31))).toUInt32.toUInt16.toUInt32.toInt32))))])) _
 obtain ⟨fs, hr, r1, r2, hW, r3⟩ := X6a.leave (v := some (.int (nar .char (nar .char (((((x_ &&& (255 : Int32)) <<< ((0 : Int32) &&& 31)) ||| ((y_ &&& (255 : Int32)) <<< ((8 : Int32) &&& 31))).toUInt32.toUInt16.toUInt32.toInt32)))))) (fun h => by rw [Bd.returns] at h; cases h)
 refine ⟨_, _, ?_, r1, r2, _, _, rfl, ?_, ⟨_, rfl⟩, hW, r3.mono (by decide) (by decide)⟩
 ·exact retN X6a hx (t := .char) Bd.returns (by simp) (B d59_10) hr
 ·show Quca Z x_ y_ h0 n0 _ T6a.heap _
  rw [e6a]
  exact ⟨rfl, N6a, rfl⟩
theorem d27_0 : decode k55_ 0 = .ok (.aload_n 0, 1) := by decide +kernel
theorem d27_1 : decode k55_ 1 = .ok (.invokevirtual 492, 3) := by decide +kernel
theorem d27_4 : decode k55_ 4 = .ok (.ifCond .eq 12, 3) := by decide +kernel
theorem d27_7 : decode k55_ 7 = .ok (.aload_n 0, 1) := by decide +kernel
theorem d27_8 : decode k55_ 8 = .ok (.getfield 9, 3) := by decide +kernel
theorem d27_11 : decode k55_ 11 = .ok (.iload_n 1, 1) := by decide +kernel
theorem d27_12 : decode k55_ 12 = .ok (.invokestatic 495, 3) := by decide +kernel
theorem d27_15 : decode k55_ 15 = .ok (.ireturn, 1) := by decide +kernel
theorem d27_16 : decode k55_ 16 = .ok (.aload_n 0, 1) := by decide +kernel
theorem d27_17 : decode k55_ 17 = .ok (.getfield 9, 3) := by decide +kernel
theorem d27_20 : decode k55_ 20 = .ok (.iload_n 1, 1) := by decide +kernel
theorem d27_21 : decode k55_ 21 = .ok (.invokestatic 498, 3) := by decide +kernel
theorem d27_24 : decode k55_ 24 = .ok (.ireturn, 1) := by decide +kernel
def Qcha (Z : State) (cs : List Int32) (k_ : Nat) (h0 : Heap) (n0 : Nat) (v : Option Value) (h : Heap) (L : List Loc) : Prop := v = some (.int (cs.getD k_ 0)) ∧ Fr n0 L ∧ h = h0
theorem cha (l : Launch) (Z : State) (a0 : Array Value) (hw : ∀ d ∈ tables_1, d.before a0 Z = true) (ws : List Jvm.Cond) (s_ : Addr) (i : Int32) (z : Int32) (fm : Value) (t : Addr) (kt : ClassId) (cs : List Int32) (k_ : Nat) (h0 : Heap) (n0 : Nat) (O : Old Z n0 h0) (j6_ : sT0 Z (.int 1)) (j7_ : sT1 Z (.int 0)) (j8_ : sT2 Z (.int 8)) (j5_ : sT3 Z fm) (hfm : fm.isRef = true) (j4_ : sT4 Z (.int z)) (hz : ¬ (z = (0 : Int32))) (E_s_ : eX2 Z h0 s_) (j15_ : own_ST Z h0 s_ t kt cs) (h4 : cs.length ≤ 4) (hik : i.toInt = (k_ : Int)) (hkl : k_ < cs.length) :
   own_MF l Z mN55 jdk_42_method_56_code 2 (some .char) ws rM32 #[(.ref s_), (.int i)] h0 (Qcha Z cs k_ h0 n0) := by
 refine MetFree.of_bodySF (plainFor_of_name pn_2) hisR ?_
 intro p e s m args below meth c s₁ Bd hml0 hP hK
 obtain ⟨rfl, hZ, hh⟩ := hP
 have hx := Bd.exec
 have hby := Bd.bytes
 have B := @hb _ _ hby
 have hml : c.maxLocals = 2 := hml0
 have hown : s.vm.findClass "java/lang/String" = some m.cls := findClass_of_methodNamed Bd.named
 have X0 : Stand p l e rM32 s m #[(.ref s_), (.int i)] below meth c s₁ [] 0 0 := Stand.of_body Bd
 have e0 : s₁.heap = h0 := by rw [← hh, Bd.state]; rfl
 have N0 := Fr.nil n0
 refine own_start (ef_apL0 m s_ i) (Q := own_QE s rM32 (Qcha Z cs k_ h0 n0)) ?_
 show oF p e below (s₁.setTop (mkF m 0 #[.val (.ref s_), .val (.int i)] [])) _
 obtain ⟨j12_, hrg, hd⟩ := j15_
 rcases hd with ⟨j10_, V_t, hla⟩ | ⟨j10_, V_t, -⟩
 ·show oF p e below (s₁.setTop (mkF m 0 #[.val (.ref s_), .val (.int i)] [])) _
  refine oG (fun _ k => XS.aloadN X0.here hx rfl (B d27_0) rfl rfl k) ?_
  show oF p e below (s₁.setTop (mkF m 1 #[.val (.ref s_), .val (.int i)] [(.ref s_)])) _
  obtain ⟨cq6b, kq6b, q6ba, q6bb, q6bc⟩ := isOf hZ e0 E_s_
  obtain ⟨_, _, ⟨T6b, L6b, k6b, n6b⟩, -, X6b, ⟨Lc6b, hQ6b, l6b, y6b, z6b⟩, st6b⟩ := X0.virtualBack hx (y := mN50) (z := mN50) hown (mo hZ hw 147) (mo hZ hw 148) (notFace_of_selects (args := #[]) (mo hZ hw 150)) (mo hZ hw 150) (mo hZ hw 149) (by decide) (backOf (W := 0) (sl0 l Z a0 hw [] s_ z h0 n0 O j4_ hz j10_) hZ (ow hw 151) (ow hw 30) (by decide) (by decide)) q6ba q6bc (g := (mkF m 1 #[.val (.ref s_), .val (.int i)] [(.ref s_)])) rfl (by rw [hml]; rfl) (Steps.refl _) (argsL := []) (rest := []) (lenOf pd_10 rfl) rfl (by show 2 * 0 + _ ≤ _; exact Nat.le_of_eq rfl) (B d27_1) (fun _ _ => ⟨rfl, e0, (by decide : 0 + 0 ≤ _), (by decide : 0 + 0 ≤ _)⟩)
  dsimp only [Pt.U, Pt.locs, Pt.cells, Pt.slots] at X6b l6b y6b z6b st6b hQ6b
  subst y6b z6b
  obtain ⟨rfl, N6bq, e6b⟩ := hQ6b
  refine oG (fun _ k => st6b.trans k) ?_
  have N6b := oL l6b (Fr.app N0 N6bq)
  show oF p e below (T6b.setTop (mkF m 4 #[.val (.ref s_), .val (.int i)] [(.int 1)])) _
  refine oG (fun _ k => XS.ifNo X6b.here hx rfl (B d27_4) rfl ((if0 _ _).trans (feq (by decide : ¬ ((1 : Int32) = (0 : Int32)))).1) (XS.aloadN X6b.here hx rfl (B d27_7) rfl rfl k)) ?_
  show oF p e below (T6b.setTop (mkF m 8 #[.val (.ref s_), .val (.int i)] [(.ref s_)])) _
  obtain ⟨T6c, X6c, e6c, st6c⟩ := getF X6b hx hZ hown (host := "") (Or.inl (ow hw 122)) Via.refl e6b j12_ (g := (mkF m 8 #[.val (.ref s_), .val (.int i)] [(.ref s_)])) rfl rfl (B d27_8)
  refine oG st6c ?_
  show oF p e below (T6c.setTop (mkF m 11 #[.val (.ref s_), .val (.int i)] [(.ref t)])) _
  refine oG (fun _ k => XS.iloadN X6c.here hx rfl (B d27_11) rfl k) ?_
  show oF p e below (T6c.setTop (mkF m 12 #[.val (.ref s_), .val (.int i)] [(.int i), (.ref t)])) _
  obtain ⟨_, _, ⟨T6d, L6d, k6d, n6d⟩, -, X6d, ⟨Lc6d, hQ6d, l6d, y6d, z6d⟩, st6d⟩ := Jvm.LawKit.callS X6c hx (y := mN52) hown (mo hZ hw 152) (mo hZ hw 153) (mo hZ hw 76) (mo hZ hw 154) (by decide) (backOf (W := 0) (lca l Z a0 hw [] t i fm kt (Int32.ofNat cs.length) (own_u8 cs) (own_by (cs.getD k_ 0)) h0 n0 O j5_ hfm V_t (own_je hik) (own_jg hik hkl h4) (own_jh hik hkl)) hZ (ow hw 154) (ow hw 76) (by decide) (by decide)) (g := (mkF m 12 #[.val (.ref s_), .val (.int i)] [(.int i), (.ref t)])) rfl (by rw [hml]; rfl) (argsL := [(.ref t), (.int i)]) (rest := []) (lenOf pd_34 rfl) rfl (by show 2 * 0 + _ ≤ _; exact Nat.le_of_eq rfl) (B d27_12) (fun _ _ => ⟨rfl, e6c, (by decide : 0 + 0 ≤ _), (by decide : 0 + 0 ≤ _)⟩)
  dsimp only [Pt.U, Pt.locs, Pt.cells, Pt.slots] at X6d l6d y6d z6d st6d hQ6d
  subst y6d z6d
  obtain ⟨rfl, N6dq, e6d⟩ := hQ6d
  refine oG st6d ?_
  have N6d := oL l6d (Fr.app N6b N6dq)
  show oF p e below (T6d.setTop (mkF m 15 #[.val (.ref s_), .val (.int i)] [(.int (nar .char (((own_by (cs.getD k_ 0)) &&& (255 : Int32)).toUInt32.toUInt16.toUInt32.toInt32)))])) _
  obtain ⟨fs, hr, r1, r2, hW, r3⟩ := X6d.leave (v := some (.int (nar .char (nar .char (((own_by (cs.getD k_ 0)) &&& (255 : Int32)).toUInt32.toUInt16.toUInt32.toInt32))))) (fun h => by rw [Bd.returns] at h; cases h)
  refine ⟨_, _, ?_, r1, r2, _, _, rfl, ?_, ⟨_, rfl⟩, hW, r3.mono (by decide) (by decide)⟩
  ·exact retN X6d hx (t := .char) Bd.returns (by simp) (B d27_15) hr
  ·show Qcha Z cs k_ h0 n0 _ T6d.heap _
   rw [e6d]
   exact ⟨(by rw [own_ca8 hrg hla hkl]), N6d, rfl⟩
 ·show oF p e below (s₁.setTop (mkF m 0 #[.val (.ref s_), .val (.int i)] [])) _
  refine oG (fun _ k => XS.aloadN X0.here hx rfl (B d27_0) rfl rfl k) ?_
  show oF p e below (s₁.setTop (mkF m 1 #[.val (.ref s_), .val (.int i)] [(.ref s_)])) _
  obtain ⟨cq6e, kq6e, q6ea, q6eb, q6ec⟩ := isOf hZ e0 E_s_
  obtain ⟨_, _, ⟨T6e, L6e, k6e, n6e⟩, -, X6e, ⟨Lc6e, hQ6e, l6e, y6e, z6e⟩, st6e⟩ := X0.virtualBack hx (y := mN50) (z := mN50) hown (mo hZ hw 147) (mo hZ hw 148) (notFace_of_selects (args := #[]) (mo hZ hw 150)) (mo hZ hw 150) (mo hZ hw 149) (by decide) (backOf (W := 0) (sl1 l Z a0 hw [] s_ z h0 n0 O j4_ hz j10_) hZ (ow hw 151) (ow hw 30) (by decide) (by decide)) q6ea q6ec (g := (mkF m 1 #[.val (.ref s_), .val (.int i)] [(.ref s_)])) rfl (by rw [hml]; rfl) (Steps.refl _) (argsL := []) (rest := []) (lenOf pd_10 rfl) rfl (by show 2 * 0 + _ ≤ _; exact Nat.le_of_eq rfl) (B d27_1) (fun _ _ => ⟨rfl, e0, (by decide : 0 + 0 ≤ _), (by decide : 0 + 0 ≤ _)⟩)
  dsimp only [Pt.U, Pt.locs, Pt.cells, Pt.slots] at X6e l6e y6e z6e st6e hQ6e
  subst y6e z6e
  obtain ⟨rfl, N6eq, e6e⟩ := hQ6e
  refine oG (fun _ k => st6e.trans k) ?_
  have N6e := oL l6e (Fr.app N0 N6eq)
  show oF p e below (T6e.setTop (mkF m 4 #[.val (.ref s_), .val (.int i)] [(.int 0)])) _
  refine oG (fun _ k => XS.ifYes X6e.here hx rfl (pc0 := 4) (pc' := 16) rfl (B d27_4) rfl ((if0 _ _).trans (teq (by decide : (0 : Int32) = (0 : Int32))).1) (by decide) (by decide) (XS.aloadN X6e.here hx rfl (B d27_16) rfl rfl k)) ?_
  show oF p e below (T6e.setTop (mkF m 17 #[.val (.ref s_), .val (.int i)] [(.ref s_)])) _
  obtain ⟨T6f, X6f, e6f, st6f⟩ := getF X6e hx hZ hown (host := "") (Or.inl (ow hw 122)) Via.refl e6e j12_ (g := (mkF m 17 #[.val (.ref s_), .val (.int i)] [(.ref s_)])) rfl rfl (B d27_17)
  refine oG st6f ?_
  show oF p e below (T6f.setTop (mkF m 20 #[.val (.ref s_), .val (.int i)] [(.ref t)])) _
  refine oG (fun _ k => XS.iloadN X6f.here hx rfl (B d27_20) rfl k) ?_
  show oF p e below (T6f.setTop (mkF m 21 #[.val (.ref s_), .val (.int i)] [(.int i), (.ref t)])) _
  obtain ⟨_, _, ⟨T6g, L6g, k6g, n6g⟩, -, X6g, ⟨Lc6g, hQ6g, l6g, y6g, z6g⟩, st6g⟩ := Jvm.LawKit.callS X6f hx (y := mN54) hown (mo hZ hw 269) (mo hZ hw 270) (mo hZ hw 222) (mo hZ hw 271) (by decide) (backOf (W := 0) (uca l Z a0 hw [] t i fm kt ((Int32.ofNat cs.length) <<< ((1 : Int32) &&& 31)) (own_u16 cs) (own_lo (cs.getD k_ 0)) (own_hi (cs.getD k_ 0)) h0 n0 O j6_ j7_ j8_ j5_ hfm V_t (own_ja hik hkl h4) (own_jb hik hkl h4) (own_jc hik hkl h4) (own_jd hik hkl h4) (own_je hik) (own_jf hik hkl h4)) hZ (ow hw 271) (ow hw 222) (by decide) (by decide)) (g := (mkF m 21 #[.val (.ref s_), .val (.int i)] [(.int i), (.ref t)])) rfl (by rw [hml]; rfl) (argsL := [(.ref t), (.int i)]) (rest := []) (lenOf pd_34 rfl) rfl (by show 2 * 0 + _ ≤ _; exact Nat.le_of_eq rfl) (B d27_21) (fun _ _ => ⟨rfl, e6f, (by decide : 0 + 0 ≤ _), (by decide : 0 + 0 ≤ _)⟩)
  dsimp only [Pt.U, Pt.locs, Pt.cells, Pt.slots] at X6g l6g y6g z6g st6g hQ6g
  subst y6g z6g
  obtain ⟨rfl, N6gq, e6g⟩ := hQ6g
  refine oG st6g ?_
  have N6g := oL l6g (Fr.app N6e N6gq)
  show oF p e below (T6g.setTop (mkF m 24 #[.val (.ref s_), .val (.int i)] [(.int (nar .char (nar .char ((((((own_lo (cs.getD k_ 0)) &&& (255 : Int32)) <<< ((0 : Int32) &&& 31)) ||| (((own_hi (cs.getD k_ 0)) &&& (255 : Int32)) <<< ((8 : Int32) &&& 31))).toUInt32.toUInt16.toUInt32.toInt32)))))])) _
  obtain ⟨fs, hr, r1, r2, hW, r3⟩ := X6g.leave (v := some (.int (nar .char (nar .char (nar .char ((((((own_lo (cs.getD k_ 0)) &&& (255 : Int32)) <<< ((0 : Int32) &&& 31)) ||| (((own_hi (cs.getD k_ 0)) &&& (255 : Int32)) <<< ((8 : Int32) &&& 31))).toUInt32.toUInt16.toUInt32.toInt32))))))) (fun h => by rw [Bd.returns] at h; cases h)
  refine ⟨_, _, ?_, r1, r2, _, _, rfl, ?_, ⟨_, rfl⟩, hW, r3.mono (by decide) (by decide)⟩
  ·exact retN X6g hx (t := .char) Bd.returns (by simp) (B d27_24) hr
  ·show Qcha Z cs k_ h0 n0 _ T6g.heap _
   rw [e6g]
   exact ⟨(by rw [own_ca16 hrg hkl]), N6g, rfl⟩
theorem d26_0 : decode k56_ 0 = .ok (.iload_n 2, 1) := by decide +kernel
theorem d26_1 : decode k56_ 1 = .ok (.ldc 38, 2) := by decide +kernel
theorem d26_3 : decode k56_ 3 = .ok (.if_icmp .ge 19, 3) := by decide +kernel
theorem d26_6 : decode k56_ 6 = .ok (.aload_n 0, 1) := by decide +kernel
theorem d26_7 : decode k56_ 7 = .ok (.iload_n 1, 1) := by decide +kernel
theorem d26_8 : decode k56_ 8 = .ok (.invokevirtual 40, 3) := by decide +kernel
theorem d26_11 : decode k56_ 11 = .ok (.iload_n 2, 1) := by decide +kernel
theorem d26_12 : decode k56_ 12 = .ok (.i2c, 1) := by decide +kernel
theorem d26_13 : decode k56_ 13 = .ok (.if_icmp .ne 7, 3) := by decide +kernel
theorem d26_16 : decode k56_ 16 = .ok (.iconst 1, 1) := by decide +kernel
theorem d26_17 : decode k56_ 17 = .ok (.goto 4, 3) := by decide +kernel
theorem d26_21 : decode k56_ 21 = .ok (.ireturn, 1) := by decide +kernel
theorem d26_22 : decode k56_ 22 = .ok (.iload_n 2, 1) := by decide +kernel
theorem d26_23 : decode k56_ 23 = .ok (.ldc 38, 2) := by decide +kernel
theorem d26_25 : decode k56_ 25 = .ok (.isub, 1) := by decide +kernel
theorem d26_26 : decode k56_ 26 = .ok (.istore_n 3, 1) := by decide +kernel
theorem d26_27 : decode k56_ 27 = .ok (.aload_n 0, 1) := by decide +kernel
theorem d26_28 : decode k56_ 28 = .ok (.iload_n 1, 1) := by decide +kernel
theorem d26_29 : decode k56_ 29 = .ok (.invokevirtual 40, 3) := by decide +kernel
theorem d26_32 : decode k56_ 32 = .ok (.ldc 44, 2) := by decide +kernel
theorem d26_34 : decode k56_ 34 = .ok (.iload_n 3, 1) := by decide +kernel
theorem d26_35 : decode k56_ 35 = .ok (.sipush 1024, 3) := by decide +kernel
theorem d26_38 : decode k56_ 38 = .ok (.idiv, 1) := by decide +kernel
theorem d26_39 : decode k56_ 39 = .ok (.iadd, 1) := by decide +kernel
theorem d26_40 : decode k56_ 40 = .ok (.i2c, 1) := by decide +kernel
theorem d26_41 : decode k56_ 41 = .ok (.if_icmp .ne 26, 3) := by decide +kernel
theorem d26_44 : decode k56_ 44 = .ok (.aload_n 0, 1) := by decide +kernel
theorem d26_45 : decode k56_ 45 = .ok (.iload_n 1, 1) := by decide +kernel
theorem d26_46 : decode k56_ 46 = .ok (.iconst 1, 1) := by decide +kernel
theorem d26_47 : decode k56_ 47 = .ok (.iadd, 1) := by decide +kernel
theorem d26_48 : decode k56_ 48 = .ok (.invokevirtual 40, 3) := by decide +kernel
theorem d26_51 : decode k56_ 51 = .ok (.ldc 45, 2) := by decide +kernel
theorem d26_53 : decode k56_ 53 = .ok (.iload_n 3, 1) := by decide +kernel
theorem d26_54 : decode k56_ 54 = .ok (.sipush 1024, 3) := by decide +kernel
theorem d26_57 : decode k56_ 57 = .ok (.irem, 1) := by decide +kernel
theorem d26_58 : decode k56_ 58 = .ok (.iadd, 1) := by decide +kernel
theorem d26_59 : decode k56_ 59 = .ok (.i2c, 1) := by decide +kernel
theorem d26_60 : decode k56_ 60 = .ok (.if_icmp .ne 7, 3) := by decide +kernel
theorem d26_63 : decode k56_ 63 = .ok (.iconst 1, 1) := by decide +kernel
theorem d26_64 : decode k56_ 64 = .ok (.goto 4, 3) := by decide +kernel
theorem d26_68 : decode k56_ 68 = .ok (.ireturn, 1) := by decide +kernel
theorem pn_8 : plainName "com/example/espalier/espalier/EntriesIdPinLaw" = true := by first | (simp [plainName, overriddenIn]; done) | decide +kernel
theorem ef_hu (m : MethodId) (x0 : Addr) (x1 : Int32) (x2 : Int32) : entryFrame m #[(.ref x0), (.int x1), (.int x2)] 4 = mkF m 0 #[.val (.ref x0), .val (.int x1), .val (.int x2), .unset] [] := by first | (simp [entryFrame, mkF, argsToLocals, Value.category]; done) | rfl
def Qhu (Z : State)  (h0 : Heap) (n0 : Nat) (v : Option Value) (h : Heap) (L : List Loc) : Prop := v = some (.int 1) ∧ Fr n0 L ∧ h = h0
theorem hu (l : Launch) (Z : State) (a0 : Array Value) (hw : ∀ d ∈ tables_1, d.before a0 Z = true) (ws : List Jvm.Cond) (s_ : Addr) (i : Int32) (q : Int32) (z : Int32) (fm : Value) (t : Addr) (kt : ClassId) (cs : List Int32) (pr : List Int32) (po : List Int32) (h0 : Heap) (n0 : Nat) (O : Old Z n0 h0) (j6_ : sT0 Z (.int 1)) (j7_ : sT1 Z (.int 0)) (j8_ : sT2 Z (.int 8)) (j5_ : sT3 Z fm) (hfm : fm.isRef = true) (j4_ : sT4 Z (.int z)) (hz : ¬ (z = (0 : Int32))) (E_s_ : eX2 Z h0 s_) (j15_ : own_ST Z h0 s_ t kt cs) (h4 : cs.length ≤ 4) (hcp : own_cp q) (ecs : cs = pr ++ (own_un q ++ po)) (hip : i.toInt = (pr.length : Int)) :
   own_MF l Z mN56 method_6_code 4 (some .boolean) ws rM33 #[(.ref s_), (.int i), (.int q)] h0 (Qhu Z  h0 n0) := by
 refine MetFree.of_bodySF (plainFor_of_name pn_8) hisR ?_
 intro p e s m args below meth c s₁ Bd hml0 hP hK
 obtain ⟨rfl, hZ, hh⟩ := hP
 have hx := Bd.exec
 have hby := Bd.bytes
 have B := @hb _ _ hby
 have hml : c.maxLocals = 4 := hml0
 have hown : s.vm.findClass "com/example/espalier/espalier/EntriesIdPinLaw" = some m.cls := findClass_of_methodNamed Bd.named
 have X0 : Stand p l e rM33 s m #[(.ref s_), (.int i), (.int q)] below meth c s₁ [] 0 0 := Stand.of_body Bd
 have e0 : s₁.heap = h0 := by rw [← hh, Bd.state]; rfl
 have N0 := Fr.nil n0
 refine own_start (ef_hu m s_ i q) (Q := own_QE s rM33 (Qhu Z  h0 n0)) ?_
 show oF p e below (s₁.setTop (mkF m 0 #[.val (.ref s_), .val (.int i), .val (.int q), .unset] [])) _
 refine oG (fun _ k => XS.iloadN X0.here hx rfl (B d26_0) rfl k) ?_
 show oF p e below (s₁.setTop (mkF m 1 #[.val (.ref s_), .val (.int i), .val (.int q), .unset] [(.int q)])) _
 refine oG (fun _ k => X0.ldcInt hx hown (mo hZ hw 127) (g := (mkF m 1 #[.val (.ref s_), .val (.int i), .val (.int q), .unset] [(.int q)])) rfl (B d26_1) _ k) ?_
 show oF p e below (s₁.setTop (mkF m 3 #[.val (.ref s_), .val (.int i), .val (.int q), .unset] [(.int 65536), (.int q)])) _
 by_cases hc3_490 : q < (65536 : Int32)
 ·refine oG (fun _ k => XS.icmpNo X0.here hx rfl (B d26_3) rfl (tlt hc3_490).2.1 (XS.aloadN X0.here hx rfl (B d26_6) rfl rfl (XS.iloadN X0.here hx rfl (B d26_7) rfl k))) ?_
  show oF p e below (s₁.setTop (mkF m 8 #[.val (.ref s_), .val (.int i), .val (.int q), .unset] [(.int i), (.ref s_)])) _
  obtain ⟨cq6h, kq6h, q6ha, q6hb, q6hc⟩ := isOf hZ e0 E_s_
  obtain ⟨_, _, ⟨T6h, L6h, k6h, n6h⟩, -, X6h, ⟨Lc6h, hQ6h, l6h, y6h, z6h⟩, st6h⟩ := X0.virtualBack hx (y := mN55) (z := mN55) hown (mo hZ hw 142) (mo hZ hw 143) (notFace_of_selects (args := #[]) (mo hZ hw 145)) (mo hZ hw 145) (mo hZ hw 144) (by decide) (backOf (W := 0) (cha l Z a0 hw [] s_ i z fm t kt cs (pr.length) h0 n0 O j6_ j7_ j8_ j5_ hfm j4_ hz E_s_ j15_ h4 hip (own_h1 ecs)) hZ (ow hw 146) (ow hw 30) (by decide) (by decide)) q6ha q6hc (g := (mkF m 8 #[.val (.ref s_), .val (.int i), .val (.int q), .unset] [(.int i), (.ref s_)])) rfl (by rw [hml]; rfl) (Steps.refl _) (argsL := [(.int i)]) (rest := []) (lenOf pd_22 rfl) rfl (by show 2 * 0 + _ ≤ _; exact Nat.le_of_eq rfl) (B d26_8) (fun _ _ => ⟨rfl, e0, (by decide : 0 + 0 ≤ _), (by decide : 0 + 0 ≤ _)⟩)
  dsimp only [Pt.U, Pt.locs, Pt.cells, Pt.slots] at X6h l6h y6h z6h st6h hQ6h
  subst y6h z6h
  obtain ⟨rfl, N6hq, e6h⟩ := hQ6h
  refine oG (fun _ k => st6h.trans k) ?_
  have N6h := oL l6h (Fr.app N0 N6hq)
  show oF p e below (T6h.setTop (mkF m 11 #[.val (.ref s_), .val (.int i), .val (.int q), .unset] [(.int (cs.getD pr.length 0))])) _
  refine oG (fun _ k => XS.iloadN X6h.here hx rfl (B d26_11) rfl (XS.i2c X6h.here hx rfl (B d26_12) rfl (XS.icmpNo X6h.here hx rfl (B d26_13) rfl (teq ((own_hu1 ecs hc3_490) : (cs.getD pr.length 0) = (q.toUInt32.toUInt16.toUInt32.toInt32))).2 (XS.iconst X6h.here hx rfl (B d26_16) (XS.goto X6h.here hx rfl (pc0 := 17) (pc' := 21) rfl (B d26_17) (by decide) (by decide) k))))) ?_
  show oF p e below (T6h.setTop (mkF m 21 #[.val (.ref s_), .val (.int i), .val (.int q), .unset] [(.int 1)])) _
  obtain ⟨fs, hr, r1, r2, hW, r3⟩ := X6h.leave (v := some (.int 1)) (fun h => by rw [Bd.returns] at h; cases h)
  refine ⟨_, _, ?_, r1, r2, _, _, rfl, ?_, ⟨_, rfl⟩, hW, r3.mono (by decide) (by decide)⟩
  ·exact retN X6h hx (t := .boolean) Bd.returns (by simp) (B d26_21) hr
  ·show Qhu Z  h0 n0 _ T6h.heap _
   rw [e6h]
   exact ⟨rfl, N6h, rfl⟩
 ·refine oG (fun _ k => XS.icmpYes X0.here hx rfl (pc0 := 3) (pc' := 22) rfl (B d26_3) rfl (flt hc3_490).2.1 (by decide) (by decide) (XS.iloadN X0.here hx rfl (B d26_22) rfl k)) ?_
  show oF p e below (s₁.setTop (mkF m 23 #[.val (.ref s_), .val (.int i), .val (.int q), .unset] [(.int q)])) _
  refine oG (fun _ k => X0.ldcInt hx hown (mo hZ hw 127) (g := (mkF m 23 #[.val (.ref s_), .val (.int i), .val (.int q), .unset] [(.int q)])) rfl (B d26_23) _ k) ?_
  show oF p e below (s₁.setTop (mkF m 25 #[.val (.ref s_), .val (.int i), .val (.int q), .unset] [(.int 65536), (.int q)])) _
  refine oG (fun _ k => XS.isub X0.here hx rfl (B d26_25) rfl (XS.istoreN X0.here hx rfl (B d26_26) rfl (l' := #[.val (.ref s_), .val (.int i), .val (.int q), .val (.int (q - (65536 : Int32)))]) rfl (XS.aloadN X0.here hx rfl (B d26_27) rfl rfl (XS.iloadN X0.here hx rfl (B d26_28) rfl k)))) ?_
  show oF p e below (s₁.setTop (mkF m 29 #[.val (.ref s_), .val (.int i), .val (.int q), .val (.int (q - (65536 : Int32)))] [(.int i), (.ref s_)])) _
  obtain ⟨cq6i, kq6i, q6ia, q6ib, q6ic⟩ := isOf hZ e0 E_s_
  obtain ⟨_, _, ⟨T6i, L6i, k6i, n6i⟩, -, X6i, ⟨Lc6i, hQ6i, l6i, y6i, z6i⟩, st6i⟩ := X0.virtualBack hx (y := mN55) (z := mN55) hown (mo hZ hw 142) (mo hZ hw 143) (notFace_of_selects (args := #[]) (mo hZ hw 145)) (mo hZ hw 145) (mo hZ hw 144) (by decide) (backOf (W := 0) (cha l Z a0 hw [] s_ i z fm t kt cs (pr.length) h0 n0 O j6_ j7_ j8_ j5_ hfm j4_ hz E_s_ j15_ h4 hip (own_h1 ecs)) hZ (ow hw 146) (ow hw 30) (by decide) (by decide)) q6ia q6ic (g := (mkF m 29 #[.val (.ref s_), .val (.int i), .val (.int q), .val (.int (q - (65536 : Int32)))] [(.int i), (.ref s_)])) rfl (by rw [hml]; rfl) (Steps.refl _) (argsL := [(.int i)]) (rest := []) (lenOf pd_22 rfl) rfl (by show 2 * 0 + _ ≤ _; exact Nat.le_of_eq rfl) (B d26_29) (fun _ _ => ⟨rfl, e0, (by decide : 0 + 0 ≤ _), (by decide : 0 + 0 ≤ _)⟩)
  dsimp only [Pt.U, Pt.locs, Pt.cells, Pt.slots] at X6i l6i y6i z6i st6i hQ6i
  subst y6i z6i
  obtain ⟨rfl, N6iq, e6i⟩ := hQ6i
  refine oG (fun _ k => st6i.trans k) ?_
  have N6i := oL l6i (Fr.app N0 N6iq)
  show oF p e below (T6i.setTop (mkF m 32 #[.val (.ref s_), .val (.int i), .val (.int q), .val (.int (q - (65536 : Int32)))] [(.int (cs.getD pr.length 0))])) _
  refine oG (fun _ k => X6i.ldcInt hx hown (mo hZ hw 279) (g := (mkF m 32 #[.val (.ref s_), .val (.int i), .val (.int q), .val (.int (q - (65536 : Int32)))] [(.int (cs.getD pr.length 0))])) rfl (B d26_32) _ k) ?_
  show oF p e below (T6i.setTop (mkF m 34 #[.val (.ref s_), .val (.int i), .val (.int q), .val (.int (q - (65536 : Int32)))] [(.int 55296), (.int (cs.getD pr.length 0))])) _
  refine oG (fun _ k => XS.iloadN X6i.here hx rfl (B d26_34) rfl (XS.sipush X6i.here hx rfl (B d26_35) (XS.idiv X6i.here hx rfl (B d26_38) rfl (by decide) (XS.iadd X6i.here hx rfl (B d26_39) rfl (XS.i2c X6i.here hx rfl (B d26_40) rfl (XS.icmpNo X6i.here hx rfl (B d26_41) rfl (teq ((own_hu2 ecs hcp hc3_490) : (cs.getD pr.length 0) = (((55296 : Int32) + ((q - (65536 : Int32)) / (1024 : Int32))).toUInt32.toUInt16.toUInt32.toInt32))).2 (XS.aloadN X6i.here hx rfl (B d26_44) rfl rfl (XS.iloadN X6i.here hx rfl (B d26_45) rfl (XS.iconst X6i.here hx rfl (B d26_46) (XS.iadd X6i.here hx rfl (B d26_47) rfl k)))))))))) ?_
  show oF p e below (T6i.setTop (mkF m 48 #[.val (.ref s_), .val (.int i), .val (.int q), .val (.int (q - (65536 : Int32)))] [(.int (i + (1 : Int32))), (.ref s_)])) _
  obtain ⟨cq6j, kq6j, q6ja, q6jb, q6jc⟩ := isOf hZ e6i E_s_
  obtain ⟨_, _, ⟨T6j, L6j, k6j, n6j⟩, -, X6j, ⟨Lc6j, hQ6j, l6j, y6j, z6j⟩, st6j⟩ := X6i.virtualBack hx (y := mN55) (z := mN55) hown (mo hZ hw 142) (mo hZ hw 143) (notFace_of_selects (args := #[]) (mo hZ hw 145)) (mo hZ hw 145) (mo hZ hw 144) (by decide) (backOf (W := 0) (cha l Z a0 hw [] s_ (i + (1 : Int32)) z fm t kt cs (pr.length + 1) h0 n0 O j6_ j7_ j8_ j5_ hfm j4_ hz E_s_ j15_ h4 (own_h3 hip h4 ecs) (own_h2 ecs hc3_490)) hZ (ow hw 146) (ow hw 30) (by decide) (by decide)) q6ja q6jc (g := (mkF m 48 #[.val (.ref s_), .val (.int i), .val (.int q), .val (.int (q - (65536 : Int32)))] [(.int (i + (1 : Int32))), (.ref s_)])) rfl (by rw [hml]; rfl) (Steps.refl _) (argsL := [(.int (i + (1 : Int32)))]) (rest := []) (lenOf pd_22 rfl) rfl (by show 2 * 0 + _ ≤ _; exact Nat.le_of_eq rfl) (B d26_48) (fun _ _ => ⟨rfl, e6i, (by decide : 0 + 0 ≤ _), (by decide : 0 + 0 ≤ _)⟩)
  dsimp only [Pt.U, Pt.locs, Pt.cells, Pt.slots] at X6j l6j y6j z6j st6j hQ6j
  subst y6j z6j
  obtain ⟨rfl, N6jq, e6j⟩ := hQ6j
  refine oG (fun _ k => st6j.trans k) ?_
  have N6j := oL l6j (Fr.app N6i N6jq)
  show oF p e below (T6j.setTop (mkF m 51 #[.val (.ref s_), .val (.int i), .val (.int q), .val (.int (q - (65536 : Int32)))] [(.int (cs.getD (pr.length + 1) 0))])) _
  refine oG (fun _ k => X6j.ldcInt hx hown (mo hZ hw 280) (g := (mkF m 51 #[.val (.ref s_), .val (.int i), .val (.int q), .val (.int (q - (65536 : Int32)))] [(.int (cs.getD (pr.length + 1) 0))])) rfl (B d26_51) _ k) ?_
  show oF p e below (T6j.setTop (mkF m 53 #[.val (.ref s_), .val (.int i), .val (.int q), .val (.int (q - (65536 : Int32)))] [(.int 56320), (.int (cs.getD (pr.length + 1) 0))])) _
  refine oG (fun _ k => XS.iloadN X6j.here hx rfl (B d26_53) rfl (XS.sipush X6j.here hx rfl (B d26_54) (iremM X6j hx rfl (B d26_57) rfl (by decide) (XS.iadd X6j.here hx rfl (B d26_58) rfl (XS.i2c X6j.here hx rfl (B d26_59) rfl (XS.icmpNo X6j.here hx rfl (B d26_60) rfl (teq ((own_hu3 ecs hcp hc3_490) : (cs.getD (pr.length + 1) 0) = (((56320 : Int32) + ((q - (65536 : Int32)) % (1024 : Int32))).toUInt32.toUInt16.toUInt32.toInt32))).2 (XS.iconst X6j.here hx rfl (B d26_63) (XS.goto X6j.here hx rfl (pc0 := 64) (pc' := 68) rfl (B d26_64) (by decide) (by decide) k)))))))) ?_
  show oF p e below (T6j.setTop (mkF m 68 #[.val (.ref s_), .val (.int i), .val (.int q), .val (.int (q - (65536 : Int32)))] [(.int 1)])) _
  obtain ⟨fs, hr, r1, r2, hW, r3⟩ := X6j.leave (v := some (.int 1)) (fun h => by rw [Bd.returns] at h; cases h)
  refine ⟨_, _, ?_, r1, r2, _, _, rfl, ?_, ⟨_, rfl⟩, hW, r3.mono (by decide) (by decide)⟩
  ·exact retN X6j hx (t := .boolean) Bd.returns (by simp) (B d26_68) hr
  ·show Qhu Z  h0 n0 _ T6j.heap _
   rw [e6j]
   exact ⟨rfl, N6j, rfl⟩
theorem own_keyc (q : Int32) (r : List Int32) : own_key (q :: r) = own_enc q ++ own_key r := rfl
theorem own_xa {ii M : Int32} {cps dn : List Int32} (hii : ii.toInt = ((own_key dn).length : Int)) (hdn : cps = dn ++ []) (hMk : M.toInt = ((own_key cps).length : Int)) : ¬ (ii < M) := by
 rw [List.append_nil] at hdn; subst hdn
 rw [Int32.lt_iff_toInt_lt]; omega
theorem own_xb {ii M q : Int32} {cps dn rem : List Int32} (hii : ii.toInt = ((own_key dn).length : Int)) (hdn : cps = dn ++ q :: rem) (hMk : M.toInt = ((own_key cps).length : Int)) : ii < M := by
 rw [hdn, own_key_app, own_keyc, List.length_append, List.length_append] at hMk
 have := (own_enl q).1
 rw [Int32.lt_iff_toInt_lt]; omega
theorem own_jz {ii : Int32} {n : Nat} (hii : ii.toInt = (n : Int)) : ii.toInt = ((n + 0 : Nat) : Int) := hii
theorem own_jj {ii : Int32} {n : Nat} (hii : ii.toInt = (n : Int)) (h8 : n ≤ 8) (k : Int32) {K : Nat} (hk : k.toInt = (K : Int)) (hK : K ≤ 4) : (ii + k).toInt = ((n + K : Nat) : Int) := by
 have a := c_iadd ii k
 have r := rng32 (ii + k)
 omega
theorem own_ldi {J M q : Int32} {cps dn rem : List Int32} {k : Nat} {l : List Value} (hdn : cps = dn ++ q :: rem) (hMk : M.toInt = ((own_key cps).length : Int)) (hJ : J.toInt = (((own_key dn).length + k : Nat) : Int)) (henc : own_enc q = l) (hk : k < l.length) : ¬ J < 0 ∧ J < M := by
 rw [hdn, own_key_app, own_keyc, henc, List.length_append, List.length_append] at hMk
 exact own_inj hJ (by omega)
theorem own_lda {J q : Int32} {cps dn rem : List Int32} {k : Nat} {l : List Value} {d : Value} (hdn : cps = dn ++ q :: rem) (hJ : J.toInt = (((own_key dn).length + k : Nat) : Int)) (henc : own_enc q = l) (hk : k < l.length) : (own_key cps).getD J.toNatClampNeg d = l.getD k d := by
 have b := own_cn (N := J) (by omega)
 have e : J.toNatClampNeg = (own_key dn).length + k := by omega
 rw [e, hdn, own_key_app, own_keyc, own_gd, henc, List.getD_eq_getElem?_getD, List.getD_eq_getElem?_getD, List.getElem?_append_left hk]
theorem own_inx {ii k q : Int32} {dn : List Int32} {l : List Value} (hii : ii.toInt = ((own_key dn).length : Int)) (h8 : (own_key dn).length ≤ 8) (henc : own_enc q = l) (hk : k.toInt = (l.length : Int)) (hK : l.length ≤ 4) : (ii + k).toInt = ((own_key (dn ++ [q])).length : Int) := by
 rw [own_jj hii h8 k hk hK, own_key_app, own_keyc, henc, List.length_append, List.length_append]; rfl
theorem own_inx2 {ii k q : Int32} {dn : List Int32} (hii : ii.toInt = ((own_key dn).length : Int)) (h8 : (own_key dn).length ≤ 8) (hk : k.toInt = ((own_enc q).length : Int)) : (ii + k).toInt = ((own_key (dn ++ [q])).length : Int) := own_inx hii h8 rfl hk (own_enl q).2
theorem own_uns1 (dn : List Int32) (q : Int32) : own_uns (dn ++ [q]) = own_uns dn ++ own_un q := by
 rw [own_uns_app]; show own_uns dn ++ (own_un q ++ []) = _; rw [List.append_nil]
theorem own_scl {M q : Int32} {cps dn rem : List Int32} (hdn : cps = dn ++ q :: rem) (hMk : M.toInt = ((own_key cps).length : Int)) : ((own_uns dn ++ own_un q).length : Int) ≤ M.toInt := by
 rw [hdn, own_key_app, own_keyc, List.length_append, List.length_append] at hMk
 rw [List.length_append]
 have a := own_unsle dn
 have b := (own_unle q).1
 omega
theorem own_M8 {M : Int32} {cps : List Int32} (hMk : M.toInt = ((own_key cps).length : Int)) (h2 : cps.length ≤ 2) : M.toInt ≤ 8 := by
 have := own_keyl cps h2; omega
theorem own_uns4 (l : List Int32) (h : l.length ≤ 2) : (own_uns l).length ≤ 4 := by
 rcases l with _ | ⟨a, _ | ⟨b, _ | ⟨c, r⟩⟩⟩
 · exact Nat.zero_le _
 · show (own_un a ++ []).length ≤ 4; rw [List.append_nil]; have := (own_unl a).2; omega
 · show (own_un a ++ (own_un b ++ [])).length ≤ 4; rw [List.append_nil, List.length_append]; have := (own_unl a).2; have := (own_unl b).2; omega
 · simp only [List.length_cons] at h; omega
theorem own_dl {cps dn rem : List Int32} {q : Int32} (hdn : cps = dn ++ q :: rem) (h2 : cps.length ≤ 2) : dn.length ≤ 1 := by
 rw [hdn, List.length_append] at h2; simp only [List.length_cons] at h2; omega
theorem own_dcp {cps dn rem : List Int32} (hdn : cps = dn ++ rem) (hc : own_cps cps) : own_cps dn := fun z hz => hc z (by rw [hdn]; exact List.mem_append.mpr (Or.inl hz))
theorem own_ile {M : Int32} {cps dn : List Int32} (hdn : cps = dn ++ []) (hMk : M.toInt = ((own_key cps).length : Int)) : ((own_uns dn).length : Int) ≤ M.toInt := by
 rw [List.append_nil] at hdn; subst hdn
 have := own_unsle cps; omega
theorem own_ilt {M : Int32} {cps dn : List Int32} (hdn : cps = dn ++ []) (hMk : M.toInt = ((own_key cps).length : Int)) (hc : own_cps cps) : own_bg (own_uns dn) → ((own_uns dn).length : Int) < M.toInt := by
 rw [List.append_nil] at hdn; subst hdn
 intro g
 have := own_unslt cps hc g; omega
theorem d1_0 : decode k57_ 0 = .ok (.iload_n 0, 1) := by decide +kernel
theorem d1_1 : decode k57_ 1 = .ok (.sipush 128, 3) := by decide +kernel
theorem d1_4 : decode k57_ 4 = .ok (.if_icmp .ge 5, 3) := by decide +kernel
theorem d1_7 : decode k57_ 7 = .ok (.iconst 1, 1) := by decide +kernel
theorem d1_8 : decode k57_ 8 = .ok (.ireturn, 1) := by decide +kernel
theorem d1_9 : decode k57_ 9 = .ok (.iload_n 0, 1) := by decide +kernel
theorem d1_10 : decode k57_ 10 = .ok (.sipush 2048, 3) := by decide +kernel
theorem d1_13 : decode k57_ 13 = .ok (.if_icmp .ge 5, 3) := by decide +kernel
theorem d1_16 : decode k57_ 16 = .ok (.iconst 2, 1) := by decide +kernel
theorem d1_17 : decode k57_ 17 = .ok (.ireturn, 1) := by decide +kernel
theorem d1_18 : decode k57_ 18 = .ok (.iload_n 0, 1) := by decide +kernel
theorem d1_19 : decode k57_ 19 = .ok (.ldc 38, 2) := by decide +kernel
theorem d1_21 : decode k57_ 21 = .ok (.if_icmp .ge 5, 3) := by decide +kernel
theorem d1_24 : decode k57_ 24 = .ok (.iconst 3, 1) := by decide +kernel
theorem d1_25 : decode k57_ 25 = .ok (.ireturn, 1) := by decide +kernel
theorem d1_26 : decode k57_ 26 = .ok (.iconst 4, 1) := by decide +kernel
theorem d1_27 : decode k57_ 27 = .ok (.ireturn, 1) := by decide +kernel
def Qu8n (Z : State) (q : Int32) (h0 : Heap) (n0 : Nat) (v : Option Value) (h : Heap) (L : List Loc) : Prop := v = some (.int (Int32.ofNat (own_enc q).length)) ∧ Fr n0 L ∧ h = h0
theorem u8n (l : Launch) (Z : State) (a0 : Array Value) (hw : ∀ d ∈ tables_1, d.before a0 Z = true) (ws : List Jvm.Cond) (q : Int32) (h0 : Heap) (n0 : Nat) :
   own_MF l Z mN57 method_3_code 1 (some .int) ws rM0 #[(.int q)] h0 (Qu8n Z q h0 n0) := by
 refine MetFree.of_bodySF (plainFor_of_name pn_8) hisR ?_
 intro p e s m args below meth c s₁ Bd hml0 hP hK
 obtain ⟨rfl, hZ, hh⟩ := hP
 have hx := Bd.exec
 have hby := Bd.bytes
 have B := @hb _ _ hby
 have hml : c.maxLocals = 1 := hml0
 have hown : s.vm.findClass "com/example/espalier/espalier/EntriesIdPinLaw" = some m.cls := findClass_of_methodNamed Bd.named
 have X0 : Stand p l e rM0 s m #[(.int q)] below meth c s₁ [] 0 0 := Stand.of_body Bd
 have e0 : s₁.heap = h0 := by rw [← hh, Bd.state]; rfl
 have N0 := Fr.nil n0
 refine own_start (ef_nbl m q) (Q := own_QE s rM0 (Qu8n Z q h0 n0)) ?_
 show oF p e below (s₁.setTop (mkF m 0 #[.val (.int q)] [])) _
 refine oG (fun _ k => XS.iloadN X0.here hx rfl (B d1_0) rfl (XS.sipush X0.here hx rfl (B d1_1) k)) ?_
 show oF p e below (s₁.setTop (mkF m 4 #[.val (.int q)] [(.int 128), (.int q)])) _
 by_cases hc4_496 : q < (128 : Int32)
 ·refine oG (fun _ k => XS.icmpNo X0.here hx rfl (B d1_4) rfl (tlt hc4_496).2.1 (XS.iconst X0.here hx rfl (B d1_7) k)) ?_
  show oF p e below (s₁.setTop (mkF m 8 #[.val (.int q)] [(.int 1)])) _
  obtain ⟨fs, hr, r1, r2, hW, r3⟩ := X0.leave (v := some (.int 1)) (fun h => by rw [Bd.returns] at h; cases h)
  refine ⟨_, _, ?_, r1, r2, _, _, rfl, ?_, ⟨_, rfl⟩, hW, r3.mono (by decide) (by decide)⟩
  ·exact own_retI X0 hx Bd.returns (B d1_8) hr
  ·show Qu8n Z q h0 n0 _ s₁.heap _
   rw [e0]
   exact ⟨(by rw [own_enc1 hc4_496] <;> rfl), N0, rfl⟩
 ·refine oG (fun _ k => XS.icmpYes X0.here hx rfl (pc0 := 4) (pc' := 9) rfl (B d1_4) rfl (flt hc4_496).2.1 (by decide) (by decide) (XS.iloadN X0.here hx rfl (B d1_9) rfl (XS.sipush X0.here hx rfl (B d1_10) k))) ?_
  show oF p e below (s₁.setTop (mkF m 13 #[.val (.int q)] [(.int 2048), (.int q)])) _
  by_cases hc13_498 : q < (2048 : Int32)
  ·refine oG (fun _ k => XS.icmpNo X0.here hx rfl (B d1_13) rfl (tlt hc13_498).2.1 (XS.iconst X0.here hx rfl (B d1_16) k)) ?_
   show oF p e below (s₁.setTop (mkF m 17 #[.val (.int q)] [(.int 2)])) _
   obtain ⟨fs, hr, r1, r2, hW, r3⟩ := X0.leave (v := some (.int 2)) (fun h => by rw [Bd.returns] at h; cases h)
   refine ⟨_, _, ?_, r1, r2, _, _, rfl, ?_, ⟨_, rfl⟩, hW, r3.mono (by decide) (by decide)⟩
   ·exact own_retI X0 hx Bd.returns (B d1_17) hr
   ·show Qu8n Z q h0 n0 _ s₁.heap _
    rw [e0]
    exact ⟨(by rw [own_enc2 hc4_496 hc13_498] <;> rfl), N0, rfl⟩
  ·refine oG (fun _ k => XS.icmpYes X0.here hx rfl (pc0 := 13) (pc' := 18) rfl (B d1_13) rfl (flt hc13_498).2.1 (by decide) (by decide) (XS.iloadN X0.here hx rfl (B d1_18) rfl k)) ?_
   show oF p e below (s₁.setTop (mkF m 19 #[.val (.int q)] [(.int q)])) _
   refine oG (fun _ k => X0.ldcInt hx hown (mo hZ hw 127) (g := (mkF m 19 #[.val (.int q)] [(.int q)])) rfl (B d1_19) _ k) ?_
   show oF p e below (s₁.setTop (mkF m 21 #[.val (.int q)] [(.int 65536), (.int q)])) _
   by_cases hc21_500 : q < (65536 : Int32)
   ·refine oG (fun _ k => XS.icmpNo X0.here hx rfl (B d1_21) rfl (tlt hc21_500).2.1 (XS.iconst X0.here hx rfl (B d1_24) k)) ?_
    show oF p e below (s₁.setTop (mkF m 25 #[.val (.int q)] [(.int 3)])) _
    obtain ⟨fs, hr, r1, r2, hW, r3⟩ := X0.leave (v := some (.int 3)) (fun h => by rw [Bd.returns] at h; cases h)
    refine ⟨_, _, ?_, r1, r2, _, _, rfl, ?_, ⟨_, rfl⟩, hW, r3.mono (by decide) (by decide)⟩
    ·exact own_retI X0 hx Bd.returns (B d1_25) hr
    ·show Qu8n Z q h0 n0 _ s₁.heap _
     rw [e0]
     exact ⟨(by rw [own_enc3 hc4_496 hc13_498 hc21_500] <;> rfl), N0, rfl⟩
   ·refine oG (fun _ k => XS.icmpYes X0.here hx rfl (pc0 := 21) (pc' := 26) rfl (B d1_21) rfl (flt hc21_500).2.1 (by decide) (by decide) (XS.iconst X0.here hx rfl (B d1_26) k)) ?_
    show oF p e below (s₁.setTop (mkF m 27 #[.val (.int q)] [(.int 4)])) _
    obtain ⟨fs, hr, r1, r2, hW, r3⟩ := X0.leave (v := some (.int 4)) (fun h => by rw [Bd.returns] at h; cases h)
    refine ⟨_, _, ?_, r1, r2, _, _, rfl, ?_, ⟨_, rfl⟩, hW, r3.mono (by decide) (by decide)⟩
    ·exact own_retI X0 hx Bd.returns (B d1_27) hr
    ·show Qu8n Z q h0 n0 _ s₁.heap _
     rw [e0]
     exact ⟨(by rw [own_enc4 hc4_496 hc13_498 hc21_500] <;> rfl), N0, rfl⟩
theorem d23_0 : decode k58_ 0 = .ok (.iload_n 0, 1) := by decide +kernel
theorem d23_1 : decode k58_ 1 = .ok (.ldc 38, 2) := by decide +kernel
theorem d23_3 : decode k58_ 3 = .ok (.if_icmp .ge 7, 3) := by decide +kernel
theorem d23_6 : decode k58_ 6 = .ok (.iconst 1, 1) := by decide +kernel
theorem d23_7 : decode k58_ 7 = .ok (.goto 4, 3) := by decide +kernel
theorem d23_11 : decode k58_ 11 = .ok (.ireturn, 1) := by decide +kernel
theorem d23_10 : decode k58_ 10 = .ok (.iconst 2, 1) := by decide +kernel
def Qu16n (Z : State) (q : Int32) (h0 : Heap) (n0 : Nat) (v : Option Value) (h : Heap) (L : List Loc) : Prop := v = some (.int (Int32.ofNat (own_un q).length)) ∧ Fr n0 L ∧ h = h0
theorem u16n (l : Launch) (Z : State) (a0 : Array Value) (hw : ∀ d ∈ tables_1, d.before a0 Z = true) (ws : List Jvm.Cond) (q : Int32) (h0 : Heap) (n0 : Nat) :
   own_MF l Z mN58 method_4_code 1 (some .int) ws rM0 #[(.int q)] h0 (Qu16n Z q h0 n0) := by
 refine MetFree.of_bodySF (plainFor_of_name pn_8) hisR ?_
 intro p e s m args below meth c s₁ Bd hml0 hP hK
 obtain ⟨rfl, hZ, hh⟩ := hP
 have hx := Bd.exec
 have hby := Bd.bytes
 have B := @hb _ _ hby
 have hml : c.maxLocals = 1 := hml0
 have hown : s.vm.findClass "com/example/espalier/espalier/EntriesIdPinLaw" = some m.cls := findClass_of_methodNamed Bd.named
 have X0 : Stand p l e rM0 s m #[(.int q)] below meth c s₁ [] 0 0 := Stand.of_body Bd
 have e0 : s₁.heap = h0 := by rw [← hh, Bd.state]; rfl
 have N0 := Fr.nil n0
 refine own_start (ef_nbl m q) (Q := own_QE s rM0 (Qu16n Z q h0 n0)) ?_
 show oF p e below (s₁.setTop (mkF m 0 #[.val (.int q)] [])) _
 refine oG (fun _ k => XS.iloadN X0.here hx rfl (B d23_0) rfl k) ?_
 show oF p e below (s₁.setTop (mkF m 1 #[.val (.int q)] [(.int q)])) _
 refine oG (fun _ k => X0.ldcInt hx hown (mo hZ hw 127) (g := (mkF m 1 #[.val (.int q)] [(.int q)])) rfl (B d23_1) _ k) ?_
 show oF p e below (s₁.setTop (mkF m 3 #[.val (.int q)] [(.int 65536), (.int q)])) _
 by_cases hc3_503 : q < (65536 : Int32)
 ·refine oG (fun _ k => XS.icmpNo X0.here hx rfl (B d23_3) rfl (tlt hc3_503).2.1 (XS.iconst X0.here hx rfl (B d23_6) (XS.goto X0.here hx rfl (pc0 := 7) (pc' := 11) rfl (B d23_7) (by decide) (by decide) k))) ?_
  show oF p e below (s₁.setTop (mkF m 11 #[.val (.int q)] [(.int 1)])) _
  obtain ⟨fs, hr, r1, r2, hW, r3⟩ := X0.leave (v := some (.int 1)) (fun h => by rw [Bd.returns] at h; cases h)
  refine ⟨_, _, ?_, r1, r2, _, _, rfl, ?_, ⟨_, rfl⟩, hW, r3.mono (by decide) (by decide)⟩
  ·exact own_retI X0 hx Bd.returns (B d23_11) hr
  ·show Qu16n Z q h0 n0 _ s₁.heap _
   rw [e0]
   exact ⟨(by rw [own_un1 hc3_503] <;> rfl), N0, rfl⟩
 ·refine oG (fun _ k => XS.icmpYes X0.here hx rfl (pc0 := 3) (pc' := 10) rfl (B d23_3) rfl (flt hc3_503).2.1 (by decide) (by decide) (XS.iconst X0.here hx rfl (B d23_10) k)) ?_
  show oF p e below (s₁.setTop (mkF m 11 #[.val (.int q)] [(.int 2)])) _
  obtain ⟨fs, hr, r1, r2, hW, r3⟩ := X0.leave (v := some (.int 2)) (fun h => by rw [Bd.returns] at h; cases h)
  refine ⟨_, _, ?_, r1, r2, _, _, rfl, ?_, ⟨_, rfl⟩, hW, r3.mono (by decide) (by decide)⟩
  ·exact own_retI X0 hx Bd.returns (B d23_11) hr
  ·show Qu16n Z q h0 n0 _ s₁.heap _
   rw [e0]
   exact ⟨(by rw [own_un2 hc3_503] <;> rfl), N0, rfl⟩
theorem d2_0 : decode k59_ 0 = .ok (.iload_n 2, 1) := by decide +kernel
theorem d2_1 : decode k59_ 1 = .ok (.sipush 128, 3) := by decide +kernel
theorem d2_4 : decode k59_ 4 = .ok (.if_icmp .ge 11, 3) := by decide +kernel
theorem d2_7 : decode k59_ 7 = .ok (.aload_n 0, 1) := by decide +kernel
theorem d2_8 : decode k59_ 8 = .ok (.iload_n 1, 1) := by decide +kernel
theorem d2_9 : decode k59_ 9 = .ok (.iload_n 2, 1) := by decide +kernel
theorem d2_10 : decode k59_ 10 = .ok (.i2b, 1) := by decide +kernel
theorem d2_11 : decode k59_ 11 = .ok (.bastore, 1) := by decide +kernel
theorem d2_12 : decode k59_ 12 = .ok (.goto 153, 3) := by decide +kernel
theorem d2_165 : decode k59_ 165 = .ok (.return_, 1) := by decide +kernel
theorem d2_15 : decode k59_ 15 = .ok (.iload_n 2, 1) := by decide +kernel
theorem d2_16 : decode k59_ 16 = .ok (.sipush 2048, 3) := by decide +kernel
theorem d2_19 : decode k59_ 19 = .ok (.if_icmp .ge 32, 3) := by decide +kernel
theorem d2_22 : decode k59_ 22 = .ok (.aload_n 0, 1) := by decide +kernel
theorem d2_23 : decode k59_ 23 = .ok (.iload_n 1, 1) := by decide +kernel
theorem d2_24 : decode k59_ 24 = .ok (.sipush 192, 3) := by decide +kernel
theorem d2_27 : decode k59_ 27 = .ok (.iload_n 2, 1) := by decide +kernel
theorem d2_28 : decode k59_ 28 = .ok (.bipush 64, 2) := by decide +kernel
theorem d2_30 : decode k59_ 30 = .ok (.idiv, 1) := by decide +kernel
theorem d2_31 : decode k59_ 31 = .ok (.iadd, 1) := by decide +kernel
theorem d2_32 : decode k59_ 32 = .ok (.i2b, 1) := by decide +kernel
theorem d2_33 : decode k59_ 33 = .ok (.bastore, 1) := by decide +kernel
theorem d2_34 : decode k59_ 34 = .ok (.aload_n 0, 1) := by decide +kernel
theorem d2_35 : decode k59_ 35 = .ok (.iload_n 1, 1) := by decide +kernel
theorem d2_36 : decode k59_ 36 = .ok (.iconst 1, 1) := by decide +kernel
theorem d2_37 : decode k59_ 37 = .ok (.iadd, 1) := by decide +kernel
theorem d2_38 : decode k59_ 38 = .ok (.sipush 128, 3) := by decide +kernel
theorem d2_41 : decode k59_ 41 = .ok (.iload_n 2, 1) := by decide +kernel
theorem d2_42 : decode k59_ 42 = .ok (.bipush 64, 2) := by decide +kernel
theorem d2_44 : decode k59_ 44 = .ok (.irem, 1) := by decide +kernel
theorem d2_45 : decode k59_ 45 = .ok (.iadd, 1) := by decide +kernel
theorem d2_46 : decode k59_ 46 = .ok (.i2b, 1) := by decide +kernel
theorem d2_47 : decode k59_ 47 = .ok (.bastore, 1) := by decide +kernel
theorem d2_48 : decode k59_ 48 = .ok (.goto 117, 3) := by decide +kernel
theorem d2_51 : decode k59_ 51 = .ok (.iload_n 2, 1) := by decide +kernel
theorem d2_52 : decode k59_ 52 = .ok (.ldc 38, 2) := by decide +kernel
theorem d2_54 : decode k59_ 54 = .ok (.if_icmp .ge 50, 3) := by decide +kernel
theorem d2_57 : decode k59_ 57 = .ok (.aload_n 0, 1) := by decide +kernel
theorem d2_58 : decode k59_ 58 = .ok (.iload_n 1, 1) := by decide +kernel
theorem d2_59 : decode k59_ 59 = .ok (.sipush 224, 3) := by decide +kernel
theorem d2_62 : decode k59_ 62 = .ok (.iload_n 2, 1) := by decide +kernel
theorem d2_63 : decode k59_ 63 = .ok (.sipush 4096, 3) := by decide +kernel
theorem d2_66 : decode k59_ 66 = .ok (.idiv, 1) := by decide +kernel
theorem d2_67 : decode k59_ 67 = .ok (.iadd, 1) := by decide +kernel
theorem d2_68 : decode k59_ 68 = .ok (.i2b, 1) := by decide +kernel
theorem d2_69 : decode k59_ 69 = .ok (.bastore, 1) := by decide +kernel
theorem d2_70 : decode k59_ 70 = .ok (.aload_n 0, 1) := by decide +kernel
theorem d2_71 : decode k59_ 71 = .ok (.iload_n 1, 1) := by decide +kernel
theorem d2_72 : decode k59_ 72 = .ok (.iconst 1, 1) := by decide +kernel
theorem d2_73 : decode k59_ 73 = .ok (.iadd, 1) := by decide +kernel
theorem d2_74 : decode k59_ 74 = .ok (.sipush 128, 3) := by decide +kernel
theorem d2_77 : decode k59_ 77 = .ok (.iload_n 2, 1) := by decide +kernel
theorem d2_78 : decode k59_ 78 = .ok (.bipush 64, 2) := by decide +kernel
theorem d2_80 : decode k59_ 80 = .ok (.idiv, 1) := by decide +kernel
theorem d2_81 : decode k59_ 81 = .ok (.bipush 64, 2) := by decide +kernel
theorem d2_83 : decode k59_ 83 = .ok (.irem, 1) := by decide +kernel
theorem d2_84 : decode k59_ 84 = .ok (.iadd, 1) := by decide +kernel
theorem d2_85 : decode k59_ 85 = .ok (.i2b, 1) := by decide +kernel
theorem d2_86 : decode k59_ 86 = .ok (.bastore, 1) := by decide +kernel
theorem d2_87 : decode k59_ 87 = .ok (.aload_n 0, 1) := by decide +kernel
theorem d2_88 : decode k59_ 88 = .ok (.iload_n 1, 1) := by decide +kernel
theorem d2_89 : decode k59_ 89 = .ok (.iconst 2, 1) := by decide +kernel
theorem d2_90 : decode k59_ 90 = .ok (.iadd, 1) := by decide +kernel
theorem d2_91 : decode k59_ 91 = .ok (.sipush 128, 3) := by decide +kernel
theorem d2_94 : decode k59_ 94 = .ok (.iload_n 2, 1) := by decide +kernel
theorem d2_95 : decode k59_ 95 = .ok (.bipush 64, 2) := by decide +kernel
theorem d2_97 : decode k59_ 97 = .ok (.irem, 1) := by decide +kernel
theorem d2_98 : decode k59_ 98 = .ok (.iadd, 1) := by decide +kernel
theorem d2_99 : decode k59_ 99 = .ok (.i2b, 1) := by decide +kernel
theorem d2_100 : decode k59_ 100 = .ok (.bastore, 1) := by decide +kernel
theorem d2_101 : decode k59_ 101 = .ok (.goto 64, 3) := by decide +kernel
theorem d2_104 : decode k59_ 104 = .ok (.aload_n 0, 1) := by decide +kernel
theorem d2_105 : decode k59_ 105 = .ok (.iload_n 1, 1) := by decide +kernel
theorem d2_106 : decode k59_ 106 = .ok (.sipush 240, 3) := by decide +kernel
theorem d2_109 : decode k59_ 109 = .ok (.iload_n 2, 1) := by decide +kernel
theorem d2_110 : decode k59_ 110 = .ok (.ldc 39, 2) := by decide +kernel
theorem d2_112 : decode k59_ 112 = .ok (.idiv, 1) := by decide +kernel
theorem d2_113 : decode k59_ 113 = .ok (.iadd, 1) := by decide +kernel
theorem d2_114 : decode k59_ 114 = .ok (.i2b, 1) := by decide +kernel
theorem d2_115 : decode k59_ 115 = .ok (.bastore, 1) := by decide +kernel
theorem d2_116 : decode k59_ 116 = .ok (.aload_n 0, 1) := by decide +kernel
theorem d2_117 : decode k59_ 117 = .ok (.iload_n 1, 1) := by decide +kernel
theorem d2_118 : decode k59_ 118 = .ok (.iconst 1, 1) := by decide +kernel
theorem d2_119 : decode k59_ 119 = .ok (.iadd, 1) := by decide +kernel
theorem d2_120 : decode k59_ 120 = .ok (.sipush 128, 3) := by decide +kernel
theorem d2_123 : decode k59_ 123 = .ok (.iload_n 2, 1) := by decide +kernel
theorem d2_124 : decode k59_ 124 = .ok (.sipush 4096, 3) := by decide +kernel
theorem d2_127 : decode k59_ 127 = .ok (.idiv, 1) := by decide +kernel
theorem d2_128 : decode k59_ 128 = .ok (.bipush 64, 2) := by decide +kernel
theorem d2_130 : decode k59_ 130 = .ok (.irem, 1) := by decide +kernel
theorem d2_131 : decode k59_ 131 = .ok (.iadd, 1) := by decide +kernel
theorem d2_132 : decode k59_ 132 = .ok (.i2b, 1) := by decide +kernel
theorem d2_133 : decode k59_ 133 = .ok (.bastore, 1) := by decide +kernel
theorem d2_134 : decode k59_ 134 = .ok (.aload_n 0, 1) := by decide +kernel
theorem d2_135 : decode k59_ 135 = .ok (.iload_n 1, 1) := by decide +kernel
theorem d2_136 : decode k59_ 136 = .ok (.iconst 2, 1) := by decide +kernel
theorem d2_137 : decode k59_ 137 = .ok (.iadd, 1) := by decide +kernel
theorem d2_138 : decode k59_ 138 = .ok (.sipush 128, 3) := by decide +kernel
theorem d2_141 : decode k59_ 141 = .ok (.iload_n 2, 1) := by decide +kernel
theorem d2_142 : decode k59_ 142 = .ok (.bipush 64, 2) := by decide +kernel
theorem d2_144 : decode k59_ 144 = .ok (.idiv, 1) := by decide +kernel
theorem d2_145 : decode k59_ 145 = .ok (.bipush 64, 2) := by decide +kernel
theorem d2_147 : decode k59_ 147 = .ok (.irem, 1) := by decide +kernel
theorem d2_148 : decode k59_ 148 = .ok (.iadd, 1) := by decide +kernel
theorem d2_149 : decode k59_ 149 = .ok (.i2b, 1) := by decide +kernel
theorem d2_150 : decode k59_ 150 = .ok (.bastore, 1) := by decide +kernel
theorem d2_151 : decode k59_ 151 = .ok (.aload_n 0, 1) := by decide +kernel
theorem d2_152 : decode k59_ 152 = .ok (.iload_n 1, 1) := by decide +kernel
theorem d2_153 : decode k59_ 153 = .ok (.iconst 3, 1) := by decide +kernel
theorem d2_154 : decode k59_ 154 = .ok (.iadd, 1) := by decide +kernel
theorem d2_155 : decode k59_ 155 = .ok (.sipush 128, 3) := by decide +kernel
theorem d2_158 : decode k59_ 158 = .ok (.iload_n 2, 1) := by decide +kernel
theorem d2_159 : decode k59_ 159 = .ok (.bipush 64, 2) := by decide +kernel
theorem d2_161 : decode k59_ 161 = .ok (.irem, 1) := by decide +kernel
theorem d2_162 : decode k59_ 162 = .ok (.iadd, 1) := by decide +kernel
theorem d2_163 : decode k59_ 163 = .ok (.i2b, 1) := by decide +kernel
theorem d2_164 : decode k59_ 164 = .ok (.bastore, 1) := by decide +kernel
def Qput (Z : State) (a : Addr) (q : Int32) (ka : ClassId) (M : Int32) (vs : List Value) (h0 : Heap) (n0 : Nat) (v : Option Value) (h : Heap) (L : List Loc) : Prop := v = none ∧ Fr n0 L ∧ Keep h0 h [a] ∧ Arv Z h a ka .byte M (vs ++ own_enc q) (.int 0)
theorem put (l : Launch) (Z : State) (a0 : Array Value) (hw : ∀ d ∈ tables_1, d.before a0 Z = true) (ws : List Jvm.Cond) (a : Addr) (i : Int32) (q : Int32) (ka : ClassId) (M : Int32) (vs : List Value) (h0 : Heap) (n0 : Nat) (O : Old Z n0 h0) (V_a : Arv Z h0 a ka .byte M vs (.int 0)) (g_a : n0 ≤ a) (hi : i.toInt = (vs.length : Int)) (hM : ((vs ++ own_enc q).length : Int) ≤ M.toInt) (h8 : M.toInt ≤ 8) :
   own_MF l Z mN59 method_5_code 3 none ws rM0 #[(.ref a), (.int i), (.int q)] h0 (Qput Z a q ka M vs h0 n0) := by
 refine MetFree.of_bodySF (plainFor_of_name pn_8) hisR ?_
 intro p e s m args below meth c s₁ Bd hml0 hP hK
 obtain ⟨rfl, hZ, hh⟩ := hP
 have hx := Bd.exec
 have hby := Bd.bytes
 have B := @hb _ _ hby
 have hml : c.maxLocals = 3 := hml0
 have hown : s.vm.findClass "com/example/espalier/espalier/EntriesIdPinLaw" = some m.cls := findClass_of_methodNamed Bd.named
 have X0 : Stand p l e rM0 s m #[(.ref a), (.int i), (.int q)] below meth c s₁ [] 0 0 := Stand.of_body Bd
 have e0 : s₁.heap = h0 := by rw [← hh, Bd.state]; rfl
 have N0 := Fr.nil n0
 have K0 := Keep.refl h0 [a]
 refine own_start (ef_pt m a i q) (Q := own_QE s rM0 (Qput Z a q ka M vs h0 n0)) ?_
 show oF p e below (s₁.setTop (mkF m 0 #[.val (.ref a), .val (.int i), .val (.int q)] [])) _
 refine oG (fun _ k => XS.iloadN X0.here hx rfl (B d2_0) rfl (XS.sipush X0.here hx rfl (B d2_1) k)) ?_
 show oF p e below (s₁.setTop (mkF m 4 #[.val (.ref a), .val (.int i), .val (.int q)] [(.int 128), (.int q)])) _
 by_cases hc4_506 : q < (128 : Int32)
 ·refine oG (fun _ k => XS.icmpNo X0.here hx rfl (B d2_4) rfl (tlt hc4_506).2.1 (XS.aloadN X0.here hx rfl (B d2_7) rfl rfl (XS.iloadN X0.here hx rfl (B d2_8) rfl (XS.iloadN X0.here hx rfl (B d2_9) rfl (XS.i2b X0.here hx rfl (B d2_10) rfl k))))) ?_
  show oF p e below (s₁.setTop (mkF m 11 #[.val (.ref a), .val (.int i), .val (.int q)] [(.int (q.toInt8.toInt32)), (.int i), (.ref a)])) _
  have henc := own_enc1 hc4_506
  have hMc : (vs.length : Int) + 1 ≤ M.toInt := by rw [henc, List.length_append] at hM; simp only [List.length_cons, List.length_nil] at hM; omega
  have hv8 : vs.length ≤ 8 := by omega
  have hj0 : i.toInt = (vs.length : Int) := hi
  have V_a : Arv Z h0 a ka .byte M (vs ++ [(.int 0)]) (.int 0) := V_a.pad (pad_rep vs (.int 0) 1)
  show oF p e below (s₁.setTop (mkF m 11 #[.val (.ref a), .val (.int i), .val (.int q)] [(.int (q.toInt8.toInt32)), (.int i), (.ref a)])) _
  obtain ⟨cl6k, A6k, q6k, S6k, M6k, H6k, G6k⟩ := id V_a
  have hin6k : ¬ (i < 0 ∨ cl6k.slots.size ≤ (i).toNatClampNeg) := inb_of S6k (own_inj hj0 (by omega))
  obtain ⟨T6k, h6k, X6k, e6k, W6k, st6k⟩ := stB X0 hx hZ e0 A6k (j := i) hin6k (g := (mkF m 11 #[.val (.ref a), .val (.int i), .val (.int q)] [(.int (q.toInt8.toInt32)), (.int i), (.ref a)])) rfl rfl (B d2_11)
  refine oG st6k ?_
  have O := O.wr W6k g_a
  have K6l := K0.wr W6k (Or.inl (List.mem_of_getElem? (i := 0) rfl))
  have V_a : Arv Z h6k a ka .byte M (vs ++ [(.int (nar .byte (q.toInt8.toInt32)))]) (.int 0) := by have q_ := Arv.set A6k q6k S6k M6k H6k G6k (fits_nar_byte _) W6k _ rfl (own_snl vs (.int 0) i hj0); rw [own_set1 hj0] at q_; exact q_
  have N6k := Fr.snoc X6k N0 g_a
  show oF p e below (T6k.setTop (mkF m 12 #[.val (.ref a), .val (.int i), .val (.int q)] [])) _
  refine oG (fun _ k => XS.goto X6k.here hx rfl (pc0 := 12) (pc' := 165) rfl (B d2_12) (by decide) (by decide) k) ?_
  show oF p e below (T6k.setTop (mkF m 165 #[.val (.ref a), .val (.int i), .val (.int q)] [])) _
  obtain ⟨fs, hr, r1, r2, hW, r3⟩ := X6k.leave (v := none) (fun _ => rfl)
  refine ⟨_, _, ?_, r1, r2, _, _, rfl, ?_, ⟨_, rfl⟩, hW, r3.mono (by decide) (by decide)⟩
  ·exact X6k.returnOut hx Bd.returns (B d2_165) hr
  ·show Qput Z a q ka M vs h0 n0 _ T6k.heap _
   rw [e6k]
   exact ⟨rfl, N6k, K6l, (by rw [show vs ++ own_enc q = (vs ++ [(.int (nar .byte (q.toInt8.toInt32)))]) from by rw [henc] <;> rfl]; exact V_a)⟩
 ·refine oG (fun _ k => XS.icmpYes X0.here hx rfl (pc0 := 4) (pc' := 15) rfl (B d2_4) rfl (flt hc4_506).2.1 (by decide) (by decide) (XS.iloadN X0.here hx rfl (B d2_15) rfl (XS.sipush X0.here hx rfl (B d2_16) k))) ?_
  show oF p e below (s₁.setTop (mkF m 19 #[.val (.ref a), .val (.int i), .val (.int q)] [(.int 2048), (.int q)])) _
  by_cases hc19_510 : q < (2048 : Int32)
  ·refine oG (fun _ k => XS.icmpNo X0.here hx rfl (B d2_19) rfl (tlt hc19_510).2.1 (XS.aloadN X0.here hx rfl (B d2_22) rfl rfl (XS.iloadN X0.here hx rfl (B d2_23) rfl (XS.sipush X0.here hx rfl (B d2_24) (XS.iloadN X0.here hx rfl (B d2_27) rfl (XS.bipush X0.here hx rfl (B d2_28) (XS.idiv X0.here hx rfl (B d2_30) rfl (by decide) (XS.iadd X0.here hx rfl (B d2_31) rfl (XS.i2b X0.here hx rfl (B d2_32) rfl k))))))))) ?_
   show oF p e below (s₁.setTop (mkF m 33 #[.val (.ref a), .val (.int i), .val (.int q)] [(.int (((192 : Int32) + (q / (64 : Int32))).toInt8.toInt32)), (.int i), (.ref a)])) _
   have henc := own_enc2 hc4_506 hc19_510
   have hMc : (vs.length : Int) + 2 ≤ M.toInt := by rw [henc, List.length_append] at hM; simp only [List.length_cons, List.length_nil] at hM; omega
   have hv8 : vs.length ≤ 8 := by omega
   have hj0 : i.toInt = (vs.length : Int) := hi
   have V_a : Arv Z h0 a ka .byte M (vs ++ [(.int 0)]) (.int 0) := V_a.pad (pad_rep vs (.int 0) 1)
   show oF p e below (s₁.setTop (mkF m 33 #[.val (.ref a), .val (.int i), .val (.int q)] [(.int (((192 : Int32) + (q / (64 : Int32))).toInt8.toInt32)), (.int i), (.ref a)])) _
   obtain ⟨cl6m, A6m, q6m, S6m, M6m, H6m, G6m⟩ := id V_a
   have hin6m : ¬ (i < 0 ∨ cl6m.slots.size ≤ (i).toNatClampNeg) := inb_of S6m (own_inj hj0 (by omega))
   obtain ⟨T6m, h6m, X6m, e6m, W6m, st6m⟩ := stB X0 hx hZ e0 A6m (j := i) hin6m (g := (mkF m 33 #[.val (.ref a), .val (.int i), .val (.int q)] [(.int (((192 : Int32) + (q / (64 : Int32))).toInt8.toInt32)), (.int i), (.ref a)])) rfl rfl (B d2_33)
   refine oG st6m ?_
   have O := O.wr W6m g_a
   have K6n := K0.wr W6m (Or.inl (List.mem_of_getElem? (i := 0) rfl))
   have V_a : Arv Z h6m a ka .byte M (vs ++ [(.int (nar .byte (((192 : Int32) + (q / (64 : Int32))).toInt8.toInt32)))]) (.int 0) := by have q_ := Arv.set A6m q6m S6m M6m H6m G6m (fits_nar_byte _) W6m _ rfl (own_snl vs (.int 0) i hj0); rw [own_set1 hj0] at q_; exact q_
   have N6m := Fr.snoc X6m N0 g_a
   show oF p e below (T6m.setTop (mkF m 34 #[.val (.ref a), .val (.int i), .val (.int q)] [])) _
   refine oG (fun _ k => XS.aloadN X6m.here hx rfl (B d2_34) rfl rfl (XS.iloadN X6m.here hx rfl (B d2_35) rfl (XS.iconst X6m.here hx rfl (B d2_36) (XS.iadd X6m.here hx rfl (B d2_37) rfl (XS.sipush X6m.here hx rfl (B d2_38) (XS.iloadN X6m.here hx rfl (B d2_41) rfl (XS.bipush X6m.here hx rfl (B d2_42) (iremM X6m hx rfl (B d2_44) rfl (by decide) (XS.iadd X6m.here hx rfl (B d2_45) rfl (XS.i2b X6m.here hx rfl (B d2_46) rfl k)))))))))) ?_
   show oF p e below (T6m.setTop (mkF m 47 #[.val (.ref a), .val (.int i), .val (.int q)] [(.int (((128 : Int32) + (q % (64 : Int32))).toInt8.toInt32)), (.int (i + (1 : Int32))), (.ref a)])) _
   have hj1 : (i + (1 : Int32)).toInt = (((vs ++ [(.int (nar .byte (((192 : Int32) + (q / (64 : Int32))).toInt8.toInt32)))]) : List Value).length : Int) := by have q_ := own_nxt (vs := vs) (1 : Int32) (K := 1) own_k1 hi hv8 (by decide); simp only [List.length_append, List.length_cons, List.length_nil]; omega
   have V_a : Arv Z h6m a ka .byte M ((vs ++ [(.int (nar .byte (((192 : Int32) + (q / (64 : Int32))).toInt8.toInt32)))]) ++ [(.int 0)]) (.int 0) := V_a.pad (pad_rep (vs ++ [(.int (nar .byte (((192 : Int32) + (q / (64 : Int32))).toInt8.toInt32)))]) (.int 0) 1)
   show oF p e below (T6m.setTop (mkF m 47 #[.val (.ref a), .val (.int i), .val (.int q)] [(.int (((128 : Int32) + (q % (64 : Int32))).toInt8.toInt32)), (.int (i + (1 : Int32))), (.ref a)])) _
   obtain ⟨cl6o, A6o, q6o, S6o, M6o, H6o, G6o⟩ := id V_a
   have hin6o : ¬ ((i + (1 : Int32)) < 0 ∨ cl6o.slots.size ≤ ((i + (1 : Int32))).toNatClampNeg) := inb_of S6o (own_inj hj1 (by simp only [List.length_append, List.length_cons, List.length_nil]; omega))
   obtain ⟨T6o, h6o, X6o, e6o, W6o, st6o⟩ := stB X6m hx hZ e6m A6o (j := (i + (1 : Int32))) hin6o (g := (mkF m 47 #[.val (.ref a), .val (.int i), .val (.int q)] [(.int (((128 : Int32) + (q % (64 : Int32))).toInt8.toInt32)), (.int (i + (1 : Int32))), (.ref a)])) rfl rfl (B d2_47)
   refine oG st6o ?_
   have O := O.wr W6o g_a
   have K6p := K6n.wr W6o (Or.inl (List.mem_of_getElem? (i := 0) rfl))
   have V_a : Arv Z h6o a ka .byte M ((vs ++ [(.int (nar .byte (((192 : Int32) + (q / (64 : Int32))).toInt8.toInt32)))]) ++ [(.int (nar .byte (((128 : Int32) + (q % (64 : Int32))).toInt8.toInt32)))]) (.int 0) := by have q_ := Arv.set A6o q6o S6o M6o H6o G6o (fits_nar_byte _) W6o _ rfl (own_snl (vs ++ [(.int (nar .byte (((192 : Int32) + (q / (64 : Int32))).toInt8.toInt32)))]) (.int 0) (i + (1 : Int32)) hj1); rw [own_set1 hj1] at q_; exact q_
   have N6o := Fr.snoc X6o N6m g_a
   show oF p e below (T6o.setTop (mkF m 48 #[.val (.ref a), .val (.int i), .val (.int q)] [])) _
   refine oG (fun _ k => XS.goto X6o.here hx rfl (pc0 := 48) (pc' := 165) rfl (B d2_48) (by decide) (by decide) k) ?_
   show oF p e below (T6o.setTop (mkF m 165 #[.val (.ref a), .val (.int i), .val (.int q)] [])) _
   obtain ⟨fs, hr, r1, r2, hW, r3⟩ := X6o.leave (v := none) (fun _ => rfl)
   refine ⟨_, _, ?_, r1, r2, _, _, rfl, ?_, ⟨_, rfl⟩, hW, r3.mono (by decide) (by decide)⟩
   ·exact X6o.returnOut hx Bd.returns (B d2_165) hr
   ·show Qput Z a q ka M vs h0 n0 _ T6o.heap _
    rw [e6o]
    exact ⟨rfl, N6o, K6p, (by rw [show vs ++ own_enc q = ((vs ++ [(.int (nar .byte (((192 : Int32) + (q / (64 : Int32))).toInt8.toInt32)))]) ++ [(.int (nar .byte (((128 : Int32) + (q % (64 : Int32))).toInt8.toInt32)))]) from by rw [henc, List.append_assoc] <;> rfl]; exact V_a)⟩
  ·refine oG (fun _ k => XS.icmpYes X0.here hx rfl (pc0 := 19) (pc' := 51) rfl (B d2_19) rfl (flt hc19_510).2.1 (by decide) (by decide) (XS.iloadN X0.here hx rfl (B d2_51) rfl k)) ?_
   show oF p e below (s₁.setTop (mkF m 52 #[.val (.ref a), .val (.int i), .val (.int q)] [(.int q)])) _
   refine oG (fun _ k => X0.ldcInt hx hown (mo hZ hw 127) (g := (mkF m 52 #[.val (.ref a), .val (.int i), .val (.int q)] [(.int q)])) rfl (B d2_52) _ k) ?_
   show oF p e below (s₁.setTop (mkF m 54 #[.val (.ref a), .val (.int i), .val (.int q)] [(.int 65536), (.int q)])) _
   by_cases hc54_516 : q < (65536 : Int32)
   ·refine oG (fun _ k => XS.icmpNo X0.here hx rfl (B d2_54) rfl (tlt hc54_516).2.1 (XS.aloadN X0.here hx rfl (B d2_57) rfl rfl (XS.iloadN X0.here hx rfl (B d2_58) rfl (XS.sipush X0.here hx rfl (B d2_59) (XS.iloadN X0.here hx rfl (B d2_62) rfl (XS.sipush X0.here hx rfl (B d2_63) (XS.idiv X0.here hx rfl (B d2_66) rfl (by decide) (XS.iadd X0.here hx rfl (B d2_67) rfl (XS.i2b X0.here hx rfl (B d2_68) rfl k))))))))) ?_
    show oF p e below (s₁.setTop (mkF m 69 #[.val (.ref a), .val (.int i), .val (.int q)] [(.int (((224 : Int32) + (q / (4096 : Int32))).toInt8.toInt32)), (.int i), (.ref a)])) _
    have henc := own_enc3 hc4_506 hc19_510 hc54_516
    have hMc : (vs.length : Int) + 3 ≤ M.toInt := by rw [henc, List.length_append] at hM; simp only [List.length_cons, List.length_nil] at hM; omega
    have hv8 : vs.length ≤ 8 := by omega
    have hj0 : i.toInt = (vs.length : Int) := hi
    have V_a : Arv Z h0 a ka .byte M (vs ++ [(.int 0)]) (.int 0) := V_a.pad (pad_rep vs (.int 0) 1)
    show oF p e below (s₁.setTop (mkF m 69 #[.val (.ref a), .val (.int i), .val (.int q)] [(.int (((224 : Int32) + (q / (4096 : Int32))).toInt8.toInt32)), (.int i), (.ref a)])) _
    obtain ⟨cl6q, A6q, q6q, S6q, M6q, H6q, G6q⟩ := id V_a
    have hin6q : ¬ (i < 0 ∨ cl6q.slots.size ≤ (i).toNatClampNeg) := inb_of S6q (own_inj hj0 (by omega))
    obtain ⟨T6q, h6q, X6q, e6q, W6q, st6q⟩ := stB X0 hx hZ e0 A6q (j := i) hin6q (g := (mkF m 69 #[.val (.ref a), .val (.int i), .val (.int q)] [(.int (((224 : Int32) + (q / (4096 : Int32))).toInt8.toInt32)), (.int i), (.ref a)])) rfl rfl (B d2_69)
    refine oG st6q ?_
    have O := O.wr W6q g_a
    have K6r := K0.wr W6q (Or.inl (List.mem_of_getElem? (i := 0) rfl))
    have V_a : Arv Z h6q a ka .byte M (vs ++ [(.int (nar .byte (((224 : Int32) + (q / (4096 : Int32))).toInt8.toInt32)))]) (.int 0) := by have q_ := Arv.set A6q q6q S6q M6q H6q G6q (fits_nar_byte _) W6q _ rfl (own_snl vs (.int 0) i hj0); rw [own_set1 hj0] at q_; exact q_
    have N6q := Fr.snoc X6q N0 g_a
    show oF p e below (T6q.setTop (mkF m 70 #[.val (.ref a), .val (.int i), .val (.int q)] [])) _
    refine oG (fun _ k => XS.aloadN X6q.here hx rfl (B d2_70) rfl rfl (XS.iloadN X6q.here hx rfl (B d2_71) rfl (XS.iconst X6q.here hx rfl (B d2_72) (XS.iadd X6q.here hx rfl (B d2_73) rfl (XS.sipush X6q.here hx rfl (B d2_74) (XS.iloadN X6q.here hx rfl (B d2_77) rfl (XS.bipush X6q.here hx rfl (B d2_78) (XS.idiv X6q.here hx rfl (B d2_80) rfl (by decide) (XS.bipush X6q.here hx rfl (B d2_81) (iremM X6q hx rfl (B d2_83) rfl (by decide) k)))))))))) ?_
    show oF p e below (T6q.setTop (mkF m 84 #[.val (.ref a), .val (.int i), .val (.int q)] [(.int ((q / (64 : Int32)) % (64 : Int32))), (.int 128), (.int (i + (1 : Int32))), (.ref a)])) _
    refine oG (fun _ k => XS.iadd X6q.here hx rfl (B d2_84) rfl (XS.i2b X6q.here hx rfl (B d2_85) rfl k)) ?_
    show oF p e below (T6q.setTop (mkF m 86 #[.val (.ref a), .val (.int i), .val (.int q)] [(.int (((128 : Int32) + ((q / (64 : Int32)) % (64 : Int32))).toInt8.toInt32)), (.int (i + (1 : Int32))), (.ref a)])) _
    have hj1 : (i + (1 : Int32)).toInt = (((vs ++ [(.int (nar .byte (((224 : Int32) + (q / (4096 : Int32))).toInt8.toInt32)))]) : List Value).length : Int) := by have q_ := own_nxt (vs := vs) (1 : Int32) (K := 1) own_k1 hi hv8 (by decide); simp only [List.length_append, List.length_cons, List.length_nil]; omega
    have V_a : Arv Z h6q a ka .byte M ((vs ++ [(.int (nar .byte (((224 : Int32) + (q / (4096 : Int32))).toInt8.toInt32)))]) ++ [(.int 0)]) (.int 0) := V_a.pad (pad_rep (vs ++ [(.int (nar .byte (((224 : Int32) + (q / (4096 : Int32))).toInt8.toInt32)))]) (.int 0) 1)
    show oF p e below (T6q.setTop (mkF m 86 #[.val (.ref a), .val (.int i), .val (.int q)] [(.int (((128 : Int32) + ((q / (64 : Int32)) % (64 : Int32))).toInt8.toInt32)), (.int (i + (1 : Int32))), (.ref a)])) _
    obtain ⟨cl6s, A6s, q6s, S6s, M6s, H6s, G6s⟩ := id V_a
    have hin6s : ¬ ((i + (1 : Int32)) < 0 ∨ cl6s.slots.size ≤ ((i + (1 : Int32))).toNatClampNeg) := inb_of S6s (own_inj hj1 (by simp only [List.length_append, List.length_cons, List.length_nil]; omega))
    obtain ⟨T6s, h6s, X6s, e6s, W6s, st6s⟩ := stB X6q hx hZ e6q A6s (j := (i + (1 : Int32))) hin6s (g := (mkF m 86 #[.val (.ref a), .val (.int i), .val (.int q)] [(.int (((128 : Int32) + ((q / (64 : Int32)) % (64 : Int32))).toInt8.toInt32)), (.int (i + (1 : Int32))), (.ref a)])) rfl rfl (B d2_86)
    refine oG st6s ?_
    have O := O.wr W6s g_a
    have K6t := K6r.wr W6s (Or.inl (List.mem_of_getElem? (i := 0) rfl))
    have V_a : Arv Z h6s a ka .byte M ((vs ++ [(.int (nar .byte (((224 : Int32) + (q / (4096 : Int32))).toInt8.toInt32)))]) ++ [(.int (nar .byte (((128 : Int32) + ((q / (64 : Int32)) % (64 : Int32))).toInt8.toInt32)))]) (.int 0) := by have q_ := Arv.set A6s q6s S6s M6s H6s G6s (fits_nar_byte _) W6s _ rfl (own_snl (vs ++ [(.int (nar .byte (((224 : Int32) + (q / (4096 : Int32))).toInt8.toInt32)))]) (.int 0) (i + (1 : Int32)) hj1); rw [own_set1 hj1] at q_; exact q_
    have N6s := Fr.snoc X6s N6q g_a
    show oF p e below (T6s.setTop (mkF m 87 #[.val (.ref a), .val (.int i), .val (.int q)] [])) _
    refine oG (fun _ k => XS.aloadN X6s.here hx rfl (B d2_87) rfl rfl (XS.iloadN X6s.here hx rfl (B d2_88) rfl (XS.iconst X6s.here hx rfl (B d2_89) (XS.iadd X6s.here hx rfl (B d2_90) rfl (XS.sipush X6s.here hx rfl (B d2_91) (XS.iloadN X6s.here hx rfl (B d2_94) rfl (XS.bipush X6s.here hx rfl (B d2_95) (iremM X6s hx rfl (B d2_97) rfl (by decide) (XS.iadd X6s.here hx rfl (B d2_98) rfl (XS.i2b X6s.here hx rfl (B d2_99) rfl k)))))))))) ?_
    show oF p e below (T6s.setTop (mkF m 100 #[.val (.ref a), .val (.int i), .val (.int q)] [(.int (((128 : Int32) + (q % (64 : Int32))).toInt8.toInt32)), (.int (i + (2 : Int32))), (.ref a)])) _
    have hj2 : (i + (2 : Int32)).toInt = ((((vs ++ [(.int (nar .byte (((224 : Int32) + (q / (4096 : Int32))).toInt8.toInt32)))]) ++ [(.int (nar .byte (((128 : Int32) + ((q / (64 : Int32)) % (64 : Int32))).toInt8.toInt32)))]) : List Value).length : Int) := by have q_ := own_nxt (vs := vs) (2 : Int32) (K := 2) own_k2 hi hv8 (by decide); simp only [List.length_append, List.length_cons, List.length_nil]; omega
    have V_a : Arv Z h6s a ka .byte M (((vs ++ [(.int (nar .byte (((224 : Int32) + (q / (4096 : Int32))).toInt8.toInt32)))]) ++ [(.int (nar .byte (((128 : Int32) + ((q / (64 : Int32)) % (64 : Int32))).toInt8.toInt32)))]) ++ [(.int 0)]) (.int 0) := V_a.pad (pad_rep ((vs ++ [(.int (nar .byte (((224 : Int32) + (q / (4096 : Int32))).toInt8.toInt32)))]) ++ [(.int (nar .byte (((128 : Int32) + ((q / (64 : Int32)) % (64 : Int32))).toInt8.toInt32)))]) (.int 0) 1)
    show oF p e below (T6s.setTop (mkF m 100 #[.val (.ref a), .val (.int i), .val (.int q)] [(.int (((128 : Int32) + (q % (64 : Int32))).toInt8.toInt32)), (.int (i + (2 : Int32))), (.ref a)])) _
    obtain ⟨cl6u, A6u, q6u, S6u, M6u, H6u, G6u⟩ := id V_a
    have hin6u : ¬ ((i + (2 : Int32)) < 0 ∨ cl6u.slots.size ≤ ((i + (2 : Int32))).toNatClampNeg) := inb_of S6u (own_inj hj2 (by simp only [List.length_append, List.length_cons, List.length_nil]; omega))
    obtain ⟨T6u, h6u, X6u, e6u, W6u, st6u⟩ := stB X6s hx hZ e6s A6u (j := (i + (2 : Int32))) hin6u (g := (mkF m 100 #[.val (.ref a), .val (.int i), .val (.int q)] [(.int (((128 : Int32) + (q % (64 : Int32))).toInt8.toInt32)), (.int (i + (2 : Int32))), (.ref a)])) rfl rfl (B d2_100)
    refine oG st6u ?_
    have O := O.wr W6u g_a
    have K6v := K6t.wr W6u (Or.inl (List.mem_of_getElem? (i := 0) rfl))
    have V_a : Arv Z h6u a ka .byte M (((vs ++ [(.int (nar .byte (((224 : Int32) + (q / (4096 : Int32))).toInt8.toInt32)))]) ++ [(.int (nar .byte (((128 : Int32) + ((q / (64 : Int32)) % (64 : Int32))).toInt8.toInt32)))]) ++ [(.int (nar .byte (((128 : Int32) + (q % (64 : Int32))).toInt8.toInt32)))]) (.int 0) := by have q_ := Arv.set A6u q6u S6u M6u H6u G6u (fits_nar_byte _) W6u _ rfl (own_snl ((vs ++ [(.int (nar .byte (((224 : Int32) + (q / (4096 : Int32))).toInt8.toInt32)))]) ++ [(.int (nar .byte (((128 : Int32) + ((q / (64 : Int32)) % (64 : Int32))).toInt8.toInt32)))]) (.int 0) (i + (2 : Int32)) hj2); rw [own_set1 hj2] at q_; exact q_
    have N6u := Fr.snoc X6u N6s g_a
    show oF p e below (T6u.setTop (mkF m 101 #[.val (.ref a), .val (.int i), .val (.int q)] [])) _
    refine oG (fun _ k => XS.goto X6u.here hx rfl (pc0 := 101) (pc' := 165) rfl (B d2_101) (by decide) (by decide) k) ?_
    show oF p e below (T6u.setTop (mkF m 165 #[.val (.ref a), .val (.int i), .val (.int q)] [])) _
    obtain ⟨fs, hr, r1, r2, hW, r3⟩ := X6u.leave (v := none) (fun _ => rfl)
    refine ⟨_, _, ?_, r1, r2, _, _, rfl, ?_, ⟨_, rfl⟩, hW, r3.mono (by decide) (by decide)⟩
    ·exact X6u.returnOut hx Bd.returns (B d2_165) hr
    ·show Qput Z a q ka M vs h0 n0 _ T6u.heap _
     rw [e6u]
     exact ⟨rfl, N6u, K6v, (by rw [show vs ++ own_enc q = (((vs ++ [(.int (nar .byte (((224 : Int32) + (q / (4096 : Int32))).toInt8.toInt32)))]) ++ [(.int (nar .byte (((128 : Int32) + ((q / (64 : Int32)) % (64 : Int32))).toInt8.toInt32)))]) ++ [(.int (nar .byte (((128 : Int32) + (q % (64 : Int32))).toInt8.toInt32)))]) from by rw [henc, List.append_assoc, List.append_assoc] <;> rfl]; exact V_a)⟩
   ·refine oG (fun _ k => XS.icmpYes X0.here hx rfl (pc0 := 54) (pc' := 104) rfl (B d2_54) rfl (flt hc54_516).2.1 (by decide) (by decide) (XS.aloadN X0.here hx rfl (B d2_104) rfl rfl (XS.iloadN X0.here hx rfl (B d2_105) rfl (XS.sipush X0.here hx rfl (B d2_106) (XS.iloadN X0.here hx rfl (B d2_109) rfl k))))) ?_
    show oF p e below (s₁.setTop (mkF m 110 #[.val (.ref a), .val (.int i), .val (.int q)] [(.int q), (.int 240), (.int i), (.ref a)])) _
    refine oG (fun _ k => X0.ldcInt hx hown (mo hZ hw 177) (g := (mkF m 110 #[.val (.ref a), .val (.int i), .val (.int q)] [(.int q), (.int 240), (.int i), (.ref a)])) rfl (B d2_110) _ k) ?_
    show oF p e below (s₁.setTop (mkF m 112 #[.val (.ref a), .val (.int i), .val (.int q)] [(.int 262144), (.int q), (.int 240), (.int i), (.ref a)])) _
    refine oG (fun _ k => XS.idiv X0.here hx rfl (B d2_112) rfl (by decide) (XS.iadd X0.here hx rfl (B d2_113) rfl (XS.i2b X0.here hx rfl (B d2_114) rfl k))) ?_
    show oF p e below (s₁.setTop (mkF m 115 #[.val (.ref a), .val (.int i), .val (.int q)] [(.int (((240 : Int32) + (q / (262144 : Int32))).toInt8.toInt32)), (.int i), (.ref a)])) _
    have henc := own_enc4 hc4_506 hc19_510 hc54_516
    have hMc : (vs.length : Int) + 4 ≤ M.toInt := by rw [henc, List.length_append] at hM; simp only [List.length_cons, List.length_nil] at hM; omega
    have hv8 : vs.length ≤ 8 := by omega
    have hj0 : i.toInt = (vs.length : Int) := hi
    have V_a : Arv Z h0 a ka .byte M (vs ++ [(.int 0)]) (.int 0) := V_a.pad (pad_rep vs (.int 0) 1)
    show oF p e below (s₁.setTop (mkF m 115 #[.val (.ref a), .val (.int i), .val (.int q)] [(.int (((240 : Int32) + (q / (262144 : Int32))).toInt8.toInt32)), (.int i), (.ref a)])) _
    obtain ⟨cl6w, A6w, q6w, S6w, M6w, H6w, G6w⟩ := id V_a
    have hin6w : ¬ (i < 0 ∨ cl6w.slots.size ≤ (i).toNatClampNeg) := inb_of S6w (own_inj hj0 (by omega))
    obtain ⟨T6w, h6w, X6w, e6w, W6w, st6w⟩ := stB X0 hx hZ e0 A6w (j := i) hin6w (g := (mkF m 115 #[.val (.ref a), .val (.int i), .val (.int q)] [(.int (((240 : Int32) + (q / (262144 : Int32))).toInt8.toInt32)), (.int i), (.ref a)])) rfl rfl (B d2_115)
    refine oG st6w ?_
    have O := O.wr W6w g_a
    have K6x := K0.wr W6w (Or.inl (List.mem_of_getElem? (i := 0) rfl))
    have V_a : Arv Z h6w a ka .byte M (vs ++ [(.int (nar .byte (((240 : Int32) + (q / (262144 : Int32))).toInt8.toInt32)))]) (.int 0) := by have q_ := Arv.set A6w q6w S6w M6w H6w G6w (fits_nar_byte _) W6w _ rfl (own_snl vs (.int 0) i hj0); rw [own_set1 hj0] at q_; exact q_
    have N6w := Fr.snoc X6w N0 g_a
    show oF p e below (T6w.setTop (mkF m 116 #[.val (.ref a), .val (.int i), .val (.int q)] [])) _
    refine oG (fun _ k => XS.aloadN X6w.here hx rfl (B d2_116) rfl rfl (XS.iloadN X6w.here hx rfl (B d2_117) rfl (XS.iconst X6w.here hx rfl (B d2_118) (XS.iadd X6w.here hx rfl (B d2_119) rfl (XS.sipush X6w.here hx rfl (B d2_120) (XS.iloadN X6w.here hx rfl (B d2_123) rfl (XS.sipush X6w.here hx rfl (B d2_124) (XS.idiv X6w.here hx rfl (B d2_127) rfl (by decide) (XS.bipush X6w.here hx rfl (B d2_128) (iremM X6w hx rfl (B d2_130) rfl (by decide) k)))))))))) ?_
    show oF p e below (T6w.setTop (mkF m 131 #[.val (.ref a), .val (.int i), .val (.int q)] [(.int ((q / (4096 : Int32)) % (64 : Int32))), (.int 128), (.int (i + (1 : Int32))), (.ref a)])) _
    refine oG (fun _ k => XS.iadd X6w.here hx rfl (B d2_131) rfl (XS.i2b X6w.here hx rfl (B d2_132) rfl k)) ?_
    show oF p e below (T6w.setTop (mkF m 133 #[.val (.ref a), .val (.int i), .val (.int q)] [(.int (((128 : Int32) + ((q / (4096 : Int32)) % (64 : Int32))).toInt8.toInt32)), (.int (i + (1 : Int32))), (.ref a)])) _
    have hj1 : (i + (1 : Int32)).toInt = (((vs ++ [(.int (nar .byte (((240 : Int32) + (q / (262144 : Int32))).toInt8.toInt32)))]) : List Value).length : Int) := by have q_ := own_nxt (vs := vs) (1 : Int32) (K := 1) own_k1 hi hv8 (by decide); simp only [List.length_append, List.length_cons, List.length_nil]; omega
    have V_a : Arv Z h6w a ka .byte M ((vs ++ [(.int (nar .byte (((240 : Int32) + (q / (262144 : Int32))).toInt8.toInt32)))]) ++ [(.int 0)]) (.int 0) := V_a.pad (pad_rep (vs ++ [(.int (nar .byte (((240 : Int32) + (q / (262144 : Int32))).toInt8.toInt32)))]) (.int 0) 1)
    show oF p e below (T6w.setTop (mkF m 133 #[.val (.ref a), .val (.int i), .val (.int q)] [(.int (((128 : Int32) + ((q / (4096 : Int32)) % (64 : Int32))).toInt8.toInt32)), (.int (i + (1 : Int32))), (.ref a)])) _
    obtain ⟨cl6y, A6y, q6y, S6y, M6y, H6y, G6y⟩ := id V_a
    have hin6y : ¬ ((i + (1 : Int32)) < 0 ∨ cl6y.slots.size ≤ ((i + (1 : Int32))).toNatClampNeg) := inb_of S6y (own_inj hj1 (by simp only [List.length_append, List.length_cons, List.length_nil]; omega))
    obtain ⟨T6y, h6y, X6y, e6y, W6y, st6y⟩ := stB X6w hx hZ e6w A6y (j := (i + (1 : Int32))) hin6y (g := (mkF m 133 #[.val (.ref a), .val (.int i), .val (.int q)] [(.int (((128 : Int32) + ((q / (4096 : Int32)) % (64 : Int32))).toInt8.toInt32)), (.int (i + (1 : Int32))), (.ref a)])) rfl rfl (B d2_133)
    refine oG st6y ?_
    have O := O.wr W6y g_a
    have K6z := K6x.wr W6y (Or.inl (List.mem_of_getElem? (i := 0) rfl))
    have V_a : Arv Z h6y a ka .byte M ((vs ++ [(.int (nar .byte (((240 : Int32) + (q / (262144 : Int32))).toInt8.toInt32)))]) ++ [(.int (nar .byte (((128 : Int32) + ((q / (4096 : Int32)) % (64 : Int32))).toInt8.toInt32)))]) (.int 0) := by have q_ := Arv.set A6y q6y S6y M6y H6y G6y (fits_nar_byte _) W6y _ rfl (own_snl (vs ++ [(.int (nar .byte (((240 : Int32) + (q / (262144 : Int32))).toInt8.toInt32)))]) (.int 0) (i + (1 : Int32)) hj1); rw [own_set1 hj1] at q_; exact q_
    have N6y := Fr.snoc X6y N6w g_a
    show oF p e below (T6y.setTop (mkF m 134 #[.val (.ref a), .val (.int i), .val (.int q)] [])) _
    refine oG (fun _ k => XS.aloadN X6y.here hx rfl (B d2_134) rfl rfl (XS.iloadN X6y.here hx rfl (B d2_135) rfl (XS.iconst X6y.here hx rfl (B d2_136) (XS.iadd X6y.here hx rfl (B d2_137) rfl (XS.sipush X6y.here hx rfl (B d2_138) (XS.iloadN X6y.here hx rfl (B d2_141) rfl (XS.bipush X6y.here hx rfl (B d2_142) (XS.idiv X6y.here hx rfl (B d2_144) rfl (by decide) (XS.bipush X6y.here hx rfl (B d2_145) (iremM X6y hx rfl (B d2_147) rfl (by decide) k)))))))))) ?_
    show oF p e below (T6y.setTop (mkF m 148 #[.val (.ref a), .val (.int i), .val (.int q)] [(.int ((q / (64 : Int32)) % (64 : Int32))), (.int 128), (.int (i + (2 : Int32))), (.ref a)])) _
    refine oG (fun _ k => XS.iadd X6y.here hx rfl (B d2_148) rfl (XS.i2b X6y.here hx rfl (B d2_149) rfl k)) ?_
    show oF p e below (T6y.setTop (mkF m 150 #[.val (.ref a), .val (.int i), .val (.int q)] [(.int (((128 : Int32) + ((q / (64 : Int32)) % (64 : Int32))).toInt8.toInt32)), (.int (i + (2 : Int32))), (.ref a)])) _
    have hj2 : (i + (2 : Int32)).toInt = ((((vs ++ [(.int (nar .byte (((240 : Int32) + (q / (262144 : Int32))).toInt8.toInt32)))]) ++ [(.int (nar .byte (((128 : Int32) + ((q / (4096 : Int32)) % (64 : Int32))).toInt8.toInt32)))]) : List Value).length : Int) := by have q_ := own_nxt (vs := vs) (2 : Int32) (K := 2) own_k2 hi hv8 (by decide); simp only [List.length_append, List.length_cons, List.length_nil]; omega
    have V_a : Arv Z h6y a ka .byte M (((vs ++ [(.int (nar .byte (((240 : Int32) + (q / (262144 : Int32))).toInt8.toInt32)))]) ++ [(.int (nar .byte (((128 : Int32) + ((q / (4096 : Int32)) % (64 : Int32))).toInt8.toInt32)))]) ++ [(.int 0)]) (.int 0) := V_a.pad (pad_rep ((vs ++ [(.int (nar .byte (((240 : Int32) + (q / (262144 : Int32))).toInt8.toInt32)))]) ++ [(.int (nar .byte (((128 : Int32) + ((q / (4096 : Int32)) % (64 : Int32))).toInt8.toInt32)))]) (.int 0) 1)
    show oF p e below (T6y.setTop (mkF m 150 #[.val (.ref a), .val (.int i), .val (.int q)] [(.int (((128 : Int32) + ((q / (64 : Int32)) % (64 : Int32))).toInt8.toInt32)), (.int (i + (2 : Int32))), (.ref a)])) _
    obtain ⟨cl6A, A6A, q6A, S6A, M6A, H6A, G6A⟩ := id V_a
    have hin6A : ¬ ((i + (2 : Int32)) < 0 ∨ cl6A.slots.size ≤ ((i + (2 : Int32))).toNatClampNeg) := inb_of S6A (own_inj hj2 (by simp only [List.length_append, List.length_cons, List.length_nil]; omega))
    obtain ⟨T6A, h6A, X6A, e6A, W6A, st6A⟩ := stB X6y hx hZ e6y A6A (j := (i + (2 : Int32))) hin6A (g := (mkF m 150 #[.val (.ref a), .val (.int i), .val (.int q)] [(.int (((128 : Int32) + ((q / (64 : Int32)) % (64 : Int32))).toInt8.toInt32)), (.int (i + (2 : Int32))), (.ref a)])) rfl rfl (B d2_150)
    refine oG st6A ?_
    have O := O.wr W6A g_a
    have K6B := K6z.wr W6A (Or.inl (List.mem_of_getElem? (i := 0) rfl))
    have V_a : Arv Z h6A a ka .byte M (((vs ++ [(.int (nar .byte (((240 : Int32) + (q / (262144 : Int32))).toInt8.toInt32)))]) ++ [(.int (nar .byte (((128 : Int32) + ((q / (4096 : Int32)) % (64 : Int32))).toInt8.toInt32)))]) ++ [(.int (nar .byte (((128 : Int32) + ((q / (64 : Int32)) % (64 : Int32))).toInt8.toInt32)))]) (.int 0) := by have q_ := Arv.set A6A q6A S6A M6A H6A G6A (fits_nar_byte _) W6A _ rfl (own_snl ((vs ++ [(.int (nar .byte (((240 : Int32) + (q / (262144 : Int32))).toInt8.toInt32)))]) ++ [(.int (nar .byte (((128 : Int32) + ((q / (4096 : Int32)) % (64 : Int32))).toInt8.toInt32)))]) (.int 0) (i + (2 : Int32)) hj2); rw [own_set1 hj2] at q_; exact q_
    have N6A := Fr.snoc X6A N6y g_a
    show oF p e below (T6A.setTop (mkF m 151 #[.val (.ref a), .val (.int i), .val (.int q)] [])) _
    refine oG (fun _ k => XS.aloadN X6A.here hx rfl (B d2_151) rfl rfl (XS.iloadN X6A.here hx rfl (B d2_152) rfl (XS.iconst X6A.here hx rfl (B d2_153) (XS.iadd X6A.here hx rfl (B d2_154) rfl (XS.sipush X6A.here hx rfl (B d2_155) (XS.iloadN X6A.here hx rfl (B d2_158) rfl (XS.bipush X6A.here hx rfl (B d2_159) (iremM X6A hx rfl (B d2_161) rfl (by decide) (XS.iadd X6A.here hx rfl (B d2_162) rfl (XS.i2b X6A.here hx rfl (B d2_163) rfl k)))))))))) ?_
    show oF p e below (T6A.setTop (mkF m 164 #[.val (.ref a), .val (.int i), .val (.int q)] [(.int (((128 : Int32) + (q % (64 : Int32))).toInt8.toInt32)), (.int (i + (3 : Int32))), (.ref a)])) _
    have hj3 : (i + (3 : Int32)).toInt = (((((vs ++ [(.int (nar .byte (((240 : Int32) + (q / (262144 : Int32))).toInt8.toInt32)))]) ++ [(.int (nar .byte (((128 : Int32) + ((q / (4096 : Int32)) % (64 : Int32))).toInt8.toInt32)))]) ++ [(.int (nar .byte (((128 : Int32) + ((q / (64 : Int32)) % (64 : Int32))).toInt8.toInt32)))]) : List Value).length : Int) := by have q_ := own_nxt (vs := vs) (3 : Int32) (K := 3) own_k3 hi hv8 (by decide); simp only [List.length_append, List.length_cons, List.length_nil]; omega
    have V_a : Arv Z h6A a ka .byte M ((((vs ++ [(.int (nar .byte (((240 : Int32) + (q / (262144 : Int32))).toInt8.toInt32)))]) ++ [(.int (nar .byte (((128 : Int32) + ((q / (4096 : Int32)) % (64 : Int32))).toInt8.toInt32)))]) ++ [(.int (nar .byte (((128 : Int32) + ((q / (64 : Int32)) % (64 : Int32))).toInt8.toInt32)))]) ++ [(.int 0)]) (.int 0) := V_a.pad (pad_rep (((vs ++ [(.int (nar .byte (((240 : Int32) + (q / (262144 : Int32))).toInt8.toInt32)))]) ++ [(.int (nar .byte (((128 : Int32) + ((q / (4096 : Int32)) % (64 : Int32))).toInt8.toInt32)))]) ++ [(.int (nar .byte (((128 : Int32) + ((q / (64 : Int32)) % (64 : Int32))).toInt8.toInt32)))]) (.int 0) 1)
    show oF p e below (T6A.setTop (mkF m 164 #[.val (.ref a), .val (.int i), .val (.int q)] [(.int (((128 : Int32) + (q % (64 : Int32))).toInt8.toInt32)), (.int (i + (3 : Int32))), (.ref a)])) _
    obtain ⟨cl6C, A6C, q6C, S6C, M6C, H6C, G6C⟩ := id V_a
    have hin6C : ¬ ((i + (3 : Int32)) < 0 ∨ cl6C.slots.size ≤ ((i + (3 : Int32))).toNatClampNeg) := inb_of S6C (own_inj hj3 (by simp only [List.length_append, List.length_cons, List.length_nil]; omega))
    obtain ⟨T6C, h6C, X6C, e6C, W6C, st6C⟩ := stB X6A hx hZ e6A A6C (j := (i + (3 : Int32))) hin6C (g := (mkF m 164 #[.val (.ref a), .val (.int i), .val (.int q)] [(.int (((128 : Int32) + (q % (64 : Int32))).toInt8.toInt32)), (.int (i + (3 : Int32))), (.ref a)])) rfl rfl (B d2_164)
    refine oG st6C ?_
    have O := O.wr W6C g_a
    have K6D := K6B.wr W6C (Or.inl (List.mem_of_getElem? (i := 0) rfl))
    have V_a : Arv Z h6C a ka .byte M ((((vs ++ [(.int (nar .byte (((240 : Int32) + (q / (262144 : Int32))).toInt8.toInt32)))]) ++ [(.int (nar .byte (((128 : Int32) + ((q / (4096 : Int32)) % (64 : Int32))).toInt8.toInt32)))]) ++ [(.int (nar .byte (((128 : Int32) + ((q / (64 : Int32)) % (64 : Int32))).toInt8.toInt32)))]) ++ [(.int (nar .byte (((128 : Int32) + (q % (64 : Int32))).toInt8.toInt32)))]) (.int 0) := by have q_ := Arv.set A6C q6C S6C M6C H6C G6C (fits_nar_byte _) W6C _ rfl (own_snl (((vs ++ [(.int (nar .byte (((240 : Int32) + (q / (262144 : Int32))).toInt8.toInt32)))]) ++ [(.int (nar .byte (((128 : Int32) + ((q / (4096 : Int32)) % (64 : Int32))).toInt8.toInt32)))]) ++ [(.int (nar .byte (((128 : Int32) + ((q / (64 : Int32)) % (64 : Int32))).toInt8.toInt32)))]) (.int 0) (i + (3 : Int32)) hj3); rw [own_set1 hj3] at q_; exact q_
    have N6C := Fr.snoc X6C N6A g_a
    show oF p e below (T6C.setTop (mkF m 165 #[.val (.ref a), .val (.int i), .val (.int q)] [])) _
    obtain ⟨fs, hr, r1, r2, hW, r3⟩ := X6C.leave (v := none) (fun _ => rfl)
    refine ⟨_, _, ?_, r1, r2, _, _, rfl, ?_, ⟨_, rfl⟩, hW, r3.mono (by decide) (by decide)⟩
    ·exact X6C.returnOut hx Bd.returns (B d2_165) hr
    ·show Qput Z a q ka M vs h0 n0 _ T6C.heap _
     rw [e6C]
     exact ⟨rfl, N6C, K6D, (by rw [show vs ++ own_enc q = ((((vs ++ [(.int (nar .byte (((240 : Int32) + (q / (262144 : Int32))).toInt8.toInt32)))]) ++ [(.int (nar .byte (((128 : Int32) + ((q / (4096 : Int32)) % (64 : Int32))).toInt8.toInt32)))]) ++ [(.int (nar .byte (((128 : Int32) + ((q / (64 : Int32)) % (64 : Int32))).toInt8.toInt32)))]) ++ [(.int (nar .byte (((128 : Int32) + (q % (64 : Int32))).toInt8.toInt32)))]) from by rw [henc, List.append_assoc, List.append_assoc, List.append_assoc] <;> rfl]; exact V_a)⟩
theorem d3_0 : decode k60_ 0 = .ok (.new 57, 3) := by decide +kernel
theorem d3_3 : decode k60_ 3 = .ok (.dup, 1) := by decide +kernel
theorem d3_4 : decode k60_ 4 = .ok (.aload_n 0, 1) := by decide +kernel
theorem d3_5 : decode k60_ 5 = .ok (.arraylength, 1) := by decide +kernel
theorem d3_6 : decode k60_ 6 = .ok (.invokespecial 59, 3) := by decide +kernel
theorem d3_9 : decode k60_ 9 = .ok (.astore_n 1, 1) := by decide +kernel
theorem d3_10 : decode k60_ 10 = .ok (.iconst 0, 1) := by decide +kernel
theorem d3_11 : decode k60_ 11 = .ok (.istore_n 2, 1) := by decide +kernel
theorem d3_12 : decode k60_ 12 = .ok (.iload_n 2, 1) := by decide +kernel
theorem d3_13 : decode k60_ 13 = .ok (.aload_n 0, 1) := by decide +kernel
theorem d3_14 : decode k60_ 14 = .ok (.arraylength, 1) := by decide +kernel
theorem d3_15 : decode k60_ 15 = .ok (.if_icmp .ge 114, 3) := by decide +kernel
theorem d3_18 : decode k60_ 18 = .ok (.aload_n 0, 1) := by decide +kernel
theorem d3_19 : decode k60_ 19 = .ok (.iload_n 2, 1) := by decide +kernel
theorem d3_20 : decode k60_ 20 = .ok (.baload, 1) := by decide +kernel
theorem d3_21 : decode k60_ 21 = .ok (.sipush 255, 3) := by decide +kernel
theorem d3_24 : decode k60_ 24 = .ok (.iand, 1) := by decide +kernel
theorem d3_25 : decode k60_ 25 = .ok (.istore_n 3, 1) := by decide +kernel
theorem d3_26 : decode k60_ 26 = .ok (.iload_n 3, 1) := by decide +kernel
theorem d3_27 : decode k60_ 27 = .ok (.sipush 128, 3) := by decide +kernel
theorem d3_30 : decode k60_ 30 = .ok (.if_icmp .ge 7, 3) := by decide +kernel
theorem d3_33 : decode k60_ 33 = .ok (.iconst 1, 1) := by decide +kernel
theorem d3_34 : decode k60_ 34 = .ok (.goto 26, 3) := by decide +kernel
theorem d3_60 : decode k60_ 60 = .ok (.istore 4, 2) := by decide +kernel
theorem d3_62 : decode k60_ 62 = .ok (.iload 4, 2) := by decide +kernel
theorem d3_64 : decode k60_ 64 = .ok (.iconst 1, 1) := by decide +kernel
theorem d3_65 : decode k60_ 65 = .ok (.if_icmp .ne 7, 3) := by decide +kernel
theorem d3_68 : decode k60_ 68 = .ok (.iload_n 3, 1) := by decide +kernel
theorem d3_69 : decode k60_ 69 = .ok (.goto 10, 3) := by decide +kernel
theorem d3_79 : decode k60_ 79 = .ok (.istore 5, 2) := by decide +kernel
theorem d3_81 : decode k60_ 81 = .ok (.iconst 1, 1) := by decide +kernel
theorem d3_82 : decode k60_ 82 = .ok (.istore 6, 2) := by decide +kernel
theorem d3_84 : decode k60_ 84 = .ok (.iload 6, 2) := by decide +kernel
theorem d3_86 : decode k60_ 86 = .ok (.iload 4, 2) := by decide +kernel
theorem d3_88 : decode k60_ 88 = .ok (.if_icmp .ge 26, 3) := by decide +kernel
theorem d3_37 : decode k60_ 37 = .ok (.iload_n 3, 1) := by decide +kernel
theorem d3_38 : decode k60_ 38 = .ok (.sipush 224, 3) := by decide +kernel
theorem d3_41 : decode k60_ 41 = .ok (.if_icmp .ge 7, 3) := by decide +kernel
theorem d3_44 : decode k60_ 44 = .ok (.iconst 2, 1) := by decide +kernel
theorem d3_45 : decode k60_ 45 = .ok (.goto 15, 3) := by decide +kernel
theorem d3_72 : decode k60_ 72 = .ok (.iload_n 3, 1) := by decide +kernel
theorem d3_73 : decode k60_ 73 = .ok (.bipush 127, 2) := by decide +kernel
theorem d3_75 : decode k60_ 75 = .ok (.iload 4, 2) := by decide +kernel
theorem d3_77 : decode k60_ 77 = .ok (.ishr, 1) := by decide +kernel
theorem d3_78 : decode k60_ 78 = .ok (.iand, 1) := by decide +kernel
theorem d3_91 : decode k60_ 91 = .ok (.iload 5, 2) := by decide +kernel
theorem d3_93 : decode k60_ 93 = .ok (.bipush 6, 2) := by decide +kernel
theorem d3_95 : decode k60_ 95 = .ok (.ishl, 1) := by decide +kernel
theorem d3_96 : decode k60_ 96 = .ok (.aload_n 0, 1) := by decide +kernel
theorem d3_97 : decode k60_ 97 = .ok (.iload_n 2, 1) := by decide +kernel
theorem d3_98 : decode k60_ 98 = .ok (.iload 6, 2) := by decide +kernel
theorem d3_100 : decode k60_ 100 = .ok (.iadd, 1) := by decide +kernel
theorem d3_101 : decode k60_ 101 = .ok (.baload, 1) := by decide +kernel
theorem d3_102 : decode k60_ 102 = .ok (.bipush 63, 2) := by decide +kernel
theorem d3_104 : decode k60_ 104 = .ok (.iand, 1) := by decide +kernel
theorem d3_105 : decode k60_ 105 = .ok (.ior, 1) := by decide +kernel
theorem d3_106 : decode k60_ 106 = .ok (.istore 5, 2) := by decide +kernel
theorem d3_108 : decode k60_ 108 = .ok (.iinc 6 1, 3) := by decide +kernel
theorem d3_111 : decode k60_ 111 = .ok (.goto (-27), 3) := by decide +kernel
theorem d3_48 : decode k60_ 48 = .ok (.iload_n 3, 1) := by decide +kernel
theorem d3_49 : decode k60_ 49 = .ok (.sipush 240, 3) := by decide +kernel
theorem d3_52 : decode k60_ 52 = .ok (.if_icmp .ge 7, 3) := by decide +kernel
theorem d3_55 : decode k60_ 55 = .ok (.iconst 3, 1) := by decide +kernel
theorem d3_56 : decode k60_ 56 = .ok (.goto 4, 3) := by decide +kernel
theorem d3_59 : decode k60_ 59 = .ok (.iconst 4, 1) := by decide +kernel
theorem d3_129 : decode k60_ 129 = .ok (.aload_n 1, 1) := by decide +kernel
theorem d3_130 : decode k60_ 130 = .ok (.invokevirtual 66, 3) := by decide +kernel
theorem pd_35 : parseMethodDescriptor "()Ljava/lang/String;" = some ⟨[], some (.object "java/lang/String")⟩ := by decide +kernel
theorem d3_133 : decode k60_ 133 = .ok (.areturn, 1) := by decide +kernel
theorem d3_114 : decode k60_ 114 = .ok (.aload_n 1, 1) := by decide +kernel
theorem d3_115 : decode k60_ 115 = .ok (.iload 5, 2) := by decide +kernel
theorem d3_117 : decode k60_ 117 = .ok (.invokevirtual 62, 3) := by decide +kernel
theorem pd_36 : parseMethodDescriptor "(I)Ljava/lang/StringBuilder;" = some ⟨[.int], some (.object "java/lang/StringBuilder")⟩ := by decide +kernel
theorem d3_120 : decode k60_ 120 = .ok (.pop, 1) := by decide +kernel
theorem d3_121 : decode k60_ 121 = .ok (.iload_n 2, 1) := by decide +kernel
theorem d3_122 : decode k60_ 122 = .ok (.iload 4, 2) := by decide +kernel
theorem d3_124 : decode k60_ 124 = .ok (.iadd, 1) := by decide +kernel
theorem d3_125 : decode k60_ 125 = .ok (.istore_n 2, 1) := by decide +kernel
theorem d3_126 : decode k60_ 126 = .ok (.goto (-114), 3) := by decide +kernel
theorem pn_9 : plainName "com/example/espalier/espalier/Entries" = true := by first | (simp [plainName, overriddenIn]; done) | decide +kernel
theorem ef_idc (m : MethodId) (x0 : Addr) : entryFrame m #[(.ref x0)] 7 = mkF m 0 #[.val (.ref x0), .unset, .unset, .unset, .unset, .unset, .unset] [] := by first | (simp [entryFrame, mkF, argsToLocals, Value.category]; done) | rfl
def Qidc (Z : State) (cps : List Int32) (h0 : Heap) (n0 : Nat) (v : Option Value) (h : Heap) (L : List Loc) : Prop := ∃ (s_ : Addr) (t2_ : Addr) (k2_ : ClassId), v = some (.ref s_) ∧ Fr n0 L ∧ Keep h0 h [] ∧ h0.size ≤ s_ ∧ eX2 Z h s_ ∧ own_ST Z h s_ t2_ k2_ (own_uns cps)
theorem idc (l : Launch) (Z : State) (a0 : Array Value) (hw : ∀ d ∈ tables_1, d.before a0 Z = true) (ws : List Jvm.Cond) (a : Addr) (z : Int32) (fm : Value) (ka : ClassId) (M : Int32) (cps : List Int32) (h0 : Heap) (n0 : Nat) (O : Old Z n0 h0) (j6_ : sT0 Z (.int 1)) (j7_ : sT1 Z (.int 0)) (j8_ : sT2 Z (.int 8)) (j5_ : sT3 Z fm) (hfm : fm.isRef = true) (j4_ : sT4 Z (.int z)) (hz : ¬ (z = (0 : Int32))) (V_a : Arv Z h0 a ka .byte M (own_key cps) (.int 0)) (hMk : M.toInt = ((own_key cps).length : Int)) (h2c : cps.length ≤ 2) (kcc : own_cps cps) :
   own_MF l Z mN60 prog_6_method_6_code 7 (some (.object "java/lang/String")) ws rM34 #[(.ref a)] h0 (Qidc Z cps h0 n0) := by
 refine MetFree.of_bodySF (plainFor_of_name pn_9) hisR ?_
 intro p e s m args below meth c s₁ Bd hml0 hP hK
 obtain ⟨rfl, hZ, hh⟩ := hP
 have hx := Bd.exec
 have hby := Bd.bytes
 have B := @hb _ _ hby
 have hml : c.maxLocals = 7 := hml0
 have hown : s.vm.findClass "com/example/espalier/espalier/Entries" = some m.cls := findClass_of_methodNamed Bd.named
 have X0 : Stand p l e rM34 s m #[(.ref a)] below meth c s₁ [] 0 0 := Stand.of_body Bd
 have e0 : s₁.heap = h0 := by rw [← hh, Bd.state]; rfl
 have N0 := Fr.nil n0
 have K0 := Keep.refl h0 []
 refine own_start (ef_idc m a) (Q := own_QE s rM34 (Qidc Z cps h0 n0)) ?_
 show oF p e below (s₁.setTop (mkF m 0 #[.val (.ref a), .unset, .unset, .unset, .unset, .unset, .unset] [])) _
 obtain ⟨T6E, h6E, X6E, e6E, E6E, A6E, D6E, -, st6E⟩ := newO X0 hx hZ hown (ow hw 14) (ow hw 15) (ow hw 16) e0 (g := (mkF m 0 #[.val (.ref a), .unset, .unset, .unset, .unset, .unset, .unset] [])) rfl (B d3_0) (by decide) (by decide)
 obtain ⟨b6E, g6E⟩ : ∃ z, z = h0.size := ⟨_, rfl⟩
 rw [← g6E] at A6E D6E st6E
 refine oG st6E ?_
 have j53_ : a ≠ b6E := Nat.ne_of_lt (Nat.lt_of_lt_of_le V_a.lt (Nat.le_of_eq g6E.symm))
 have j29_ : n0 ≤ b6E := Nat.le_trans (own_osz O) (Nat.le_of_eq g6E.symm)
 have j54_ : h0.size ≤ b6E := Nat.le_trans K0.1 (Nat.le_of_eq g6E.symm)
 have V_a := V_a.ext E6E
 have O := O.ext E6E
 have K6F := K0.ext E6E
 have j11_ := A6E
 have j93_ : fL1 Z h6E b6E .null := D6E (Or.inl (ow hw 32)) (ty := (.array .byte)) (by decide)
 have j94_ : fL0 Z h6E b6E (.int 0) := D6E (Or.inl (ow hw 34)) (ty := .byte) (by decide)
 have j95_ : fL2 Z h6E b6E (.int 0) := D6E (Or.inl (ow hw 63)) (ty := .int) (by decide)
 have j96_ : fL3 Z h6E b6E (.int 0) := D6E (Or.inl (ow hw 268)) (ty := .boolean) (by decide)
 show oF p e below (T6E.setTop (mkF m 3 #[.val (.ref a), .unset, .unset, .unset, .unset, .unset, .unset] [(.ref b6E)])) _
 refine oG (fun _ k => XS.dup X6E.here hx rfl (B d3_3) rfl rfl (XS.aloadN X6E.here hx rfl (B d3_4) rfl rfl k)) ?_
 show oF p e below (T6E.setTop (mkF m 5 #[.val (.ref a), .unset, .unset, .unset, .unset, .unset, .unset] [(.ref a), (.ref b6E), (.ref b6E)])) _
 obtain ⟨cl6G, A6G, -, S6G, M6G, -, -⟩ := id V_a
 refine oG (fun _ k => X6E.arraylength hx (own_eqE e6E A6G.1) (State.isArrayOf_alike hZ.alike A6G.2.1) (g := (mkF m 5 #[.val (.ref a), .unset, .unset, .unset, .unset, .unset, .unset] [(.ref a), (.ref b6E), (.ref b6E)])) rfl rfl (B d3_5) _ (by rw [len_of S6G M6G]; exact k)) ?_
 show oF p e below (T6E.setTop (mkF m 6 #[.val (.ref a), .unset, .unset, .unset, .unset, .unset, .unset] [(.int M), (.ref b6E), (.ref b6E)])) _
 obtain ⟨_, _, ⟨T6H, L6H, k6H, n6H⟩, -, X6H, ⟨Lc6H, hQ6H, l6H, y6H, z6H⟩, st6H⟩ := X6E.specialBack hx (y := mN38) rfl hown (mo hZ hw 17) (mo hZ hw 18) (mo hZ hw 19) (by decide) (backOf (W := 1) (si l Z a0 hw [] b6E M z h6E n0 O j4_ hz j11_ j93_ j94_ j95_ j96_ j29_ (by omega) (own_M8 hMk h2c)) hZ (ow hw 19) (ow hw 16) (by decide) (by decide)) (g := (mkF m 6 #[.val (.ref a), .unset, .unset, .unset, .unset, .unset, .unset] [(.int M), (.ref b6E), (.ref b6E)])) rfl (by rw [hml]; rfl) (Steps.refl _) (a := b6E) (argsL := [(.int M)]) (rest := [(.ref b6E)]) (lenOf pd_12 rfl) rfl (by show 2 * 0 + _ ≤ _; exact Nat.le_of_eq rfl) (B d3_6) (fun _ _ => ⟨rfl, e6E, (by decide : 1 + 1 ≤ _), (by decide : 4 + 8 ≤ _)⟩)
 dsimp only [Pt.U, Pt.locs, Pt.cells, Pt.slots] at X6H l6H y6H z6H st6H hQ6H
 subst y6H z6H
 obtain ⟨t_6I, k_6J, rfl, N6Hq, Kq6H, P6H_0, P6H_1, P6H_2, P6H_3⟩ := hQ6H
 refine oG (fun _ k => st6H.trans k) ?_
 have N6H := oL l6H (Fr.app N0 N6Hq)
 have ne_a_t_537 : a ≠ t_6I := Nat.ne_of_lt (Nat.lt_of_lt_of_le V_a.lt P6H_0)
 have ne_b533_t_537 : b6E ≠ t_6I := Nat.ne_of_lt (Nat.lt_of_lt_of_le j11_.lt P6H_0)
 have g_t_537 : n0 ≤ t_6I := Nat.le_trans (own_osz O) P6H_0
 have sz_t_537 : h0.size ≤ t_6I := Nat.le_trans K6F.1 P6H_0
 have V_a := V_a.keep Kq6H (ninS j53_ nin0)
 have j11_ := j11_.keep Kq6H
 clear j93_
 clear j94_
 clear j95_
 clear j96_
 have O := O.keep Kq6H (allS j29_ all0)
 have K6K := K6F.trans Kq6H (allS (Or.inr j54_) all0)
 have j11_ := P6H_1
 have E_t_537 := P6H_2
 have j13_ := P6H_3
 show oF p e below (T6H.setTop (mkF m 9 #[.val (.ref a), .unset, .unset, .unset, .unset, .unset, .unset] [(.ref b6E)])) _
 refine oG (fun _ k => XS.astoreN X6H.here hx rfl (B d3_9) rfl rfl (l' := #[.val (.ref a), .val (.ref b6E), .unset, .unset, .unset, .unset, .unset]) rfl (XS.iconst X6H.here hx rfl (B d3_10) (XS.istoreN X6H.here hx rfl (B d3_11) rfl (l' := #[.val (.ref a), .val (.ref b6E), .val (.int 0), .unset, .unset, .unset, .unset]) rfl k))) ?_
 show oF p e below (T6H.setTop (mkF m 12 #[.val (.ref a), .val (.ref b6E), .val (.int 0), .unset, .unset, .unset, .unset] [])) _
 have dec : ∀ (Tc : State) (Lc : List Loc) (cc sc : Nat) (hc : Heap) (ii : Int32) (dn rem : List Int32) (q : Int32) (s3l s4l s5l s6l : Slot) (Xc : Stand p l e rM34 s m #[(.ref a)] below meth c Tc Lc cc sc) (ec : Tc.heap = hc) (V_a : Arv Z hc a ka .byte M (own_key cps) (.int 0)) (o3l : One s3l) (o4l : One s4l) (o5l : One s5l) (o6l : One s6l) (hii : ii.toInt = ((own_key dn).length : Int)) (hk8 : (own_key dn).length ≤ 8) (hdn : cps = dn ++ q :: rem) (kq : own_cp q) (kf : ∀ x3 len x6 : Int32, len.toInt = ((own_enc q).length : Int) → oF p e below (Tc.setTop (mkF m 114 #[.val (.ref a), .val (.ref b6E), .val (.int ii), .val (.int x3), .val (.int len), .val (.int q), .val (.int x6)] [])) (fun o' t' => ∃ v' L', o' = .returned v' ∧ Qidc Z cps h0 n0 v' t'.heap L' ∧ FrameEnd s o' t' L' rM34.cells rM34.slots)), oF p e below (Tc.setTop (mkF m 12 #[.val (.ref a), .val (.ref b6E), .val (.int ii), s3l, s4l, s5l, s6l] [])) (fun o' t' => ∃ v' L', o' = .returned v' ∧ Qidc Z cps h0 n0 v' t'.heap L' ∧ FrameEnd s o' t' L' rM34.cells rM34.slots) := by
  intro Tc Lc cc sc hc ii dn rem q s3l s4l s5l s6l Xc ec V_a o3l o4l o5l o6l hii hk8 hdn kq kf
  show oF p e below (Tc.setTop (mkF m 12 #[.val (.ref a), .val (.ref b6E), .val (.int ii), s3l, s4l, s5l, s6l] [])) _
  refine oG (fun _ k => XS.iloadN Xc.here hx rfl (B d3_12) rfl (XS.aloadN Xc.here hx rfl (B d3_13) rfl rfl k)) ?_
  show oF p e below (Tc.setTop (mkF m 14 #[.val (.ref a), .val (.ref b6E), .val (.int ii), s3l, s4l, s5l, s6l] [(.ref a), (.int ii)])) _
  obtain ⟨cl6L, A6L, -, S6L, M6L, -, -⟩ := id V_a
  refine oG (fun _ k => Xc.arraylength hx (own_eqE ec A6L.1) (State.isArrayOf_alike hZ.alike A6L.2.1) (g := (mkF m 14 #[.val (.ref a), .val (.ref b6E), .val (.int ii), s3l, s4l, s5l, s6l] [(.ref a), (.int ii)])) rfl rfl (B d3_14) _ (by rw [len_of S6L M6L]; exact k)) ?_
  show oF p e below (Tc.setTop (mkF m 15 #[.val (.ref a), .val (.ref b6E), .val (.int ii), s3l, s4l, s5l, s6l] [(.int M), (.int ii)])) _
  refine oG (fun _ k => XS.icmpNo Xc.here hx rfl (B d3_15) rfl (tlt ((own_xb hii hdn hMk) : ii < M)).2.1 k) ?_
  show oF p e below (Tc.setTop (mkF m 18 #[.val (.ref a), .val (.ref b6E), .val (.int ii), s3l, s4l, s5l, s6l] [])) _
  by_cases hq1 : q < (128 : Int32)
  ·have henc := own_enc1 hq1
   show oF p e below (Tc.setTop (mkF m 18 #[.val (.ref a), .val (.ref b6E), .val (.int ii), s3l, s4l, s5l, s6l] [])) _
   refine oG (fun _ k => XS.aloadN Xc.here hx rfl (B d3_18) rfl rfl (XS.iloadN Xc.here hx rfl (B d3_19) rfl k)) ?_
   show oF p e below (Tc.setTop (mkF m 20 #[.val (.ref a), .val (.ref b6E), .val (.int ii), s3l, s4l, s5l, s6l] [(.int ii), (.ref a)])) _
   obtain ⟨cl6M, A6M, q6M, S6M, M6M, H6M, G6M⟩ := id V_a
   have hin6M : ¬ (ii < 0 ∨ cl6M.slots.size ≤ (ii).toNatClampNeg) := inb_of S6M (own_ldi hdn hMk (own_jz hii) henc (Nat.le_of_ble_eq_true rfl))
   have hat6M : cl6M.slots[(ii).toNatClampNeg]? = some (.int (own_e10 q)) := Has.at H6M hin6M (own_lda hdn (own_jz hii) henc (Nat.le_of_ble_eq_true rfl))
   refine oG (fun _ k => Xc.baloadBytes hx (j := ii) (v := (.int (own_e10 q))) (own_eqE ec A6M.1) (State.isArrayOf_alike hZ.alike A6M.2.1) A6M.2.2 hin6M hat6M (g := (mkF m 20 #[.val (.ref a), .val (.ref b6E), .val (.int ii), s3l, s4l, s5l, s6l] [(.int ii), (.ref a)])) rfl rfl (B d3_20) _ k) ?_
   show oF p e below (Tc.setTop (mkF m 21 #[.val (.ref a), .val (.ref b6E), .val (.int ii), s3l, s4l, s5l, s6l] [(.int (own_e10 q))])) _
   refine oG (fun _ k => XS.sipush Xc.here hx rfl (B d3_21) (XS.iand Xc.here hx rfl (B d3_24) rfl (XS.istoreN Xc.here hx rfl (B d3_25) rfl (l' := #[.val (.ref a), .val (.ref b6E), .val (.int ii), .val (.int ((own_e10 q) &&& (255 : Int32))), s4l, s5l, s6l]) (own_st2 rfl o3l rfl rfl) (XS.iloadN Xc.here hx rfl (B d3_26) rfl (XS.sipush Xc.here hx rfl (B d3_27) (XS.icmpNo Xc.here hx rfl (B d3_30) rfl (tlt ((own_l1a kq hq1) : ((own_e10 q) &&& (255 : Int32)) < (128 : Int32))).2.1 (XS.iconst Xc.here hx rfl (B d3_33) (XS.goto Xc.here hx rfl (pc0 := 34) (pc' := 60) rfl (B d3_34) (by decide) (by decide) (XS.istore Xc.here hx rfl (B d3_60) rfl (l' := #[.val (.ref a), .val (.ref b6E), .val (.int ii), .val (.int ((own_e10 q) &&& (255 : Int32))), .val (.int 1), s5l, s6l]) (own_st2 rfl o4l rfl rfl) (XS.iload Xc.here hx rfl (B d3_62) rfl k)))))))))) ?_
   show oF p e below (Tc.setTop (mkF m 64 #[.val (.ref a), .val (.ref b6E), .val (.int ii), .val (.int ((own_e10 q) &&& (255 : Int32))), .val (.int 1), s5l, s6l] [(.int 1)])) _
   refine oG (fun _ k => XS.iconst Xc.here hx rfl (B d3_64) (XS.icmpNo Xc.here hx rfl (B d3_65) rfl (teq (by decide : (1 : Int32) = (1 : Int32))).2 (XS.iloadN Xc.here hx rfl (B d3_68) rfl (XS.goto Xc.here hx rfl (pc0 := 69) (pc' := 79) rfl (B d3_69) (by decide) (by decide) (XS.istore Xc.here hx rfl (B d3_79) rfl (l' := #[.val (.ref a), .val (.ref b6E), .val (.int ii), .val (.int ((own_e10 q) &&& (255 : Int32))), .val (.int 1), .val (.int ((own_e10 q) &&& (255 : Int32))), s6l]) (own_st2 rfl o5l rfl rfl) (XS.iconst Xc.here hx rfl (B d3_81) (XS.istore Xc.here hx rfl (B d3_82) rfl (l' := #[.val (.ref a), .val (.ref b6E), .val (.int ii), .val (.int ((own_e10 q) &&& (255 : Int32))), .val (.int 1), .val (.int ((own_e10 q) &&& (255 : Int32))), .val (.int 1)]) (own_st2 rfl o6l rfl rfl) (XS.iload Xc.here hx rfl (B d3_84) rfl (XS.iload Xc.here hx rfl (B d3_86) rfl (XS.icmpYes Xc.here hx rfl (pc0 := 88) (pc' := 114) rfl (B d3_88) rfl (flt (by decide : ¬ ((1 : Int32) < (1 : Int32)))).2.1 (by decide) (by decide) k)))))))))) ?_
   show oF p e below (Tc.setTop (mkF m 114 #[.val (.ref a), .val (.ref b6E), .val (.int ii), .val (.int ((own_e10 q) &&& (255 : Int32))), .val (.int 1), .val (.int ((own_e10 q) &&& (255 : Int32))), .val (.int 1)] [])) _
   rw [own_dec1 kq hq1]
   exact kf _ _ _ (by rw [henc] <;> rfl)
  ·by_cases hq2 : q < (2048 : Int32)
   ·have henc := own_enc2 hq1 hq2
    show oF p e below (Tc.setTop (mkF m 18 #[.val (.ref a), .val (.ref b6E), .val (.int ii), s3l, s4l, s5l, s6l] [])) _
    refine oG (fun _ k => XS.aloadN Xc.here hx rfl (B d3_18) rfl rfl (XS.iloadN Xc.here hx rfl (B d3_19) rfl k)) ?_
    show oF p e below (Tc.setTop (mkF m 20 #[.val (.ref a), .val (.ref b6E), .val (.int ii), s3l, s4l, s5l, s6l] [(.int ii), (.ref a)])) _
    obtain ⟨cl6N, A6N, q6N, S6N, M6N, H6N, G6N⟩ := id V_a
    have hin6N : ¬ (ii < 0 ∨ cl6N.slots.size ≤ (ii).toNatClampNeg) := inb_of S6N (own_ldi hdn hMk (own_jz hii) henc (Nat.le_of_ble_eq_true rfl))
    have hat6N : cl6N.slots[(ii).toNatClampNeg]? = some (.int (own_e20 q)) := Has.at H6N hin6N (own_lda hdn (own_jz hii) henc (Nat.le_of_ble_eq_true rfl))
    refine oG (fun _ k => Xc.baloadBytes hx (j := ii) (v := (.int (own_e20 q))) (own_eqE ec A6N.1) (State.isArrayOf_alike hZ.alike A6N.2.1) A6N.2.2 hin6N hat6N (g := (mkF m 20 #[.val (.ref a), .val (.ref b6E), .val (.int ii), s3l, s4l, s5l, s6l] [(.int ii), (.ref a)])) rfl rfl (B d3_20) _ k) ?_
    show oF p e below (Tc.setTop (mkF m 21 #[.val (.ref a), .val (.ref b6E), .val (.int ii), s3l, s4l, s5l, s6l] [(.int (own_e20 q))])) _
    refine oG (fun _ k => XS.sipush Xc.here hx rfl (B d3_21) (XS.iand Xc.here hx rfl (B d3_24) rfl (XS.istoreN Xc.here hx rfl (B d3_25) rfl (l' := #[.val (.ref a), .val (.ref b6E), .val (.int ii), .val (.int ((own_e20 q) &&& (255 : Int32))), s4l, s5l, s6l]) (own_st2 rfl o3l rfl rfl) (XS.iloadN Xc.here hx rfl (B d3_26) rfl (XS.sipush Xc.here hx rfl (B d3_27) (XS.icmpYes Xc.here hx rfl (pc0 := 30) (pc' := 37) rfl (B d3_30) rfl (flt ((own_l2a kq hq2) : ¬ (((own_e20 q) &&& (255 : Int32)) < (128 : Int32)))).2.1 (by decide) (by decide) (XS.iloadN Xc.here hx rfl (B d3_37) rfl (XS.sipush Xc.here hx rfl (B d3_38) (XS.icmpNo Xc.here hx rfl (B d3_41) rfl (tlt ((own_l2b kq hq2) : ((own_e20 q) &&& (255 : Int32)) < (224 : Int32))).2.1 (XS.iconst Xc.here hx rfl (B d3_44) k)))))))))) ?_
    show oF p e below (Tc.setTop (mkF m 45 #[.val (.ref a), .val (.ref b6E), .val (.int ii), .val (.int ((own_e20 q) &&& (255 : Int32))), s4l, s5l, s6l] [(.int 2)])) _
    refine oG (fun _ k => XS.goto Xc.here hx rfl (pc0 := 45) (pc' := 60) rfl (B d3_45) (by decide) (by decide) (XS.istore Xc.here hx rfl (B d3_60) rfl (l' := #[.val (.ref a), .val (.ref b6E), .val (.int ii), .val (.int ((own_e20 q) &&& (255 : Int32))), .val (.int 2), s5l, s6l]) (own_st2 rfl o4l rfl rfl) (XS.iload Xc.here hx rfl (B d3_62) rfl (XS.iconst Xc.here hx rfl (B d3_64) (XS.icmpYes Xc.here hx rfl (pc0 := 65) (pc' := 72) rfl (B d3_65) rfl (feq (by decide : ¬ ((2 : Int32) = (1 : Int32)))).2 (by decide) (by decide) (XS.iloadN Xc.here hx rfl (B d3_72) rfl (XS.bipush Xc.here hx rfl (B d3_73) (XS.iload Xc.here hx rfl (B d3_75) rfl (XS.ishr Xc.here hx rfl (B d3_77) rfl (XS.iand Xc.here hx rfl (B d3_78) rfl k)))))))))) ?_
    show oF p e below (Tc.setTop (mkF m 79 #[.val (.ref a), .val (.ref b6E), .val (.int ii), .val (.int ((own_e20 q) &&& (255 : Int32))), .val (.int 2), s5l, s6l] [(.int (((own_e20 q) &&& (255 : Int32)) &&& (31 : Int32)))])) _
    refine oG (fun _ k => XS.istore Xc.here hx rfl (B d3_79) rfl (l' := #[.val (.ref a), .val (.ref b6E), .val (.int ii), .val (.int ((own_e20 q) &&& (255 : Int32))), .val (.int 2), .val (.int (((own_e20 q) &&& (255 : Int32)) &&& (31 : Int32))), s6l]) (own_st2 rfl o5l rfl rfl) (XS.iconst Xc.here hx rfl (B d3_81) (XS.istore Xc.here hx rfl (B d3_82) rfl (l' := #[.val (.ref a), .val (.ref b6E), .val (.int ii), .val (.int ((own_e20 q) &&& (255 : Int32))), .val (.int 2), .val (.int (((own_e20 q) &&& (255 : Int32)) &&& (31 : Int32))), .val (.int 1)]) (own_st2 rfl o6l rfl rfl) (XS.iload Xc.here hx rfl (B d3_84) rfl (XS.iload Xc.here hx rfl (B d3_86) rfl (XS.icmpNo Xc.here hx rfl (B d3_88) rfl (tlt (by decide : (1 : Int32) < (2 : Int32))).2.1 (XS.iload Xc.here hx rfl (B d3_91) rfl (XS.bipush Xc.here hx rfl (B d3_93) (XS.ishl Xc.here hx rfl (B d3_95) rfl (XS.aloadN Xc.here hx rfl (B d3_96) rfl rfl k)))))))))) ?_
    show oF p e below (Tc.setTop (mkF m 97 #[.val (.ref a), .val (.ref b6E), .val (.int ii), .val (.int ((own_e20 q) &&& (255 : Int32))), .val (.int 2), .val (.int (((own_e20 q) &&& (255 : Int32)) &&& (31 : Int32))), .val (.int 1)] [(.ref a), (.int ((((own_e20 q) &&& (255 : Int32)) &&& (31 : Int32)) <<< ((6 : Int32) &&& 31)))])) _
    refine oG (fun _ k => XS.iloadN Xc.here hx rfl (B d3_97) rfl (XS.iload Xc.here hx rfl (B d3_98) rfl (XS.iadd Xc.here hx rfl (B d3_100) rfl k))) ?_
    show oF p e below (Tc.setTop (mkF m 101 #[.val (.ref a), .val (.ref b6E), .val (.int ii), .val (.int ((own_e20 q) &&& (255 : Int32))), .val (.int 2), .val (.int (((own_e20 q) &&& (255 : Int32)) &&& (31 : Int32))), .val (.int 1)] [(.int (ii + (1 : Int32))), (.ref a), (.int ((((own_e20 q) &&& (255 : Int32)) &&& (31 : Int32)) <<< ((6 : Int32) &&& 31)))])) _
    obtain ⟨cl6O, A6O, q6O, S6O, M6O, H6O, G6O⟩ := id V_a
    have hin6O : ¬ ((ii + (1 : Int32)) < 0 ∨ cl6O.slots.size ≤ ((ii + (1 : Int32))).toNatClampNeg) := inb_of S6O (own_ldi hdn hMk (own_jj hii hk8 (1 : Int32) own_k1 (by decide)) henc (Nat.le_of_ble_eq_true rfl))
    have hat6O : cl6O.slots[((ii + (1 : Int32))).toNatClampNeg]? = some (.int (own_t0 q)) := Has.at H6O hin6O (own_lda hdn (own_jj hii hk8 (1 : Int32) own_k1 (by decide)) henc (Nat.le_of_ble_eq_true rfl))
    refine oG (fun _ k => Xc.baloadBytes hx (j := (ii + (1 : Int32))) (v := (.int (own_t0 q))) (own_eqE ec A6O.1) (State.isArrayOf_alike hZ.alike A6O.2.1) A6O.2.2 hin6O hat6O (g := (mkF m 101 #[.val (.ref a), .val (.ref b6E), .val (.int ii), .val (.int ((own_e20 q) &&& (255 : Int32))), .val (.int 2), .val (.int (((own_e20 q) &&& (255 : Int32)) &&& (31 : Int32))), .val (.int 1)] [(.int (ii + (1 : Int32))), (.ref a), (.int ((((own_e20 q) &&& (255 : Int32)) &&& (31 : Int32)) <<< ((6 : Int32) &&& 31)))])) rfl rfl (B d3_101) _ k) ?_
    show oF p e below (Tc.setTop (mkF m 102 #[.val (.ref a), .val (.ref b6E), .val (.int ii), .val (.int ((own_e20 q) &&& (255 : Int32))), .val (.int 2), .val (.int (((own_e20 q) &&& (255 : Int32)) &&& (31 : Int32))), .val (.int 1)] [(.int (own_t0 q)), (.int ((((own_e20 q) &&& (255 : Int32)) &&& (31 : Int32)) <<< ((6 : Int32) &&& 31)))])) _
    refine oG (fun _ k => XS.bipush Xc.here hx rfl (B d3_102) (XS.iand Xc.here hx rfl (B d3_104) rfl (XS.ior Xc.here hx rfl (B d3_105) rfl (XS.istore Xc.here hx rfl (B d3_106) rfl (l' := #[.val (.ref a), .val (.ref b6E), .val (.int ii), .val (.int ((own_e20 q) &&& (255 : Int32))), .val (.int 2), .val (.int (((((own_e20 q) &&& (255 : Int32)) &&& (31 : Int32)) <<< ((6 : Int32) &&& 31)) ||| ((own_t0 q) &&& (63 : Int32)))), .val (.int 1)]) rfl (XS.iinc Xc.here hx rfl (B d3_108) rfl (l' := #[.val (.ref a), .val (.ref b6E), .val (.int ii), .val (.int ((own_e20 q) &&& (255 : Int32))), .val (.int 2), .val (.int (((((own_e20 q) &&& (255 : Int32)) &&& (31 : Int32)) <<< ((6 : Int32) &&& 31)) ||| ((own_t0 q) &&& (63 : Int32)))), .val (.int 2)]) rfl (XS.goto Xc.here hx rfl (pc0 := 111) (pc' := 84) rfl (B d3_111) (by decide) (by decide) (XS.iload Xc.here hx rfl (B d3_84) rfl (XS.iload Xc.here hx rfl (B d3_86) rfl (XS.icmpYes Xc.here hx rfl (pc0 := 88) (pc' := 114) rfl (B d3_88) rfl (flt (by decide : ¬ ((2 : Int32) < (2 : Int32)))).2.1 (by decide) (by decide) k))))))))) ?_
    show oF p e below (Tc.setTop (mkF m 114 #[.val (.ref a), .val (.ref b6E), .val (.int ii), .val (.int ((own_e20 q) &&& (255 : Int32))), .val (.int 2), .val (.int (((((own_e20 q) &&& (255 : Int32)) &&& (31 : Int32)) <<< ((6 : Int32) &&& 31)) ||| ((own_t0 q) &&& (63 : Int32)))), .val (.int 2)] [])) _
    rw [own_dec2 kq hq2]
    exact kf _ _ _ (by rw [henc] <;> rfl)
   ·by_cases hq3 : q < (65536 : Int32)
    ·have henc := own_enc3 hq1 hq2 hq3
     show oF p e below (Tc.setTop (mkF m 18 #[.val (.ref a), .val (.ref b6E), .val (.int ii), s3l, s4l, s5l, s6l] [])) _
     refine oG (fun _ k => XS.aloadN Xc.here hx rfl (B d3_18) rfl rfl (XS.iloadN Xc.here hx rfl (B d3_19) rfl k)) ?_
     show oF p e below (Tc.setTop (mkF m 20 #[.val (.ref a), .val (.ref b6E), .val (.int ii), s3l, s4l, s5l, s6l] [(.int ii), (.ref a)])) _
     obtain ⟨cl6P, A6P, q6P, S6P, M6P, H6P, G6P⟩ := id V_a
     have hin6P : ¬ (ii < 0 ∨ cl6P.slots.size ≤ (ii).toNatClampNeg) := inb_of S6P (own_ldi hdn hMk (own_jz hii) henc (Nat.le_of_ble_eq_true rfl))
     have hat6P : cl6P.slots[(ii).toNatClampNeg]? = some (.int (own_e30 q)) := Has.at H6P hin6P (own_lda hdn (own_jz hii) henc (Nat.le_of_ble_eq_true rfl))
     refine oG (fun _ k => Xc.baloadBytes hx (j := ii) (v := (.int (own_e30 q))) (own_eqE ec A6P.1) (State.isArrayOf_alike hZ.alike A6P.2.1) A6P.2.2 hin6P hat6P (g := (mkF m 20 #[.val (.ref a), .val (.ref b6E), .val (.int ii), s3l, s4l, s5l, s6l] [(.int ii), (.ref a)])) rfl rfl (B d3_20) _ k) ?_
     show oF p e below (Tc.setTop (mkF m 21 #[.val (.ref a), .val (.ref b6E), .val (.int ii), s3l, s4l, s5l, s6l] [(.int (own_e30 q))])) _
     refine oG (fun _ k => XS.sipush Xc.here hx rfl (B d3_21) (XS.iand Xc.here hx rfl (B d3_24) rfl (XS.istoreN Xc.here hx rfl (B d3_25) rfl (l' := #[.val (.ref a), .val (.ref b6E), .val (.int ii), .val (.int ((own_e30 q) &&& (255 : Int32))), s4l, s5l, s6l]) (own_st2 rfl o3l rfl rfl) (XS.iloadN Xc.here hx rfl (B d3_26) rfl (XS.sipush Xc.here hx rfl (B d3_27) (XS.icmpYes Xc.here hx rfl (pc0 := 30) (pc' := 37) rfl (B d3_30) rfl (flt ((own_l3a kq hq3) : ¬ (((own_e30 q) &&& (255 : Int32)) < (128 : Int32)))).2.1 (by decide) (by decide) (XS.iloadN Xc.here hx rfl (B d3_37) rfl (XS.sipush Xc.here hx rfl (B d3_38) (XS.icmpYes Xc.here hx rfl (pc0 := 41) (pc' := 48) rfl (B d3_41) rfl (flt ((own_l3b kq hq3) : ¬ (((own_e30 q) &&& (255 : Int32)) < (224 : Int32)))).2.1 (by decide) (by decide) (XS.iloadN Xc.here hx rfl (B d3_48) rfl k)))))))))) ?_
     show oF p e below (Tc.setTop (mkF m 49 #[.val (.ref a), .val (.ref b6E), .val (.int ii), .val (.int ((own_e30 q) &&& (255 : Int32))), s4l, s5l, s6l] [(.int ((own_e30 q) &&& (255 : Int32)))])) _
     refine oG (fun _ k => XS.sipush Xc.here hx rfl (B d3_49) (XS.icmpNo Xc.here hx rfl (B d3_52) rfl (tlt ((own_l3c kq hq3) : ((own_e30 q) &&& (255 : Int32)) < (240 : Int32))).2.1 (XS.iconst Xc.here hx rfl (B d3_55) (XS.goto Xc.here hx rfl (pc0 := 56) (pc' := 60) rfl (B d3_56) (by decide) (by decide) (XS.istore Xc.here hx rfl (B d3_60) rfl (l' := #[.val (.ref a), .val (.ref b6E), .val (.int ii), .val (.int ((own_e30 q) &&& (255 : Int32))), .val (.int 3), s5l, s6l]) (own_st2 rfl o4l rfl rfl) (XS.iload Xc.here hx rfl (B d3_62) rfl (XS.iconst Xc.here hx rfl (B d3_64) (XS.icmpYes Xc.here hx rfl (pc0 := 65) (pc' := 72) rfl (B d3_65) rfl (feq (by decide : ¬ ((3 : Int32) = (1 : Int32)))).2 (by decide) (by decide) (XS.iloadN Xc.here hx rfl (B d3_72) rfl (XS.bipush Xc.here hx rfl (B d3_73) k)))))))))) ?_
     show oF p e below (Tc.setTop (mkF m 75 #[.val (.ref a), .val (.ref b6E), .val (.int ii), .val (.int ((own_e30 q) &&& (255 : Int32))), .val (.int 3), s5l, s6l] [(.int 127), (.int ((own_e30 q) &&& (255 : Int32)))])) _
     refine oG (fun _ k => XS.iload Xc.here hx rfl (B d3_75) rfl (XS.ishr Xc.here hx rfl (B d3_77) rfl (XS.iand Xc.here hx rfl (B d3_78) rfl (XS.istore Xc.here hx rfl (B d3_79) rfl (l' := #[.val (.ref a), .val (.ref b6E), .val (.int ii), .val (.int ((own_e30 q) &&& (255 : Int32))), .val (.int 3), .val (.int (((own_e30 q) &&& (255 : Int32)) &&& (15 : Int32))), s6l]) (own_st2 rfl o5l rfl rfl) (XS.iconst Xc.here hx rfl (B d3_81) (XS.istore Xc.here hx rfl (B d3_82) rfl (l' := #[.val (.ref a), .val (.ref b6E), .val (.int ii), .val (.int ((own_e30 q) &&& (255 : Int32))), .val (.int 3), .val (.int (((own_e30 q) &&& (255 : Int32)) &&& (15 : Int32))), .val (.int 1)]) (own_st2 rfl o6l rfl rfl) (XS.iload Xc.here hx rfl (B d3_84) rfl (XS.iload Xc.here hx rfl (B d3_86) rfl (XS.icmpNo Xc.here hx rfl (B d3_88) rfl (tlt (by decide : (1 : Int32) < (3 : Int32))).2.1 (XS.iload Xc.here hx rfl (B d3_91) rfl k)))))))))) ?_
     show oF p e below (Tc.setTop (mkF m 93 #[.val (.ref a), .val (.ref b6E), .val (.int ii), .val (.int ((own_e30 q) &&& (255 : Int32))), .val (.int 3), .val (.int (((own_e30 q) &&& (255 : Int32)) &&& (15 : Int32))), .val (.int 1)] [(.int (((own_e30 q) &&& (255 : Int32)) &&& (15 : Int32)))])) _
     refine oG (fun _ k => XS.bipush Xc.here hx rfl (B d3_93) (XS.ishl Xc.here hx rfl (B d3_95) rfl (XS.aloadN Xc.here hx rfl (B d3_96) rfl rfl (XS.iloadN Xc.here hx rfl (B d3_97) rfl (XS.iload Xc.here hx rfl (B d3_98) rfl (XS.iadd Xc.here hx rfl (B d3_100) rfl k)))))) ?_
     show oF p e below (Tc.setTop (mkF m 101 #[.val (.ref a), .val (.ref b6E), .val (.int ii), .val (.int ((own_e30 q) &&& (255 : Int32))), .val (.int 3), .val (.int (((own_e30 q) &&& (255 : Int32)) &&& (15 : Int32))), .val (.int 1)] [(.int (ii + (1 : Int32))), (.ref a), (.int ((((own_e30 q) &&& (255 : Int32)) &&& (15 : Int32)) <<< ((6 : Int32) &&& 31)))])) _
     obtain ⟨cl6Q, A6Q, q6Q, S6Q, M6Q, H6Q, G6Q⟩ := id V_a
     have hin6Q : ¬ ((ii + (1 : Int32)) < 0 ∨ cl6Q.slots.size ≤ ((ii + (1 : Int32))).toNatClampNeg) := inb_of S6Q (own_ldi hdn hMk (own_jj hii hk8 (1 : Int32) own_k1 (by decide)) henc (Nat.le_of_ble_eq_true rfl))
     have hat6Q : cl6Q.slots[((ii + (1 : Int32))).toNatClampNeg]? = some (.int (own_t1 q)) := Has.at H6Q hin6Q (own_lda hdn (own_jj hii hk8 (1 : Int32) own_k1 (by decide)) henc (Nat.le_of_ble_eq_true rfl))
     refine oG (fun _ k => Xc.baloadBytes hx (j := (ii + (1 : Int32))) (v := (.int (own_t1 q))) (own_eqE ec A6Q.1) (State.isArrayOf_alike hZ.alike A6Q.2.1) A6Q.2.2 hin6Q hat6Q (g := (mkF m 101 #[.val (.ref a), .val (.ref b6E), .val (.int ii), .val (.int ((own_e30 q) &&& (255 : Int32))), .val (.int 3), .val (.int (((own_e30 q) &&& (255 : Int32)) &&& (15 : Int32))), .val (.int 1)] [(.int (ii + (1 : Int32))), (.ref a), (.int ((((own_e30 q) &&& (255 : Int32)) &&& (15 : Int32)) <<< ((6 : Int32) &&& 31)))])) rfl rfl (B d3_101) _ k) ?_
     show oF p e below (Tc.setTop (mkF m 102 #[.val (.ref a), .val (.ref b6E), .val (.int ii), .val (.int ((own_e30 q) &&& (255 : Int32))), .val (.int 3), .val (.int (((own_e30 q) &&& (255 : Int32)) &&& (15 : Int32))), .val (.int 1)] [(.int (own_t1 q)), (.int ((((own_e30 q) &&& (255 : Int32)) &&& (15 : Int32)) <<< ((6 : Int32) &&& 31)))])) _
     refine oG (fun _ k => XS.bipush Xc.here hx rfl (B d3_102) (XS.iand Xc.here hx rfl (B d3_104) rfl (XS.ior Xc.here hx rfl (B d3_105) rfl (XS.istore Xc.here hx rfl (B d3_106) rfl (l' := #[.val (.ref a), .val (.ref b6E), .val (.int ii), .val (.int ((own_e30 q) &&& (255 : Int32))), .val (.int 3), .val (.int (((((own_e30 q) &&& (255 : Int32)) &&& (15 : Int32)) <<< ((6 : Int32) &&& 31)) ||| ((own_t1 q) &&& (63 : Int32)))), .val (.int 1)]) rfl (XS.iinc Xc.here hx rfl (B d3_108) rfl (l' := #[.val (.ref a), .val (.ref b6E), .val (.int ii), .val (.int ((own_e30 q) &&& (255 : Int32))), .val (.int 3), .val (.int (((((own_e30 q) &&& (255 : Int32)) &&& (15 : Int32)) <<< ((6 : Int32) &&& 31)) ||| ((own_t1 q) &&& (63 : Int32)))), .val (.int 2)]) rfl (XS.goto Xc.here hx rfl (pc0 := 111) (pc' := 84) rfl (B d3_111) (by decide) (by decide) (XS.iload Xc.here hx rfl (B d3_84) rfl (XS.iload Xc.here hx rfl (B d3_86) rfl (XS.icmpNo Xc.here hx rfl (B d3_88) rfl (tlt (by decide : (2 : Int32) < (3 : Int32))).2.1 (XS.iload Xc.here hx rfl (B d3_91) rfl k)))))))))) ?_
     show oF p e below (Tc.setTop (mkF m 93 #[.val (.ref a), .val (.ref b6E), .val (.int ii), .val (.int ((own_e30 q) &&& (255 : Int32))), .val (.int 3), .val (.int (((((own_e30 q) &&& (255 : Int32)) &&& (15 : Int32)) <<< ((6 : Int32) &&& 31)) ||| ((own_t1 q) &&& (63 : Int32)))), .val (.int 2)] [(.int (((((own_e30 q) &&& (255 : Int32)) &&& (15 : Int32)) <<< ((6 : Int32) &&& 31)) ||| ((own_t1 q) &&& (63 : Int32))))])) _
     refine oG (fun _ k => XS.bipush Xc.here hx rfl (B d3_93) (XS.ishl Xc.here hx rfl (B d3_95) rfl (XS.aloadN Xc.here hx rfl (B d3_96) rfl rfl (XS.iloadN Xc.here hx rfl (B d3_97) rfl (XS.iload Xc.here hx rfl (B d3_98) rfl (XS.iadd Xc.here hx rfl (B d3_100) rfl k)))))) ?_
     show oF p e below (Tc.setTop (mkF m 101 #[.val (.ref a), .val (.ref b6E), .val (.int ii), .val (.int ((own_e30 q) &&& (255 : Int32))), .val (.int 3), .val (.int (((((own_e30 q) &&& (255 : Int32)) &&& (15 : Int32)) <<< ((6 : Int32) &&& 31)) ||| ((own_t1 q) &&& (63 : Int32)))), .val (.int 2)] [(.int (ii + (2 : Int32))), (.ref a), (.int ((((((own_e30 q) &&& (255 : Int32)) &&& (15 : Int32)) <<< ((6 : Int32) &&& 31)) ||| ((own_t1 q) &&& (63 : Int32))) <<< ((6 : Int32) &&& 31)))])) _
     obtain ⟨cl6R, A6R, q6R, S6R, M6R, H6R, G6R⟩ := id V_a
     have hin6R : ¬ ((ii + (2 : Int32)) < 0 ∨ cl6R.slots.size ≤ ((ii + (2 : Int32))).toNatClampNeg) := inb_of S6R (own_ldi hdn hMk (own_jj hii hk8 (2 : Int32) own_k2 (by decide)) henc (Nat.le_of_ble_eq_true rfl))
     have hat6R : cl6R.slots[((ii + (2 : Int32))).toNatClampNeg]? = some (.int (own_t0 q)) := Has.at H6R hin6R (own_lda hdn (own_jj hii hk8 (2 : Int32) own_k2 (by decide)) henc (Nat.le_of_ble_eq_true rfl))
     refine oG (fun _ k => Xc.baloadBytes hx (j := (ii + (2 : Int32))) (v := (.int (own_t0 q))) (own_eqE ec A6R.1) (State.isArrayOf_alike hZ.alike A6R.2.1) A6R.2.2 hin6R hat6R (g := (mkF m 101 #[.val (.ref a), .val (.ref b6E), .val (.int ii), .val (.int ((own_e30 q) &&& (255 : Int32))), .val (.int 3), .val (.int (((((own_e30 q) &&& (255 : Int32)) &&& (15 : Int32)) <<< ((6 : Int32) &&& 31)) ||| ((own_t1 q) &&& (63 : Int32)))), .val (.int 2)] [(.int (ii + (2 : Int32))), (.ref a), (.int ((((((own_e30 q) &&& (255 : Int32)) &&& (15 : Int32)) <<< ((6 : Int32) &&& 31)) ||| ((own_t1 q) &&& (63 : Int32))) <<< ((6 : Int32) &&& 31)))])) rfl rfl (B d3_101) _ k) ?_
     show oF p e below (Tc.setTop (mkF m 102 #[.val (.ref a), .val (.ref b6E), .val (.int ii), .val (.int ((own_e30 q) &&& (255 : Int32))), .val (.int 3), .val (.int (((((own_e30 q) &&& (255 : Int32)) &&& (15 : Int32)) <<< ((6 : Int32) &&& 31)) ||| ((own_t1 q) &&& (63 : Int32)))), .val (.int 2)] [(.int (own_t0 q)), (.int ((((((own_e30 q) &&& (255 : Int32)) &&& (15 : Int32)) <<< ((6 : Int32) &&& 31)) ||| ((own_t1 q) &&& (63 : Int32))) <<< ((6 : Int32) &&& 31)))])) _
     refine oG (fun _ k => XS.bipush Xc.here hx rfl (B d3_102) (XS.iand Xc.here hx rfl (B d3_104) rfl (XS.ior Xc.here hx rfl (B d3_105) rfl (XS.istore Xc.here hx rfl (B d3_106) rfl (l' := #[.val (.ref a), .val (.ref b6E), .val (.int ii), .val (.int ((own_e30 q) &&& (255 : Int32))), .val (.int 3), .val (.int (((((((own_e30 q) &&& (255 : Int32)) &&& (15 : Int32)) <<< ((6 : Int32) &&& 31)) ||| ((own_t1 q) &&& (63 : Int32))) <<< ((6 : Int32) &&& 31)) ||| ((own_t0 q) &&& (63 : Int32)))), .val (.int 2)]) rfl (XS.iinc Xc.here hx rfl (B d3_108) rfl (l' := #[.val (.ref a), .val (.ref b6E), .val (.int ii), .val (.int ((own_e30 q) &&& (255 : Int32))), .val (.int 3), .val (.int (((((((own_e30 q) &&& (255 : Int32)) &&& (15 : Int32)) <<< ((6 : Int32) &&& 31)) ||| ((own_t1 q) &&& (63 : Int32))) <<< ((6 : Int32) &&& 31)) ||| ((own_t0 q) &&& (63 : Int32)))), .val (.int 3)]) rfl (XS.goto Xc.here hx rfl (pc0 := 111) (pc' := 84) rfl (B d3_111) (by decide) (by decide) (XS.iload Xc.here hx rfl (B d3_84) rfl (XS.iload Xc.here hx rfl (B d3_86) rfl (XS.icmpYes Xc.here hx rfl (pc0 := 88) (pc' := 114) rfl (B d3_88) rfl (flt (by decide : ¬ ((3 : Int32) < (3 : Int32)))).2.1 (by decide) (by decide) k))))))))) ?_
     show oF p e below (Tc.setTop (mkF m 114 #[.val (.ref a), .val (.ref b6E), .val (.int ii), .val (.int ((own_e30 q) &&& (255 : Int32))), .val (.int 3), .val (.int (((((((own_e30 q) &&& (255 : Int32)) &&& (15 : Int32)) <<< ((6 : Int32) &&& 31)) ||| ((own_t1 q) &&& (63 : Int32))) <<< ((6 : Int32) &&& 31)) ||| ((own_t0 q) &&& (63 : Int32)))), .val (.int 3)] [])) _
     rw [own_dec3 kq hq3]
     exact kf _ _ _ (by rw [henc] <;> rfl)
    ·have henc := own_enc4 hq1 hq2 hq3
     show oF p e below (Tc.setTop (mkF m 18 #[.val (.ref a), .val (.ref b6E), .val (.int ii), s3l, s4l, s5l, s6l] [])) _
     refine oG (fun _ k => XS.aloadN Xc.here hx rfl (B d3_18) rfl rfl (XS.iloadN Xc.here hx rfl (B d3_19) rfl k)) ?_
     show oF p e below (Tc.setTop (mkF m 20 #[.val (.ref a), .val (.ref b6E), .val (.int ii), s3l, s4l, s5l, s6l] [(.int ii), (.ref a)])) _
     obtain ⟨cl6S, A6S, q6S, S6S, M6S, H6S, G6S⟩ := id V_a
     have hin6S : ¬ (ii < 0 ∨ cl6S.slots.size ≤ (ii).toNatClampNeg) := inb_of S6S (own_ldi hdn hMk (own_jz hii) henc (Nat.le_of_ble_eq_true rfl))
     have hat6S : cl6S.slots[(ii).toNatClampNeg]? = some (.int (own_e40 q)) := Has.at H6S hin6S (own_lda hdn (own_jz hii) henc (Nat.le_of_ble_eq_true rfl))
     refine oG (fun _ k => Xc.baloadBytes hx (j := ii) (v := (.int (own_e40 q))) (own_eqE ec A6S.1) (State.isArrayOf_alike hZ.alike A6S.2.1) A6S.2.2 hin6S hat6S (g := (mkF m 20 #[.val (.ref a), .val (.ref b6E), .val (.int ii), s3l, s4l, s5l, s6l] [(.int ii), (.ref a)])) rfl rfl (B d3_20) _ k) ?_
     show oF p e below (Tc.setTop (mkF m 21 #[.val (.ref a), .val (.ref b6E), .val (.int ii), s3l, s4l, s5l, s6l] [(.int (own_e40 q))])) _
     refine oG (fun _ k => XS.sipush Xc.here hx rfl (B d3_21) (XS.iand Xc.here hx rfl (B d3_24) rfl (XS.istoreN Xc.here hx rfl (B d3_25) rfl (l' := #[.val (.ref a), .val (.ref b6E), .val (.int ii), .val (.int ((own_e40 q) &&& (255 : Int32))), s4l, s5l, s6l]) (own_st2 rfl o3l rfl rfl) (XS.iloadN Xc.here hx rfl (B d3_26) rfl (XS.sipush Xc.here hx rfl (B d3_27) (XS.icmpYes Xc.here hx rfl (pc0 := 30) (pc' := 37) rfl (B d3_30) rfl (flt ((own_l4a kq) : ¬ (((own_e40 q) &&& (255 : Int32)) < (128 : Int32)))).2.1 (by decide) (by decide) (XS.iloadN Xc.here hx rfl (B d3_37) rfl (XS.sipush Xc.here hx rfl (B d3_38) (XS.icmpYes Xc.here hx rfl (pc0 := 41) (pc' := 48) rfl (B d3_41) rfl (flt ((own_l4b kq) : ¬ (((own_e40 q) &&& (255 : Int32)) < (224 : Int32)))).2.1 (by decide) (by decide) (XS.iloadN Xc.here hx rfl (B d3_48) rfl k)))))))))) ?_
     show oF p e below (Tc.setTop (mkF m 49 #[.val (.ref a), .val (.ref b6E), .val (.int ii), .val (.int ((own_e40 q) &&& (255 : Int32))), s4l, s5l, s6l] [(.int ((own_e40 q) &&& (255 : Int32)))])) _
     refine oG (fun _ k => XS.sipush Xc.here hx rfl (B d3_49) (XS.icmpYes Xc.here hx rfl (pc0 := 52) (pc' := 59) rfl (B d3_52) rfl (flt ((own_l4c kq) : ¬ (((own_e40 q) &&& (255 : Int32)) < (240 : Int32)))).2.1 (by decide) (by decide) (XS.iconst Xc.here hx rfl (B d3_59) (XS.istore Xc.here hx rfl (B d3_60) rfl (l' := #[.val (.ref a), .val (.ref b6E), .val (.int ii), .val (.int ((own_e40 q) &&& (255 : Int32))), .val (.int 4), s5l, s6l]) (own_st2 rfl o4l rfl rfl) (XS.iload Xc.here hx rfl (B d3_62) rfl (XS.iconst Xc.here hx rfl (B d3_64) (XS.icmpYes Xc.here hx rfl (pc0 := 65) (pc' := 72) rfl (B d3_65) rfl (feq (by decide : ¬ ((4 : Int32) = (1 : Int32)))).2 (by decide) (by decide) (XS.iloadN Xc.here hx rfl (B d3_72) rfl (XS.bipush Xc.here hx rfl (B d3_73) (XS.iload Xc.here hx rfl (B d3_75) rfl k)))))))))) ?_
     show oF p e below (Tc.setTop (mkF m 77 #[.val (.ref a), .val (.ref b6E), .val (.int ii), .val (.int ((own_e40 q) &&& (255 : Int32))), .val (.int 4), s5l, s6l] [(.int 4), (.int 127), (.int ((own_e40 q) &&& (255 : Int32)))])) _
     refine oG (fun _ k => XS.ishr Xc.here hx rfl (B d3_77) rfl (XS.iand Xc.here hx rfl (B d3_78) rfl (XS.istore Xc.here hx rfl (B d3_79) rfl (l' := #[.val (.ref a), .val (.ref b6E), .val (.int ii), .val (.int ((own_e40 q) &&& (255 : Int32))), .val (.int 4), .val (.int (((own_e40 q) &&& (255 : Int32)) &&& (7 : Int32))), s6l]) (own_st2 rfl o5l rfl rfl) (XS.iconst Xc.here hx rfl (B d3_81) (XS.istore Xc.here hx rfl (B d3_82) rfl (l' := #[.val (.ref a), .val (.ref b6E), .val (.int ii), .val (.int ((own_e40 q) &&& (255 : Int32))), .val (.int 4), .val (.int (((own_e40 q) &&& (255 : Int32)) &&& (7 : Int32))), .val (.int 1)]) (own_st2 rfl o6l rfl rfl) (XS.iload Xc.here hx rfl (B d3_84) rfl (XS.iload Xc.here hx rfl (B d3_86) rfl (XS.icmpNo Xc.here hx rfl (B d3_88) rfl (tlt (by decide : (1 : Int32) < (4 : Int32))).2.1 (XS.iload Xc.here hx rfl (B d3_91) rfl (XS.bipush Xc.here hx rfl (B d3_93) k)))))))))) ?_
     show oF p e below (Tc.setTop (mkF m 95 #[.val (.ref a), .val (.ref b6E), .val (.int ii), .val (.int ((own_e40 q) &&& (255 : Int32))), .val (.int 4), .val (.int (((own_e40 q) &&& (255 : Int32)) &&& (7 : Int32))), .val (.int 1)] [(.int 6), (.int (((own_e40 q) &&& (255 : Int32)) &&& (7 : Int32)))])) _
     refine oG (fun _ k => XS.ishl Xc.here hx rfl (B d3_95) rfl (XS.aloadN Xc.here hx rfl (B d3_96) rfl rfl (XS.iloadN Xc.here hx rfl (B d3_97) rfl (XS.iload Xc.here hx rfl (B d3_98) rfl (XS.iadd Xc.here hx rfl (B d3_100) rfl k))))) ?_
     show oF p e below (Tc.setTop (mkF m 101 #[.val (.ref a), .val (.ref b6E), .val (.int ii), .val (.int ((own_e40 q) &&& (255 : Int32))), .val (.int 4), .val (.int (((own_e40 q) &&& (255 : Int32)) &&& (7 : Int32))), .val (.int 1)] [(.int (ii + (1 : Int32))), (.ref a), (.int ((((own_e40 q) &&& (255 : Int32)) &&& (7 : Int32)) <<< ((6 : Int32) &&& 31)))])) _
     obtain ⟨cl6T, A6T, q6T, S6T, M6T, H6T, G6T⟩ := id V_a
     have hin6T : ¬ ((ii + (1 : Int32)) < 0 ∨ cl6T.slots.size ≤ ((ii + (1 : Int32))).toNatClampNeg) := inb_of S6T (own_ldi hdn hMk (own_jj hii hk8 (1 : Int32) own_k1 (by decide)) henc (Nat.le_of_ble_eq_true rfl))
     have hat6T : cl6T.slots[((ii + (1 : Int32))).toNatClampNeg]? = some (.int (own_t2 q)) := Has.at H6T hin6T (own_lda hdn (own_jj hii hk8 (1 : Int32) own_k1 (by decide)) henc (Nat.le_of_ble_eq_true rfl))
     refine oG (fun _ k => Xc.baloadBytes hx (j := (ii + (1 : Int32))) (v := (.int (own_t2 q))) (own_eqE ec A6T.1) (State.isArrayOf_alike hZ.alike A6T.2.1) A6T.2.2 hin6T hat6T (g := (mkF m 101 #[.val (.ref a), .val (.ref b6E), .val (.int ii), .val (.int ((own_e40 q) &&& (255 : Int32))), .val (.int 4), .val (.int (((own_e40 q) &&& (255 : Int32)) &&& (7 : Int32))), .val (.int 1)] [(.int (ii + (1 : Int32))), (.ref a), (.int ((((own_e40 q) &&& (255 : Int32)) &&& (7 : Int32)) <<< ((6 : Int32) &&& 31)))])) rfl rfl (B d3_101) _ k) ?_
     show oF p e below (Tc.setTop (mkF m 102 #[.val (.ref a), .val (.ref b6E), .val (.int ii), .val (.int ((own_e40 q) &&& (255 : Int32))), .val (.int 4), .val (.int (((own_e40 q) &&& (255 : Int32)) &&& (7 : Int32))), .val (.int 1)] [(.int (own_t2 q)), (.int ((((own_e40 q) &&& (255 : Int32)) &&& (7 : Int32)) <<< ((6 : Int32) &&& 31)))])) _
     refine oG (fun _ k => XS.bipush Xc.here hx rfl (B d3_102) (XS.iand Xc.here hx rfl (B d3_104) rfl (XS.ior Xc.here hx rfl (B d3_105) rfl (XS.istore Xc.here hx rfl (B d3_106) rfl (l' := #[.val (.ref a), .val (.ref b6E), .val (.int ii), .val (.int ((own_e40 q) &&& (255 : Int32))), .val (.int 4), .val (.int (((((own_e40 q) &&& (255 : Int32)) &&& (7 : Int32)) <<< ((6 : Int32) &&& 31)) ||| ((own_t2 q) &&& (63 : Int32)))), .val (.int 1)]) rfl (XS.iinc Xc.here hx rfl (B d3_108) rfl (l' := #[.val (.ref a), .val (.ref b6E), .val (.int ii), .val (.int ((own_e40 q) &&& (255 : Int32))), .val (.int 4), .val (.int (((((own_e40 q) &&& (255 : Int32)) &&& (7 : Int32)) <<< ((6 : Int32) &&& 31)) ||| ((own_t2 q) &&& (63 : Int32)))), .val (.int 2)]) rfl (XS.goto Xc.here hx rfl (pc0 := 111) (pc' := 84) rfl (B d3_111) (by decide) (by decide) (XS.iload Xc.here hx rfl (B d3_84) rfl (XS.iload Xc.here hx rfl (B d3_86) rfl (XS.icmpNo Xc.here hx rfl (B d3_88) rfl (tlt (by decide : (2 : Int32) < (4 : Int32))).2.1 (XS.iload Xc.here hx rfl (B d3_91) rfl k)))))))))) ?_
     show oF p e below (Tc.setTop (mkF m 93 #[.val (.ref a), .val (.ref b6E), .val (.int ii), .val (.int ((own_e40 q) &&& (255 : Int32))), .val (.int 4), .val (.int (((((own_e40 q) &&& (255 : Int32)) &&& (7 : Int32)) <<< ((6 : Int32) &&& 31)) ||| ((own_t2 q) &&& (63 : Int32)))), .val (.int 2)] [(.int (((((own_e40 q) &&& (255 : Int32)) &&& (7 : Int32)) <<< ((6 : Int32) &&& 31)) ||| ((own_t2 q) &&& (63 : Int32))))])) _
     refine oG (fun _ k => XS.bipush Xc.here hx rfl (B d3_93) (XS.ishl Xc.here hx rfl (B d3_95) rfl (XS.aloadN Xc.here hx rfl (B d3_96) rfl rfl (XS.iloadN Xc.here hx rfl (B d3_97) rfl (XS.iload Xc.here hx rfl (B d3_98) rfl (XS.iadd Xc.here hx rfl (B d3_100) rfl k)))))) ?_
     show oF p e below (Tc.setTop (mkF m 101 #[.val (.ref a), .val (.ref b6E), .val (.int ii), .val (.int ((own_e40 q) &&& (255 : Int32))), .val (.int 4), .val (.int (((((own_e40 q) &&& (255 : Int32)) &&& (7 : Int32)) <<< ((6 : Int32) &&& 31)) ||| ((own_t2 q) &&& (63 : Int32)))), .val (.int 2)] [(.int (ii + (2 : Int32))), (.ref a), (.int ((((((own_e40 q) &&& (255 : Int32)) &&& (7 : Int32)) <<< ((6 : Int32) &&& 31)) ||| ((own_t2 q) &&& (63 : Int32))) <<< ((6 : Int32) &&& 31)))])) _
     obtain ⟨cl6U, A6U, q6U, S6U, M6U, H6U, G6U⟩ := id V_a
     have hin6U : ¬ ((ii + (2 : Int32)) < 0 ∨ cl6U.slots.size ≤ ((ii + (2 : Int32))).toNatClampNeg) := inb_of S6U (own_ldi hdn hMk (own_jj hii hk8 (2 : Int32) own_k2 (by decide)) henc (Nat.le_of_ble_eq_true rfl))
     have hat6U : cl6U.slots[((ii + (2 : Int32))).toNatClampNeg]? = some (.int (own_t1 q)) := Has.at H6U hin6U (own_lda hdn (own_jj hii hk8 (2 : Int32) own_k2 (by decide)) henc (Nat.le_of_ble_eq_true rfl))
     refine oG (fun _ k => Xc.baloadBytes hx (j := (ii + (2 : Int32))) (v := (.int (own_t1 q))) (own_eqE ec A6U.1) (State.isArrayOf_alike hZ.alike A6U.2.1) A6U.2.2 hin6U hat6U (g := (mkF m 101 #[.val (.ref a), .val (.ref b6E), .val (.int ii), .val (.int ((own_e40 q) &&& (255 : Int32))), .val (.int 4), .val (.int (((((own_e40 q) &&& (255 : Int32)) &&& (7 : Int32)) <<< ((6 : Int32) &&& 31)) ||| ((own_t2 q) &&& (63 : Int32)))), .val (.int 2)] [(.int (ii + (2 : Int32))), (.ref a), (.int ((((((own_e40 q) &&& (255 : Int32)) &&& (7 : Int32)) <<< ((6 : Int32) &&& 31)) ||| ((own_t2 q) &&& (63 : Int32))) <<< ((6 : Int32) &&& 31)))])) rfl rfl (B d3_101) _ k) ?_
     show oF p e below (Tc.setTop (mkF m 102 #[.val (.ref a), .val (.ref b6E), .val (.int ii), .val (.int ((own_e40 q) &&& (255 : Int32))), .val (.int 4), .val (.int (((((own_e40 q) &&& (255 : Int32)) &&& (7 : Int32)) <<< ((6 : Int32) &&& 31)) ||| ((own_t2 q) &&& (63 : Int32)))), .val (.int 2)] [(.int (own_t1 q)), (.int ((((((own_e40 q) &&& (255 : Int32)) &&& (7 : Int32)) <<< ((6 : Int32) &&& 31)) ||| ((own_t2 q) &&& (63 : Int32))) <<< ((6 : Int32) &&& 31)))])) _
     refine oG (fun _ k => XS.bipush Xc.here hx rfl (B d3_102) (XS.iand Xc.here hx rfl (B d3_104) rfl (XS.ior Xc.here hx rfl (B d3_105) rfl (XS.istore Xc.here hx rfl (B d3_106) rfl (l' := #[.val (.ref a), .val (.ref b6E), .val (.int ii), .val (.int ((own_e40 q) &&& (255 : Int32))), .val (.int 4), .val (.int (((((((own_e40 q) &&& (255 : Int32)) &&& (7 : Int32)) <<< ((6 : Int32) &&& 31)) ||| ((own_t2 q) &&& (63 : Int32))) <<< ((6 : Int32) &&& 31)) ||| ((own_t1 q) &&& (63 : Int32)))), .val (.int 2)]) rfl (XS.iinc Xc.here hx rfl (B d3_108) rfl (l' := #[.val (.ref a), .val (.ref b6E), .val (.int ii), .val (.int ((own_e40 q) &&& (255 : Int32))), .val (.int 4), .val (.int (((((((own_e40 q) &&& (255 : Int32)) &&& (7 : Int32)) <<< ((6 : Int32) &&& 31)) ||| ((own_t2 q) &&& (63 : Int32))) <<< ((6 : Int32) &&& 31)) ||| ((own_t1 q) &&& (63 : Int32)))), .val (.int 3)]) rfl (XS.goto Xc.here hx rfl (pc0 := 111) (pc' := 84) rfl (B d3_111) (by decide) (by decide) (XS.iload Xc.here hx rfl (B d3_84) rfl (XS.iload Xc.here hx rfl (B d3_86) rfl (XS.icmpNo Xc.here hx rfl (B d3_88) rfl (tlt (by decide : (3 : Int32) < (4 : Int32))).2.1 (XS.iload Xc.here hx rfl (B d3_91) rfl k)))))))))) ?_
     show oF p e below (Tc.setTop (mkF m 93 #[.val (.ref a), .val (.ref b6E), .val (.int ii), .val (.int ((own_e40 q) &&& (255 : Int32))), .val (.int 4), .val (.int (((((((own_e40 q) &&& (255 : Int32)) &&& (7 : Int32)) <<< ((6 : Int32) &&& 31)) ||| ((own_t2 q) &&& (63 : Int32))) <<< ((6 : Int32) &&& 31)) ||| ((own_t1 q) &&& (63 : Int32)))), .val (.int 3)] [(.int (((((((own_e40 q) &&& (255 : Int32)) &&& (7 : Int32)) <<< ((6 : Int32) &&& 31)) ||| ((own_t2 q) &&& (63 : Int32))) <<< ((6 : Int32) &&& 31)) ||| ((own_t1 q) &&& (63 : Int32))))])) _
     refine oG (fun _ k => XS.bipush Xc.here hx rfl (B d3_93) (XS.ishl Xc.here hx rfl (B d3_95) rfl (XS.aloadN Xc.here hx rfl (B d3_96) rfl rfl (XS.iloadN Xc.here hx rfl (B d3_97) rfl (XS.iload Xc.here hx rfl (B d3_98) rfl (XS.iadd Xc.here hx rfl (B d3_100) rfl k)))))) ?_
     show oF p e below (Tc.setTop (mkF m 101 #[.val (.ref a), .val (.ref b6E), .val (.int ii), .val (.int ((own_e40 q) &&& (255 : Int32))), .val (.int 4), .val (.int (((((((own_e40 q) &&& (255 : Int32)) &&& (7 : Int32)) <<< ((6 : Int32) &&& 31)) ||| ((own_t2 q) &&& (63 : Int32))) <<< ((6 : Int32) &&& 31)) ||| ((own_t1 q) &&& (63 : Int32)))), .val (.int 3)] [(.int (ii + (3 : Int32))), (.ref a), (.int ((((((((own_e40 q) &&& (255 : Int32)) &&& (7 : Int32)) <<< ((6 : Int32) &&& 31)) ||| ((own_t2 q) &&& (63 : Int32))) <<< ((6 : Int32) &&& 31)) ||| ((own_t1 q) &&& (63 : Int32))) <<< ((6 : Int32) &&& 31)))])) _
     obtain ⟨cl6V, A6V, q6V, S6V, M6V, H6V, G6V⟩ := id V_a
     have hin6V : ¬ ((ii + (3 : Int32)) < 0 ∨ cl6V.slots.size ≤ ((ii + (3 : Int32))).toNatClampNeg) := inb_of S6V (own_ldi hdn hMk (own_jj hii hk8 (3 : Int32) own_k3 (by decide)) henc (Nat.le_of_ble_eq_true rfl))
     have hat6V : cl6V.slots[((ii + (3 : Int32))).toNatClampNeg]? = some (.int (own_t0 q)) := Has.at H6V hin6V (own_lda hdn (own_jj hii hk8 (3 : Int32) own_k3 (by decide)) henc (Nat.le_of_ble_eq_true rfl))
     refine oG (fun _ k => Xc.baloadBytes hx (j := (ii + (3 : Int32))) (v := (.int (own_t0 q))) (own_eqE ec A6V.1) (State.isArrayOf_alike hZ.alike A6V.2.1) A6V.2.2 hin6V hat6V (g := (mkF m 101 #[.val (.ref a), .val (.ref b6E), .val (.int ii), .val (.int ((own_e40 q) &&& (255 : Int32))), .val (.int 4), .val (.int (((((((own_e40 q) &&& (255 : Int32)) &&& (7 : Int32)) <<< ((6 : Int32) &&& 31)) ||| ((own_t2 q) &&& (63 : Int32))) <<< ((6 : Int32) &&& 31)) ||| ((own_t1 q) &&& (63 : Int32)))), .val (.int 3)] [(.int (ii + (3 : Int32))), (.ref a), (.int ((((((((own_e40 q) &&& (255 : Int32)) &&& (7 : Int32)) <<< ((6 : Int32) &&& 31)) ||| ((own_t2 q) &&& (63 : Int32))) <<< ((6 : Int32) &&& 31)) ||| ((own_t1 q) &&& (63 : Int32))) <<< ((6 : Int32) &&& 31)))])) rfl rfl (B d3_101) _ k) ?_
     show oF p e below (Tc.setTop (mkF m 102 #[.val (.ref a), .val (.ref b6E), .val (.int ii), .val (.int ((own_e40 q) &&& (255 : Int32))), .val (.int 4), .val (.int (((((((own_e40 q) &&& (255 : Int32)) &&& (7 : Int32)) <<< ((6 : Int32) &&& 31)) ||| ((own_t2 q) &&& (63 : Int32))) <<< ((6 : Int32) &&& 31)) ||| ((own_t1 q) &&& (63 : Int32)))), .val (.int 3)] [(.int (own_t0 q)), (.int ((((((((own_e40 q) &&& (255 : Int32)) &&& (7 : Int32)) <<< ((6 : Int32) &&& 31)) ||| ((own_t2 q) &&& (63 : Int32))) <<< ((6 : Int32) &&& 31)) ||| ((own_t1 q) &&& (63 : Int32))) <<< ((6 : Int32) &&& 31)))])) _
     refine oG (fun _ k => XS.bipush Xc.here hx rfl (B d3_102) (XS.iand Xc.here hx rfl (B d3_104) rfl (XS.ior Xc.here hx rfl (B d3_105) rfl (XS.istore Xc.here hx rfl (B d3_106) rfl (l' := #[.val (.ref a), .val (.ref b6E), .val (.int ii), .val (.int ((own_e40 q) &&& (255 : Int32))), .val (.int 4), .val (.int (((((((((own_e40 q) &&& (255 : Int32)) &&& (7 : Int32)) <<< ((6 : Int32) &&& 31)) ||| ((own_t2 q) &&& (63 : Int32))) <<< ((6 : Int32) &&& 31)) ||| ((own_t1 q) &&& (63 : Int32))) <<< ((6 : Int32) &&& 31)) ||| ((own_t0 q) &&& (63 : Int32)))), .val (.int 3)]) rfl (XS.iinc Xc.here hx rfl (B d3_108) rfl (l' := #[.val (.ref a), .val (.ref b6E), .val (.int ii), .val (.int ((own_e40 q) &&& (255 : Int32))), .val (.int 4), .val (.int (((((((((own_e40 q) &&& (255 : Int32)) &&& (7 : Int32)) <<< ((6 : Int32) &&& 31)) ||| ((own_t2 q) &&& (63 : Int32))) <<< ((6 : Int32) &&& 31)) ||| ((own_t1 q) &&& (63 : Int32))) <<< ((6 : Int32) &&& 31)) ||| ((own_t0 q) &&& (63 : Int32)))), .val (.int 4)]) rfl (XS.goto Xc.here hx rfl (pc0 := 111) (pc' := 84) rfl (B d3_111) (by decide) (by decide) (XS.iload Xc.here hx rfl (B d3_84) rfl (XS.iload Xc.here hx rfl (B d3_86) rfl (XS.icmpYes Xc.here hx rfl (pc0 := 88) (pc' := 114) rfl (B d3_88) rfl (flt (by decide : ¬ ((4 : Int32) < (4 : Int32)))).2.1 (by decide) (by decide) k))))))))) ?_
     show oF p e below (Tc.setTop (mkF m 114 #[.val (.ref a), .val (.ref b6E), .val (.int ii), .val (.int ((own_e40 q) &&& (255 : Int32))), .val (.int 4), .val (.int (((((((((own_e40 q) &&& (255 : Int32)) &&& (7 : Int32)) <<< ((6 : Int32) &&& 31)) ||| ((own_t2 q) &&& (63 : Int32))) <<< ((6 : Int32) &&& 31)) ||| ((own_t1 q) &&& (63 : Int32))) <<< ((6 : Int32) &&& 31)) ||| ((own_t0 q) &&& (63 : Int32)))), .val (.int 4)] [])) _
     rw [own_dec4 kq]
     exact kf _ _ _ (by rw [henc] <;> rfl)
 have lp2 : ∀ (T6W : State) (L6W : List Loc) (h6W : Heap) (tl : Addr) (kl : ClassId) (ii : Int32) (dn : List Int32) (rem : List Int32) (s3l : Slot) (s4l : Slot) (s5l : Slot) (s6l : Slot), Stand p l e rM34 s m #[(.ref a)] below meth c T6W L6W 6 48 → T6W.heap = h6W → Fr n0 L6W → Old Z n0 h6W → Keep h0 h6W [] → eX1 Z h6W b6E → Arv Z h6W a ka .byte M (own_key cps) (.int 0) → eX0 Z h6W tl → own_SB Z h6W b6E tl kl M (own_uns dn) → One s3l → One s4l → One s5l → One s6l → n0 ≤ tl → h0.size ≤ tl → a ≠ tl → b6E ≠ tl → ii.toInt = ((own_key dn).length : Int) → cps = dn ++ rem → dn.length = 2 → oF p e below (T6W.setTop (mkF m 12 #[.val (.ref a), .val (.ref b6E), .val (.int ii), s3l, s4l, s5l, s6l] [])) (fun o' t' => ∃ v' L', o' = .returned v' ∧ Qidc Z cps h0 n0 v' t'.heap L' ∧ FrameEnd s o' t' L' rM34.cells rM34.slots) := by
  intro T6W L6W h6W tl kl ii dn rem s3l s4l s5l s6l X6W e6W N6W O K6W j11_ V_a E_tl j13_ o3l o4l o5l o6l g_tl sz_tl j30_ j48_ hii hdn hdl
  have hk8 : (own_key dn).length ≤ 8 := own_keyl dn (by omega)
  show oF p e below (T6W.setTop (mkF m 12 #[.val (.ref a), .val (.ref b6E), .val (.int ii), s3l, s4l, s5l, s6l] [])) _
  rcases rem with _ | ⟨q, rem⟩
  ·show oF p e below (T6W.setTop (mkF m 12 #[.val (.ref a), .val (.ref b6E), .val (.int ii), s3l, s4l, s5l, s6l] [])) _
   refine oG (fun _ k => XS.iloadN X6W.here hx rfl (B d3_12) rfl (XS.aloadN X6W.here hx rfl (B d3_13) rfl rfl k)) ?_
   show oF p e below (T6W.setTop (mkF m 14 #[.val (.ref a), .val (.ref b6E), .val (.int ii), s3l, s4l, s5l, s6l] [(.ref a), (.int ii)])) _
   obtain ⟨cl6X, A6X, -, S6X, M6X, -, -⟩ := id V_a
   refine oG (fun _ k => X6W.arraylength hx (own_eqE e6W A6X.1) (State.isArrayOf_alike hZ.alike A6X.2.1) (g := (mkF m 14 #[.val (.ref a), .val (.ref b6E), .val (.int ii), s3l, s4l, s5l, s6l] [(.ref a), (.int ii)])) rfl rfl (B d3_14) _ (by rw [len_of S6X M6X]; exact k)) ?_
   show oF p e below (T6W.setTop (mkF m 15 #[.val (.ref a), .val (.ref b6E), .val (.int ii), s3l, s4l, s5l, s6l] [(.int M), (.int ii)])) _
   refine oG (fun _ k => XS.icmpYes X6W.here hx rfl (pc0 := 15) (pc' := 129) rfl (B d3_15) rfl (flt ((own_xa hii hdn hMk) : ¬ (ii < M))).2.1 (by decide) (by decide) (XS.aloadN X6W.here hx rfl (B d3_129) rfl rfl k)) ?_
   show oF p e below (T6W.setTop (mkF m 130 #[.val (.ref a), .val (.ref b6E), .val (.int ii), s3l, s4l, s5l, s6l] [(.ref b6E)])) _
   obtain ⟨cq6Y, kq6Y, q6Ya, q6Yb, q6Yc⟩ := isOf hZ e6W j11_
   obtain ⟨_, _, ⟨T6Y, L6Y, k6Y, n6Y⟩, -, X6Y, ⟨Lc6Y, hQ6Y, l6Y, y6Y, z6Y⟩, st6Y⟩ := X6W.virtualBack hx (y := mN48) (z := mN48) hown (mo hZ hw 78) (mo hZ hw 79) (notFace_of_selects (args := #[]) (mo hZ hw 81)) (mo hZ hw 81) (mo hZ hw 80) (by decide) (backOf (W := 0) (ts l Z a0 hw [] b6E z tl kl M (own_uns dn) h6W n0 O j4_ hz j11_ j13_ E_tl (own_M8 hMk h2c) (own_uns4 dn (by omega)) (own_ile hdn hMk) (own_ilt hdn hMk kcc)) hZ (ow hw 82) (ow hw 16) (by decide) (by decide)) q6Ya q6Yc (g := (mkF m 130 #[.val (.ref a), .val (.ref b6E), .val (.int ii), s3l, s4l, s5l, s6l] [(.ref b6E)])) rfl (by rw [hml]; rfl) (Steps.refl _) (argsL := []) (rest := []) (lenOf pd_35 rfl) rfl (by show 2 * 0 + _ ≤ _; exact Nat.le_of_eq rfl) (B d3_130) (fun _ _ => ⟨rfl, e6W, (by decide : 6 + 2 ≤ _), (by decide : 48 + 13 ≤ _)⟩)
   dsimp only [Pt.U, Pt.locs, Pt.cells, Pt.slots] at X6Y l6Y y6Y z6Y st6Y hQ6Y
   subst y6Y z6Y
   obtain ⟨s_6Z, t2_7a, k2_7b, rfl, N6Yq, Kq6Y, P6Y_0, P6Y_1, P6Y_2, P6Y_3⟩ := hQ6Y
   refine oG (fun _ k => st6Y.trans k) ?_
   have N6Y := oL l6Y (Fr.app N6W N6Yq)
   have ne_b533_s_554 : b6E ≠ s_6Z := Nat.ne_of_lt (Nat.lt_of_lt_of_le j11_.lt P6Y_0)
   have ne_a_s_554 : a ≠ s_6Z := Nat.ne_of_lt (Nat.lt_of_lt_of_le V_a.lt P6Y_0)
   have ne_tl_s_554 : tl ≠ s_6Z := Nat.ne_of_lt (Nat.lt_of_lt_of_le E_tl.lt P6Y_0)
   have g_s_554 : n0 ≤ s_6Z := Nat.le_trans (own_osz O) P6Y_0
   have sz_s_554 : h0.size ≤ s_6Z := Nat.le_trans K6W.1 P6Y_0
   have ne_b533_t2_555 : b6E ≠ t2_7a := Nat.ne_of_lt (Nat.lt_of_lt_of_le j11_.lt P6Y_1)
   have ne_a_t2_555 : a ≠ t2_7a := Nat.ne_of_lt (Nat.lt_of_lt_of_le V_a.lt P6Y_1)
   have ne_tl_t2_555 : tl ≠ t2_7a := Nat.ne_of_lt (Nat.lt_of_lt_of_le E_tl.lt P6Y_1)
   have g_t2_555 : n0 ≤ t2_7a := Nat.le_trans (own_osz O) P6Y_1
   have sz_t2_555 : h0.size ≤ t2_7a := Nat.le_trans K6W.1 P6Y_1
   have j11_ := j11_.keep Kq6Y
   have V_a := V_a.keep Kq6Y nin0
   have E_tl := E_tl.keep Kq6Y
   have j13_ := own_SB_keep j13_ Kq6Y nin0 nin0
   have O := O.keep Kq6Y all0
   have K7c := K6W.trans Kq6Y all0
   have E_s_554 := P6Y_2
   have O_own_ST_s_554 := P6Y_3
   show oF p e below (T6Y.setTop (mkF m 133 #[.val (.ref a), .val (.ref b6E), .val (.int ii), s3l, s4l, s5l, s6l] [(.ref s_6Z)])) _
   obtain ⟨fs, hr, r1, r2, hW, r3⟩ := X6Y.leave (v := some (.ref s_6Z)) (fun h => by rw [Bd.returns] at h; cases h)
   refine ⟨_, _, ?_, r1, r2, _, _, rfl, ?_, ⟨_, rfl⟩, hW, r3.mono (by decide) (by decide)⟩
   ·exact X6Y.areturnOut hx rfl Bd.returns rfl (B d3_133) hr
   ·show Qidc Z cps h0 n0 _ T6Y.heap _
    exact ⟨s_6Z, t2_7a, k2_7b, rfl, N6Y, K7c, sz_s_554, E_s_554, (by rw [hdn, List.append_nil]; exact O_own_ST_s_554)⟩
  ·exact absurd h2c (by rw [hdn, List.length_append, hdl]; simp only [List.length_cons]; omega)
 have lp1 : ∀ (T7d : State) (L7d : List Loc) (h7d : Heap) (tl : Addr) (kl : ClassId) (ii : Int32) (dn : List Int32) (rem : List Int32) (s3l : Slot) (s4l : Slot) (s5l : Slot) (s6l : Slot), Stand p l e rM34 s m #[(.ref a)] below meth c T7d L7d 4 30 → T7d.heap = h7d → Fr n0 L7d → Old Z n0 h7d → Keep h0 h7d [] → eX1 Z h7d b6E → Arv Z h7d a ka .byte M (own_key cps) (.int 0) → eX0 Z h7d tl → own_SB Z h7d b6E tl kl M (own_uns dn) → One s3l → One s4l → One s5l → One s6l → n0 ≤ tl → h0.size ≤ tl → a ≠ tl → b6E ≠ tl → ii.toInt = ((own_key dn).length : Int) → cps = dn ++ rem → dn.length = 1 → oF p e below (T7d.setTop (mkF m 12 #[.val (.ref a), .val (.ref b6E), .val (.int ii), s3l, s4l, s5l, s6l] [])) (fun o' t' => ∃ v' L', o' = .returned v' ∧ Qidc Z cps h0 n0 v' t'.heap L' ∧ FrameEnd s o' t' L' rM34.cells rM34.slots) := by
  intro T7d L7d h7d tl kl ii dn rem s3l s4l s5l s6l X7d e7d N7d O K7d j11_ V_a E_tl j13_ o3l o4l o5l o6l g_tl sz_tl j30_ j48_ hii hdn hdl
  have hk8 : (own_key dn).length ≤ 8 := own_keyl dn (by omega)
  rcases rem with _ | ⟨q, rem⟩
  ·show oF p e below (T7d.setTop (mkF m 12 #[.val (.ref a), .val (.ref b6E), .val (.int ii), s3l, s4l, s5l, s6l] [])) _
   refine oG (fun _ k => XS.iloadN X7d.here hx rfl (B d3_12) rfl (XS.aloadN X7d.here hx rfl (B d3_13) rfl rfl k)) ?_
   show oF p e below (T7d.setTop (mkF m 14 #[.val (.ref a), .val (.ref b6E), .val (.int ii), s3l, s4l, s5l, s6l] [(.ref a), (.int ii)])) _
   obtain ⟨cl7e, A7e, -, S7e, M7e, -, -⟩ := id V_a
   refine oG (fun _ k => X7d.arraylength hx (own_eqE e7d A7e.1) (State.isArrayOf_alike hZ.alike A7e.2.1) (g := (mkF m 14 #[.val (.ref a), .val (.ref b6E), .val (.int ii), s3l, s4l, s5l, s6l] [(.ref a), (.int ii)])) rfl rfl (B d3_14) _ (by rw [len_of S7e M7e]; exact k)) ?_
   show oF p e below (T7d.setTop (mkF m 15 #[.val (.ref a), .val (.ref b6E), .val (.int ii), s3l, s4l, s5l, s6l] [(.int M), (.int ii)])) _
   refine oG (fun _ k => XS.icmpYes X7d.here hx rfl (pc0 := 15) (pc' := 129) rfl (B d3_15) rfl (flt ((own_xa hii hdn hMk) : ¬ (ii < M))).2.1 (by decide) (by decide) (XS.aloadN X7d.here hx rfl (B d3_129) rfl rfl k)) ?_
   show oF p e below (T7d.setTop (mkF m 130 #[.val (.ref a), .val (.ref b6E), .val (.int ii), s3l, s4l, s5l, s6l] [(.ref b6E)])) _
   obtain ⟨cq7f, kq7f, q7fa, q7fb, q7fc⟩ := isOf hZ e7d j11_
   obtain ⟨_, _, ⟨T7f, L7f, k7f, n7f⟩, -, X7f, ⟨Lc7f, hQ7f, l7f, y7f, z7f⟩, st7f⟩ := X7d.virtualBack hx (y := mN48) (z := mN48) hown (mo hZ hw 78) (mo hZ hw 79) (notFace_of_selects (args := #[]) (mo hZ hw 81)) (mo hZ hw 81) (mo hZ hw 80) (by decide) (backOf (W := 0) (ts l Z a0 hw [] b6E z tl kl M (own_uns dn) h7d n0 O j4_ hz j11_ j13_ E_tl (own_M8 hMk h2c) (own_uns4 dn (by omega)) (own_ile hdn hMk) (own_ilt hdn hMk kcc)) hZ (ow hw 82) (ow hw 16) (by decide) (by decide)) q7fa q7fc (g := (mkF m 130 #[.val (.ref a), .val (.ref b6E), .val (.int ii), s3l, s4l, s5l, s6l] [(.ref b6E)])) rfl (by rw [hml]; rfl) (Steps.refl _) (argsL := []) (rest := []) (lenOf pd_35 rfl) rfl (by show 2 * 0 + _ ≤ _; exact Nat.le_of_eq rfl) (B d3_130) (fun _ _ => ⟨rfl, e7d, (by decide : 4 + 2 ≤ _), (by decide : 30 + 13 ≤ _)⟩)
   dsimp only [Pt.U, Pt.locs, Pt.cells, Pt.slots] at X7f l7f y7f z7f st7f hQ7f
   subst y7f z7f
   obtain ⟨s_7g, t2_7h, k2_7i, rfl, N7fq, Kq7f, P7f_0, P7f_1, P7f_2, P7f_3⟩ := hQ7f
   refine oG (fun _ k => st7f.trans k) ?_
   have N7f := oL l7f (Fr.app N7d N7fq)
   have ne_b533_s_562 : b6E ≠ s_7g := Nat.ne_of_lt (Nat.lt_of_lt_of_le j11_.lt P7f_0)
   have ne_a_s_562 : a ≠ s_7g := Nat.ne_of_lt (Nat.lt_of_lt_of_le V_a.lt P7f_0)
   have ne_tl_s_562 : tl ≠ s_7g := Nat.ne_of_lt (Nat.lt_of_lt_of_le E_tl.lt P7f_0)
   have g_s_562 : n0 ≤ s_7g := Nat.le_trans (own_osz O) P7f_0
   have sz_s_562 : h0.size ≤ s_7g := Nat.le_trans K7d.1 P7f_0
   have ne_b533_t2_563 : b6E ≠ t2_7h := Nat.ne_of_lt (Nat.lt_of_lt_of_le j11_.lt P7f_1)
   have ne_a_t2_563 : a ≠ t2_7h := Nat.ne_of_lt (Nat.lt_of_lt_of_le V_a.lt P7f_1)
   have ne_tl_t2_563 : tl ≠ t2_7h := Nat.ne_of_lt (Nat.lt_of_lt_of_le E_tl.lt P7f_1)
   have g_t2_563 : n0 ≤ t2_7h := Nat.le_trans (own_osz O) P7f_1
   have sz_t2_563 : h0.size ≤ t2_7h := Nat.le_trans K7d.1 P7f_1
   have j11_ := j11_.keep Kq7f
   have V_a := V_a.keep Kq7f nin0
   have E_tl := E_tl.keep Kq7f
   have j13_ := own_SB_keep j13_ Kq7f nin0 nin0
   have O := O.keep Kq7f all0
   have K7j := K7d.trans Kq7f all0
   have E_s_562 := P7f_2
   have O_own_ST_s_562 := P7f_3
   show oF p e below (T7f.setTop (mkF m 133 #[.val (.ref a), .val (.ref b6E), .val (.int ii), s3l, s4l, s5l, s6l] [(.ref s_7g)])) _
   obtain ⟨fs, hr, r1, r2, hW, r3⟩ := X7f.leave (v := some (.ref s_7g)) (fun h => by rw [Bd.returns] at h; cases h)
   refine ⟨_, _, ?_, r1, r2, _, _, rfl, ?_, ⟨_, rfl⟩, hW, r3.mono (by decide) (by decide)⟩
   ·exact X7f.areturnOut hx rfl Bd.returns rfl (B d3_133) hr
   ·show Qidc Z cps h0 n0 _ T7f.heap _
    exact ⟨s_7g, t2_7h, k2_7i, rfl, N7f, K7j, sz_s_562, E_s_562, (by rw [hdn, List.append_nil]; exact O_own_ST_s_562)⟩
  ·have kq : own_cp q := kcc q (by rw [hdn]; exact List.mem_append.mpr (Or.inr List.mem_cons_self))
   refine dec _ _ _ _ _ _ dn rem q _ _ _ _ X7d e7d V_a o3l o4l o5l o6l hii hk8 hdn kq ?_
   intro x3 len x6 hlen
   show oF p e below (T7d.setTop (mkF m 114 #[.val (.ref a), .val (.ref b6E), .val (.int ii), .val (.int x3), .val (.int len), .val (.int q), .val (.int x6)] [])) _
   refine oG (fun _ k => XS.aloadN X7d.here hx rfl (B d3_114) rfl rfl (XS.iload X7d.here hx rfl (B d3_115) rfl k)) ?_
   show oF p e below (T7d.setTop (mkF m 117 #[.val (.ref a), .val (.ref b6E), .val (.int ii), .val (.int x3), .val (.int len), .val (.int q), .val (.int x6)] [(.int q), (.ref b6E)])) _
   have lt_a567 := V_a
   obtain ⟨cq7k, kq7k, q7ka, q7kb, q7kc⟩ := isOf hZ e7d j11_
   obtain ⟨_, _, ⟨T7k, L7k, k7k, n7k⟩, -, X7k, ⟨Lc7k, hQ7k, l7k, y7k, z7k⟩, st7k⟩ := X7d.virtualBack hx (y := mN36) (z := mN36) hown (mo hZ hw 35) (mo hZ hw 36) (notFace_of_selects (args := #[]) (mo hZ hw 38)) (mo hZ hw 38) (mo hZ hw 37) (by decide) (backOf (W := 0) (scp l Z a0 hw [] b6E q z tl kl M fm (own_uns dn) h7d n0 O j6_ j7_ j8_ j5_ hfm j4_ hz j11_ j13_ E_tl j29_ g_tl j48_ (own_M8 hMk h2c) (own_dn1 dn (own_dl hdn h2c)) (own_dn2 dn (own_dl hdn h2c) (own_dcp hdn kcc)) kq (own_scl hdn hMk)) hZ (ow hw 39) (ow hw 16) (by decide) (by decide)) q7ka q7kc (g := (mkF m 117 #[.val (.ref a), .val (.ref b6E), .val (.int ii), .val (.int x3), .val (.int len), .val (.int q), .val (.int x6)] [(.int q), (.ref b6E)])) rfl (by rw [hml]; rfl) (Steps.refl _) (argsL := [(.int q)]) (rest := []) (lenOf pd_36 rfl) rfl (by show 2 * 0 + _ ≤ _; exact Nat.le_of_eq rfl) (B d3_117) (fun _ _ => ⟨rfl, e7d, (by decide : 4 + 2 ≤ _), (by decide : 30 + 18 ≤ _)⟩)
   dsimp only [Pt.U, Pt.locs, Pt.cells, Pt.slots] at X7k l7k y7k z7k st7k hQ7k
   subst y7k z7k
   obtain ⟨t2_7l, k2_7m, rfl, N7kq, Kq7k, P7k_0, P7k_1, P7k_2, P7k_3, P7k_4, P7k_5⟩ := hQ7k
   refine oG (fun _ k => st7k.trans k) ?_
   have N7k := oL l7k (Fr.app N7d N7kq)
   have j11_ := j11_.keep Kq7k
   have V_a := V_a.keep Kq7k (ninS j53_ (ninS j30_ nin0))
   have E_tl := E_tl.keep Kq7k
   clear j13_
   have O := O.keep Kq7k (allS j29_ (allS g_tl all0))
   have K7n := K7d.trans Kq7k (allS (Or.inr j54_) (allS (Or.inr sz_tl) all0))
   have j11_ := P7k_3
   have E_t2_569 := P7k_4
   have j13_ := P7k_5
   have sz_t2_569 : h0.size ≤ t2_7l := P7k_0.elim (fun q_ => by rw [q_]; exact sz_tl) (fun q_ => Nat.le_trans K7d.1 q_)
   have ne_a_t2_569 : a ≠ t2_7l := P7k_0.elim (fun q_ => by rw [q_]; exact j30_) (fun q_ => Nat.ne_of_lt (Nat.lt_of_lt_of_le lt_a567.lt q_))
   show oF p e below (T7k.setTop (mkF m 120 #[.val (.ref a), .val (.ref b6E), .val (.int ii), .val (.int x3), .val (.int len), .val (.int q), .val (.int x6)] [(.ref b6E)])) _
   refine oG (fun _ k => XS.pop X7k.here hx rfl (B d3_120) rfl rfl (XS.iloadN X7k.here hx rfl (B d3_121) rfl (XS.iload X7k.here hx rfl (B d3_122) rfl (XS.iadd X7k.here hx rfl (B d3_124) rfl (XS.istoreN X7k.here hx rfl (B d3_125) rfl (l' := #[.val (.ref a), .val (.ref b6E), .val (.int (ii + len)), .val (.int x3), .val (.int len), .val (.int q), .val (.int x6)]) rfl (XS.goto X7k.here hx rfl (pc0 := 126) (pc' := 12) rfl (B d3_126) (by decide) (by decide) k)))))) ?_
   show oF p e below (T7k.setTop (mkF m 12 #[.val (.ref a), .val (.ref b6E), .val (.int (ii + len)), .val (.int x3), .val (.int len), .val (.int q), .val (.int x6)] [])) _
   exact lp2 _ _ _ t2_7l k2_7m _ (dn ++ [q]) rem _ _ _ _ X7k rfl N7k O K7n j11_ V_a E_t2_569 (by rw [own_uns1]; exact j13_) (One.val rfl) (One.val rfl) (One.val rfl) (One.val rfl) P7k_1 sz_t2_569 ne_a_t2_569 P7k_2 (own_inx2 hii hk8 hlen) (by rw [hdn, List.append_assoc] <;> rfl) (by rw [List.length_append, hdl] <;> rfl)
 have lp0 : ∀ (T7o : State) (L7o : List Loc) (h7o : Heap) (tl : Addr) (kl : ClassId) (ii : Int32) (dn : List Int32) (rem : List Int32) (s3l : Slot) (s4l : Slot) (s5l : Slot) (s6l : Slot), Stand p l e rM34 s m #[(.ref a)] below meth c T7o L7o 2 12 → T7o.heap = h7o → Fr n0 L7o → Old Z n0 h7o → Keep h0 h7o [] → eX1 Z h7o b6E → Arv Z h7o a ka .byte M (own_key cps) (.int 0) → eX0 Z h7o tl → own_SB Z h7o b6E tl kl M (own_uns dn) → One s3l → One s4l → One s5l → One s6l → n0 ≤ tl → h0.size ≤ tl → a ≠ tl → b6E ≠ tl → ii.toInt = ((own_key dn).length : Int) → cps = dn ++ rem → dn.length = 0 → oF p e below (T7o.setTop (mkF m 12 #[.val (.ref a), .val (.ref b6E), .val (.int ii), s3l, s4l, s5l, s6l] [])) (fun o' t' => ∃ v' L', o' = .returned v' ∧ Qidc Z cps h0 n0 v' t'.heap L' ∧ FrameEnd s o' t' L' rM34.cells rM34.slots) := by
  intro T7o L7o h7o tl kl ii dn rem s3l s4l s5l s6l X7o e7o N7o O K7o j11_ V_a E_tl j13_ o3l o4l o5l o6l g_tl sz_tl j30_ j48_ hii hdn hdl
  have hk8 : (own_key dn).length ≤ 8 := own_keyl dn (by omega)
  rcases rem with _ | ⟨q, rem⟩
  ·show oF p e below (T7o.setTop (mkF m 12 #[.val (.ref a), .val (.ref b6E), .val (.int ii), s3l, s4l, s5l, s6l] [])) _
   refine oG (fun _ k => XS.iloadN X7o.here hx rfl (B d3_12) rfl (XS.aloadN X7o.here hx rfl (B d3_13) rfl rfl k)) ?_
   show oF p e below (T7o.setTop (mkF m 14 #[.val (.ref a), .val (.ref b6E), .val (.int ii), s3l, s4l, s5l, s6l] [(.ref a), (.int ii)])) _
   obtain ⟨cl7p, A7p, -, S7p, M7p, -, -⟩ := id V_a
   refine oG (fun _ k => X7o.arraylength hx (own_eqE e7o A7p.1) (State.isArrayOf_alike hZ.alike A7p.2.1) (g := (mkF m 14 #[.val (.ref a), .val (.ref b6E), .val (.int ii), s3l, s4l, s5l, s6l] [(.ref a), (.int ii)])) rfl rfl (B d3_14) _ (by rw [len_of S7p M7p]; exact k)) ?_
   show oF p e below (T7o.setTop (mkF m 15 #[.val (.ref a), .val (.ref b6E), .val (.int ii), s3l, s4l, s5l, s6l] [(.int M), (.int ii)])) _
   refine oG (fun _ k => XS.icmpYes X7o.here hx rfl (pc0 := 15) (pc' := 129) rfl (B d3_15) rfl (flt ((own_xa hii hdn hMk) : ¬ (ii < M))).2.1 (by decide) (by decide) (XS.aloadN X7o.here hx rfl (B d3_129) rfl rfl k)) ?_
   show oF p e below (T7o.setTop (mkF m 130 #[.val (.ref a), .val (.ref b6E), .val (.int ii), s3l, s4l, s5l, s6l] [(.ref b6E)])) _
   obtain ⟨cq7q, kq7q, q7qa, q7qb, q7qc⟩ := isOf hZ e7o j11_
   obtain ⟨_, _, ⟨T7q, L7q, k7q, n7q⟩, -, X7q, ⟨Lc7q, hQ7q, l7q, y7q, z7q⟩, st7q⟩ := X7o.virtualBack hx (y := mN48) (z := mN48) hown (mo hZ hw 78) (mo hZ hw 79) (notFace_of_selects (args := #[]) (mo hZ hw 81)) (mo hZ hw 81) (mo hZ hw 80) (by decide) (backOf (W := 0) (ts l Z a0 hw [] b6E z tl kl M (own_uns dn) h7o n0 O j4_ hz j11_ j13_ E_tl (own_M8 hMk h2c) (own_uns4 dn (by omega)) (own_ile hdn hMk) (own_ilt hdn hMk kcc)) hZ (ow hw 82) (ow hw 16) (by decide) (by decide)) q7qa q7qc (g := (mkF m 130 #[.val (.ref a), .val (.ref b6E), .val (.int ii), s3l, s4l, s5l, s6l] [(.ref b6E)])) rfl (by rw [hml]; rfl) (Steps.refl _) (argsL := []) (rest := []) (lenOf pd_35 rfl) rfl (by show 2 * 0 + _ ≤ _; exact Nat.le_of_eq rfl) (B d3_130) (fun _ _ => ⟨rfl, e7o, (by decide : 2 + 2 ≤ _), (by decide : 12 + 13 ≤ _)⟩)
   dsimp only [Pt.U, Pt.locs, Pt.cells, Pt.slots] at X7q l7q y7q z7q st7q hQ7q
   subst y7q z7q
   obtain ⟨s_7r, t2_7s, k2_7t, rfl, N7qq, Kq7q, P7q_0, P7q_1, P7q_2, P7q_3⟩ := hQ7q
   refine oG (fun _ k => st7q.trans k) ?_
   have N7q := oL l7q (Fr.app N7o N7qq)
   have ne_b533_s_575 : b6E ≠ s_7r := Nat.ne_of_lt (Nat.lt_of_lt_of_le j11_.lt P7q_0)
   have ne_a_s_575 : a ≠ s_7r := Nat.ne_of_lt (Nat.lt_of_lt_of_le V_a.lt P7q_0)
   have ne_tl_s_575 : tl ≠ s_7r := Nat.ne_of_lt (Nat.lt_of_lt_of_le E_tl.lt P7q_0)
   have g_s_575 : n0 ≤ s_7r := Nat.le_trans (own_osz O) P7q_0
   have sz_s_575 : h0.size ≤ s_7r := Nat.le_trans K7o.1 P7q_0
   have ne_b533_t2_576 : b6E ≠ t2_7s := Nat.ne_of_lt (Nat.lt_of_lt_of_le j11_.lt P7q_1)
   have ne_a_t2_576 : a ≠ t2_7s := Nat.ne_of_lt (Nat.lt_of_lt_of_le V_a.lt P7q_1)
   have ne_tl_t2_576 : tl ≠ t2_7s := Nat.ne_of_lt (Nat.lt_of_lt_of_le E_tl.lt P7q_1)
   have g_t2_576 : n0 ≤ t2_7s := Nat.le_trans (own_osz O) P7q_1
   have sz_t2_576 : h0.size ≤ t2_7s := Nat.le_trans K7o.1 P7q_1
   have j11_ := j11_.keep Kq7q
   have V_a := V_a.keep Kq7q nin0
   have E_tl := E_tl.keep Kq7q
   have j13_ := own_SB_keep j13_ Kq7q nin0 nin0
   have O := O.keep Kq7q all0
   have K7u := K7o.trans Kq7q all0
   have E_s_575 := P7q_2
   have O_own_ST_s_575 := P7q_3
   show oF p e below (T7q.setTop (mkF m 133 #[.val (.ref a), .val (.ref b6E), .val (.int ii), s3l, s4l, s5l, s6l] [(.ref s_7r)])) _
   obtain ⟨fs, hr, r1, r2, hW, r3⟩ := X7q.leave (v := some (.ref s_7r)) (fun h => by rw [Bd.returns] at h; cases h)
   refine ⟨_, _, ?_, r1, r2, _, _, rfl, ?_, ⟨_, rfl⟩, hW, r3.mono (by decide) (by decide)⟩
   ·exact X7q.areturnOut hx rfl Bd.returns rfl (B d3_133) hr
   ·show Qidc Z cps h0 n0 _ T7q.heap _
    exact ⟨s_7r, t2_7s, k2_7t, rfl, N7q, K7u, sz_s_575, E_s_575, (by rw [hdn, List.append_nil]; exact O_own_ST_s_575)⟩
  ·have kq : own_cp q := kcc q (by rw [hdn]; exact List.mem_append.mpr (Or.inr List.mem_cons_self))
   refine dec _ _ _ _ _ _ dn rem q _ _ _ _ X7o e7o V_a o3l o4l o5l o6l hii hk8 hdn kq ?_
   intro x3 len x6 hlen
   show oF p e below (T7o.setTop (mkF m 114 #[.val (.ref a), .val (.ref b6E), .val (.int ii), .val (.int x3), .val (.int len), .val (.int q), .val (.int x6)] [])) _
   refine oG (fun _ k => XS.aloadN X7o.here hx rfl (B d3_114) rfl rfl (XS.iload X7o.here hx rfl (B d3_115) rfl k)) ?_
   show oF p e below (T7o.setTop (mkF m 117 #[.val (.ref a), .val (.ref b6E), .val (.int ii), .val (.int x3), .val (.int len), .val (.int q), .val (.int x6)] [(.int q), (.ref b6E)])) _
   have lt_a580 := V_a
   obtain ⟨cq7v, kq7v, q7va, q7vb, q7vc⟩ := isOf hZ e7o j11_
   obtain ⟨_, _, ⟨T7v, L7v, k7v, n7v⟩, -, X7v, ⟨Lc7v, hQ7v, l7v, y7v, z7v⟩, st7v⟩ := X7o.virtualBack hx (y := mN36) (z := mN36) hown (mo hZ hw 35) (mo hZ hw 36) (notFace_of_selects (args := #[]) (mo hZ hw 38)) (mo hZ hw 38) (mo hZ hw 37) (by decide) (backOf (W := 0) (scp l Z a0 hw [] b6E q z tl kl M fm (own_uns dn) h7o n0 O j6_ j7_ j8_ j5_ hfm j4_ hz j11_ j13_ E_tl j29_ g_tl j48_ (own_M8 hMk h2c) (own_dn1 dn (own_dl hdn h2c)) (own_dn2 dn (own_dl hdn h2c) (own_dcp hdn kcc)) kq (own_scl hdn hMk)) hZ (ow hw 39) (ow hw 16) (by decide) (by decide)) q7va q7vc (g := (mkF m 117 #[.val (.ref a), .val (.ref b6E), .val (.int ii), .val (.int x3), .val (.int len), .val (.int q), .val (.int x6)] [(.int q), (.ref b6E)])) rfl (by rw [hml]; rfl) (Steps.refl _) (argsL := [(.int q)]) (rest := []) (lenOf pd_36 rfl) rfl (by show 2 * 0 + _ ≤ _; exact Nat.le_of_eq rfl) (B d3_117) (fun _ _ => ⟨rfl, e7o, (by decide : 2 + 2 ≤ _), (by decide : 12 + 18 ≤ _)⟩)
   dsimp only [Pt.U, Pt.locs, Pt.cells, Pt.slots] at X7v l7v y7v z7v st7v hQ7v
   subst y7v z7v
   obtain ⟨t2_7w, k2_7x, rfl, N7vq, Kq7v, P7v_0, P7v_1, P7v_2, P7v_3, P7v_4, P7v_5⟩ := hQ7v
   refine oG (fun _ k => st7v.trans k) ?_
   have N7v := oL l7v (Fr.app N7o N7vq)
   have j11_ := j11_.keep Kq7v
   have V_a := V_a.keep Kq7v (ninS j53_ (ninS j30_ nin0))
   have E_tl := E_tl.keep Kq7v
   clear j13_
   have O := O.keep Kq7v (allS j29_ (allS g_tl all0))
   have K7y := K7o.trans Kq7v (allS (Or.inr j54_) (allS (Or.inr sz_tl) all0))
   have j11_ := P7v_3
   have E_t2_582 := P7v_4
   have j13_ := P7v_5
   have sz_t2_582 : h0.size ≤ t2_7w := P7v_0.elim (fun q_ => by rw [q_]; exact sz_tl) (fun q_ => Nat.le_trans K7o.1 q_)
   have ne_a_t2_582 : a ≠ t2_7w := P7v_0.elim (fun q_ => by rw [q_]; exact j30_) (fun q_ => Nat.ne_of_lt (Nat.lt_of_lt_of_le lt_a580.lt q_))
   show oF p e below (T7v.setTop (mkF m 120 #[.val (.ref a), .val (.ref b6E), .val (.int ii), .val (.int x3), .val (.int len), .val (.int q), .val (.int x6)] [(.ref b6E)])) _
   refine oG (fun _ k => XS.pop X7v.here hx rfl (B d3_120) rfl rfl (XS.iloadN X7v.here hx rfl (B d3_121) rfl (XS.iload X7v.here hx rfl (B d3_122) rfl (XS.iadd X7v.here hx rfl (B d3_124) rfl (XS.istoreN X7v.here hx rfl (B d3_125) rfl (l' := #[.val (.ref a), .val (.ref b6E), .val (.int (ii + len)), .val (.int x3), .val (.int len), .val (.int q), .val (.int x6)]) rfl (XS.goto X7v.here hx rfl (pc0 := 126) (pc' := 12) rfl (B d3_126) (by decide) (by decide) k)))))) ?_
   show oF p e below (T7v.setTop (mkF m 12 #[.val (.ref a), .val (.ref b6E), .val (.int (ii + len)), .val (.int x3), .val (.int len), .val (.int q), .val (.int x6)] [])) _
   exact lp1 _ _ _ t2_7w k2_7x _ (dn ++ [q]) rem _ _ _ _ X7v rfl N7v O K7y j11_ V_a E_t2_582 (by rw [own_uns1]; exact j13_) (One.val rfl) (One.val rfl) (One.val rfl) (One.val rfl) P7v_1 sz_t2_582 ne_a_t2_582 P7v_2 (own_inx2 hii hk8 hlen) (by rw [hdn, List.append_assoc] <;> rfl) (by rw [List.length_append, hdl] <;> rfl)
 exact lp0 _ _ _ t_6I k_6J _ ([] : List Int32) cps _ _ _ _ X6H rfl N6H O K6K j11_ V_a E_t_537 j13_ One.u One.u One.u One.u g_t_537 sz_t_537 ne_a_t_537 ne_b533_t_537 rfl rfl rfl
theorem own_kk3 (m : Int32) : ((m &&& (2147483647 : Int32)) % (3 : Int32)) = 0 ∨ ((m &&& (2147483647 : Int32)) % (3 : Int32)) = 1 ∨ ((m &&& (2147483647 : Int32)) % (3 : Int32)) = 2 := by
 have h1 := c_mask m 2147483647 31 (by decide) (by decide)
 have h2 := (c_irem (m &&& 2147483647) 3 3 (by decide)).1 (by omega)
 have k0 := own_k0
 have k1 := own_k1
 have k2 := own_k2
 rw [← Int32.toInt_inj, ← Int32.toInt_inj, ← Int32.toInt_inj]
 omega
theorem own_cpr (x : Int32) : own_cp ((x &&& (2147483647 : Int32)) % (1114112 : Int32)) := by
 have h1 := c_mask x 2147483647 31 (by decide) (by decide)
 have h2 := (c_irem (x &&& 2147483647) 1114112 1114112 (by decide)).1 (by omega)
 exact ⟨by omega, by omega⟩
theorem own_el (q : Int32) : (Int32.ofNat (own_enc q).length).toInt = ((own_enc q).length : Int) := Int32.toInt_ofNat_of_lt (by have := (own_enl q).2; omega)
theorem own_pj (q : Int32) : (Int32.ofNat (own_un q).length).toInt = ((own_un q).length : Int) := Int32.toInt_ofNat_of_lt (by have := (own_unl q).2; omega)
theorem own_kk0 : ([] : List Value) = own_key [] := rfl
theorem own_kk1 (q : Int32) : ([] ++ own_enc q) = own_key [q] := by show own_enc q = own_enc q ++ []; rw [List.append_nil]
theorem own_kk2 (q r : Int32) : (([] ++ own_enc q) ++ own_enc r) = own_key [q, r] := by show own_enc q ++ own_enc r = own_enc q ++ (own_enc r ++ []); rw [List.append_nil]
theorem own_ml1 {M q : Int32} (h : M = (Int32.ofNat (own_enc q).length) + (0 : Int32)) : M.toInt = ((own_key [q]).length : Int) := by
 rw [h, Int32.add_zero, own_el, ← own_kk1]; rfl
theorem own_ml2 {M q r : Int32} (h : M = (Int32.ofNat (own_enc q).length) + (Int32.ofNat (own_enc r).length)) : M.toInt = ((own_key [q, r]).length : Int) := by
 have a := own_el q
 have b := own_el r
 have c := c_iadd (Int32.ofNat (own_enc q).length) (Int32.ofNat (own_enc r).length)
 have d := rng32 ((Int32.ofNat (own_enc q).length) + (Int32.ofNat (own_enc r).length))
 have e := own_enl q
 have f := own_enl r
 rw [h, ← own_kk2, List.nil_append, List.length_append]
 omega
theorem own_pm1 {M q : Int32} {l : List Int32} (h : M.toInt = ((own_key (q :: l)).length : Int)) : ((([] : List Value) ++ own_enc q).length : Int) ≤ M.toInt := by
 rw [h, own_keyc, List.nil_append, List.length_append]; omega
theorem own_pm2 {M q r : Int32} (h : M.toInt = ((own_key [q, r]).length : Int)) : (((([] : List Value) ++ own_enc q) ++ own_enc r).length : Int) ≤ M.toInt := by
 rw [h, own_kk2]; omega
theorem own_pi (q : Int32) : (Int32.ofNat (own_enc q).length).toInt = ((([] : List Value) ++ own_enc q).length : Int) := own_el q
theorem own_ln1 (q : Int32) : (Int32.ofNat (own_uns [q]).length) = ((Int32.ofNat (own_un q).length) + (0 : Int32)) := by
 rw [Int32.add_zero]; show Int32.ofNat (own_un q ++ []).length = _; rw [List.append_nil]
theorem own_ln2 (q r : Int32) : (Int32.ofNat (own_uns [q, r]).length) = ((Int32.ofNat (own_un q).length) + (Int32.ofNat (own_un r).length)) := by
 have a := own_pj q
 have b := own_pj r
 have c := c_iadd (Int32.ofNat (own_un q).length) (Int32.ofNat (own_un r).length)
 have d := rng32 ((Int32.ofNat (own_un q).length) + (Int32.ofNat (own_un r).length))
 have e := own_unl q
 have f := own_unl r
 show Int32.ofNat (own_un q ++ (own_un r ++ [])).length = _
 rw [List.append_nil, List.length_append, ← Int32.toInt_inj, Int32.toInt_ofNat_of_lt (by omega)]
 omega
theorem own_ea1 (q : Int32) : own_uns [q] = [] ++ (own_un q ++ []) := by rw [List.nil_append]; rfl
theorem own_ea2 (q r : Int32) : own_uns [q, r] = [] ++ (own_un q ++ (own_un r ++ [])) := by rw [List.nil_append]; rfl
theorem own_ea3 (q r : Int32) : own_uns [q, r] = own_un q ++ (own_un r ++ []) := rfl
theorem own_zv : (0 : Int32).toInt = (([] : List Value).length : Int) := by decide
theorem own_zw : (0 : Int32).toInt = (([] : List Int32).length : Int) := by decide
theorem own_l2 (q r : Int32) : [q, r].length ≤ 2 := Nat.le_refl 2
theorem own_l1 (q : Int32) : [q].length ≤ 2 := Nat.le_succ 1
theorem own_l0 : ([] : List Int32).length ≤ 2 := Nat.zero_le 2
theorem own_ln0 : (Int32.ofNat (own_uns ([] : List Int32)).length) = (0 : Int32) := rfl
theorem own_cc1 {q : Int32} (h : own_cp q) : own_cps [q] := fun z hz => by rw [List.mem_singleton.mp hz]; exact h
theorem own_cc2 {q r : Int32} (h : own_cp q) (k : own_cp r) : own_cps [q, r] := fun z hz => by
 rcases List.mem_cons.mp hz with e | e
 · rw [e]; exact h
 · exact own_cc1 k z e
theorem pd_37 : parseMethodDescriptor "([B)Ljava/lang/String;" = some ⟨[(.array .byte)], some (.object "java/lang/String")⟩ := by decide +kernel
theorem pd_38 : parseMethodDescriptor "(Ljava/lang/String;II)Z" = some ⟨[(.object "java/lang/String"), .int, .int], some .boolean⟩ := by decide +kernel
theorem ef_rm0 (m : MethodId) (x0 : Int32) (x1 : Int32) (x2 : Int32) : entryFrame m #[(.int x0), (.int x1), (.int x2)] maxLocals = mkF m 0 #[.val (.int x0), .val (.int x1), .val (.int x2), .unset, .unset, .unset, .unset, .unset, .unset, .unset, .unset, .unset] [] := by first | (simp [entryFrame, mkF, argsToLocals, Value.category, maxLocals]; done) | rfl
def Qrm0 (Z : State)  (h0 : Heap) (n0 : Nat) (v : Option Value) (h : Heap) (L : List Loc) : Prop := v = some (.int 1) ∧ Fr n0 L ∧ Keep h0 h []
theorem rm0 (l : Launch) (Z : State) (a0 : Array Value) (hw : ∀ d ∈ tables_1, d.before a0 Z = true) (ws : List Jvm.Cond) (p0 : Int32) (p1 : Int32) (p2 : Int32) (z : Int32) (fm : Value) (h0 : Heap) (n0 : Nat) (O : Old Z n0 h0) (j6_ : sT0 Z (.int 1)) (j7_ : sT1 Z (.int 0)) (j8_ : sT2 Z (.int 8)) (j5_ : sT3 Z fm) (hfm : fm.isRef = true) (j4_ : sT4 Z (.int z)) (hz : ¬ (z = (0 : Int32))) :
   MetFree l x (head1 (Jvm.Cond.code x code maxLocals ret :: ws) room_1) (fun a' U' => a' = #[(.int p0), (.int p1), (.int p2)] ∧ Z.Warmed39 U'.vm ∧ U'.heap = h0) (fun _ _ _ _ _ => True) (fun _ U' o' W' => ∃ v' L', o' = .returned v' ∧ Qrm0 Z  h0 n0 v' W'.heap L' ∧ FrameEnd U' o' W' L' 9 69) := by
 refine MetFree.of_bodySF (plainFor_of_name pn_8) hisR ?_
 intro p e s m args below meth c s₁ Bd hml0 hP hK
 obtain ⟨rfl, hZ, hh⟩ := hP
 have hx := Bd.exec
 have hby := Bd.bytes
 have B := @hb _ _ hby
 have hml : c.maxLocals = 12 := hml0
 have hown : s.vm.findClass "com/example/espalier/espalier/EntriesIdPinLaw" = some m.cls := findClass_of_methodNamed Bd.named
 have X0 : Stand p l e room_1 s m #[(.int p0), (.int p1), (.int p2)] below meth c s₁ [] 0 0 := Stand.of_body Bd
 have e0 : s₁.heap = h0 := by rw [← hh, Bd.state]; rfl
 have N0 := Fr.nil n0
 have K0 := Keep.refl h0 []
 refine own_start (ef_rm0 m p0 p1 p2) (Q := fun o' t' => ∃ v' L', o' = .returned v' ∧ Qrm0 Z  h0 n0 v' t'.heap L' ∧ FrameEnd s o' t' L' 9 69) ?_
 show oF p e below (s₁.setTop (mkF m 0 #[.val (.int p0), .val (.int p1), .val (.int p2), .unset, .unset, .unset, .unset, .unset, .unset, .unset, .unset, .unset] [])) _
 refine oG (fun _ k => XS.iloadN X0.here hx rfl (B at_0) rfl k) ?_
 show oF p e below (s₁.setTop (mkF m 1 #[.val (.int p0), .val (.int p1), .val (.int p2), .unset, .unset, .unset, .unset, .unset, .unset, .unset, .unset, .unset] [(.int p2)])) _
 refine oG (fun _ k => X0.ldcInt hx hown (mo hZ hw 0) (g := (mkF m 1 #[.val (.int p0), .val (.int p1), .val (.int p2), .unset, .unset, .unset, .unset, .unset, .unset, .unset, .unset, .unset] [(.int p2)])) rfl (B at_1) _ k) ?_
 show oF p e below (s₁.setTop (mkF m 3 #[.val (.int p0), .val (.int p1), .val (.int p2), .unset, .unset, .unset, .unset, .unset, .unset, .unset, .unset, .unset] [(.int 2147483647), (.int p2)])) _
 refine oG (fun _ k => XS.iand X0.here hx rfl (B at_3) rfl (XS.iconst X0.here hx rfl (B at_4) (iremM X0 hx rfl (B at_5) rfl (by decide) (XS.istoreN X0.here hx rfl (B at_6) rfl (l' := #[.val (.int p0), .val (.int p1), .val (.int p2), .val (.int ((p2 &&& (2147483647 : Int32)) % (3 : Int32))), .unset, .unset, .unset, .unset, .unset, .unset, .unset, .unset]) rfl k)))) ?_
 show oF p e below (s₁.setTop (mkF m 7 #[.val (.int p0), .val (.int p1), .val (.int p2), .val (.int ((p2 &&& (2147483647 : Int32)) % (3 : Int32))), .unset, .unset, .unset, .unset, .unset, .unset, .unset, .unset] [])) _
 rcases own_kk3 p2 with hk3 | hk3 | hk3
 ·rw [hk3]
  show oF p e below (s₁.setTop (mkF m 7 #[.val (.int p0), .val (.int p1), .val (.int p2), .val (.int 0), .unset, .unset, .unset, .unset, .unset, .unset, .unset, .unset] [])) _
  refine oG (fun _ k => XS.iloadN X0.here hx rfl (B at_7) rfl k) ?_
  show oF p e below (s₁.setTop (mkF m 8 #[.val (.int p0), .val (.int p1), .val (.int p2), .val (.int 0), .unset, .unset, .unset, .unset, .unset, .unset, .unset, .unset] [(.int p0)])) _
  refine oG (fun _ k => X0.ldcInt hx hown (mo hZ hw 0) (g := (mkF m 8 #[.val (.int p0), .val (.int p1), .val (.int p2), .val (.int 0), .unset, .unset, .unset, .unset, .unset, .unset, .unset, .unset] [(.int p0)])) rfl (B at_8) _ k) ?_
  show oF p e below (s₁.setTop (mkF m 10 #[.val (.int p0), .val (.int p1), .val (.int p2), .val (.int 0), .unset, .unset, .unset, .unset, .unset, .unset, .unset, .unset] [(.int 2147483647), (.int p0)])) _
  refine oG (fun _ k => XS.iand X0.here hx rfl (B at_10) rfl k) ?_
  show oF p e below (s₁.setTop (mkF m 11 #[.val (.int p0), .val (.int p1), .val (.int p2), .val (.int 0), .unset, .unset, .unset, .unset, .unset, .unset, .unset, .unset] [(.int (p0 &&& (2147483647 : Int32)))])) _
  refine oG (fun _ k => X0.ldcInt hx hown (mo hZ hw 1) (g := (mkF m 11 #[.val (.int p0), .val (.int p1), .val (.int p2), .val (.int 0), .unset, .unset, .unset, .unset, .unset, .unset, .unset, .unset] [(.int (p0 &&& (2147483647 : Int32)))])) rfl (B at_11) _ k) ?_
  show oF p e below (s₁.setTop (mkF m 13 #[.val (.int p0), .val (.int p1), .val (.int p2), .val (.int 0), .unset, .unset, .unset, .unset, .unset, .unset, .unset, .unset] [(.int 1114112), (.int (p0 &&& (2147483647 : Int32)))])) _
  refine oG (fun _ k => iremM X0 hx rfl (B at_13) rfl (by decide) (XS.istore X0.here hx rfl (B at_14) rfl (l' := #[.val (.int p0), .val (.int p1), .val (.int p2), .val (.int 0), .val (.int ((p0 &&& (2147483647 : Int32)) % (1114112 : Int32))), .unset, .unset, .unset, .unset, .unset, .unset, .unset]) rfl (XS.iloadN X0.here hx rfl (B at_16) rfl k))) ?_
  show oF p e below (s₁.setTop (mkF m 17 #[.val (.int p0), .val (.int p1), .val (.int p2), .val (.int 0), .val (.int ((p0 &&& (2147483647 : Int32)) % (1114112 : Int32))), .unset, .unset, .unset, .unset, .unset, .unset, .unset] [(.int p1)])) _
  refine oG (fun _ k => X0.ldcInt hx hown (mo hZ hw 0) (g := (mkF m 17 #[.val (.int p0), .val (.int p1), .val (.int p2), .val (.int 0), .val (.int ((p0 &&& (2147483647 : Int32)) % (1114112 : Int32))), .unset, .unset, .unset, .unset, .unset, .unset, .unset] [(.int p1)])) rfl (B at_17) _ k) ?_
  show oF p e below (s₁.setTop (mkF m 19 #[.val (.int p0), .val (.int p1), .val (.int p2), .val (.int 0), .val (.int ((p0 &&& (2147483647 : Int32)) % (1114112 : Int32))), .unset, .unset, .unset, .unset, .unset, .unset, .unset] [(.int 2147483647), (.int p1)])) _
  refine oG (fun _ k => XS.iand X0.here hx rfl (B at_19) rfl k) ?_
  show oF p e below (s₁.setTop (mkF m 20 #[.val (.int p0), .val (.int p1), .val (.int p2), .val (.int 0), .val (.int ((p0 &&& (2147483647 : Int32)) % (1114112 : Int32))), .unset, .unset, .unset, .unset, .unset, .unset, .unset] [(.int (p1 &&& (2147483647 : Int32)))])) _
  refine oG (fun _ k => X0.ldcInt hx hown (mo hZ hw 1) (g := (mkF m 20 #[.val (.int p0), .val (.int p1), .val (.int p2), .val (.int 0), .val (.int ((p0 &&& (2147483647 : Int32)) % (1114112 : Int32))), .unset, .unset, .unset, .unset, .unset, .unset, .unset] [(.int (p1 &&& (2147483647 : Int32)))])) rfl (B at_20) _ k) ?_
  show oF p e below (s₁.setTop (mkF m 22 #[.val (.int p0), .val (.int p1), .val (.int p2), .val (.int 0), .val (.int ((p0 &&& (2147483647 : Int32)) % (1114112 : Int32))), .unset, .unset, .unset, .unset, .unset, .unset, .unset] [(.int 1114112), (.int (p1 &&& (2147483647 : Int32)))])) _
  refine oG (fun _ k => iremM X0 hx rfl (B at_22) rfl (by decide) (XS.istore X0.here hx rfl (B at_23) rfl (l' := #[.val (.int p0), .val (.int p1), .val (.int p2), .val (.int 0), .val (.int ((p0 &&& (2147483647 : Int32)) % (1114112 : Int32))), .val (.int ((p1 &&& (2147483647 : Int32)) % (1114112 : Int32))), .unset, .unset, .unset, .unset, .unset, .unset]) rfl k)) ?_
  show oF p e below (s₁.setTop (mkF m 25 #[.val (.int p0), .val (.int p1), .val (.int p2), .val (.int 0), .val (.int ((p0 &&& (2147483647 : Int32)) % (1114112 : Int32))), .val (.int ((p1 &&& (2147483647 : Int32)) % (1114112 : Int32))), .unset, .unset, .unset, .unset, .unset, .unset] [])) _
  obtain ⟨qa, hqa⟩ : ∃ z, z = ((p0 &&& (2147483647 : Int32)) % (1114112 : Int32)) := ⟨_, rfl⟩
  rw [← hqa]
  have ka_ : own_cp qa := by rw [hqa]; exact own_cpr p0
  obtain ⟨qb, hqb⟩ : ∃ z, z = ((p1 &&& (2147483647 : Int32)) % (1114112 : Int32)) := ⟨_, rfl⟩
  rw [← hqb]
  have kb_ : own_cp qb := by rw [hqb]; exact own_cpr p1
  show oF p e below (s₁.setTop (mkF m 25 #[.val (.int p0), .val (.int p1), .val (.int p2), .val (.int 0), .val (.int qa), .val (.int qb), .unset, .unset, .unset, .unset, .unset, .unset] [])) _
  refine oG (fun _ k => XS.iloadN X0.here hx rfl (B at_25) rfl (XS.iconst X0.here hx rfl (B at_26) (XS.icmpYes X0.here hx rfl (pc0 := 27) (pc' := 38) rfl (B at_27) rfl (tlt (by decide : (0 : Int32) < (1 : Int32))).1 (by decide) (by decide) (XS.iconst X0.here hx rfl (B at_38) (XS.istore X0.here hx rfl (B at_39) rfl (l' := #[.val (.int p0), .val (.int p1), .val (.int p2), .val (.int 0), .val (.int qa), .val (.int qb), .val (.int 0), .unset, .unset, .unset, .unset, .unset]) rfl k))))) ?_
  show oF p e below (s₁.setTop (mkF m 41 #[.val (.int p0), .val (.int p1), .val (.int p2), .val (.int 0), .val (.int qa), .val (.int qb), .val (.int 0), .unset, .unset, .unset, .unset, .unset] [])) _
  refine oG (fun _ k => XS.iloadN X0.here hx rfl (B at_41) rfl (XS.iconst X0.here hx rfl (B at_42) (XS.icmpYes X0.here hx rfl (pc0 := 43) (pc' := 54) rfl (B at_43) rfl (tlt (by decide : (0 : Int32) < (2 : Int32))).1 (by decide) (by decide) (XS.iconst X0.here hx rfl (B at_54) (XS.istore X0.here hx rfl (B at_55) rfl (l' := #[.val (.int p0), .val (.int p1), .val (.int p2), .val (.int 0), .val (.int qa), .val (.int qb), .val (.int 0), .val (.int 0), .unset, .unset, .unset, .unset]) rfl k))))) ?_
  show oF p e below (s₁.setTop (mkF m 57 #[.val (.int p0), .val (.int p1), .val (.int p2), .val (.int 0), .val (.int qa), .val (.int qb), .val (.int 0), .val (.int 0), .unset, .unset, .unset, .unset] [])) _
  refine oG (fun _ k => XS.iload X0.here hx rfl (B at_57) rfl (XS.iload X0.here hx rfl (B at_59) rfl (XS.iadd X0.here hx rfl (B at_61) rfl k))) ?_
  show oF p e below (s₁.setTop (mkF m 62 #[.val (.int p0), .val (.int p1), .val (.int p2), .val (.int 0), .val (.int qa), .val (.int qb), .val (.int 0), .val (.int 0), .unset, .unset, .unset, .unset] [(.int 0)])) _
  have hMi : (0 : Int32).toInt = ((own_key ([] : List Int32)).length : Int) := by decide
  show oF p e below (s₁.setTop (mkF m 62 #[.val (.int p0), .val (.int p1), .val (.int p2), .val (.int 0), .val (.int qa), .val (.int qb), .val (.int 0), .val (.int 0), .unset, .unset, .unset, .unset] [(.int 0)])) _
  obtain ⟨T7z, h7z, k7z, X7z, e7z, E7z, A7z, B7z, st7z⟩ := newPE X0 hx hZ (ow hw 6) e0 (g := (mkF m 62 #[.val (.int p0), .val (.int p1), .val (.int p2), .val (.int 0), .val (.int qa), .val (.int qb), .val (.int 0), .val (.int 0), .unset, .unset, .unset, .unset] [(.int 0)])) rfl (B at_62) rfl (by decide) (cap := 0) (by decide) (by decide) (by decide) (by decide) (ad := "[B") (by decide)
  obtain ⟨b7z, g7z⟩ : ∃ z, z = h0.size := ⟨_, rfl⟩
  rw [← g7z] at A7z st7z B7z
  refine oG st7z ?_
  have g_b585 : n0 ≤ b7z := Nat.le_trans (own_osz O) (Nat.le_of_eq g7z.symm)
  have sz_b585 : h0.size ≤ b7z := Nat.le_trans K0.1 (Nat.le_of_eq g7z.symm)
  have O := O.ext E7z
  have K7A := K0.ext E7z
  have j55_ := B7z
  have j42_ : Arv Z h7z b7z k7z .byte (0 : Int32) [] (.int 0) := (Arv.new A7z (by decide)).pad (pad_rep [] (.int 0) 0)
  show oF p e below (T7z.setTop (mkF m 64 #[.val (.int p0), .val (.int p1), .val (.int p2), .val (.int 0), .val (.int qa), .val (.int qb), .val (.int 0), .val (.int 0), .unset, .unset, .unset, .unset] [(.ref b7z)])) _
  refine oG (fun _ k => XS.astore X7z.here hx rfl (B at_64) rfl rfl (l' := #[.val (.int p0), .val (.int p1), .val (.int p2), .val (.int 0), .val (.int qa), .val (.int qb), .val (.int 0), .val (.int 0), .val (.ref b7z), .unset, .unset, .unset]) rfl (XS.iloadN X7z.here hx rfl (B at_66) rfl (XS.iconst X7z.here hx rfl (B at_67) (XS.icmpYes X7z.here hx rfl (pc0 := 68) (pc' := 79) rfl (B at_68) rfl (tlt (by decide : (0 : Int32) < (1 : Int32))).1 (by decide) (by decide) (XS.iloadN X7z.here hx rfl (B at_79) rfl (XS.iconst X7z.here hx rfl (B at_80) (XS.icmpYes X7z.here hx rfl (pc0 := 81) (pc' := 93) rfl (B at_81) rfl (tlt (by decide : (0 : Int32) < (2 : Int32))).1 (by decide) (by decide) k))))))) ?_
  show oF p e below (T7z.setTop (mkF m 93 #[.val (.int p0), .val (.int p1), .val (.int p2), .val (.int 0), .val (.int qa), .val (.int qb), .val (.int 0), .val (.int 0), .val (.ref b7z), .unset, .unset, .unset] [])) _
  have j42_ : Arv Z h7z b7z k7z .byte (0 : Int32) (own_key ([] : List Int32)) (.int 0) := by rw [← own_kk0]; exact j42_
  show oF p e below (T7z.setTop (mkF m 93 #[.val (.int p0), .val (.int p1), .val (.int p2), .val (.int 0), .val (.int qa), .val (.int qb), .val (.int 0), .val (.int 0), .val (.ref b7z), .unset, .unset, .unset] [])) _
  refine oG (fun _ k => XS.aload X7z.here hx rfl (B at_93) rfl rfl k) ?_
  show oF p e below (T7z.setTop (mkF m 95 #[.val (.int p0), .val (.int p1), .val (.int p2), .val (.int 0), .val (.int qa), .val (.int qb), .val (.int 0), .val (.int 0), .val (.ref b7z), .unset, .unset, .unset] [(.ref b7z)])) _
  obtain ⟨_, _, ⟨T7B, L7B, k7B, n7B⟩, -, X7B, ⟨Lc7B, hQ7B, l7B, y7B, z7B⟩, st7B⟩ := Jvm.LawKit.callS X7z hx (y := mN60) hown (mo hZ hw 10) (mo hZ hw 11) (mo hZ hw 12) (mo hZ hw 13) (by decide) (backOf (W := 0) (idc l Z a0 hw [] b7z z fm k7z (0 : Int32) ([] : List Int32) h7z n0 O j6_ j7_ j8_ j5_ hfm j4_ hz j42_ hMi own_l0 (fun _ hz => by cases hz)) hZ (ow hw 13) (ow hw 12) (by decide) (by decide)) (g := (mkF m 95 #[.val (.int p0), .val (.int p1), .val (.int p2), .val (.int 0), .val (.int qa), .val (.int qb), .val (.int 0), .val (.int 0), .val (.ref b7z), .unset, .unset, .unset] [(.ref b7z)])) rfl (by rw [hml]; rfl) (argsL := [(.ref b7z)]) (rest := []) (lenOf pd_37 rfl) rfl (by show 2 * 0 + _ ≤ _; exact Nat.le_of_eq rfl) (B at_95) (fun _ _ => ⟨rfl, e7z, (by decide : 1 + 8 ≤ _), (by decide : 0 + 61 ≤ _)⟩)
  dsimp only [Pt.U, Pt.locs, Pt.cells, Pt.slots] at X7B l7B y7B z7B st7B hQ7B
  subst y7B z7B
  obtain ⟨s_7C, t2_7D, k2_7E, rfl, N7Bq, Kq7B, P7B_0, P7B_1, P7B_2⟩ := hQ7B
  refine oG st7B ?_
  have N7B := oL l7B (Fr.app N0 N7Bq)
  have ne_b585_s_588 : b7z ≠ s_7C := Nat.ne_of_lt (Nat.lt_of_lt_of_le j55_.lt P7B_0)
  have g_s_588 : n0 ≤ s_7C := Nat.le_trans (own_osz O) P7B_0
  have sz_s_588 : h0.size ≤ s_7C := Nat.le_trans K7A.1 P7B_0
  have j55_ := j55_.keep Kq7B
  have j42_ := j42_.keep Kq7B nin0
  have O := O.keep Kq7B all0
  have K7F := K7A.trans Kq7B all0
  have j97_ := P7B_1
  have O_own_ST_s_588 := P7B_2
  show oF p e below (T7B.setTop (mkF m 98 #[.val (.int p0), .val (.int p1), .val (.int p2), .val (.int 0), .val (.int qa), .val (.int qb), .val (.int 0), .val (.int 0), .val (.ref b7z), .unset, .unset, .unset] [(.ref s_7C)])) _
  refine oG (fun _ k => XS.astore X7B.here hx rfl (B at_98) rfl rfl (l' := #[.val (.int p0), .val (.int p1), .val (.int p2), .val (.int 0), .val (.int qa), .val (.int qb), .val (.int 0), .val (.int 0), .val (.ref b7z), .val (.ref s_7C), .unset, .unset]) rfl (XS.iloadN X7B.here hx rfl (B at_100) rfl (XS.iconst X7B.here hx rfl (B at_101) (XS.icmpYes X7B.here hx rfl (pc0 := 102) (pc' := 113) rfl (B at_102) rfl (tlt (by decide : (0 : Int32) < (1 : Int32))).1 (by decide) (by decide) (XS.iconst X7B.here hx rfl (B at_113) (XS.istore X7B.here hx rfl (B at_114) rfl (l' := #[.val (.int p0), .val (.int p1), .val (.int p2), .val (.int 0), .val (.int qa), .val (.int qb), .val (.int 0), .val (.int 0), .val (.ref b7z), .val (.ref s_7C), .val (.int 0), .unset]) rfl k)))))) ?_
  show oF p e below (T7B.setTop (mkF m 116 #[.val (.int p0), .val (.int p1), .val (.int p2), .val (.int 0), .val (.int qa), .val (.int qb), .val (.int 0), .val (.int 0), .val (.ref b7z), .val (.ref s_7C), .val (.int 0), .unset] [])) _
  refine oG (fun _ k => XS.iloadN X7B.here hx rfl (B at_116) rfl (XS.iconst X7B.here hx rfl (B at_117) (XS.icmpYes X7B.here hx rfl (pc0 := 118) (pc' := 129) rfl (B at_118) rfl (tlt (by decide : (0 : Int32) < (2 : Int32))).1 (by decide) (by decide) (XS.iconst X7B.here hx rfl (B at_129) (XS.istore X7B.here hx rfl (B at_130) rfl (l' := #[.val (.int p0), .val (.int p1), .val (.int p2), .val (.int 0), .val (.int qa), .val (.int qb), .val (.int 0), .val (.int 0), .val (.ref b7z), .val (.ref s_7C), .val (.int 0), .val (.int 0)]) rfl k))))) ?_
  show oF p e below (T7B.setTop (mkF m 132 #[.val (.int p0), .val (.int p1), .val (.int p2), .val (.int 0), .val (.int qa), .val (.int qb), .val (.int 0), .val (.int 0), .val (.ref b7z), .val (.ref s_7C), .val (.int 0), .val (.int 0)] [])) _
  refine oG (fun _ k => XS.aload X7B.here hx rfl (B at_132) rfl rfl k) ?_
  show oF p e below (T7B.setTop (mkF m 134 #[.val (.int p0), .val (.int p1), .val (.int p2), .val (.int 0), .val (.int qa), .val (.int qb), .val (.int 0), .val (.int 0), .val (.ref b7z), .val (.ref s_7C), .val (.int 0), .val (.int 0)] [(.ref s_7C)])) _
  obtain ⟨cq7G, kq7G, q7Ga, q7Gb, q7Gc⟩ := isOf hZ rfl j97_
  obtain ⟨_, _, ⟨T7G, L7G, k7G, n7G⟩, -, X7G, ⟨Lc7G, hQ7G, l7G, y7G, z7G⟩, st7G⟩ := X7B.virtualBack hx (y := mN51) (z := mN51) hown (mo hZ hw 128) (mo hZ hw 129) (notFace_of_selects (args := #[]) (mo hZ hw 131)) (mo hZ hw 131) (mo hZ hw 130) (by decide) (backOf (W := 0) (slen l Z a0 hw [] s_7C z t2_7D k2_7E (own_uns ([] : List Int32)) (T7B.heap) n0 O j4_ hz j97_ O_own_ST_s_588 (own_uns4 _ own_l0)) hZ (ow hw 132) (ow hw 30) (by decide) (by decide)) q7Ga q7Gc (g := (mkF m 134 #[.val (.int p0), .val (.int p1), .val (.int p2), .val (.int 0), .val (.int qa), .val (.int qb), .val (.int 0), .val (.int 0), .val (.ref b7z), .val (.ref s_7C), .val (.int 0), .val (.int 0)] [(.ref s_7C)])) rfl (by rw [hml]; rfl) (Steps.refl _) (argsL := []) (rest := []) (lenOf pd_27 rfl) rfl (by show 2 * 0 + _ ≤ _; exact Nat.le_of_eq rfl) (B at_134) (fun _ _ => ⟨rfl, rfl, (by decide : 9 + 0 ≤ _), (by decide : 61 + 0 ≤ _)⟩)
  dsimp only [Pt.U, Pt.locs, Pt.cells, Pt.slots] at X7G l7G y7G z7G st7G hQ7G
  subst y7G z7G
  obtain ⟨rfl, N7Gq, e7G⟩ := hQ7G
  refine oG (fun _ k => st7G.trans k) ?_
  have N7G := oL l7G (Fr.app N7B N7Gq)
  show oF p e below (T7G.setTop (mkF m 137 #[.val (.int p0), .val (.int p1), .val (.int p2), .val (.int 0), .val (.int qa), .val (.int qb), .val (.int 0), .val (.int 0), .val (.ref b7z), .val (.ref s_7C), .val (.int 0), .val (.int 0)] [(.int (Int32.ofNat (own_uns ([] : List Int32)).length))])) _
  refine oG (fun _ k => XS.iload X7G.here hx rfl (B at_137) rfl (XS.iload X7G.here hx rfl (B at_139) rfl (XS.iadd X7G.here hx rfl (B at_141) rfl (XS.icmpYes X7G.here hx rfl (pc0 := 142) (pc' := 147) rfl (B at_142) rfl (teq own_ln0).1 (by decide) (by decide) (XS.iloadN X7G.here hx rfl (B at_147) rfl (XS.iconst X7G.here hx rfl (B at_148) (XS.icmpYes X7G.here hx rfl (pc0 := 149) (pc' := 165) rfl (B at_149) rfl (tlt (by decide : (0 : Int32) < (1 : Int32))).1 (by decide) (by decide) (XS.iloadN X7G.here hx rfl (B at_165) rfl (XS.iconst X7G.here hx rfl (B at_166) (XS.icmpYes X7G.here hx rfl (pc0 := 167) (pc' := 184) rfl (B at_167) rfl (tlt (by decide : (0 : Int32) < (2 : Int32))).1 (by decide) (by decide) k)))))))))) ?_
  show oF p e below (T7G.setTop (mkF m 184 #[.val (.int p0), .val (.int p1), .val (.int p2), .val (.int 0), .val (.int qa), .val (.int qb), .val (.int 0), .val (.int 0), .val (.ref b7z), .val (.ref s_7C), .val (.int 0), .val (.int 0)] [])) _
  refine oG (fun _ k => XS.iconst X7G.here hx rfl (B at_184) k) ?_
  show oF p e below (T7G.setTop (mkF m 185 #[.val (.int p0), .val (.int p1), .val (.int p2), .val (.int 0), .val (.int qa), .val (.int qb), .val (.int 0), .val (.int 0), .val (.ref b7z), .val (.ref s_7C), .val (.int 0), .val (.int 0)] [(.int 1)])) _
  obtain ⟨fs, hr, r1, r2, hW, r3⟩ := X7G.leave (v := some (.int 1)) (fun h => by rw [Bd.returns] at h; cases h)
  refine ⟨_, _, ?_, r1, r2, _, _, rfl, ?_, ⟨_, rfl⟩, hW, r3.mono (by decide) (by decide)⟩
  ·exact retN X7G hx (t := .boolean) Bd.returns (by simp) (B at_185) hr
  ·show Qrm0 Z  h0 n0 _ T7G.heap _
   rw [e7G]
   exact ⟨rfl, N7G, K7F⟩
 ·rw [hk3]
  show oF p e below (s₁.setTop (mkF m 7 #[.val (.int p0), .val (.int p1), .val (.int p2), .val (.int 1), .unset, .unset, .unset, .unset, .unset, .unset, .unset, .unset] [])) _
  refine oG (fun _ k => XS.iloadN X0.here hx rfl (B at_7) rfl k) ?_
  show oF p e below (s₁.setTop (mkF m 8 #[.val (.int p0), .val (.int p1), .val (.int p2), .val (.int 1), .unset, .unset, .unset, .unset, .unset, .unset, .unset, .unset] [(.int p0)])) _
  refine oG (fun _ k => X0.ldcInt hx hown (mo hZ hw 0) (g := (mkF m 8 #[.val (.int p0), .val (.int p1), .val (.int p2), .val (.int 1), .unset, .unset, .unset, .unset, .unset, .unset, .unset, .unset] [(.int p0)])) rfl (B at_8) _ k) ?_
  show oF p e below (s₁.setTop (mkF m 10 #[.val (.int p0), .val (.int p1), .val (.int p2), .val (.int 1), .unset, .unset, .unset, .unset, .unset, .unset, .unset, .unset] [(.int 2147483647), (.int p0)])) _
  refine oG (fun _ k => XS.iand X0.here hx rfl (B at_10) rfl k) ?_
  show oF p e below (s₁.setTop (mkF m 11 #[.val (.int p0), .val (.int p1), .val (.int p2), .val (.int 1), .unset, .unset, .unset, .unset, .unset, .unset, .unset, .unset] [(.int (p0 &&& (2147483647 : Int32)))])) _
  refine oG (fun _ k => X0.ldcInt hx hown (mo hZ hw 1) (g := (mkF m 11 #[.val (.int p0), .val (.int p1), .val (.int p2), .val (.int 1), .unset, .unset, .unset, .unset, .unset, .unset, .unset, .unset] [(.int (p0 &&& (2147483647 : Int32)))])) rfl (B at_11) _ k) ?_
  show oF p e below (s₁.setTop (mkF m 13 #[.val (.int p0), .val (.int p1), .val (.int p2), .val (.int 1), .unset, .unset, .unset, .unset, .unset, .unset, .unset, .unset] [(.int 1114112), (.int (p0 &&& (2147483647 : Int32)))])) _
  refine oG (fun _ k => iremM X0 hx rfl (B at_13) rfl (by decide) (XS.istore X0.here hx rfl (B at_14) rfl (l' := #[.val (.int p0), .val (.int p1), .val (.int p2), .val (.int 1), .val (.int ((p0 &&& (2147483647 : Int32)) % (1114112 : Int32))), .unset, .unset, .unset, .unset, .unset, .unset, .unset]) rfl (XS.iloadN X0.here hx rfl (B at_16) rfl k))) ?_
  show oF p e below (s₁.setTop (mkF m 17 #[.val (.int p0), .val (.int p1), .val (.int p2), .val (.int 1), .val (.int ((p0 &&& (2147483647 : Int32)) % (1114112 : Int32))), .unset, .unset, .unset, .unset, .unset, .unset, .unset] [(.int p1)])) _
  refine oG (fun _ k => X0.ldcInt hx hown (mo hZ hw 0) (g := (mkF m 17 #[.val (.int p0), .val (.int p1), .val (.int p2), .val (.int 1), .val (.int ((p0 &&& (2147483647 : Int32)) % (1114112 : Int32))), .unset, .unset, .unset, .unset, .unset, .unset, .unset] [(.int p1)])) rfl (B at_17) _ k) ?_
  show oF p e below (s₁.setTop (mkF m 19 #[.val (.int p0), .val (.int p1), .val (.int p2), .val (.int 1), .val (.int ((p0 &&& (2147483647 : Int32)) % (1114112 : Int32))), .unset, .unset, .unset, .unset, .unset, .unset, .unset] [(.int 2147483647), (.int p1)])) _
  refine oG (fun _ k => XS.iand X0.here hx rfl (B at_19) rfl k) ?_
  show oF p e below (s₁.setTop (mkF m 20 #[.val (.int p0), .val (.int p1), .val (.int p2), .val (.int 1), .val (.int ((p0 &&& (2147483647 : Int32)) % (1114112 : Int32))), .unset, .unset, .unset, .unset, .unset, .unset, .unset] [(.int (p1 &&& (2147483647 : Int32)))])) _
  refine oG (fun _ k => X0.ldcInt hx hown (mo hZ hw 1) (g := (mkF m 20 #[.val (.int p0), .val (.int p1), .val (.int p2), .val (.int 1), .val (.int ((p0 &&& (2147483647 : Int32)) % (1114112 : Int32))), .unset, .unset, .unset, .unset, .unset, .unset, .unset] [(.int (p1 &&& (2147483647 : Int32)))])) rfl (B at_20) _ k) ?_
  show oF p e below (s₁.setTop (mkF m 22 #[.val (.int p0), .val (.int p1), .val (.int p2), .val (.int 1), .val (.int ((p0 &&& (2147483647 : Int32)) % (1114112 : Int32))), .unset, .unset, .unset, .unset, .unset, .unset, .unset] [(.int 1114112), (.int (p1 &&& (2147483647 : Int32)))])) _
  refine oG (fun _ k => iremM X0 hx rfl (B at_22) rfl (by decide) (XS.istore X0.here hx rfl (B at_23) rfl (l' := #[.val (.int p0), .val (.int p1), .val (.int p2), .val (.int 1), .val (.int ((p0 &&& (2147483647 : Int32)) % (1114112 : Int32))), .val (.int ((p1 &&& (2147483647 : Int32)) % (1114112 : Int32))), .unset, .unset, .unset, .unset, .unset, .unset]) rfl k)) ?_
  show oF p e below (s₁.setTop (mkF m 25 #[.val (.int p0), .val (.int p1), .val (.int p2), .val (.int 1), .val (.int ((p0 &&& (2147483647 : Int32)) % (1114112 : Int32))), .val (.int ((p1 &&& (2147483647 : Int32)) % (1114112 : Int32))), .unset, .unset, .unset, .unset, .unset, .unset] [])) _
  obtain ⟨qa, hqa⟩ : ∃ z, z = ((p0 &&& (2147483647 : Int32)) % (1114112 : Int32)) := ⟨_, rfl⟩
  rw [← hqa]
  have ka_ : own_cp qa := by rw [hqa]; exact own_cpr p0
  obtain ⟨qb, hqb⟩ : ∃ z, z = ((p1 &&& (2147483647 : Int32)) % (1114112 : Int32)) := ⟨_, rfl⟩
  rw [← hqb]
  have kb_ : own_cp qb := by rw [hqb]; exact own_cpr p1
  show oF p e below (s₁.setTop (mkF m 25 #[.val (.int p0), .val (.int p1), .val (.int p2), .val (.int 1), .val (.int qa), .val (.int qb), .unset, .unset, .unset, .unset, .unset, .unset] [])) _
  refine oG (fun _ k => XS.iloadN X0.here hx rfl (B at_25) rfl (XS.iconst X0.here hx rfl (B at_26) (XS.icmpNo X0.here hx rfl (B at_27) rfl (flt (by decide : ¬ ((1 : Int32) < (1 : Int32)))).1 (XS.iload X0.here hx rfl (B at_30) rfl k)))) ?_
  show oF p e below (s₁.setTop (mkF m 32 #[.val (.int p0), .val (.int p1), .val (.int p2), .val (.int 1), .val (.int qa), .val (.int qb), .unset, .unset, .unset, .unset, .unset, .unset] [(.int qa)])) _
  obtain ⟨_, _, ⟨T7H, L7H, k7H, n7H⟩, -, X7H, ⟨Lc7H, hQ7H, l7H, y7H, z7H⟩, st7H⟩ := Jvm.LawKit.callS X0 hx (y := mN57) hown (mo hZ hw 2) (mo hZ hw 3) (mo hZ hw 4) (mo hZ hw 5) (by decide) (backOf (W := 0) (u8n l Z a0 hw [] qa h0 n0 ) hZ (ow hw 5) (ow hw 4) (by decide) (by decide)) (g := (mkF m 32 #[.val (.int p0), .val (.int p1), .val (.int p2), .val (.int 1), .val (.int qa), .val (.int qb), .unset, .unset, .unset, .unset, .unset, .unset] [(.int qa)])) rfl (by rw [hml]; rfl) (argsL := [(.int qa)]) (rest := []) (lenOf pd_9 rfl) rfl (by show 2 * 0 + _ ≤ _; exact Nat.le_of_eq rfl) (B at_32) (fun _ _ => ⟨rfl, e0, (by decide : 0 + 0 ≤ _), (by decide : 0 + 0 ≤ _)⟩)
  dsimp only [Pt.U, Pt.locs, Pt.cells, Pt.slots] at X7H l7H y7H z7H st7H hQ7H
  subst y7H z7H
  obtain ⟨rfl, N7Hq, e7H⟩ := hQ7H
  refine oG st7H ?_
  have N7H := oL l7H (Fr.app N0 N7Hq)
  show oF p e below (T7H.setTop (mkF m 35 #[.val (.int p0), .val (.int p1), .val (.int p2), .val (.int 1), .val (.int qa), .val (.int qb), .unset, .unset, .unset, .unset, .unset, .unset] [(.int (Int32.ofNat (own_enc qa).length))])) _
  refine oG (fun _ k => XS.goto X7H.here hx rfl (pc0 := 35) (pc' := 39) rfl (B at_35) (by decide) (by decide) (XS.istore X7H.here hx rfl (B at_39) rfl (l' := #[.val (.int p0), .val (.int p1), .val (.int p2), .val (.int 1), .val (.int qa), .val (.int qb), .val (.int (Int32.ofNat (own_enc qa).length)), .unset, .unset, .unset, .unset, .unset]) rfl k)) ?_
  show oF p e below (T7H.setTop (mkF m 41 #[.val (.int p0), .val (.int p1), .val (.int p2), .val (.int 1), .val (.int qa), .val (.int qb), .val (.int (Int32.ofNat (own_enc qa).length)), .unset, .unset, .unset, .unset, .unset] [])) _
  obtain ⟨la, hla_⟩ : ∃ z, z = (Int32.ofNat (own_enc qa).length) := ⟨_, rfl⟩
  rw [← hla_]
  show oF p e below (T7H.setTop (mkF m 41 #[.val (.int p0), .val (.int p1), .val (.int p2), .val (.int 1), .val (.int qa), .val (.int qb), .val (.int la), .unset, .unset, .unset, .unset, .unset] [])) _
  refine oG (fun _ k => XS.iloadN X7H.here hx rfl (B at_41) rfl (XS.iconst X7H.here hx rfl (B at_42) (XS.icmpYes X7H.here hx rfl (pc0 := 43) (pc' := 54) rfl (B at_43) rfl (tlt (by decide : (1 : Int32) < (2 : Int32))).1 (by decide) (by decide) (XS.iconst X7H.here hx rfl (B at_54) (XS.istore X7H.here hx rfl (B at_55) rfl (l' := #[.val (.int p0), .val (.int p1), .val (.int p2), .val (.int 1), .val (.int qa), .val (.int qb), .val (.int la), .val (.int 0), .unset, .unset, .unset, .unset]) rfl k))))) ?_
  show oF p e below (T7H.setTop (mkF m 57 #[.val (.int p0), .val (.int p1), .val (.int p2), .val (.int 1), .val (.int qa), .val (.int qb), .val (.int la), .val (.int 0), .unset, .unset, .unset, .unset] [])) _
  refine oG (fun _ k => XS.iload X7H.here hx rfl (B at_57) rfl (XS.iload X7H.here hx rfl (B at_59) rfl (XS.iadd X7H.here hx rfl (B at_61) rfl k))) ?_
  show oF p e below (T7H.setTop (mkF m 62 #[.val (.int p0), .val (.int p1), .val (.int p2), .val (.int 1), .val (.int qa), .val (.int qb), .val (.int la), .val (.int 0), .unset, .unset, .unset, .unset] [(.int (la + (0 : Int32)))])) _
  obtain ⟨M_, hM_⟩ : ∃ z, z = (la + (0 : Int32)) := ⟨_, rfl⟩
  rw [← hM_]
  have hMi := own_ml1 (M := M_) (q := qa) (by rw [hM_, hla_])
  have hM8 := own_M8 hMi (own_l1 qa)
  show oF p e below (T7H.setTop (mkF m 62 #[.val (.int p0), .val (.int p1), .val (.int p2), .val (.int 1), .val (.int qa), .val (.int qb), .val (.int la), .val (.int 0), .unset, .unset, .unset, .unset] [(.int M_)])) _
  obtain ⟨T7I, h7I, k7I, X7I, e7I, E7I, A7I, B7I, st7I⟩ := newPE X7H hx hZ (ow hw 6) e7H (g := (mkF m 62 #[.val (.int p0), .val (.int p1), .val (.int p2), .val (.int 1), .val (.int qa), .val (.int qb), .val (.int la), .val (.int 0), .unset, .unset, .unset, .unset] [(.int M_)])) rfl (B at_62) rfl (own_nn (by omega)) (cap := 8) (own_le8 (by omega) hM8) (by decide) (by decide) (by decide) (ad := "[B") (by decide)
  obtain ⟨b7I, g7I⟩ : ∃ z, z = h0.size := ⟨_, rfl⟩
  rw [← g7I] at A7I st7I B7I
  refine oG st7I ?_
  have j98_ : n0 ≤ b7I := Nat.le_trans (own_osz O) (Nat.le_of_eq g7I.symm)
  have sz_b595 : h0.size ≤ b7I := Nat.le_trans K0.1 (Nat.le_of_eq g7I.symm)
  have O := O.ext E7I
  have K7J := K0.ext E7I
  have j43_ := B7I
  have j18_ : Arv Z h7I b7I k7I .byte M_ [] (.int 0) := Arv.new A7I (own_nn (by omega))
  show oF p e below (T7I.setTop (mkF m 64 #[.val (.int p0), .val (.int p1), .val (.int p2), .val (.int 1), .val (.int qa), .val (.int qb), .val (.int la), .val (.int 0), .unset, .unset, .unset, .unset] [(.ref b7I)])) _
  refine oG (fun _ k => XS.astore X7I.here hx rfl (B at_64) rfl rfl (l' := #[.val (.int p0), .val (.int p1), .val (.int p2), .val (.int 1), .val (.int qa), .val (.int qb), .val (.int la), .val (.int 0), .val (.ref b7I), .unset, .unset, .unset]) rfl (XS.iloadN X7I.here hx rfl (B at_66) rfl (XS.iconst X7I.here hx rfl (B at_67) (XS.icmpNo X7I.here hx rfl (B at_68) rfl (flt (by decide : ¬ ((1 : Int32) < (1 : Int32)))).1 (XS.aload X7I.here hx rfl (B at_71) rfl rfl (XS.iconst X7I.here hx rfl (B at_73) (XS.iload X7I.here hx rfl (B at_74) rfl k))))))) ?_
  show oF p e below (T7I.setTop (mkF m 76 #[.val (.int p0), .val (.int p1), .val (.int p2), .val (.int 1), .val (.int qa), .val (.int qb), .val (.int la), .val (.int 0), .val (.ref b7I), .unset, .unset, .unset] [(.int qa), (.int 0), (.ref b7I)])) _
  obtain ⟨_, _, ⟨T7K, L7K, k7K, n7K⟩, -, X7K, ⟨Lc7K, hQ7K, l7K, y7K, z7K⟩, st7K⟩ := Jvm.LawKit.callS X7I hx (y := mN59) hown (mo hZ hw 7) (mo hZ hw 8) (mo hZ hw 4) (mo hZ hw 9) (by decide) (backOf (W := 0) (put l Z a0 hw [] b7I (0 : Int32) qa k7I M_ [] h7I n0 O j18_ j98_ own_zv (own_pm1 hMi) hM8) hZ (ow hw 9) (ow hw 4) (by decide) (by decide)) (g := (mkF m 76 #[.val (.int p0), .val (.int p1), .val (.int p2), .val (.int 1), .val (.int qa), .val (.int qb), .val (.int la), .val (.int 0), .val (.ref b7I), .unset, .unset, .unset] [(.int qa), (.int 0), (.ref b7I)])) rfl (by rw [hml]; rfl) (argsL := [(.ref b7I), (.int 0), (.int qa)]) (rest := []) (lenOf pd_4 rfl) rfl (by show 2 * 0 + _ ≤ _; exact Nat.le_of_eq rfl) (B at_76) (fun _ _ => ⟨rfl, e7I, (by decide : 1 + 0 ≤ _), (by decide : 8 + 0 ≤ _)⟩)
  dsimp only [Pt.U, Pt.locs, Pt.cells, Pt.slots] at X7K l7K y7K z7K st7K hQ7K
  subst y7K z7K
  obtain ⟨rfl, N7Kq, Kq7K, P7K_0⟩ := hQ7K
  refine oG st7K ?_
  have N7K := oL l7K (Fr.app N7H N7Kq)
  have j43_ := j43_.keep Kq7K
  clear j18_
  have O := O.keep Kq7K (allS j98_ all0)
  have K7L := K7J.trans Kq7K (allS (Or.inr sz_b595) all0)
  have j18_ := P7K_0
  show oF p e below (T7K.setTop (mkF m 79 #[.val (.int p0), .val (.int p1), .val (.int p2), .val (.int 1), .val (.int qa), .val (.int qb), .val (.int la), .val (.int 0), .val (.ref b7I), .unset, .unset, .unset] [])) _
  refine oG (fun _ k => XS.iloadN X7K.here hx rfl (B at_79) rfl (XS.iconst X7K.here hx rfl (B at_80) (XS.icmpYes X7K.here hx rfl (pc0 := 81) (pc' := 93) rfl (B at_81) rfl (tlt (by decide : (1 : Int32) < (2 : Int32))).1 (by decide) (by decide) k))) ?_
  show oF p e below (T7K.setTop (mkF m 93 #[.val (.int p0), .val (.int p1), .val (.int p2), .val (.int 1), .val (.int qa), .val (.int qb), .val (.int la), .val (.int 0), .val (.ref b7I), .unset, .unset, .unset] [])) _
  have j18_ : Arv Z T7K.heap b7I k7I .byte M_ (own_key [qa]) (.int 0) := by rw [← own_kk1]; exact j18_
  show oF p e below (T7K.setTop (mkF m 93 #[.val (.int p0), .val (.int p1), .val (.int p2), .val (.int 1), .val (.int qa), .val (.int qb), .val (.int la), .val (.int 0), .val (.ref b7I), .unset, .unset, .unset] [])) _
  refine oG (fun _ k => XS.aload X7K.here hx rfl (B at_93) rfl rfl k) ?_
  show oF p e below (T7K.setTop (mkF m 95 #[.val (.int p0), .val (.int p1), .val (.int p2), .val (.int 1), .val (.int qa), .val (.int qb), .val (.int la), .val (.int 0), .val (.ref b7I), .unset, .unset, .unset] [(.ref b7I)])) _
  obtain ⟨_, _, ⟨T7M, L7M, k7M, n7M⟩, -, X7M, ⟨Lc7M, hQ7M, l7M, y7M, z7M⟩, st7M⟩ := Jvm.LawKit.callS X7K hx (y := mN60) hown (mo hZ hw 10) (mo hZ hw 11) (mo hZ hw 12) (mo hZ hw 13) (by decide) (backOf (W := 0) (idc l Z a0 hw [] b7I z fm k7I M_ [qa] (T7K.heap) n0 O j6_ j7_ j8_ j5_ hfm j4_ hz j18_ hMi (own_l1 qa) (own_cc1 ka_)) hZ (ow hw 13) (ow hw 12) (by decide) (by decide)) (g := (mkF m 95 #[.val (.int p0), .val (.int p1), .val (.int p2), .val (.int 1), .val (.int qa), .val (.int qb), .val (.int la), .val (.int 0), .val (.ref b7I), .unset, .unset, .unset] [(.ref b7I)])) rfl (by rw [hml]; rfl) (argsL := [(.ref b7I)]) (rest := []) (lenOf pd_37 rfl) rfl (by show 2 * 0 + _ ≤ _; exact Nat.le_of_eq rfl) (B at_95) (fun _ _ => ⟨rfl, rfl, (by decide : 1 + 8 ≤ _), (by decide : 8 + 61 ≤ _)⟩)
  dsimp only [Pt.U, Pt.locs, Pt.cells, Pt.slots] at X7M l7M y7M z7M st7M hQ7M
  subst y7M z7M
  obtain ⟨s_7N, t2_7O, k2_7P, rfl, N7Mq, Kq7M, P7M_0, P7M_1, P7M_2⟩ := hQ7M
  refine oG st7M ?_
  have N7M := oL l7M (Fr.app N7K N7Mq)
  have ne_b595_s_600 : b7I ≠ s_7N := Nat.ne_of_lt (Nat.lt_of_lt_of_le j43_.lt P7M_0)
  have g_s_600 : n0 ≤ s_7N := Nat.le_trans (own_osz O) P7M_0
  have sz_s_600 : h0.size ≤ s_7N := Nat.le_trans K7L.1 P7M_0
  have j43_ := j43_.keep Kq7M
  have j18_ := j18_.keep Kq7M nin0
  have O := O.keep Kq7M all0
  have K7Q := K7L.trans Kq7M all0
  have j56_ := P7M_1
  have j99_ := P7M_2
  show oF p e below (T7M.setTop (mkF m 98 #[.val (.int p0), .val (.int p1), .val (.int p2), .val (.int 1), .val (.int qa), .val (.int qb), .val (.int la), .val (.int 0), .val (.ref b7I), .unset, .unset, .unset] [(.ref s_7N)])) _
  refine oG (fun _ k => XS.astore X7M.here hx rfl (B at_98) rfl rfl (l' := #[.val (.int p0), .val (.int p1), .val (.int p2), .val (.int 1), .val (.int qa), .val (.int qb), .val (.int la), .val (.int 0), .val (.ref b7I), .val (.ref s_7N), .unset, .unset]) rfl (XS.iloadN X7M.here hx rfl (B at_100) rfl (XS.iconst X7M.here hx rfl (B at_101) (XS.icmpNo X7M.here hx rfl (B at_102) rfl (flt (by decide : ¬ ((1 : Int32) < (1 : Int32)))).1 (XS.iload X7M.here hx rfl (B at_105) rfl k))))) ?_
  show oF p e below (T7M.setTop (mkF m 107 #[.val (.int p0), .val (.int p1), .val (.int p2), .val (.int 1), .val (.int qa), .val (.int qb), .val (.int la), .val (.int 0), .val (.ref b7I), .val (.ref s_7N), .unset, .unset] [(.int qa)])) _
  obtain ⟨_, _, ⟨T7R, L7R, k7R, n7R⟩, -, X7R, ⟨Lc7R, hQ7R, l7R, y7R, z7R⟩, st7R⟩ := Jvm.LawKit.callS X7M hx (y := mN58) hown (mo hZ hw 124) (mo hZ hw 125) (mo hZ hw 4) (mo hZ hw 126) (by decide) (backOf (W := 0) (u16n l Z a0 hw [] qa (T7M.heap) n0 ) hZ (ow hw 126) (ow hw 4) (by decide) (by decide)) (g := (mkF m 107 #[.val (.int p0), .val (.int p1), .val (.int p2), .val (.int 1), .val (.int qa), .val (.int qb), .val (.int la), .val (.int 0), .val (.ref b7I), .val (.ref s_7N), .unset, .unset] [(.int qa)])) rfl (by rw [hml]; rfl) (argsL := [(.int qa)]) (rest := []) (lenOf pd_9 rfl) rfl (by show 2 * 0 + _ ≤ _; exact Nat.le_of_eq rfl) (B at_107) (fun _ _ => ⟨rfl, rfl, (by decide : 9 + 0 ≤ _), (by decide : 69 + 0 ≤ _)⟩)
  dsimp only [Pt.U, Pt.locs, Pt.cells, Pt.slots] at X7R l7R y7R z7R st7R hQ7R
  subst y7R z7R
  obtain ⟨rfl, N7Rq, e7R⟩ := hQ7R
  refine oG st7R ?_
  have N7R := oL l7R (Fr.app N7M N7Rq)
  show oF p e below (T7R.setTop (mkF m 110 #[.val (.int p0), .val (.int p1), .val (.int p2), .val (.int 1), .val (.int qa), .val (.int qb), .val (.int la), .val (.int 0), .val (.ref b7I), .val (.ref s_7N), .unset, .unset] [(.int (Int32.ofNat (own_un qa).length))])) _
  refine oG (fun _ k => XS.goto X7R.here hx rfl (pc0 := 110) (pc' := 114) rfl (B at_110) (by decide) (by decide) (XS.istore X7R.here hx rfl (B at_114) rfl (l' := #[.val (.int p0), .val (.int p1), .val (.int p2), .val (.int 1), .val (.int qa), .val (.int qb), .val (.int la), .val (.int 0), .val (.ref b7I), .val (.ref s_7N), .val (.int (Int32.ofNat (own_un qa).length)), .unset]) rfl k)) ?_
  show oF p e below (T7R.setTop (mkF m 116 #[.val (.int p0), .val (.int p1), .val (.int p2), .val (.int 1), .val (.int qa), .val (.int qb), .val (.int la), .val (.int 0), .val (.ref b7I), .val (.ref s_7N), .val (.int (Int32.ofNat (own_un qa).length)), .unset] [])) _
  obtain ⟨ua, hua_⟩ : ∃ z, z = (Int32.ofNat (own_un qa).length) := ⟨_, rfl⟩
  rw [← hua_]
  show oF p e below (T7R.setTop (mkF m 116 #[.val (.int p0), .val (.int p1), .val (.int p2), .val (.int 1), .val (.int qa), .val (.int qb), .val (.int la), .val (.int 0), .val (.ref b7I), .val (.ref s_7N), .val (.int ua), .unset] [])) _
  refine oG (fun _ k => XS.iloadN X7R.here hx rfl (B at_116) rfl (XS.iconst X7R.here hx rfl (B at_117) (XS.icmpYes X7R.here hx rfl (pc0 := 118) (pc' := 129) rfl (B at_118) rfl (tlt (by decide : (1 : Int32) < (2 : Int32))).1 (by decide) (by decide) (XS.iconst X7R.here hx rfl (B at_129) (XS.istore X7R.here hx rfl (B at_130) rfl (l' := #[.val (.int p0), .val (.int p1), .val (.int p2), .val (.int 1), .val (.int qa), .val (.int qb), .val (.int la), .val (.int 0), .val (.ref b7I), .val (.ref s_7N), .val (.int ua), .val (.int 0)]) rfl k))))) ?_
  show oF p e below (T7R.setTop (mkF m 132 #[.val (.int p0), .val (.int p1), .val (.int p2), .val (.int 1), .val (.int qa), .val (.int qb), .val (.int la), .val (.int 0), .val (.ref b7I), .val (.ref s_7N), .val (.int ua), .val (.int 0)] [])) _
  refine oG (fun _ k => XS.aload X7R.here hx rfl (B at_132) rfl rfl k) ?_
  show oF p e below (T7R.setTop (mkF m 134 #[.val (.int p0), .val (.int p1), .val (.int p2), .val (.int 1), .val (.int qa), .val (.int qb), .val (.int la), .val (.int 0), .val (.ref b7I), .val (.ref s_7N), .val (.int ua), .val (.int 0)] [(.ref s_7N)])) _
  obtain ⟨cq7S, kq7S, q7Sa, q7Sb, q7Sc⟩ := isOf hZ e7R j56_
  obtain ⟨_, _, ⟨T7S, L7S, k7S, n7S⟩, -, X7S, ⟨Lc7S, hQ7S, l7S, y7S, z7S⟩, st7S⟩ := X7R.virtualBack hx (y := mN51) (z := mN51) hown (mo hZ hw 128) (mo hZ hw 129) (notFace_of_selects (args := #[]) (mo hZ hw 131)) (mo hZ hw 131) (mo hZ hw 130) (by decide) (backOf (W := 0) (slen l Z a0 hw [] s_7N z t2_7O k2_7P (own_uns [qa]) (T7M.heap) n0 O j4_ hz j56_ j99_ (own_uns4 _ (own_l1 qa))) hZ (ow hw 132) (ow hw 30) (by decide) (by decide)) q7Sa q7Sc (g := (mkF m 134 #[.val (.int p0), .val (.int p1), .val (.int p2), .val (.int 1), .val (.int qa), .val (.int qb), .val (.int la), .val (.int 0), .val (.ref b7I), .val (.ref s_7N), .val (.int ua), .val (.int 0)] [(.ref s_7N)])) rfl (by rw [hml]; rfl) (Steps.refl _) (argsL := []) (rest := []) (lenOf pd_27 rfl) rfl (by show 2 * 0 + _ ≤ _; exact Nat.le_of_eq rfl) (B at_134) (fun _ _ => ⟨rfl, e7R, (by decide : 9 + 0 ≤ _), (by decide : 69 + 0 ≤ _)⟩)
  dsimp only [Pt.U, Pt.locs, Pt.cells, Pt.slots] at X7S l7S y7S z7S st7S hQ7S
  subst y7S z7S
  obtain ⟨rfl, N7Sq, e7S⟩ := hQ7S
  refine oG (fun _ k => st7S.trans k) ?_
  have N7S := oL l7S (Fr.app N7R N7Sq)
  show oF p e below (T7S.setTop (mkF m 137 #[.val (.int p0), .val (.int p1), .val (.int p2), .val (.int 1), .val (.int qa), .val (.int qb), .val (.int la), .val (.int 0), .val (.ref b7I), .val (.ref s_7N), .val (.int ua), .val (.int 0)] [(.int (Int32.ofNat (own_uns [qa]).length))])) _
  refine oG (fun _ k => XS.iload X7S.here hx rfl (B at_137) rfl (XS.iload X7S.here hx rfl (B at_139) rfl (XS.iadd X7S.here hx rfl (B at_141) rfl (XS.icmpYes X7S.here hx rfl (pc0 := 142) (pc' := 147) rfl (B at_142) rfl (teq (by rw [hua_]; exact own_ln1 qa : (Int32.ofNat (own_uns [qa]).length) = (ua + (0 : Int32)))).1 (by decide) (by decide) (XS.iloadN X7S.here hx rfl (B at_147) rfl (XS.iconst X7S.here hx rfl (B at_148) (XS.icmpNo X7S.here hx rfl (B at_149) rfl (flt (by decide : ¬ ((1 : Int32) < (1 : Int32)))).1 (XS.aload X7S.here hx rfl (B at_152) rfl rfl (XS.iconst X7S.here hx rfl (B at_154) (XS.iload X7S.here hx rfl (B at_155) rfl k)))))))))) ?_
  show oF p e below (T7S.setTop (mkF m 157 #[.val (.int p0), .val (.int p1), .val (.int p2), .val (.int 1), .val (.int qa), .val (.int qb), .val (.int la), .val (.int 0), .val (.ref b7I), .val (.ref s_7N), .val (.int ua), .val (.int 0)] [(.int qa), (.int 0), (.ref s_7N)])) _
  obtain ⟨_, _, ⟨T7T, L7T, k7T, n7T⟩, -, X7T, ⟨Lc7T, hQ7T, l7T, y7T, z7T⟩, st7T⟩ := Jvm.LawKit.callS X7S hx (y := mN56) hown (mo hZ hw 139) (mo hZ hw 140) (mo hZ hw 4) (mo hZ hw 141) (by decide) (backOf (W := 0) (hu l Z a0 hw [] s_7N (0 : Int32) qa z fm t2_7O k2_7P (own_uns [qa]) ([] : List Int32) ([] : List Int32) (T7M.heap) n0 O j6_ j7_ j8_ j5_ hfm j4_ hz j56_ j99_ (own_uns4 _ (own_l1 qa)) ka_ (own_ea1 qa) own_zw) hZ (ow hw 141) (ow hw 4) (by decide) (by decide)) (g := (mkF m 157 #[.val (.int p0), .val (.int p1), .val (.int p2), .val (.int 1), .val (.int qa), .val (.int qb), .val (.int la), .val (.int 0), .val (.ref b7I), .val (.ref s_7N), .val (.int ua), .val (.int 0)] [(.int qa), (.int 0), (.ref s_7N)])) rfl (by rw [hml]; rfl) (argsL := [(.ref s_7N), (.int 0), (.int qa)]) (rest := []) (lenOf pd_38 rfl) rfl (by show 2 * 0 + _ ≤ _; exact Nat.le_of_eq rfl) (B at_157) (fun _ _ => ⟨rfl, e7S, (by decide : 9 + 0 ≤ _), (by decide : 69 + 0 ≤ _)⟩)
  dsimp only [Pt.U, Pt.locs, Pt.cells, Pt.slots] at X7T l7T y7T z7T st7T hQ7T
  subst y7T z7T
  obtain ⟨rfl, N7Tq, e7T⟩ := hQ7T
  refine oG st7T ?_
  have N7T := oL l7T (Fr.app N7S N7Tq)
  show oF p e below (T7T.setTop (mkF m 160 #[.val (.int p0), .val (.int p1), .val (.int p2), .val (.int 1), .val (.int qa), .val (.int qb), .val (.int la), .val (.int 0), .val (.ref b7I), .val (.ref s_7N), .val (.int ua), .val (.int 0)] [(.int 1)])) _
  refine oG (fun _ k => XS.ifYes X7T.here hx rfl (pc0 := 160) (pc' := 165) rfl (B at_160) rfl ((if0 _ _).trans (feq (by decide : ¬ ((1 : Int32) = (0 : Int32)))).2) (by decide) (by decide) (XS.iloadN X7T.here hx rfl (B at_165) rfl (XS.iconst X7T.here hx rfl (B at_166) (XS.icmpYes X7T.here hx rfl (pc0 := 167) (pc' := 184) rfl (B at_167) rfl (tlt (by decide : (1 : Int32) < (2 : Int32))).1 (by decide) (by decide) (XS.iconst X7T.here hx rfl (B at_184) k))))) ?_
  show oF p e below (T7T.setTop (mkF m 185 #[.val (.int p0), .val (.int p1), .val (.int p2), .val (.int 1), .val (.int qa), .val (.int qb), .val (.int la), .val (.int 0), .val (.ref b7I), .val (.ref s_7N), .val (.int ua), .val (.int 0)] [(.int 1)])) _
  obtain ⟨fs, hr, r1, r2, hW, r3⟩ := X7T.leave (v := some (.int 1)) (fun h => by rw [Bd.returns] at h; cases h)
  refine ⟨_, _, ?_, r1, r2, _, _, rfl, ?_, ⟨_, rfl⟩, hW, r3.mono (by decide) (by decide)⟩
  ·exact retN X7T hx (t := .boolean) Bd.returns (by simp) (B at_185) hr
  ·show Qrm0 Z  h0 n0 _ T7T.heap _
   rw [e7T]
   exact ⟨rfl, N7T, K7Q⟩
 ·rw [hk3]
  show oF p e below (s₁.setTop (mkF m 7 #[.val (.int p0), .val (.int p1), .val (.int p2), .val (.int 2), .unset, .unset, .unset, .unset, .unset, .unset, .unset, .unset] [])) _
  refine oG (fun _ k => XS.iloadN X0.here hx rfl (B at_7) rfl k) ?_
  show oF p e below (s₁.setTop (mkF m 8 #[.val (.int p0), .val (.int p1), .val (.int p2), .val (.int 2), .unset, .unset, .unset, .unset, .unset, .unset, .unset, .unset] [(.int p0)])) _
  refine oG (fun _ k => X0.ldcInt hx hown (mo hZ hw 0) (g := (mkF m 8 #[.val (.int p0), .val (.int p1), .val (.int p2), .val (.int 2), .unset, .unset, .unset, .unset, .unset, .unset, .unset, .unset] [(.int p0)])) rfl (B at_8) _ k) ?_
  show oF p e below (s₁.setTop (mkF m 10 #[.val (.int p0), .val (.int p1), .val (.int p2), .val (.int 2), .unset, .unset, .unset, .unset, .unset, .unset, .unset, .unset] [(.int 2147483647), (.int p0)])) _
  refine oG (fun _ k => XS.iand X0.here hx rfl (B at_10) rfl k) ?_
  show oF p e below (s₁.setTop (mkF m 11 #[.val (.int p0), .val (.int p1), .val (.int p2), .val (.int 2), .unset, .unset, .unset, .unset, .unset, .unset, .unset, .unset] [(.int (p0 &&& (2147483647 : Int32)))])) _
  refine oG (fun _ k => X0.ldcInt hx hown (mo hZ hw 1) (g := (mkF m 11 #[.val (.int p0), .val (.int p1), .val (.int p2), .val (.int 2), .unset, .unset, .unset, .unset, .unset, .unset, .unset, .unset] [(.int (p0 &&& (2147483647 : Int32)))])) rfl (B at_11) _ k) ?_
  show oF p e below (s₁.setTop (mkF m 13 #[.val (.int p0), .val (.int p1), .val (.int p2), .val (.int 2), .unset, .unset, .unset, .unset, .unset, .unset, .unset, .unset] [(.int 1114112), (.int (p0 &&& (2147483647 : Int32)))])) _
  refine oG (fun _ k => iremM X0 hx rfl (B at_13) rfl (by decide) (XS.istore X0.here hx rfl (B at_14) rfl (l' := #[.val (.int p0), .val (.int p1), .val (.int p2), .val (.int 2), .val (.int ((p0 &&& (2147483647 : Int32)) % (1114112 : Int32))), .unset, .unset, .unset, .unset, .unset, .unset, .unset]) rfl (XS.iloadN X0.here hx rfl (B at_16) rfl k))) ?_
  show oF p e below (s₁.setTop (mkF m 17 #[.val (.int p0), .val (.int p1), .val (.int p2), .val (.int 2), .val (.int ((p0 &&& (2147483647 : Int32)) % (1114112 : Int32))), .unset, .unset, .unset, .unset, .unset, .unset, .unset] [(.int p1)])) _
  refine oG (fun _ k => X0.ldcInt hx hown (mo hZ hw 0) (g := (mkF m 17 #[.val (.int p0), .val (.int p1), .val (.int p2), .val (.int 2), .val (.int ((p0 &&& (2147483647 : Int32)) % (1114112 : Int32))), .unset, .unset, .unset, .unset, .unset, .unset, .unset] [(.int p1)])) rfl (B at_17) _ k) ?_
  show oF p e below (s₁.setTop (mkF m 19 #[.val (.int p0), .val (.int p1), .val (.int p2), .val (.int 2), .val (.int ((p0 &&& (2147483647 : Int32)) % (1114112 : Int32))), .unset, .unset, .unset, .unset, .unset, .unset, .unset] [(.int 2147483647), (.int p1)])) _
  refine oG (fun _ k => XS.iand X0.here hx rfl (B at_19) rfl k) ?_
  show oF p e below (s₁.setTop (mkF m 20 #[.val (.int p0), .val (.int p1), .val (.int p2), .val (.int 2), .val (.int ((p0 &&& (2147483647 : Int32)) % (1114112 : Int32))), .unset, .unset, .unset, .unset, .unset, .unset, .unset] [(.int (p1 &&& (2147483647 : Int32)))])) _
  refine oG (fun _ k => X0.ldcInt hx hown (mo hZ hw 1) (g := (mkF m 20 #[.val (.int p0), .val (.int p1), .val (.int p2), .val (.int 2), .val (.int ((p0 &&& (2147483647 : Int32)) % (1114112 : Int32))), .unset, .unset, .unset, .unset, .unset, .unset, .unset] [(.int (p1 &&& (2147483647 : Int32)))])) rfl (B at_20) _ k) ?_
  show oF p e below (s₁.setTop (mkF m 22 #[.val (.int p0), .val (.int p1), .val (.int p2), .val (.int 2), .val (.int ((p0 &&& (2147483647 : Int32)) % (1114112 : Int32))), .unset, .unset, .unset, .unset, .unset, .unset, .unset] [(.int 1114112), (.int (p1 &&& (2147483647 : Int32)))])) _
  refine oG (fun _ k => iremM X0 hx rfl (B at_22) rfl (by decide) (XS.istore X0.here hx rfl (B at_23) rfl (l' := #[.val (.int p0), .val (.int p1), .val (.int p2), .val (.int 2), .val (.int ((p0 &&& (2147483647 : Int32)) % (1114112 : Int32))), .val (.int ((p1 &&& (2147483647 : Int32)) % (1114112 : Int32))), .unset, .unset, .unset, .unset, .unset, .unset]) rfl k)) ?_
  show oF p e below (s₁.setTop (mkF m 25 #[.val (.int p0), .val (.int p1), .val (.int p2), .val (.int 2), .val (.int ((p0 &&& (2147483647 : Int32)) % (1114112 : Int32))), .val (.int ((p1 &&& (2147483647 : Int32)) % (1114112 : Int32))), .unset, .unset, .unset, .unset, .unset, .unset] [])) _
  obtain ⟨qa, hqa⟩ : ∃ z, z = ((p0 &&& (2147483647 : Int32)) % (1114112 : Int32)) := ⟨_, rfl⟩
  rw [← hqa]
  have ka_ : own_cp qa := by rw [hqa]; exact own_cpr p0
  obtain ⟨qb, hqb⟩ : ∃ z, z = ((p1 &&& (2147483647 : Int32)) % (1114112 : Int32)) := ⟨_, rfl⟩
  rw [← hqb]
  have kb_ : own_cp qb := by rw [hqb]; exact own_cpr p1
  show oF p e below (s₁.setTop (mkF m 25 #[.val (.int p0), .val (.int p1), .val (.int p2), .val (.int 2), .val (.int qa), .val (.int qb), .unset, .unset, .unset, .unset, .unset, .unset] [])) _
  refine oG (fun _ k => XS.iloadN X0.here hx rfl (B at_25) rfl (XS.iconst X0.here hx rfl (B at_26) (XS.icmpNo X0.here hx rfl (B at_27) rfl (flt (by decide : ¬ ((2 : Int32) < (1 : Int32)))).1 (XS.iload X0.here hx rfl (B at_30) rfl k)))) ?_
  show oF p e below (s₁.setTop (mkF m 32 #[.val (.int p0), .val (.int p1), .val (.int p2), .val (.int 2), .val (.int qa), .val (.int qb), .unset, .unset, .unset, .unset, .unset, .unset] [(.int qa)])) _
  obtain ⟨_, _, ⟨T7U, L7U, k7U, n7U⟩, -, X7U, ⟨Lc7U, hQ7U, l7U, y7U, z7U⟩, st7U⟩ := Jvm.LawKit.callS X0 hx (y := mN57) hown (mo hZ hw 2) (mo hZ hw 3) (mo hZ hw 4) (mo hZ hw 5) (by decide) (backOf (W := 0) (u8n l Z a0 hw [] qa h0 n0 ) hZ (ow hw 5) (ow hw 4) (by decide) (by decide)) (g := (mkF m 32 #[.val (.int p0), .val (.int p1), .val (.int p2), .val (.int 2), .val (.int qa), .val (.int qb), .unset, .unset, .unset, .unset, .unset, .unset] [(.int qa)])) rfl (by rw [hml]; rfl) (argsL := [(.int qa)]) (rest := []) (lenOf pd_9 rfl) rfl (by show 2 * 0 + _ ≤ _; exact Nat.le_of_eq rfl) (B at_32) (fun _ _ => ⟨rfl, e0, (by decide : 0 + 0 ≤ _), (by decide : 0 + 0 ≤ _)⟩)
  dsimp only [Pt.U, Pt.locs, Pt.cells, Pt.slots] at X7U l7U y7U z7U st7U hQ7U
  subst y7U z7U
  obtain ⟨rfl, N7Uq, e7U⟩ := hQ7U
  refine oG st7U ?_
  have N7U := oL l7U (Fr.app N0 N7Uq)
  show oF p e below (T7U.setTop (mkF m 35 #[.val (.int p0), .val (.int p1), .val (.int p2), .val (.int 2), .val (.int qa), .val (.int qb), .unset, .unset, .unset, .unset, .unset, .unset] [(.int (Int32.ofNat (own_enc qa).length))])) _
  refine oG (fun _ k => XS.goto X7U.here hx rfl (pc0 := 35) (pc' := 39) rfl (B at_35) (by decide) (by decide) (XS.istore X7U.here hx rfl (B at_39) rfl (l' := #[.val (.int p0), .val (.int p1), .val (.int p2), .val (.int 2), .val (.int qa), .val (.int qb), .val (.int (Int32.ofNat (own_enc qa).length)), .unset, .unset, .unset, .unset, .unset]) rfl k)) ?_
  show oF p e below (T7U.setTop (mkF m 41 #[.val (.int p0), .val (.int p1), .val (.int p2), .val (.int 2), .val (.int qa), .val (.int qb), .val (.int (Int32.ofNat (own_enc qa).length)), .unset, .unset, .unset, .unset, .unset] [])) _
  obtain ⟨la, hla_⟩ : ∃ z, z = (Int32.ofNat (own_enc qa).length) := ⟨_, rfl⟩
  rw [← hla_]
  show oF p e below (T7U.setTop (mkF m 41 #[.val (.int p0), .val (.int p1), .val (.int p2), .val (.int 2), .val (.int qa), .val (.int qb), .val (.int la), .unset, .unset, .unset, .unset, .unset] [])) _
  refine oG (fun _ k => XS.iloadN X7U.here hx rfl (B at_41) rfl (XS.iconst X7U.here hx rfl (B at_42) (XS.icmpNo X7U.here hx rfl (B at_43) rfl (flt (by decide : ¬ ((2 : Int32) < (2 : Int32)))).1 (XS.iload X7U.here hx rfl (B at_46) rfl k)))) ?_
  show oF p e below (T7U.setTop (mkF m 48 #[.val (.int p0), .val (.int p1), .val (.int p2), .val (.int 2), .val (.int qa), .val (.int qb), .val (.int la), .unset, .unset, .unset, .unset, .unset] [(.int qb)])) _
  obtain ⟨_, _, ⟨T7V, L7V, k7V, n7V⟩, -, X7V, ⟨Lc7V, hQ7V, l7V, y7V, z7V⟩, st7V⟩ := Jvm.LawKit.callS X7U hx (y := mN57) hown (mo hZ hw 2) (mo hZ hw 3) (mo hZ hw 4) (mo hZ hw 5) (by decide) (backOf (W := 0) (u8n l Z a0 hw [] qb h0 n0 ) hZ (ow hw 5) (ow hw 4) (by decide) (by decide)) (g := (mkF m 48 #[.val (.int p0), .val (.int p1), .val (.int p2), .val (.int 2), .val (.int qa), .val (.int qb), .val (.int la), .unset, .unset, .unset, .unset, .unset] [(.int qb)])) rfl (by rw [hml]; rfl) (argsL := [(.int qb)]) (rest := []) (lenOf pd_9 rfl) rfl (by show 2 * 0 + _ ≤ _; exact Nat.le_of_eq rfl) (B at_48) (fun _ _ => ⟨rfl, e7U, (by decide : 0 + 0 ≤ _), (by decide : 0 + 0 ≤ _)⟩)
  dsimp only [Pt.U, Pt.locs, Pt.cells, Pt.slots] at X7V l7V y7V z7V st7V hQ7V
  subst y7V z7V
  obtain ⟨rfl, N7Vq, e7V⟩ := hQ7V
  refine oG st7V ?_
  have N7V := oL l7V (Fr.app N7U N7Vq)
  show oF p e below (T7V.setTop (mkF m 51 #[.val (.int p0), .val (.int p1), .val (.int p2), .val (.int 2), .val (.int qa), .val (.int qb), .val (.int la), .unset, .unset, .unset, .unset, .unset] [(.int (Int32.ofNat (own_enc qb).length))])) _
  refine oG (fun _ k => XS.goto X7V.here hx rfl (pc0 := 51) (pc' := 55) rfl (B at_51) (by decide) (by decide) (XS.istore X7V.here hx rfl (B at_55) rfl (l' := #[.val (.int p0), .val (.int p1), .val (.int p2), .val (.int 2), .val (.int qa), .val (.int qb), .val (.int la), .val (.int (Int32.ofNat (own_enc qb).length)), .unset, .unset, .unset, .unset]) rfl k)) ?_
  show oF p e below (T7V.setTop (mkF m 57 #[.val (.int p0), .val (.int p1), .val (.int p2), .val (.int 2), .val (.int qa), .val (.int qb), .val (.int la), .val (.int (Int32.ofNat (own_enc qb).length)), .unset, .unset, .unset, .unset] [])) _
  obtain ⟨lb, hlb_⟩ : ∃ z, z = (Int32.ofNat (own_enc qb).length) := ⟨_, rfl⟩
  rw [← hlb_]
  show oF p e below (T7V.setTop (mkF m 57 #[.val (.int p0), .val (.int p1), .val (.int p2), .val (.int 2), .val (.int qa), .val (.int qb), .val (.int la), .val (.int lb), .unset, .unset, .unset, .unset] [])) _
  refine oG (fun _ k => XS.iload X7V.here hx rfl (B at_57) rfl (XS.iload X7V.here hx rfl (B at_59) rfl (XS.iadd X7V.here hx rfl (B at_61) rfl k))) ?_
  show oF p e below (T7V.setTop (mkF m 62 #[.val (.int p0), .val (.int p1), .val (.int p2), .val (.int 2), .val (.int qa), .val (.int qb), .val (.int la), .val (.int lb), .unset, .unset, .unset, .unset] [(.int (la + lb))])) _
  obtain ⟨M_, hM_⟩ : ∃ z, z = (la + lb) := ⟨_, rfl⟩
  rw [← hM_]
  have hMi := own_ml2 (M := M_) (q := qa) (r := qb) (by rw [hM_, hla_, hlb_])
  have hM8 := own_M8 hMi (own_l2 qa qb)
  show oF p e below (T7V.setTop (mkF m 62 #[.val (.int p0), .val (.int p1), .val (.int p2), .val (.int 2), .val (.int qa), .val (.int qb), .val (.int la), .val (.int lb), .unset, .unset, .unset, .unset] [(.int M_)])) _
  obtain ⟨T7W, h7W, k7W, X7W, e7W, E7W, A7W, B7W, st7W⟩ := newPE X7V hx hZ (ow hw 6) e7V (g := (mkF m 62 #[.val (.int p0), .val (.int p1), .val (.int p2), .val (.int 2), .val (.int qa), .val (.int qb), .val (.int la), .val (.int lb), .unset, .unset, .unset, .unset] [(.int M_)])) rfl (B at_62) rfl (own_nn (by omega)) (cap := 8) (own_le8 (by omega) hM8) (by decide) (by decide) (by decide) (ad := "[B") (by decide)
  obtain ⟨b7W, g7W⟩ : ∃ z, z = h0.size := ⟨_, rfl⟩
  rw [← g7W] at A7W st7W B7W
  refine oG st7W ?_
  have j49_ : n0 ≤ b7W := Nat.le_trans (own_osz O) (Nat.le_of_eq g7W.symm)
  have j100_ : h0.size ≤ b7W := Nat.le_trans K0.1 (Nat.le_of_eq g7W.symm)
  have O := O.ext E7W
  have K7X := K0.ext E7W
  have j21_ := B7W
  have j14_ : Arv Z h7W b7W k7W .byte M_ [] (.int 0) := Arv.new A7W (own_nn (by omega))
  show oF p e below (T7W.setTop (mkF m 64 #[.val (.int p0), .val (.int p1), .val (.int p2), .val (.int 2), .val (.int qa), .val (.int qb), .val (.int la), .val (.int lb), .unset, .unset, .unset, .unset] [(.ref b7W)])) _
  refine oG (fun _ k => XS.astore X7W.here hx rfl (B at_64) rfl rfl (l' := #[.val (.int p0), .val (.int p1), .val (.int p2), .val (.int 2), .val (.int qa), .val (.int qb), .val (.int la), .val (.int lb), .val (.ref b7W), .unset, .unset, .unset]) rfl (XS.iloadN X7W.here hx rfl (B at_66) rfl (XS.iconst X7W.here hx rfl (B at_67) (XS.icmpNo X7W.here hx rfl (B at_68) rfl (flt (by decide : ¬ ((2 : Int32) < (1 : Int32)))).1 (XS.aload X7W.here hx rfl (B at_71) rfl rfl (XS.iconst X7W.here hx rfl (B at_73) (XS.iload X7W.here hx rfl (B at_74) rfl k))))))) ?_
  show oF p e below (T7W.setTop (mkF m 76 #[.val (.int p0), .val (.int p1), .val (.int p2), .val (.int 2), .val (.int qa), .val (.int qb), .val (.int la), .val (.int lb), .val (.ref b7W), .unset, .unset, .unset] [(.int qa), (.int 0), (.ref b7W)])) _
  obtain ⟨_, _, ⟨T7Y, L7Y, k7Y, n7Y⟩, -, X7Y, ⟨Lc7Y, hQ7Y, l7Y, y7Y, z7Y⟩, st7Y⟩ := Jvm.LawKit.callS X7W hx (y := mN59) hown (mo hZ hw 7) (mo hZ hw 8) (mo hZ hw 4) (mo hZ hw 9) (by decide) (backOf (W := 0) (put l Z a0 hw [] b7W (0 : Int32) qa k7W M_ [] h7W n0 O j14_ j49_ own_zv (own_pm1 hMi) hM8) hZ (ow hw 9) (ow hw 4) (by decide) (by decide)) (g := (mkF m 76 #[.val (.int p0), .val (.int p1), .val (.int p2), .val (.int 2), .val (.int qa), .val (.int qb), .val (.int la), .val (.int lb), .val (.ref b7W), .unset, .unset, .unset] [(.int qa), (.int 0), (.ref b7W)])) rfl (by rw [hml]; rfl) (argsL := [(.ref b7W), (.int 0), (.int qa)]) (rest := []) (lenOf pd_4 rfl) rfl (by show 2 * 0 + _ ≤ _; exact Nat.le_of_eq rfl) (B at_76) (fun _ _ => ⟨rfl, e7W, (by decide : 1 + 0 ≤ _), (by decide : 8 + 0 ≤ _)⟩)
  dsimp only [Pt.U, Pt.locs, Pt.cells, Pt.slots] at X7Y l7Y y7Y z7Y st7Y hQ7Y
  subst y7Y z7Y
  obtain ⟨rfl, N7Yq, Kq7Y, P7Y_0⟩ := hQ7Y
  refine oG st7Y ?_
  have N7Y := oL l7Y (Fr.app N7V N7Yq)
  have j21_ := j21_.keep Kq7Y
  clear j14_
  have O := O.keep Kq7Y (allS j49_ all0)
  have K7Z := K7X.trans Kq7Y (allS (Or.inr j100_) all0)
  have j14_ := P7Y_0
  show oF p e below (T7Y.setTop (mkF m 79 #[.val (.int p0), .val (.int p1), .val (.int p2), .val (.int 2), .val (.int qa), .val (.int qb), .val (.int la), .val (.int lb), .val (.ref b7W), .unset, .unset, .unset] [])) _
  refine oG (fun _ k => XS.iloadN X7Y.here hx rfl (B at_79) rfl (XS.iconst X7Y.here hx rfl (B at_80) (XS.icmpNo X7Y.here hx rfl (B at_81) rfl (flt (by decide : ¬ ((2 : Int32) < (2 : Int32)))).1 (XS.aload X7Y.here hx rfl (B at_84) rfl rfl (XS.iload X7Y.here hx rfl (B at_86) rfl (XS.iload X7Y.here hx rfl (B at_88) rfl k)))))) ?_
  show oF p e below (T7Y.setTop (mkF m 90 #[.val (.int p0), .val (.int p1), .val (.int p2), .val (.int 2), .val (.int qa), .val (.int qb), .val (.int la), .val (.int lb), .val (.ref b7W), .unset, .unset, .unset] [(.int qb), (.int la), (.ref b7W)])) _
  obtain ⟨_, _, ⟨T8a, L8a, k8a, n8a⟩, -, X8a, ⟨Lc8a, hQ8a, l8a, y8a, z8a⟩, st8a⟩ := Jvm.LawKit.callS X7Y hx (y := mN59) hown (mo hZ hw 7) (mo hZ hw 8) (mo hZ hw 4) (mo hZ hw 9) (by decide) (backOf (W := 0) (put l Z a0 hw [] b7W la qb k7W M_ ([] ++ own_enc qa) (T7Y.heap) n0 O j14_ j49_ (by rw [hla_]; exact own_pi qa) (own_pm2 hMi) hM8) hZ (ow hw 9) (ow hw 4) (by decide) (by decide)) (g := (mkF m 90 #[.val (.int p0), .val (.int p1), .val (.int p2), .val (.int 2), .val (.int qa), .val (.int qb), .val (.int la), .val (.int lb), .val (.ref b7W), .unset, .unset, .unset] [(.int qb), (.int la), (.ref b7W)])) rfl (by rw [hml]; rfl) (argsL := [(.ref b7W), (.int la), (.int qb)]) (rest := []) (lenOf pd_4 rfl) rfl (by show 2 * 0 + _ ≤ _; exact Nat.le_of_eq rfl) (B at_90) (fun _ _ => ⟨rfl, rfl, (by decide : 1 + 0 ≤ _), (by decide : 8 + 0 ≤ _)⟩)
  dsimp only [Pt.U, Pt.locs, Pt.cells, Pt.slots] at X8a l8a y8a z8a st8a hQ8a
  subst y8a z8a
  obtain ⟨rfl, N8aq, Kq8a, P8a_0⟩ := hQ8a
  refine oG st8a ?_
  have N8a := oL l8a (Fr.app N7Y N8aq)
  have j21_ := j21_.keep Kq8a
  clear j14_
  have O := O.keep Kq8a (allS j49_ all0)
  have K8b := K7Z.trans Kq8a (allS (Or.inr j100_) all0)
  have j14_ := P8a_0
  show oF p e below (T8a.setTop (mkF m 93 #[.val (.int p0), .val (.int p1), .val (.int p2), .val (.int 2), .val (.int qa), .val (.int qb), .val (.int la), .val (.int lb), .val (.ref b7W), .unset, .unset, .unset] [])) _
  have j14_ : Arv Z T8a.heap b7W k7W .byte M_ (own_key [qa, qb]) (.int 0) := by rw [← own_kk2]; exact j14_
  show oF p e below (T8a.setTop (mkF m 93 #[.val (.int p0), .val (.int p1), .val (.int p2), .val (.int 2), .val (.int qa), .val (.int qb), .val (.int la), .val (.int lb), .val (.ref b7W), .unset, .unset, .unset] [])) _
  refine oG (fun _ k => XS.aload X8a.here hx rfl (B at_93) rfl rfl k) ?_
  show oF p e below (T8a.setTop (mkF m 95 #[.val (.int p0), .val (.int p1), .val (.int p2), .val (.int 2), .val (.int qa), .val (.int qb), .val (.int la), .val (.int lb), .val (.ref b7W), .unset, .unset, .unset] [(.ref b7W)])) _
  obtain ⟨_, _, ⟨T8c, L8c, k8c, n8c⟩, -, X8c, ⟨Lc8c, hQ8c, l8c, y8c, z8c⟩, st8c⟩ := Jvm.LawKit.callS X8a hx (y := mN60) hown (mo hZ hw 10) (mo hZ hw 11) (mo hZ hw 12) (mo hZ hw 13) (by decide) (backOf (W := 0) (idc l Z a0 hw [] b7W z fm k7W M_ [qa, qb] (T8a.heap) n0 O j6_ j7_ j8_ j5_ hfm j4_ hz j14_ hMi (own_l2 qa qb) (own_cc2 ka_ kb_)) hZ (ow hw 13) (ow hw 12) (by decide) (by decide)) (g := (mkF m 95 #[.val (.int p0), .val (.int p1), .val (.int p2), .val (.int 2), .val (.int qa), .val (.int qb), .val (.int la), .val (.int lb), .val (.ref b7W), .unset, .unset, .unset] [(.ref b7W)])) rfl (by rw [hml]; rfl) (argsL := [(.ref b7W)]) (rest := []) (lenOf pd_37 rfl) rfl (by show 2 * 0 + _ ≤ _; exact Nat.le_of_eq rfl) (B at_95) (fun _ _ => ⟨rfl, rfl, (by decide : 1 + 8 ≤ _), (by decide : 8 + 61 ≤ _)⟩)
  dsimp only [Pt.U, Pt.locs, Pt.cells, Pt.slots] at X8c l8c y8c z8c st8c hQ8c
  subst y8c z8c
  obtain ⟨s_8d, t2_8e, k2_8f, rfl, N8cq, Kq8c, P8c_0, P8c_1, P8c_2⟩ := hQ8c
  refine oG st8c ?_
  have N8c := oL l8c (Fr.app N8a N8cq)
  have ne_b610_s_617 : b7W ≠ s_8d := Nat.ne_of_lt (Nat.lt_of_lt_of_le j21_.lt P8c_0)
  have g_s_617 : n0 ≤ s_8d := Nat.le_trans (own_osz O) P8c_0
  have sz_s_617 : h0.size ≤ s_8d := Nat.le_trans K8b.1 P8c_0
  have j21_ := j21_.keep Kq8c
  have j14_ := j14_.keep Kq8c nin0
  have O := O.keep Kq8c all0
  have K8g := K8b.trans Kq8c all0
  have j50_ := P8c_1
  have j57_ := P8c_2
  show oF p e below (T8c.setTop (mkF m 98 #[.val (.int p0), .val (.int p1), .val (.int p2), .val (.int 2), .val (.int qa), .val (.int qb), .val (.int la), .val (.int lb), .val (.ref b7W), .unset, .unset, .unset] [(.ref s_8d)])) _
  refine oG (fun _ k => XS.astore X8c.here hx rfl (B at_98) rfl rfl (l' := #[.val (.int p0), .val (.int p1), .val (.int p2), .val (.int 2), .val (.int qa), .val (.int qb), .val (.int la), .val (.int lb), .val (.ref b7W), .val (.ref s_8d), .unset, .unset]) rfl (XS.iloadN X8c.here hx rfl (B at_100) rfl (XS.iconst X8c.here hx rfl (B at_101) (XS.icmpNo X8c.here hx rfl (B at_102) rfl (flt (by decide : ¬ ((2 : Int32) < (1 : Int32)))).1 (XS.iload X8c.here hx rfl (B at_105) rfl k))))) ?_
  show oF p e below (T8c.setTop (mkF m 107 #[.val (.int p0), .val (.int p1), .val (.int p2), .val (.int 2), .val (.int qa), .val (.int qb), .val (.int la), .val (.int lb), .val (.ref b7W), .val (.ref s_8d), .unset, .unset] [(.int qa)])) _
  obtain ⟨_, _, ⟨T8h, L8h, k8h, n8h⟩, -, X8h, ⟨Lc8h, hQ8h, l8h, y8h, z8h⟩, st8h⟩ := Jvm.LawKit.callS X8c hx (y := mN58) hown (mo hZ hw 124) (mo hZ hw 125) (mo hZ hw 4) (mo hZ hw 126) (by decide) (backOf (W := 0) (u16n l Z a0 hw [] qa (T8c.heap) n0 ) hZ (ow hw 126) (ow hw 4) (by decide) (by decide)) (g := (mkF m 107 #[.val (.int p0), .val (.int p1), .val (.int p2), .val (.int 2), .val (.int qa), .val (.int qb), .val (.int la), .val (.int lb), .val (.ref b7W), .val (.ref s_8d), .unset, .unset] [(.int qa)])) rfl (by rw [hml]; rfl) (argsL := [(.int qa)]) (rest := []) (lenOf pd_9 rfl) rfl (by show 2 * 0 + _ ≤ _; exact Nat.le_of_eq rfl) (B at_107) (fun _ _ => ⟨rfl, rfl, (by decide : 9 + 0 ≤ _), (by decide : 69 + 0 ≤ _)⟩)
  dsimp only [Pt.U, Pt.locs, Pt.cells, Pt.slots] at X8h l8h y8h z8h st8h hQ8h
  subst y8h z8h
  obtain ⟨rfl, N8hq, e8h⟩ := hQ8h
  refine oG st8h ?_
  have N8h := oL l8h (Fr.app N8c N8hq)
  show oF p e below (T8h.setTop (mkF m 110 #[.val (.int p0), .val (.int p1), .val (.int p2), .val (.int 2), .val (.int qa), .val (.int qb), .val (.int la), .val (.int lb), .val (.ref b7W), .val (.ref s_8d), .unset, .unset] [(.int (Int32.ofNat (own_un qa).length))])) _
  refine oG (fun _ k => XS.goto X8h.here hx rfl (pc0 := 110) (pc' := 114) rfl (B at_110) (by decide) (by decide) (XS.istore X8h.here hx rfl (B at_114) rfl (l' := #[.val (.int p0), .val (.int p1), .val (.int p2), .val (.int 2), .val (.int qa), .val (.int qb), .val (.int la), .val (.int lb), .val (.ref b7W), .val (.ref s_8d), .val (.int (Int32.ofNat (own_un qa).length)), .unset]) rfl k)) ?_
  show oF p e below (T8h.setTop (mkF m 116 #[.val (.int p0), .val (.int p1), .val (.int p2), .val (.int 2), .val (.int qa), .val (.int qb), .val (.int la), .val (.int lb), .val (.ref b7W), .val (.ref s_8d), .val (.int (Int32.ofNat (own_un qa).length)), .unset] [])) _
  obtain ⟨ua, hua_⟩ : ∃ z, z = (Int32.ofNat (own_un qa).length) := ⟨_, rfl⟩
  rw [← hua_]
  show oF p e below (T8h.setTop (mkF m 116 #[.val (.int p0), .val (.int p1), .val (.int p2), .val (.int 2), .val (.int qa), .val (.int qb), .val (.int la), .val (.int lb), .val (.ref b7W), .val (.ref s_8d), .val (.int ua), .unset] [])) _
  refine oG (fun _ k => XS.iloadN X8h.here hx rfl (B at_116) rfl (XS.iconst X8h.here hx rfl (B at_117) (XS.icmpNo X8h.here hx rfl (B at_118) rfl (flt (by decide : ¬ ((2 : Int32) < (2 : Int32)))).1 (XS.iload X8h.here hx rfl (B at_121) rfl k)))) ?_
  show oF p e below (T8h.setTop (mkF m 123 #[.val (.int p0), .val (.int p1), .val (.int p2), .val (.int 2), .val (.int qa), .val (.int qb), .val (.int la), .val (.int lb), .val (.ref b7W), .val (.ref s_8d), .val (.int ua), .unset] [(.int qb)])) _
  obtain ⟨_, _, ⟨T8i, L8i, k8i, n8i⟩, -, X8i, ⟨Lc8i, hQ8i, l8i, y8i, z8i⟩, st8i⟩ := Jvm.LawKit.callS X8h hx (y := mN58) hown (mo hZ hw 124) (mo hZ hw 125) (mo hZ hw 4) (mo hZ hw 126) (by decide) (backOf (W := 0) (u16n l Z a0 hw [] qb (T8c.heap) n0 ) hZ (ow hw 126) (ow hw 4) (by decide) (by decide)) (g := (mkF m 123 #[.val (.int p0), .val (.int p1), .val (.int p2), .val (.int 2), .val (.int qa), .val (.int qb), .val (.int la), .val (.int lb), .val (.ref b7W), .val (.ref s_8d), .val (.int ua), .unset] [(.int qb)])) rfl (by rw [hml]; rfl) (argsL := [(.int qb)]) (rest := []) (lenOf pd_9 rfl) rfl (by show 2 * 0 + _ ≤ _; exact Nat.le_of_eq rfl) (B at_123) (fun _ _ => ⟨rfl, e8h, (by decide : 9 + 0 ≤ _), (by decide : 69 + 0 ≤ _)⟩)
  dsimp only [Pt.U, Pt.locs, Pt.cells, Pt.slots] at X8i l8i y8i z8i st8i hQ8i
  subst y8i z8i
  obtain ⟨rfl, N8iq, e8i⟩ := hQ8i
  refine oG st8i ?_
  have N8i := oL l8i (Fr.app N8h N8iq)
  show oF p e below (T8i.setTop (mkF m 126 #[.val (.int p0), .val (.int p1), .val (.int p2), .val (.int 2), .val (.int qa), .val (.int qb), .val (.int la), .val (.int lb), .val (.ref b7W), .val (.ref s_8d), .val (.int ua), .unset] [(.int (Int32.ofNat (own_un qb).length))])) _
  refine oG (fun _ k => XS.goto X8i.here hx rfl (pc0 := 126) (pc' := 130) rfl (B at_126) (by decide) (by decide) (XS.istore X8i.here hx rfl (B at_130) rfl (l' := #[.val (.int p0), .val (.int p1), .val (.int p2), .val (.int 2), .val (.int qa), .val (.int qb), .val (.int la), .val (.int lb), .val (.ref b7W), .val (.ref s_8d), .val (.int ua), .val (.int (Int32.ofNat (own_un qb).length))]) rfl k)) ?_
  show oF p e below (T8i.setTop (mkF m 132 #[.val (.int p0), .val (.int p1), .val (.int p2), .val (.int 2), .val (.int qa), .val (.int qb), .val (.int la), .val (.int lb), .val (.ref b7W), .val (.ref s_8d), .val (.int ua), .val (.int (Int32.ofNat (own_un qb).length))] [])) _
  obtain ⟨ub, hub_⟩ : ∃ z, z = (Int32.ofNat (own_un qb).length) := ⟨_, rfl⟩
  rw [← hub_]
  show oF p e below (T8i.setTop (mkF m 132 #[.val (.int p0), .val (.int p1), .val (.int p2), .val (.int 2), .val (.int qa), .val (.int qb), .val (.int la), .val (.int lb), .val (.ref b7W), .val (.ref s_8d), .val (.int ua), .val (.int ub)] [])) _
  refine oG (fun _ k => XS.aload X8i.here hx rfl (B at_132) rfl rfl k) ?_
  show oF p e below (T8i.setTop (mkF m 134 #[.val (.int p0), .val (.int p1), .val (.int p2), .val (.int 2), .val (.int qa), .val (.int qb), .val (.int la), .val (.int lb), .val (.ref b7W), .val (.ref s_8d), .val (.int ua), .val (.int ub)] [(.ref s_8d)])) _
  obtain ⟨cq8j, kq8j, q8ja, q8jb, q8jc⟩ := isOf hZ e8i j50_
  obtain ⟨_, _, ⟨T8j, L8j, k8j, n8j⟩, -, X8j, ⟨Lc8j, hQ8j, l8j, y8j, z8j⟩, st8j⟩ := X8i.virtualBack hx (y := mN51) (z := mN51) hown (mo hZ hw 128) (mo hZ hw 129) (notFace_of_selects (args := #[]) (mo hZ hw 131)) (mo hZ hw 131) (mo hZ hw 130) (by decide) (backOf (W := 0) (slen l Z a0 hw [] s_8d z t2_8e k2_8f (own_uns [qa, qb]) (T8c.heap) n0 O j4_ hz j50_ j57_ (own_uns4 _ (own_l2 qa qb))) hZ (ow hw 132) (ow hw 30) (by decide) (by decide)) q8ja q8jc (g := (mkF m 134 #[.val (.int p0), .val (.int p1), .val (.int p2), .val (.int 2), .val (.int qa), .val (.int qb), .val (.int la), .val (.int lb), .val (.ref b7W), .val (.ref s_8d), .val (.int ua), .val (.int ub)] [(.ref s_8d)])) rfl (by rw [hml]; rfl) (Steps.refl _) (argsL := []) (rest := []) (lenOf pd_27 rfl) rfl (by show 2 * 0 + _ ≤ _; exact Nat.le_of_eq rfl) (B at_134) (fun _ _ => ⟨rfl, e8i, (by decide : 9 + 0 ≤ _), (by decide : 69 + 0 ≤ _)⟩)
  dsimp only [Pt.U, Pt.locs, Pt.cells, Pt.slots] at X8j l8j y8j z8j st8j hQ8j
  subst y8j z8j
  obtain ⟨rfl, N8jq, e8j⟩ := hQ8j
  refine oG (fun _ k => st8j.trans k) ?_
  have N8j := oL l8j (Fr.app N8i N8jq)
  show oF p e below (T8j.setTop (mkF m 137 #[.val (.int p0), .val (.int p1), .val (.int p2), .val (.int 2), .val (.int qa), .val (.int qb), .val (.int la), .val (.int lb), .val (.ref b7W), .val (.ref s_8d), .val (.int ua), .val (.int ub)] [(.int (Int32.ofNat (own_uns [qa, qb]).length))])) _
  refine oG (fun _ k => XS.iload X8j.here hx rfl (B at_137) rfl (XS.iload X8j.here hx rfl (B at_139) rfl (XS.iadd X8j.here hx rfl (B at_141) rfl (XS.icmpYes X8j.here hx rfl (pc0 := 142) (pc' := 147) rfl (B at_142) rfl (teq (by rw [hua_, hub_]; exact own_ln2 qa qb : (Int32.ofNat (own_uns [qa, qb]).length) = (ua + ub))).1 (by decide) (by decide) (XS.iloadN X8j.here hx rfl (B at_147) rfl (XS.iconst X8j.here hx rfl (B at_148) (XS.icmpNo X8j.here hx rfl (B at_149) rfl (flt (by decide : ¬ ((2 : Int32) < (1 : Int32)))).1 (XS.aload X8j.here hx rfl (B at_152) rfl rfl (XS.iconst X8j.here hx rfl (B at_154) (XS.iload X8j.here hx rfl (B at_155) rfl k)))))))))) ?_
  show oF p e below (T8j.setTop (mkF m 157 #[.val (.int p0), .val (.int p1), .val (.int p2), .val (.int 2), .val (.int qa), .val (.int qb), .val (.int la), .val (.int lb), .val (.ref b7W), .val (.ref s_8d), .val (.int ua), .val (.int ub)] [(.int qa), (.int 0), (.ref s_8d)])) _
  obtain ⟨_, _, ⟨T8k, L8k, k8k, n8k⟩, -, X8k, ⟨Lc8k, hQ8k, l8k, y8k, z8k⟩, st8k⟩ := Jvm.LawKit.callS X8j hx (y := mN56) hown (mo hZ hw 139) (mo hZ hw 140) (mo hZ hw 4) (mo hZ hw 141) (by decide) (backOf (W := 0) (hu l Z a0 hw [] s_8d (0 : Int32) qa z fm t2_8e k2_8f (own_uns [qa, qb]) ([] : List Int32) (own_un qb ++ []) (T8c.heap) n0 O j6_ j7_ j8_ j5_ hfm j4_ hz j50_ j57_ (own_uns4 _ (own_l2 qa qb)) ka_ (own_ea2 qa qb) own_zw) hZ (ow hw 141) (ow hw 4) (by decide) (by decide)) (g := (mkF m 157 #[.val (.int p0), .val (.int p1), .val (.int p2), .val (.int 2), .val (.int qa), .val (.int qb), .val (.int la), .val (.int lb), .val (.ref b7W), .val (.ref s_8d), .val (.int ua), .val (.int ub)] [(.int qa), (.int 0), (.ref s_8d)])) rfl (by rw [hml]; rfl) (argsL := [(.ref s_8d), (.int 0), (.int qa)]) (rest := []) (lenOf pd_38 rfl) rfl (by show 2 * 0 + _ ≤ _; exact Nat.le_of_eq rfl) (B at_157) (fun _ _ => ⟨rfl, e8j, (by decide : 9 + 0 ≤ _), (by decide : 69 + 0 ≤ _)⟩)
  dsimp only [Pt.U, Pt.locs, Pt.cells, Pt.slots] at X8k l8k y8k z8k st8k hQ8k
  subst y8k z8k
  obtain ⟨rfl, N8kq, e8k⟩ := hQ8k
  refine oG st8k ?_
  have N8k := oL l8k (Fr.app N8j N8kq)
  show oF p e below (T8k.setTop (mkF m 160 #[.val (.int p0), .val (.int p1), .val (.int p2), .val (.int 2), .val (.int qa), .val (.int qb), .val (.int la), .val (.int lb), .val (.ref b7W), .val (.ref s_8d), .val (.int ua), .val (.int ub)] [(.int 1)])) _
  refine oG (fun _ k => XS.ifYes X8k.here hx rfl (pc0 := 160) (pc' := 165) rfl (B at_160) rfl ((if0 _ _).trans (feq (by decide : ¬ ((1 : Int32) = (0 : Int32)))).2) (by decide) (by decide) (XS.iloadN X8k.here hx rfl (B at_165) rfl (XS.iconst X8k.here hx rfl (B at_166) (XS.icmpNo X8k.here hx rfl (B at_167) rfl (flt (by decide : ¬ ((2 : Int32) < (2 : Int32)))).1 (XS.aload X8k.here hx rfl (B at_170) rfl rfl (XS.iload X8k.here hx rfl (B at_172) rfl (XS.iload X8k.here hx rfl (B at_174) rfl k))))))) ?_
  show oF p e below (T8k.setTop (mkF m 176 #[.val (.int p0), .val (.int p1), .val (.int p2), .val (.int 2), .val (.int qa), .val (.int qb), .val (.int la), .val (.int lb), .val (.ref b7W), .val (.ref s_8d), .val (.int ua), .val (.int ub)] [(.int qb), (.int ua), (.ref s_8d)])) _
  obtain ⟨_, _, ⟨T8l, L8l, k8l, n8l⟩, -, X8l, ⟨Lc8l, hQ8l, l8l, y8l, z8l⟩, st8l⟩ := Jvm.LawKit.callS X8k hx (y := mN56) hown (mo hZ hw 139) (mo hZ hw 140) (mo hZ hw 4) (mo hZ hw 141) (by decide) (backOf (W := 0) (hu l Z a0 hw [] s_8d ua qb z fm t2_8e k2_8f (own_uns [qa, qb]) (own_un qa) ([] : List Int32) (T8c.heap) n0 O j6_ j7_ j8_ j5_ hfm j4_ hz j50_ j57_ (own_uns4 _ (own_l2 qa qb)) kb_ (own_ea3 qa qb) (by rw [hua_]; exact own_pj qa)) hZ (ow hw 141) (ow hw 4) (by decide) (by decide)) (g := (mkF m 176 #[.val (.int p0), .val (.int p1), .val (.int p2), .val (.int 2), .val (.int qa), .val (.int qb), .val (.int la), .val (.int lb), .val (.ref b7W), .val (.ref s_8d), .val (.int ua), .val (.int ub)] [(.int qb), (.int ua), (.ref s_8d)])) rfl (by rw [hml]; rfl) (argsL := [(.ref s_8d), (.int ua), (.int qb)]) (rest := []) (lenOf pd_38 rfl) rfl (by show 2 * 0 + _ ≤ _; exact Nat.le_of_eq rfl) (B at_176) (fun _ _ => ⟨rfl, e8k, (by decide : 9 + 0 ≤ _), (by decide : 69 + 0 ≤ _)⟩)
  dsimp only [Pt.U, Pt.locs, Pt.cells, Pt.slots] at X8l l8l y8l z8l st8l hQ8l
  subst y8l z8l
  obtain ⟨rfl, N8lq, e8l⟩ := hQ8l
  refine oG st8l ?_
  have N8l := oL l8l (Fr.app N8k N8lq)
  show oF p e below (T8l.setTop (mkF m 179 #[.val (.int p0), .val (.int p1), .val (.int p2), .val (.int 2), .val (.int qa), .val (.int qb), .val (.int la), .val (.int lb), .val (.ref b7W), .val (.ref s_8d), .val (.int ua), .val (.int ub)] [(.int 1)])) _
  refine oG (fun _ k => XS.ifYes X8l.here hx rfl (pc0 := 179) (pc' := 184) rfl (B at_179) rfl ((if0 _ _).trans (feq (by decide : ¬ ((1 : Int32) = (0 : Int32)))).2) (by decide) (by decide) (XS.iconst X8l.here hx rfl (B at_184) k)) ?_
  show oF p e below (T8l.setTop (mkF m 185 #[.val (.int p0), .val (.int p1), .val (.int p2), .val (.int 2), .val (.int qa), .val (.int qb), .val (.int la), .val (.int lb), .val (.ref b7W), .val (.ref s_8d), .val (.int ua), .val (.int ub)] [(.int 1)])) _
  obtain ⟨fs, hr, r1, r2, hW, r3⟩ := X8l.leave (v := some (.int 1)) (fun h => by rw [Bd.returns] at h; cases h)
  refine ⟨_, _, ?_, r1, r2, _, _, rfl, ?_, ⟨_, rfl⟩, hW, r3.mono (by decide) (by decide)⟩
  ·exact retN X8l hx (t := .boolean) Bd.returns (by simp) (B at_185) hr
  ·show Qrm0 Z  h0 n0 _ T8l.heap _
   rw [e8l]
   exact ⟨rfl, N8l, K8g⟩
theorem comes_1 {Post : Tables → Env → Array Value → State → Outcome → State → Prop} (hpost : ∀ tb e args s v u, (limb_1_1.after args s (.returned v) u = true ∧ limb_1_2.after args s (.returned v) u = true ∧ True) → FrameEnd s (.returned v) u (Jvm.fieldLocs frame_1_writes args s ++ Jvm.arrayLocs frame_1_arrays args s ++ Jvm.staticLocs frame_1_statics s) 24 192 → Post tb e args s (.returned v) u) :
   ArmFor flags0 classFile x code maxLocals ret World_1 tables_1 room_1 Calls_1 rest_1 Pre_1 Post := by
 intro l hfl _ _ p e ha hc hk s m args below hf hA hF happ hP
 obtain ⟨hcalls, hrest, hpre⟩ := hP
 obtain ⟨-, -, -, hnamed, -, -, -, hat⟩ := (Spec.applies_iff hf).mp happ
 obtain ⟨hg, hn⟩ := and_e (Cond.before_iff.mp (show (Jvm.Cond.and given_1 narrow_1).before args s = true from hpre))
 obtain ⟨g1, g2⟩ := and_e hg
 obtain ⟨g3, g4⟩ := and_e g2
 obtain ⟨g5, g6⟩ := and_e g4
 obtain ⟨w0, w1, w2, rfl⟩ : ∃ w0 w1 w2 : Value, args = #[w0, w1, w2] := by
   have hs : args.size = 3 := by simpa [Cond.value, given_1] using g1
   obtain ⟨L⟩ := args
   match L, hs with
   | [w0, w1, w2], _ => exact ⟨w0, w1, w2, rfl⟩
 have hw := fun d (hd : d ∈ tables_1) => atoms_spec (ws := Jvm.Cond.code x code maxLocals ret :: tables_1) hat d (List.mem_cons_of_mem _ hd)
 have hfit : Fit s := fun {y c} hc i hi => by
   obtain ⟨ha, rfl⟩ := Array.getElem?_eq_some_iff.mp hc
   have q := List.all_eq_true.mp ((Array.all_eq_true_iff_forall_mem.mp hF) _ (Array.getElem_mem ha)) i (List.mem_range.mpr hi)
   simpa [Array.getElem?_eq_getElem hi] using q
 obtain ⟨hsets, hown0⟩ := atoms_of _ (rest_1_c_eq ▸ (show rest_1_c.before _ s = true from hrest))
 obtain ⟨i0, ei0⟩ := is_v g3
 obtain rfl : w0 = (.int i0) := Option.some.inj ei0
 obtain ⟨i1, ei1⟩ := is_v g5
 obtain rfl : w1 = (.int i1) := Option.some.inj ei1
 obtain ⟨i2, ei2⟩ := is_v g6
 obtain rfl : w2 = (.int i2) := Option.some.inj ei2
 obtain ⟨st_COMPACT_STRINGS, ev_st_COMPACT_STRINGS⟩ := is_v (Cond.before_iff.mp (hsets _ (List.mem_of_getElem? (i := 1) rfl)))
 have S_st_COMPACT_STRINGS := Sta.start ev_st_COMPACT_STRINGS (Or.inl (hsets _ (List.mem_of_getElem? (i := 0) rfl)))
 have nz_st_COMPACT_STRINGS := own_nez ev_st_COMPACT_STRINGS (Cond.before_iff.mp (hsets _ (List.mem_of_getElem? (i := 2) rfl)))
 obtain ⟨st_SIOOBE_FORMATTER, ev_st_SIOOBE_FORMATTER, hr_st_SIOOBE_FORMATTER⟩ := isR_v (Cond.before_iff.mp (hsets _ (List.mem_of_getElem? (i := 8) rfl)))
 have S_st_SIOOBE_FORMATTER := Sta.start ev_st_SIOOBE_FORMATTER (Or.inl (hsets _ (List.mem_of_getElem? (i := 7) rfl)))
 have ev_st__assertionsDisabled := own_eqv (Cond.before_iff.mp (hsets _ (List.mem_of_getElem? (i := 12) rfl))) (Term.int_eval _) rfl
 have S_st__assertionsDisabled := Sta.start ev_st__assertionsDisabled (Or.inl (hsets _ (List.mem_of_getElem? (i := 11) rfl)))
 have ev_st_HI_BYTE_SHIFT := own_eqv (Cond.before_iff.mp (hsets _ (List.mem_of_getElem? (i := 15) rfl))) (Term.int_eval _) rfl
 have S_st_HI_BYTE_SHIFT := Sta.start ev_st_HI_BYTE_SHIFT (Or.inl (hsets _ (List.mem_of_getElem? (i := 14) rfl)))
 have ev_st_LO_BYTE_SHIFT := own_eqv (Cond.before_iff.mp (hsets _ (List.mem_of_getElem? (i := 18) rfl))) (Term.int_eval _) rfl
 have S_st_LO_BYTE_SHIFT := Sta.start ev_st_LO_BYTE_SHIFT (Or.inl (hsets _ (List.mem_of_getElem? (i := 17) rfl)))
 obtain ⟨n, o, h1, h2, h3, _, L, rfl, ⟨rfl, N, hK⟩, hq⟩ := rm0 l s _ hw tables_1 i0 i1 i2 st_COMPACT_STRINGS st_SIOOBE_FORMATTER s.heap s.heap.size (Old.start s) S_st__assertionsDisabled S_st_HI_BYTE_SHIFT S_st_LO_BYTE_SHIFT S_st_SIOOBE_FORMATTER hr_st_SIOOBE_FORMATTER S_st_COMPACT_STRINGS nz_st_COMPACT_STRINGS p e ha hc hk s m _ below hf ((Spec.applies_iff_loose hf).mp happ).1 ⟨rfl, State.Warmed39.refl s, rfl⟩ trivial
 refine ⟨n, _, h1, h2, h3, hpost _ _ _ _ _ _ ⟨Cond.after_iff.mpr rfl, Cond.after_iff.mpr (eq_i res_at (Term.int_eval (1)) rfl), trivial⟩ ⟨hq.1, hq.2.1, (hq.2.2.sift fun y hy => Or.inr (N y hy)).mono (by decide) (by decide)⟩⟩
theorem main_1_1 : Claimed_1_1 := comes_1 fun _ _ _ _ _ _ h hF => ⟨h.1, hF⟩
theorem main_1_2 : Claimed_1_2 := comes_1 fun _ _ _ _ _ _ h hF => ⟨h.2.1, hF⟩
end Jvm.Pilot.@@N@@
namespace Jvm.Pilot.@@N@@
open Jvm Jvm.ClassFile Sem Op Lib Jvm.Free Jvm.Stand Jvm.Pilot.@@N@@.Jvm.D
/-! MADE BY PROGRAM (witnessworld.py) out of the Statement's table words and the real class files: 27 classes; the members and pool entries that the words name. The judged class is class 1, her method 1. -/
namespace start1
open Jvm.ClassFile
def u (s : String) : CpInfo := .utf8 (stringToUtf16 s)
/-- a pool by its gaps: so many unusable entries, then the entry; so many at the end -/
def gap : Nat → List CpInfo → List CpInfo
  | 0, r => r
  | n + 1, r => .unusable :: gap n r
def poolList (es : List (Nat × CpInfo)) (last : Nat) : List CpInfo := es.foldr (fun e r => gap e.1 (e.2 :: r)) (gap last [])
def pool (es : List (Nat × CpInfo)) (last : Nat) : Array CpInfo := ⟨poolList es last⟩
def fileOf (pool : Array CpInfo) (this : Nat) (attrs : Array Attribute := #[]) (ms : Array MethodInfo := #[]) (fl : Nat := 33) (sup : Nat := 0) (ifs : Array Nat := #[]) (fds : Array FieldInfo := #[]) : ClassFile where
  minorVersion := 0
  majorVersion := 65
  constantPool := pool
  accessFlags := fl
  thisClass := this
  superClass := sup
  interfaces := ifs
  fields := fds
  methods := ms
  attributes := attrs
def plain (name : String) (sup : Option ClassId) : Class where
  name := name
  kind := .ordinary
  loader := none
  accessFlags := 33
  super := sup
  interfaces := #[]
  cf := none
  fields := #[]
  methods := #[]
  instanceTypes := #[]
  staticTypes := #[]
  resolved := #[]
  callSites := []
  init := .initialized
  statics := none
  mirror := none

def pool0 : Array CpInfo := pool [(5, u "<init>"), (0, u "()V"), (1, .class_ 10), (1, u "java/lang/Object"), (85, u "clone"), (0, u "()Ljava/lang/Object;")] 26

def k0c0 : Code := { maxStack := 0, maxLocals := 1, code := object_method_1_code, exceptionTable := #[], attributes := #[] }
def k0m0 : Method := { name := "<init>", desc := "()V", sig := { parameters := [], returnType := none }, accessFlags := 1, code := some k0c0 }
def k0m1 : Method := { name := "clone", desc := "()Ljava/lang/Object;", sig := { parameters := [], returnType := some (.object "java/lang/Object") }, accessFlags := 260, code := none }
/-- java/lang/Object -/
def k0 : Class := { plain "java/lang/Object" none with
  accessFlags := 33
  interfaces := #[]
  cf := some (fileOf pool0 8 #[] #[{ accessFlags := 1, nameIndex := 5, descriptorIndex := 6, attributes := #[] }, { accessFlags := 260, nameIndex := 96, descriptorIndex := 97, attributes := #[] }] 33 0 #[] #[])
  fields := #[]
  methods := #[k0m0, k0m1]
  instanceTypes := #[]
  staticTypes := #[]
  resolved := Array.replicate 124 none
  statics := none }

def pool1 : Array CpInfo := pool [(2, .class_ 4), (1, u "java/lang/Object"), (0, u "<init>"), (0, u "()V"), (0, .integer 2147483647), (0, .integer 1114112), (0, .methodref 10 11), (0, .class_ 12), (0, .nameAndType 13 14), (0, u "com/example/espalier/espalier/EntriesIdPinLaw"), (0, u "utf8Length"), (0, u "(I)I"), (0, .methodref 10 16), (0, .nameAndType 17 18), (0, u "put"), (0, u "([BII)V"), (0, .methodref 20 21), (0, .class_ 22), (0, .nameAndType 23 24), (0, u "com/example/espalier/espalier/Entries"), (0, u "id"), (0, u "([B)Ljava/lang/String;"), (0, .methodref 10 26), (0, .nameAndType 27 14), (0, u "utf16Length"), (0, .methodref 29 30), (0, .class_ 31), (0, .nameAndType 32 33), (0, u "java/lang/String"), (0, u "length"), (0, u "()I"), (0, .methodref 10 35), (0, .nameAndType 36 37), (0, u "hasUnits"), (0, u "(Ljava/lang/String;II)Z"), (0, .integer 65536), (0, .integer 262144), (0, .methodref 29 41), (0, .nameAndType 42 43), (0, u "charAt"), (0, u "(I)C"), (0, .integer 55296), (0, .integer 56320), (2, u "law"), (0, u "(III)Z")] 5

def k1m0 : Method := { name := "<init>", desc := "()V", sig := { parameters := [], returnType := none }, accessFlags := 1, code := none }
def k1c1 : Code := { maxStack := 3, maxLocals := 12, code := code, exceptionTable := #[], attributes := #[] }
def k1m1 : Method := { name := "law", desc := "(III)Z", sig := { parameters := [.int, .int, .int], returnType := some .boolean }, accessFlags := 9, code := some k1c1 }
def k1c2 : Code := { maxStack := 2, maxLocals := 1, code := method_3_code, exceptionTable := #[], attributes := #[] }
def k1m2 : Method := { name := "utf8Length", desc := "(I)I", sig := { parameters := [.int], returnType := some .int }, accessFlags := 10, code := some k1c2 }
def k1c3 : Code := { maxStack := 2, maxLocals := 1, code := method_4_code, exceptionTable := #[], attributes := #[] }
def k1m3 : Method := { name := "utf16Length", desc := "(I)I", sig := { parameters := [.int], returnType := some .int }, accessFlags := 10, code := some k1c3 }
def k1c4 : Code := { maxStack := 5, maxLocals := 3, code := method_5_code, exceptionTable := #[], attributes := #[] }
def k1m4 : Method := { name := "put", desc := "([BII)V", sig := { parameters := [(.array .byte), .int, .int], returnType := none }, accessFlags := 10, code := some k1c4 }
def k1c5 : Code := { maxStack := 4, maxLocals := 4, code := method_6_code, exceptionTable := #[], attributes := #[] }
def k1m5 : Method := { name := "hasUnits", desc := "(Ljava/lang/String;II)Z", sig := { parameters := [(.object "java/lang/String"), .int, .int], returnType := some .boolean }, accessFlags := 10, code := some k1c5 }
/-- com/example/espalier/espalier/EntriesIdPinLaw -/
def k1 : Class := { plain "com/example/espalier/espalier/EntriesIdPinLaw" (some 0) with
  accessFlags := 49
  interfaces := #[]
  cf := some (fileOf pool1 10 #[] #[{ accessFlags := 1, nameIndex := 5, descriptorIndex := 6, attributes := #[] }, { accessFlags := 9, nameIndex := 48, descriptorIndex := 49, attributes := #[] }, { accessFlags := 10, nameIndex := 13, descriptorIndex := 14, attributes := #[] }, { accessFlags := 10, nameIndex := 27, descriptorIndex := 14, attributes := #[] }, { accessFlags := 10, nameIndex := 17, descriptorIndex := 18, attributes := #[] }, { accessFlags := 10, nameIndex := 36, descriptorIndex := 37, attributes := #[] }] 49 2 #[] #[])
  fields := #[]
  methods := #[k1m0, k1m1, k1m2, k1m3, k1m4, k1m5]
  instanceTypes := #[]
  staticTypes := #[]
  resolved := Array.replicate 55 none
  statics := none }

def pool2 : Array CpInfo := pool [(2, .class_ 4), (1, u "java/lang/Object"), (0, u "<init>"), (0, u "()V"), (44, .class_ 53), (1, u "com/example/espalier/espalier/Entries"), (3, .class_ 58), (0, u "java/lang/StringBuilder"), (0, .methodref 57 60), (0, .nameAndType 5 61), (0, u "(I)V"), (0, .methodref 57 63), (0, .nameAndType 64 65), (0, u "appendCodePoint"), (0, u "(I)Ljava/lang/StringBuilder;"), (0, .methodref 57 67), (0, .nameAndType 68 69), (0, u "toString"), (0, u "()Ljava/lang/String;"), (1, .class_ 73), (1, u "com/example/espalier/espalier/Entries$Entry"), (46, .class_ 122), (1, u "com/example/espalier/espalier/Entries$Head"), (2, .class_ 126), (0, u "com/example/espalier/espalier/Entries$1"), (12, u "ORDER"), (0, u "Ljava/util/Comparator;"), (2, u "REMOVED"), (0, u "[B"), (0, u "HEADER"), (0, u "I"), (2, u "BUFFER"), (8, u "id"), (0, u "([B)Ljava/lang/String;"), (10, .class_ 171), (0, u "com/example/espalier/espalier/Entries$Reader")] 29

def k2m0 : Method := { name := "<init>", desc := "()V", sig := { parameters := [], returnType := none }, accessFlags := 2, code := none }
def k2c1 : Code := { maxStack := 4, maxLocals := 7, code := prog_6_method_6_code, exceptionTable := #[], attributes := #[] }
def k2m1 : Method := { name := "id", desc := "([B)Ljava/lang/String;", sig := { parameters := [(.array .byte)], returnType := some (.object "java/lang/String") }, accessFlags := 8, code := some k2c1 }
/-- com/example/espalier/espalier/Entries -/
def k2 : Class := { plain "com/example/espalier/espalier/Entries" (some 0) with
  accessFlags := 48
  interfaces := #[]
  cf := some (fileOf pool2 51 #[.nestMembers #[120, 170, 71, 125]] #[{ accessFlags := 2, nameIndex := 5, descriptorIndex := 6, attributes := #[] }, { accessFlags := 8, nameIndex := 158, descriptorIndex := 159, attributes := #[] }] 48 2 #[] #[{ accessFlags := 24, nameIndex := 145, descriptorIndex := 146, attributes := #[] }, { accessFlags := 26, nameIndex := 149, descriptorIndex := 146, attributes := #[] }, { accessFlags := 24, nameIndex := 139, descriptorIndex := 140, attributes := #[] }, { accessFlags := 24, nameIndex := 143, descriptorIndex := 144, attributes := #[] }])
  fields := #[{ name := "HEADER", type := .int, accessFlags := 24, slot := 0, constantValue := 0 }, { name := "BUFFER", type := .int, accessFlags := 26, slot := 1, constantValue := 0 }, { name := "ORDER", type := (.object "java/util/Comparator"), accessFlags := 24, slot := 2, constantValue := 0 }, { name := "REMOVED", type := (.array .byte), accessFlags := 24, slot := 3, constantValue := 0 }]
  methods := #[k2m0, k2m1]
  instanceTypes := #[]
  staticTypes := #[.int, .int, (.object "java/util/Comparator"), (.array .byte)]
  resolved := Array.replicate 201 none
  statics := none }

def pool3 : Array CpInfo := pool [(1, .class_ 2), (0, u "java/lang/Appendable"), (0, .class_ 4), (0, u "java/lang/Object")] 9

/-- java/lang/Appendable -/
def k3 : Class := { plain "java/lang/Appendable" (some 0) with
  accessFlags := 1537
  interfaces := #[]
  cf := some (fileOf pool3 1 #[] #[] 1537 3 #[] #[])
  fields := #[]
  methods := #[]
  instanceTypes := #[]
  staticTypes := #[]
  resolved := Array.replicate 14 none
  statics := none }

def pool4 : Array CpInfo := pool [(2, .class_ 4), (1, u "java/lang/CharSequence"), (42, .class_ 48), (0, u "java/lang/CharSequence$1CodePointIterator"), (10, .class_ 60), (0, u "java/lang/CharSequence$1CharIterator"), (5, .class_ 67), (0, u "java/lang/Object")] 63

/-- java/lang/CharSequence -/
def k4 : Class := { plain "java/lang/CharSequence" (some 0) with
  accessFlags := 1537
  interfaces := #[]
  cf := some (fileOf pool4 2 #[.nestMembers #[47, 59]] #[] 1537 66 #[] #[])
  fields := #[]
  methods := #[]
  instanceTypes := #[]
  staticTypes := #[]
  resolved := Array.replicate 131 none
  statics := none }

def pool5 : Array CpInfo := pool [(1, .class_ 2), (0, u "java/lang/String"), (0, .methodref 4 5), (0, .class_ 6), (0, .nameAndType 7 8), (0, u "java/lang/Object"), (0, u "<init>"), (0, u "()V"), (1, .class_ 12), (1, u "java/lang/AbstractStringBuilder"), (0, u "EMPTYVALUE"), (0, u "[B"), (0, .fieldref 10 16), (0, .nameAndType 17 14), (0, u "value"), (0, .fieldref 1 19), (0, .nameAndType 20 21), (0, u "COMPACT_STRINGS"), (0, u "Z"), (0, .fieldref 10 23), (0, .nameAndType 24 25), (0, u "coder"), (0, u "B"), (0, .methodref 27 28), (0, .class_ 29), (0, .nameAndType 30 31), (0, u "java/lang/StringUTF16"), (0, u "newBytesFor"), (0, u "(I)[B"), (2, u "length"), (0, u "()I"), (9, u "append"), (2, .class_ 49), (0, u "java/lang/CharSequence"), (25, u "maybeLatin1"), (3, .fieldref 10 80), (0, .nameAndType 81 82), (0, u "count"), (0, u "I"), (0, .methodref 10 84), (0, .nameAndType 85 86), (0, u "isLatin1"), (0, u "()Z"), (1, .class_ 90), (1, u "java/lang/StringLatin1"), (9, .methodref 10 101), (0, .nameAndType 102 103), (0, u "ensureCapacityInternal"), (0, u "(I)V"), (21, .methodref 88 126), (0, .nameAndType 127 128), (0, u "inflate"), (0, u "([BI[BII)V"), (7, u "([BII)V"), (37, .class_ 176), (1, u "java/lang/Character"), (14, .methodref 88 192), (0, .nameAndType 193 194), (0, u "canEncode"), (0, u "(C)Z"), (0, .methodref 10 196), (0, .nameAndType 127 8), (0, .methodref 27 198), (0, .nameAndType 199 136), (0, u "putCharSB"), (34, u "appendChars"), (4, .methodref 10 240), (0, .nameAndType 234 241), (0, u "([CII)V"), (44, .methodref 174 287), (0, .nameAndType 288 289), (0, u "isBmpCodePoint"), (0, u "(I)Z"), (0, .methodref 10 291), (0, .nameAndType 45 292), (0, u "(C)Ljava/lang/AbstractStringBuilder;"), (0, .methodref 174 294), (0, .nameAndType 295 296), (0, u "toChars"), (0, u "(I)[C"), (0, .methodref 10 298), (0, .nameAndType 45 299), (0, u "([C)Ljava/lang/AbstractStringBuilder;"), (86, .methodref 27 387), (0, .nameAndType 388 389), (0, u "putCharsSB"), (0, u "([BI[CII)V"), (13, u "()[B"), (40, .class_ 445), (0, u "java/lang/Appendable"), (65, u "(I)Ljava/lang/AbstractStringBuilder;"), (14, u "appendCodePoint"), (25, u "getValue")] 56

def k5m0 : Method := { name := "<init>", desc := "()V", sig := { parameters := [], returnType := none }, accessFlags := 0, code := none }
def k5c1 : Code := { maxStack := 2, maxLocals := 2, code := jdk_68_method_2_code, exceptionTable := #[], attributes := #[] }
def k5m1 : Method := { name := "<init>", desc := "(I)V", sig := { parameters := [.int], returnType := none }, accessFlags := 0, code := some k5c1 }
def k5c2 : Code := { maxStack := 1, maxLocals := 1, code := jdk_68_method_6_code, exceptionTable := #[], attributes := #[] }
def k5m2 : Method := { name := "length", desc := "()I", sig := { parameters := [], returnType := some .int }, accessFlags := 1, code := some k5c2 }
def k5c3 : Code := { maxStack := 4, maxLocals := 3, code := jdk_68_method_9_code, exceptionTable := #[], attributes := #[] }
def k5m3 : Method := { name := "ensureCapacityInternal", desc := "(I)V", sig := { parameters := [.int], returnType := none }, accessFlags := 2, code := some k5c3 }
def k5c4 : Code := { maxStack := 5, maxLocals := 2, code := jdk_68_method_11_code, exceptionTable := #[], attributes := #[] }
def k5m4 : Method := { name := "inflate", desc := "()V", sig := { parameters := [], returnType := none }, accessFlags := 2, code := some k5c4 }
def k5c5 : Code := { maxStack := 4, maxLocals := 3, code := jdk_68_method_28_code, exceptionTable := #[], attributes := #[] }
def k5m5 : Method := { name := "append", desc := "([C)Ljava/lang/AbstractStringBuilder;", sig := { parameters := [(.array .char)], returnType := some (.object "java/lang/AbstractStringBuilder") }, accessFlags := 1, code := some k5c5 }
def k5c6 : Code := { maxStack := 5, maxLocals := 2, code := jdk_68_method_31_code, exceptionTable := #[], attributes := #[] }
def k5m6 : Method := { name := "append", desc := "(C)Ljava/lang/AbstractStringBuilder;", sig := { parameters := [.char], returnType := some (.object "java/lang/AbstractStringBuilder") }, accessFlags := 1, code := some k5c6 }
def k5c7 : Code := { maxStack := 2, maxLocals := 2, code := jdk_68_method_37_code, exceptionTable := #[], attributes := #[] }
def k5m7 : Method := { name := "appendCodePoint", desc := "(I)Ljava/lang/AbstractStringBuilder;", sig := { parameters := [.int], returnType := some (.object "java/lang/AbstractStringBuilder") }, accessFlags := 1, code := some k5c7 }
def k5c8 : Code := { maxStack := 1, maxLocals := 1, code := jdk_68_method_64_code, exceptionTable := #[], attributes := #[] }
def k5m8 : Method := { name := "getValue", desc := "()[B", sig := { parameters := [], returnType := some (.array .byte) }, accessFlags := 16, code := some k5c8 }
def k5c9 : Code := { maxStack := 1, maxLocals := 1, code := jdk_68_method_68_code, exceptionTable := #[], attributes := #[] }
def k5m9 : Method := { name := "isLatin1", desc := "()Z", sig := { parameters := [], returnType := some .boolean }, accessFlags := 16, code := some k5c9 }
def k5c10 : Code := { maxStack := 5, maxLocals := 9, code := jdk_68_method_74_code, exceptionTable := #[], attributes := #[] }
def k5m10 : Method := { name := "appendChars", desc := "([CII)V", sig := { parameters := [(.array .char), .int, .int], returnType := none }, accessFlags := 18, code := some k5c10 }
/-- java/lang/AbstractStringBuilder -/
def k5 : Class := { plain "java/lang/AbstractStringBuilder" (some 0) with
  accessFlags := 1056
  interfaces := #[3, 4]
  cf := some (fileOf pool5 10 #[] #[{ accessFlags := 0, nameIndex := 7, descriptorIndex := 8, attributes := #[] }, { accessFlags := 0, nameIndex := 7, descriptorIndex := 103, attributes := #[] }, { accessFlags := 1, nameIndex := 34, descriptorIndex := 35, attributes := #[] }, { accessFlags := 2, nameIndex := 102, descriptorIndex := 103, attributes := #[] }, { accessFlags := 2, nameIndex := 127, descriptorIndex := 8, attributes := #[] }, { accessFlags := 1, nameIndex := 45, descriptorIndex := 299, attributes := #[] }, { accessFlags := 1, nameIndex := 45, descriptorIndex := 292, attributes := #[] }, { accessFlags := 1, nameIndex := 526, descriptorIndex := 511, attributes := #[] }, { accessFlags := 16, nameIndex := 552, descriptorIndex := 403, attributes := #[] }, { accessFlags := 16, nameIndex := 85, descriptorIndex := 86, attributes := #[] }, { accessFlags := 18, nameIndex := 234, descriptorIndex := 241, attributes := #[] }] 1056 4 #[444, 48] #[{ accessFlags := 0, nameIndex := 17, descriptorIndex := 14, attributes := #[] }, { accessFlags := 0, nameIndex := 24, descriptorIndex := 25, attributes := #[] }, { accessFlags := 0, nameIndex := 75, descriptorIndex := 21, attributes := #[] }, { accessFlags := 0, nameIndex := 81, descriptorIndex := 82, attributes := #[] }, { accessFlags := 26, nameIndex := 13, descriptorIndex := 14, attributes := #[] }])
  fields := #[{ name := "value", type := (.array .byte), accessFlags := 0, slot := 0, constantValue := 0 }, { name := "coder", type := .byte, accessFlags := 0, slot := 1, constantValue := 0 }, { name := "maybeLatin1", type := .boolean, accessFlags := 0, slot := 2, constantValue := 0 }, { name := "count", type := .int, accessFlags := 0, slot := 3, constantValue := 0 }, { name := "EMPTYVALUE", type := (.array .byte), accessFlags := 26, slot := 0, constantValue := 0 }]
  methods := #[k5m0, k5m1, k5m2, k5m3, k5m4, k5m5, k5m6, k5m7, k5m8, k5m9, k5m10]
  instanceTypes := #[(.array .byte), .byte, .boolean, .int]
  staticTypes := #[(.array .byte)]
  resolved := Array.replicate 609 none
  statics := none }

def pool6 : Array CpInfo := pool [(1, .class_ 2), (0, u "java/io/Serializable"), (0, .class_ 4), (0, u "java/lang/Object")] 2

/-- java/io/Serializable -/
def k6 : Class := { plain "java/io/Serializable" (some 0) with
  accessFlags := 1537
  interfaces := #[]
  cf := some (fileOf pool6 1 #[] #[] 1537 3 #[] #[])
  fields := #[]
  methods := #[]
  instanceTypes := #[]
  staticTypes := #[]
  resolved := Array.replicate 7 none
  statics := none }

def pool7 : Array CpInfo := pool [(1, .class_ 2), (0, u "java/lang/Comparable"), (0, .class_ 4), (0, u "java/lang/Object")] 7

/-- java/lang/Comparable -/
def k7 : Class := { plain "java/lang/Comparable" (some 0) with
  accessFlags := 1537
  interfaces := #[]
  cf := some (fileOf pool7 1 #[] #[] 1537 3 #[] #[])
  fields := #[]
  methods := #[]
  instanceTypes := #[]
  staticTypes := #[]
  resolved := Array.replicate 12 none
  statics := none }

def pool8 : Array CpInfo := pool [(1, .methodref 2 3), (0, .class_ 4), (0, .nameAndType 5 6), (0, u "java/lang/AbstractStringBuilder"), (0, u "<init>"), (0, u "(I)V"), (11, .class_ 20), (1, u "java/lang/String"), (3, .class_ 26), (1, u "java/lang/StringBuilder"), (0, u "append"), (13, .methodref 2 42), (0, .nameAndType 27 43), (0, u "([C)Ljava/lang/AbstractStringBuilder;"), (6, .methodref 2 51), (0, .nameAndType 27 52), (0, u "(C)Ljava/lang/AbstractStringBuilder;"), (2, u "(I)Ljava/lang/AbstractStringBuilder;"), (9, .methodref 2 66), (0, .nameAndType 67 55), (0, u "appendCodePoint"), (69, .methodref 18 138), (0, .nameAndType 5 139), (0, u "(Ljava/lang/StringBuilder;)V"), (5, u "()V"), (10, u "()I"), (111, u "(I)Ljava/lang/StringBuilder;"), (15, .methodref 24 285), (0, .nameAndType 27 286), (0, u "(C)Ljava/lang/StringBuilder;"), (6, .methodref 24 294), (0, .nameAndType 27 295), (0, u "([C)Ljava/lang/StringBuilder;"), (47, .methodref 2 344), (0, .nameAndType 345 156), (0, u "length"), (3, .class_ 350), (0, u "java/lang/Appendable"), (0, .class_ 352), (0, u "java/io/Serializable"), (0, .class_ 354), (0, u "java/lang/Comparable"), (0, .class_ 356), (0, u "java/lang/CharSequence"), (0, u "serialVersionUID"), (0, u "J"), (40, u "toString"), (0, u "()Ljava/lang/String;")] 21

def k8m0 : Method := { name := "<init>", desc := "()V", sig := { parameters := [], returnType := none }, accessFlags := 1, code := none }
def k8c1 : Code := { maxStack := 2, maxLocals := 2, code := jdk_67_method_2_code, exceptionTable := #[], attributes := #[] }
def k8m1 : Method := { name := "<init>", desc := "(I)V", sig := { parameters := [.int], returnType := none }, accessFlags := 1, code := some k8c1 }
def k8c2 : Code := { maxStack := 2, maxLocals := 2, code := jdk_67_method_11_code, exceptionTable := #[], attributes := #[] }
def k8m2 : Method := { name := "append", desc := "([C)Ljava/lang/StringBuilder;", sig := { parameters := [(.array .char)], returnType := some (.object "java/lang/StringBuilder") }, accessFlags := 1, code := some k8c2 }
def k8c3 : Code := { maxStack := 2, maxLocals := 2, code := jdk_67_method_14_code, exceptionTable := #[], attributes := #[] }
def k8m3 : Method := { name := "append", desc := "(C)Ljava/lang/StringBuilder;", sig := { parameters := [.char], returnType := some (.object "java/lang/StringBuilder") }, accessFlags := 1, code := some k8c3 }
def k8c4 : Code := { maxStack := 2, maxLocals := 2, code := jdk_67_method_19_code, exceptionTable := #[], attributes := #[] }
def k8m4 : Method := { name := "appendCodePoint", desc := "(I)Ljava/lang/StringBuilder;", sig := { parameters := [.int], returnType := some (.object "java/lang/StringBuilder") }, accessFlags := 1, code := some k8c4 }
def k8c5 : Code := { maxStack := 3, maxLocals := 1, code := jdk_67_method_42_code, exceptionTable := #[], attributes := #[] }
def k8m5 : Method := { name := "toString", desc := "()Ljava/lang/String;", sig := { parameters := [], returnType := some (.object "java/lang/String") }, accessFlags := 1, code := some k8c5 }
def k8c6 : Code := { maxStack := 2, maxLocals := 2, code := jdk_67_method_73_code, exceptionTable := #[], attributes := #[] }
def k8m6 : Method := { name := "append", desc := "(C)Ljava/lang/AbstractStringBuilder;", sig := { parameters := [.char], returnType := some (.object "java/lang/AbstractStringBuilder") }, accessFlags := 4161, code := some k8c6 }
def k8c7 : Code := { maxStack := 2, maxLocals := 2, code := jdk_67_method_76_code, exceptionTable := #[], attributes := #[] }
def k8m7 : Method := { name := "append", desc := "([C)Ljava/lang/AbstractStringBuilder;", sig := { parameters := [(.array .char)], returnType := some (.object "java/lang/AbstractStringBuilder") }, accessFlags := 4161, code := some k8c7 }
def k8c8 : Code := { maxStack := 1, maxLocals := 1, code := jdk_67_method_93_code, exceptionTable := #[], attributes := #[] }
def k8m8 : Method := { name := "length", desc := "()I", sig := { parameters := [], returnType := some .int }, accessFlags := 4161, code := some k8c8 }
/-- java/lang/StringBuilder -/
def k8 : Class := { plain "java/lang/StringBuilder" (some 5) with
  accessFlags := 49
  interfaces := #[3, 6, 7, 4]
  cf := some (fileOf pool8 24 #[] #[{ accessFlags := 1, nameIndex := 5, descriptorIndex := 145, attributes := #[] }, { accessFlags := 1, nameIndex := 5, descriptorIndex := 6, attributes := #[] }, { accessFlags := 1, nameIndex := 27, descriptorIndex := 295, attributes := #[] }, { accessFlags := 1, nameIndex := 27, descriptorIndex := 286, attributes := #[] }, { accessFlags := 1, nameIndex := 67, descriptorIndex := 268, attributes := #[] }, { accessFlags := 1, nameIndex := 399, descriptorIndex := 400, attributes := #[] }, { accessFlags := 4161, nameIndex := 27, descriptorIndex := 52, attributes := #[] }, { accessFlags := 4161, nameIndex := 27, descriptorIndex := 43, attributes := #[] }, { accessFlags := 4161, nameIndex := 345, descriptorIndex := 156, attributes := #[] }] 49 2 #[349, 351, 353, 355] #[{ accessFlags := 24, nameIndex := 357, descriptorIndex := 358, attributes := #[] }])
  fields := #[{ name := "serialVersionUID", type := .long, accessFlags := 24, slot := 0, constantValue := 0 }]
  methods := #[k8m0, k8m1, k8m2, k8m3, k8m4, k8m5, k8m6, k8m7, k8m8]
  instanceTypes := #[(.array .byte), .byte, .boolean, .int]
  staticTypes := #[.long]
  resolved := Array.replicate 422 none
  statics := none }

def pool9 : Array CpInfo := pool [(1, .class_ 2), (0, u "java/lang/constant/Constable"), (0, .class_ 4), (0, u "java/lang/Object")] 6

/-- java/lang/constant/Constable -/
def k9 : Class := { plain "java/lang/constant/Constable" (some 0) with
  accessFlags := 1537
  interfaces := #[]
  cf := some (fileOf pool9 1 #[] #[] 1537 3 #[] #[])
  fields := #[]
  methods := #[]
  instanceTypes := #[]
  staticTypes := #[]
  resolved := Array.replicate 11 none
  statics := none }

def pool10 : Array CpInfo := pool [(1, .class_ 2), (0, u "java/lang/constant/ConstantDesc"), (0, .class_ 4), (0, u "java/lang/Object")] 32

/-- java/lang/constant/ConstantDesc -/
def k10 : Class := { plain "java/lang/constant/ConstantDesc" (some 0) with
  accessFlags := 1537
  interfaces := #[]
  cf := some (fileOf pool10 1 #[] #[] 1537 3 #[] #[])
  fields := #[]
  methods := #[]
  instanceTypes := #[]
  staticTypes := #[]
  resolved := Array.replicate 37 none
  statics := none }

def pool11 : Array CpInfo := pool [(1, .methodref 2 3), (0, .class_ 4), (0, .nameAndType 5 6), (0, u "java/lang/Object"), (0, u "<init>"), (0, u "()V"), (2, .fieldref 10 11), (0, .class_ 12), (0, .nameAndType 13 14), (0, u "java/lang/String"), (0, u "value"), (0, u "[B"), (0, .fieldref 10 16), (0, .nameAndType 17 18), (0, u "coder"), (0, u "B"), (2, u "hash"), (0, u "I"), (2, u "hashIsZero"), (0, u "Z"), (9, u "checkBoundsOffCount"), (0, u "(III)I"), (0, .fieldref 10 39), (0, .nameAndType 40 26), (0, u "COMPACT_STRINGS"), (1, .class_ 44), (1, u "java/lang/StringUTF16"), (9, .methodref 55 56), (0, .class_ 57), (0, .nameAndType 58 59), (0, u "java/util/Arrays"), (0, u "copyOfRange"), (0, u "([BII)[B"), (47, .class_ 109), (1, u "java/lang/StringLatin1"), (32, u "()Z"), (191, u "()I"), (0, .methodref 10 336), (0, .nameAndType 17 337), (0, u "()B"), (2, u "()[B"), (22, u "([BI)C"), (27, u "(II)V"), (35, u "(I)C"), (61, .methodref 10 490), (0, .nameAndType 5 491), (0, u "(Ljava/lang/AbstractStringBuilder;Ljava/lang/Void;)V"), (0, .methodref 10 493), (0, .nameAndType 494 142), (0, u "isLatin1"), (0, .methodref 107 496), (0, .nameAndType 497 363), (0, u "charAt"), (0, .methodref 42 496), (2, u "checkIndex"), (4, .nameAndType 507 334), (0, u "length"), (5, u "checkFromToIndex"), (9, u "checkBoundsBeginEnd"), (0, u "(III)V"), (24, .methodref 550 506), (0, .class_ 551), (0, u "java/lang/AbstractStringBuilder"), (0, .methodref 550 553), (0, .nameAndType 554 340), (0, u "getValue"), (20, .class_ 576), (0, u "java/lang/CharSequence"), (22, u "CASE_INSENSITIVE_ORDER"), (0, u "Ljava/util/Comparator;"), (446, .methodref 550 493), (0, .fieldref 550 1049), (0, .nameAndType 1050 26), (0, u "maybeLatin1"), (2, .fieldref 1054 1055), (0, .class_ 1056), (0, .nameAndType 1057 1058), (0, u "jdk/internal/util/Preconditions"), (0, u "SIOOBE_FORMATTER"), (0, u "Ljava/util/function/BiFunction;"), (0, .methodref 1054 1060), (0, .nameAndType 501 1061), (0, u "(IILjava/util/function/BiFunction;)I"), (0, .methodref 1054 1063), (0, .nameAndType 513 1064), (0, u "(IIILjava/util/function/BiFunction;)I"), (0, .methodref 1054 1066), (0, .nameAndType 1067 1064), (0, u "checkFromIndexSize"), (33, u "serialPersistentFields"), (0, u "[Ljava/io/ObjectStreamField;"), (0, .class_ 1104), (0, u "java/lang/String$CaseInsensitiveComparator"), (1, .class_ 1107), (0, u "java/io/Serializable"), (0, .class_ 1109), (0, u "java/lang/Comparable"), (0, .class_ 1111), (0, u "java/lang/constant/Constable"), (0, .class_ 1113), (0, u "java/lang/constant/ConstantDesc"), (2, u "serialVersionUID"), (0, u "J"), (3, u "REPL"), (0, u "C"), (2, u "LATIN1"), (1, u "UTF16"), (105, u "(Ljava/lang/StringBuilder;)V")] 217

def k11m0 : Method := { name := "<init>", desc := "()V", sig := { parameters := [], returnType := none }, accessFlags := 1, code := none }
def k11c1 : Code := { maxStack := 3, maxLocals := 2, code := jdk_42_method_53_code, exceptionTable := #[], attributes := #[] }
def k11m1 : Method := { name := "<init>", desc := "(Ljava/lang/StringBuilder;)V", sig := { parameters := [(.object "java/lang/StringBuilder")], returnType := none }, accessFlags := 1, code := some k11c1 }
def k11c2 : Code := { maxStack := 2, maxLocals := 1, code := jdk_42_method_54_code, exceptionTable := #[], attributes := #[] }
def k11m2 : Method := { name := "length", desc := "()I", sig := { parameters := [], returnType := some .int }, accessFlags := 1, code := some k11c2 }
def k11c3 : Code := { maxStack := 2, maxLocals := 2, code := jdk_42_method_56_code, exceptionTable := #[], attributes := #[] }
def k11m3 : Method := { name := "charAt", desc := "(I)C", sig := { parameters := [.int], returnType := some .char }, accessFlags := 1, code := some k11c3 }
def k11c4 : Code := { maxStack := 5, maxLocals := 5, code := jdk_42_method_150_code, exceptionTable := #[], attributes := #[] }
def k11m4 : Method := { name := "<init>", desc := "(Ljava/lang/AbstractStringBuilder;Ljava/lang/Void;)V", sig := { parameters := [(.object "java/lang/AbstractStringBuilder"), (.object "java/lang/Void")], returnType := none }, accessFlags := 0, code := some k11c4 }
def k11c5 : Code := { maxStack := 1, maxLocals := 1, code := jdk_42_method_152_code, exceptionTable := #[], attributes := #[] }
def k11m5 : Method := { name := "coder", desc := "()B", sig := { parameters := [], returnType := some .byte }, accessFlags := 0, code := some k11c5 }
def k11c6 : Code := { maxStack := 1, maxLocals := 1, code := jdk_42_method_154_code, exceptionTable := #[], attributes := #[] }
def k11m6 : Method := { name := "isLatin1", desc := "()Z", sig := { parameters := [], returnType := some .boolean }, accessFlags := 0, code := some k11c6 }
def k11c7 : Code := { maxStack := 3, maxLocals := 2, code := jdk_42_method_155_code, exceptionTable := #[], attributes := #[] }
def k11m7 : Method := { name := "checkIndex", desc := "(II)V", sig := { parameters := [.int, .int], returnType := none }, accessFlags := 8, code := some k11c7 }
def k11c8 : Code := { maxStack := 4, maxLocals := 3, code := jdk_42_method_157_code, exceptionTable := #[], attributes := #[] }
def k11m8 : Method := { name := "checkBoundsOffCount", desc := "(III)I", sig := { parameters := [.int, .int, .int], returnType := some .int }, accessFlags := 8, code := some k11c8 }
def k11c9 : Code := { maxStack := 4, maxLocals := 3, code := jdk_42_method_158_code, exceptionTable := #[], attributes := #[] }
def k11m9 : Method := { name := "checkBoundsBeginEnd", desc := "(III)V", sig := { parameters := [.int, .int, .int], returnType := none }, accessFlags := 8, code := some k11c9 }
/-- java/lang/String -/
def k11 : Class := { plain "java/lang/String" (some 0) with
  accessFlags := 49
  interfaces := #[6, 7, 4, 9, 10]
  cf := some (fileOf pool11 10 #[.nestMembers #[1103]] #[{ accessFlags := 1, nameIndex := 5, descriptorIndex := 6, attributes := #[] }, { accessFlags := 1, nameIndex := 5, descriptorIndex := 1233, attributes := #[] }, { accessFlags := 1, nameIndex := 507, descriptorIndex := 334, attributes := #[] }, { accessFlags := 1, nameIndex := 497, descriptorIndex := 427, attributes := #[] }, { accessFlags := 0, nameIndex := 5, descriptorIndex := 491, attributes := #[] }, { accessFlags := 0, nameIndex := 17, descriptorIndex := 337, attributes := #[] }, { accessFlags := 0, nameIndex := 494, descriptorIndex := 142, attributes := #[] }, { accessFlags := 8, nameIndex := 501, descriptorIndex := 391, attributes := #[] }, { accessFlags := 8, nameIndex := 36, descriptorIndex := 37, attributes := #[] }, { accessFlags := 8, nameIndex := 523, descriptorIndex := 524, attributes := #[] }] 49 2 #[1106, 1108, 575, 1110, 1112] #[{ accessFlags := 18, nameIndex := 13, descriptorIndex := 14, attributes := #[] }, { accessFlags := 18, nameIndex := 17, descriptorIndex := 18, attributes := #[] }, { accessFlags := 2, nameIndex := 21, descriptorIndex := 22, attributes := #[] }, { accessFlags := 2, nameIndex := 25, descriptorIndex := 26, attributes := #[] }, { accessFlags := 26, nameIndex := 1116, descriptorIndex := 1117, attributes := #[] }, { accessFlags := 24, nameIndex := 40, descriptorIndex := 26, attributes := #[] }, { accessFlags := 26, nameIndex := 1101, descriptorIndex := 1102, attributes := #[] }, { accessFlags := 26, nameIndex := 1121, descriptorIndex := 1122, attributes := #[] }, { accessFlags := 25, nameIndex := 599, descriptorIndex := 600, attributes := #[] }, { accessFlags := 24, nameIndex := 1125, descriptorIndex := 18, attributes := #[] }, { accessFlags := 24, nameIndex := 1127, descriptorIndex := 18, attributes := #[] }])
  fields := #[{ name := "value", type := (.array .byte), accessFlags := 18, slot := 0, constantValue := 0 }, { name := "coder", type := .byte, accessFlags := 18, slot := 1, constantValue := 0 }, { name := "hash", type := .int, accessFlags := 2, slot := 2, constantValue := 0 }, { name := "hashIsZero", type := .boolean, accessFlags := 2, slot := 3, constantValue := 0 }, { name := "serialVersionUID", type := .long, accessFlags := 26, slot := 0, constantValue := 0 }, { name := "COMPACT_STRINGS", type := .boolean, accessFlags := 24, slot := 1, constantValue := 0 }, { name := "serialPersistentFields", type := (.array (.object "java/io/ObjectStreamField")), accessFlags := 26, slot := 2, constantValue := 0 }, { name := "REPL", type := .char, accessFlags := 26, slot := 3, constantValue := 0 }, { name := "CASE_INSENSITIVE_ORDER", type := (.object "java/util/Comparator"), accessFlags := 25, slot := 4, constantValue := 0 }, { name := "LATIN1", type := .byte, accessFlags := 24, slot := 5, constantValue := 0 }, { name := "UTF16", type := .byte, accessFlags := 24, slot := 6, constantValue := 0 }]
  methods := #[k11m0, k11m1, k11m2, k11m3, k11m4, k11m5, k11m6, k11m7, k11m8, k11m9]
  instanceTypes := #[(.array .byte), .byte, .int, .boolean]
  staticTypes := #[.long, .boolean, (.array (.object "java/io/ObjectStreamField")), .char, (.object "java/util/Comparator"), .byte, .byte]
  resolved := Array.replicate 1451 none
  statics := some 0 }

def pool12 : Array CpInfo := pool [(1, .class_ 2), (0, u "java/lang/Character"), (18, u "value"), (0, u "C"), (19, .class_ 44), (1, u "java/lang/Object"), (3, .class_ 50), (1, u "java/lang/Character$CharacterCache"), (25, .integer 56320), (14, u "(I)C"), (18, .integer 55232), (0, .methodref 1 112), (0, .nameAndType 113 114), (0, u "isBmpCodePoint"), (0, u "(I)Z"), (0, .methodref 1 116), (0, .nameAndType 117 114), (0, u "isValidCodePoint"), (0, .methodref 1 119), (0, .nameAndType 120 121), (0, u "toSurrogates"), (0, u "(I[CI)V"), (11, .methodref 1 134), (0, .nameAndType 135 91), (0, u "lowSurrogate"), (0, .methodref 1 137), (0, .nameAndType 138 91), (0, u "highSurrogate"), (145, u "$assertionsDisabled"), (0, u "Z"), (9, u "(I)[C"), (11, .class_ 309), (1, u "java/lang/Character$UnicodeBlock"), (73, u "TYPE"), (0, u "Ljava/lang/Class;"), (0, .class_ 386), (0, u "java/io/Serializable"), (0, .class_ 388), (0, u "java/lang/Comparable"), (0, .class_ 390), (0, u "java/lang/constant/Constable"), (0, u "MIN_RADIX"), (0, u "I"), (2, u "MAX_RADIX"), (1, u "MIN_VALUE"), (1, u "MAX_VALUE"), (3, u "UNASSIGNED"), (0, u "B"), (0, u "UPPERCASE_LETTER"), (1, u "LOWERCASE_LETTER"), (0, u "TITLECASE_LETTER"), (1, u "MODIFIER_LETTER"), (1, u "OTHER_LETTER"), (1, u "NON_SPACING_MARK"), (1, u "ENCLOSING_MARK"), (1, u "COMBINING_SPACING_MARK"), (1, u "DECIMAL_DIGIT_NUMBER"), (1, u "LETTER_NUMBER"), (1, u "OTHER_NUMBER"), (1, u "SPACE_SEPARATOR"), (1, u "LINE_SEPARATOR"), (1, u "PARAGRAPH_SEPARATOR"), (1, u "CONTROL"), (1, u "FORMAT"), (1, u "PRIVATE_USE"), (1, u "SURROGATE"), (1, u "DASH_PUNCTUATION"), (1, u "START_PUNCTUATION"), (1, u "END_PUNCTUATION"), (1, u "CONNECTOR_PUNCTUATION"), (1, u "OTHER_PUNCTUATION"), (1, u "MATH_SYMBOL"), (1, u "CURRENCY_SYMBOL"), (1, u "MODIFIER_SYMBOL"), (1, u "OTHER_SYMBOL"), (1, u "INITIAL_QUOTE_PUNCTUATION"), (1, u "FINAL_QUOTE_PUNCTUATION"), (1, u "ERROR"), (1, u "DIRECTIONALITY_UNDEFINED"), (0, u "DIRECTIONALITY_LEFT_TO_RIGHT"), (0, u "DIRECTIONALITY_RIGHT_TO_LEFT"), (0, u "DIRECTIONALITY_RIGHT_TO_LEFT_ARABIC"), (0, u "DIRECTIONALITY_EUROPEAN_NUMBER"), (0, u "DIRECTIONALITY_EUROPEAN_NUMBER_SEPARATOR"), (0, u "DIRECTIONALITY_EUROPEAN_NUMBER_TERMINATOR"), (0, u "DIRECTIONALITY_ARABIC_NUMBER"), (0, u "DIRECTIONALITY_COMMON_NUMBER_SEPARATOR"), (0, u "DIRECTIONALITY_NONSPACING_MARK"), (0, u "DIRECTIONALITY_BOUNDARY_NEUTRAL"), (0, u "DIRECTIONALITY_PARAGRAPH_SEPARATOR"), (0, u "DIRECTIONALITY_SEGMENT_SEPARATOR"), (0, u "DIRECTIONALITY_WHITESPACE"), (0, u "DIRECTIONALITY_OTHER_NEUTRALS"), (0, u "DIRECTIONALITY_LEFT_TO_RIGHT_EMBEDDING"), (0, u "DIRECTIONALITY_LEFT_TO_RIGHT_OVERRIDE"), (0, u "DIRECTIONALITY_RIGHT_TO_LEFT_EMBEDDING"), (0, u "DIRECTIONALITY_RIGHT_TO_LEFT_OVERRIDE"), (1, u "DIRECTIONALITY_POP_DIRECTIONAL_FORMAT"), (0, u "DIRECTIONALITY_LEFT_TO_RIGHT_ISOLATE"), (0, u "DIRECTIONALITY_RIGHT_TO_LEFT_ISOLATE"), (0, u "DIRECTIONALITY_FIRST_STRONG_ISOLATE"), (0, u "DIRECTIONALITY_POP_DIRECTIONAL_ISOLATE"), (0, u "MIN_HIGH_SURROGATE"), (0, u "MAX_HIGH_SURROGATE"), (1, u "MIN_LOW_SURROGATE"), (0, u "MAX_LOW_SURROGATE"), (1, u "MIN_SURROGATE"), (0, u "MAX_SURROGATE"), (0, u "MIN_SUPPLEMENTARY_CODE_POINT"), (0, u "MIN_CODE_POINT"), (0, u "MAX_CODE_POINT"), (1, u "serialVersionUID"), (0, u "J"), (2, u "SIZE"), (0, u "BYTES"), (43, u "toChars"), (44, .class_ 596), (0, u "java/lang/Character$UnicodeScript"), (0, .class_ 598), (0, u "java/lang/Character$Subset")] 5

def k12c0 : Code := { maxStack := 2, maxLocals := 2, code := jdk_89_method_11_code, exceptionTable := #[], attributes := #[] }
def k12m0 : Method := { name := "isValidCodePoint", desc := "(I)Z", sig := { parameters := [.int], returnType := some .boolean }, accessFlags := 9, code := some k12c0 }
def k12c1 : Code := { maxStack := 2, maxLocals := 1, code := jdk_89_method_12_code, exceptionTable := #[], attributes := #[] }
def k12m1 : Method := { name := "isBmpCodePoint", desc := "(I)Z", sig := { parameters := [.int], returnType := some .boolean }, accessFlags := 9, code := some k12c1 }
def k12c2 : Code := { maxStack := 2, maxLocals := 1, code := jdk_89_method_28_code, exceptionTable := #[], attributes := #[] }
def k12m2 : Method := { name := "highSurrogate", desc := "(I)C", sig := { parameters := [.int], returnType := some .char }, accessFlags := 9, code := some k12c2 }
def k12c3 : Code := { maxStack := 2, maxLocals := 1, code := jdk_89_method_29_code, exceptionTable := #[], attributes := #[] }
def k12m3 : Method := { name := "lowSurrogate", desc := "(I)C", sig := { parameters := [.int], returnType := some .char }, accessFlags := 9, code := some k12c3 }
def k12c4 : Code := { maxStack := 7, maxLocals := 2, code := jdk_89_method_31_code, exceptionTable := #[], attributes := #[] }
def k12m4 : Method := { name := "toChars", desc := "(I)[C", sig := { parameters := [.int], returnType := some (.array .char) }, accessFlags := 9, code := some k12c4 }
def k12c5 : Code := { maxStack := 3, maxLocals := 3, code := jdk_89_method_32_code, exceptionTable := #[], attributes := #[] }
def k12m5 : Method := { name := "toSurrogates", desc := "(I[CI)V", sig := { parameters := [.int, (.array .char), .int], returnType := none }, accessFlags := 8, code := some k12c5 }
/-- java/lang/Character -/
def k12 : Class := { plain "java/lang/Character" (some 0) with
  accessFlags := 49
  interfaces := #[6, 7, 9]
  cf := some (fileOf pool12 1 #[.nestMembers #[48, 595, 307, 597]] #[{ accessFlags := 9, nameIndex := 117, descriptorIndex := 114, attributes := #[] }, { accessFlags := 9, nameIndex := 113, descriptorIndex := 114, attributes := #[] }, { accessFlags := 9, nameIndex := 138, descriptorIndex := 91, attributes := #[] }, { accessFlags := 9, nameIndex := 135, descriptorIndex := 91, attributes := #[] }, { accessFlags := 9, nameIndex := 550, descriptorIndex := 295, attributes := #[] }, { accessFlags := 8, nameIndex := 120, descriptorIndex := 121, attributes := #[] }] 49 42 #[385, 387, 389] #[{ accessFlags := 25, nameIndex := 391, descriptorIndex := 392, attributes := #[] }, { accessFlags := 25, nameIndex := 395, descriptorIndex := 392, attributes := #[] }, { accessFlags := 25, nameIndex := 397, descriptorIndex := 22, attributes := #[] }, { accessFlags := 25, nameIndex := 399, descriptorIndex := 22, attributes := #[] }, { accessFlags := 25, nameIndex := 383, descriptorIndex := 384, attributes := #[] }, { accessFlags := 25, nameIndex := 403, descriptorIndex := 404, attributes := #[] }, { accessFlags := 25, nameIndex := 405, descriptorIndex := 404, attributes := #[] }, { accessFlags := 25, nameIndex := 407, descriptorIndex := 404, attributes := #[] }, { accessFlags := 25, nameIndex := 408, descriptorIndex := 404, attributes := #[] }, { accessFlags := 25, nameIndex := 410, descriptorIndex := 404, attributes := #[] }, { accessFlags := 25, nameIndex := 412, descriptorIndex := 404, attributes := #[] }, { accessFlags := 25, nameIndex := 414, descriptorIndex := 404, attributes := #[] }, { accessFlags := 25, nameIndex := 416, descriptorIndex := 404, attributes := #[] }, { accessFlags := 25, nameIndex := 418, descriptorIndex := 404, attributes := #[] }, { accessFlags := 25, nameIndex := 420, descriptorIndex := 404, attributes := #[] }, { accessFlags := 25, nameIndex := 422, descriptorIndex := 404, attributes := #[] }, { accessFlags := 25, nameIndex := 424, descriptorIndex := 404, attributes := #[] }, { accessFlags := 25, nameIndex := 426, descriptorIndex := 404, attributes := #[] }, { accessFlags := 25, nameIndex := 428, descriptorIndex := 404, attributes := #[] }, { accessFlags := 25, nameIndex := 430, descriptorIndex := 404, attributes := #[] }, { accessFlags := 25, nameIndex := 432, descriptorIndex := 404, attributes := #[] }, { accessFlags := 25, nameIndex := 434, descriptorIndex := 404, attributes := #[] }, { accessFlags := 25, nameIndex := 436, descriptorIndex := 404, attributes := #[] }, { accessFlags := 25, nameIndex := 438, descriptorIndex := 404, attributes := #[] }, { accessFlags := 25, nameIndex := 440, descriptorIndex := 404, attributes := #[] }, { accessFlags := 25, nameIndex := 442, descriptorIndex := 404, attributes := #[] }, { accessFlags := 25, nameIndex := 444, descriptorIndex := 404, attributes := #[] }, { accessFlags := 25, nameIndex := 446, descriptorIndex := 404, attributes := #[] }, { accessFlags := 25, nameIndex := 448, descriptorIndex := 404, attributes := #[] }, { accessFlags := 25, nameIndex := 450, descriptorIndex := 404, attributes := #[] }, { accessFlags := 25, nameIndex := 452, descriptorIndex := 404, attributes := #[] }, { accessFlags := 25, nameIndex := 454, descriptorIndex := 404, attributes := #[] }, { accessFlags := 25, nameIndex := 456, descriptorIndex := 404, attributes := #[] }, { accessFlags := 25, nameIndex := 458, descriptorIndex := 404, attributes := #[] }, { accessFlags := 25, nameIndex := 460, descriptorIndex := 404, attributes := #[] }, { accessFlags := 24, nameIndex := 462, descriptorIndex := 392, attributes := #[] }, { accessFlags := 25, nameIndex := 464, descriptorIndex := 404, attributes := #[] }, { accessFlags := 25, nameIndex := 465, descriptorIndex := 404, attributes := #[] }, { accessFlags := 25, nameIndex := 466, descriptorIndex := 404, attributes := #[] }, { accessFlags := 25, nameIndex := 467, descriptorIndex := 404, attributes := #[] }, { accessFlags := 25, nameIndex := 468, descriptorIndex := 404, attributes := #[] }, { accessFlags := 25, nameIndex := 469, descriptorIndex := 404, attributes := #[] }, { accessFlags := 25, nameIndex := 470, descriptorIndex := 404, attributes := #[] }, { accessFlags := 25, nameIndex := 471, descriptorIndex := 404, attributes := #[] }, { accessFlags := 25, nameIndex := 472, descriptorIndex := 404, attributes := #[] }, { accessFlags := 25, nameIndex := 473, descriptorIndex := 404, attributes := #[] }, { accessFlags := 25, nameIndex := 474, descriptorIndex := 404, attributes := #[] }, { accessFlags := 25, nameIndex := 475, descriptorIndex := 404, attributes := #[] }, { accessFlags := 25, nameIndex := 476, descriptorIndex := 404, attributes := #[] }, { accessFlags := 25, nameIndex := 477, descriptorIndex := 404, attributes := #[] }, { accessFlags := 25, nameIndex := 478, descriptorIndex := 404, attributes := #[] }, { accessFlags := 25, nameIndex := 479, descriptorIndex := 404, attributes := #[] }, { accessFlags := 25, nameIndex := 480, descriptorIndex := 404, attributes := #[] }, { accessFlags := 25, nameIndex := 481, descriptorIndex := 404, attributes := #[] }, { accessFlags := 25, nameIndex := 482, descriptorIndex := 404, attributes := #[] }, { accessFlags := 25, nameIndex := 484, descriptorIndex := 404, attributes := #[] }, { accessFlags := 25, nameIndex := 485, descriptorIndex := 404, attributes := #[] }, { accessFlags := 25, nameIndex := 486, descriptorIndex := 404, attributes := #[] }, { accessFlags := 25, nameIndex := 487, descriptorIndex := 404, attributes := #[] }, { accessFlags := 25, nameIndex := 488, descriptorIndex := 404, attributes := #[] }, { accessFlags := 25, nameIndex := 489, descriptorIndex := 22, attributes := #[] }, { accessFlags := 25, nameIndex := 490, descriptorIndex := 22, attributes := #[] }, { accessFlags := 25, nameIndex := 492, descriptorIndex := 22, attributes := #[] }, { accessFlags := 25, nameIndex := 493, descriptorIndex := 22, attributes := #[] }, { accessFlags := 25, nameIndex := 495, descriptorIndex := 22, attributes := #[] }, { accessFlags := 25, nameIndex := 496, descriptorIndex := 22, attributes := #[] }, { accessFlags := 25, nameIndex := 497, descriptorIndex := 392, attributes := #[] }, { accessFlags := 25, nameIndex := 498, descriptorIndex := 392, attributes := #[] }, { accessFlags := 25, nameIndex := 499, descriptorIndex := 392, attributes := #[] }, { accessFlags := 18, nameIndex := 21, descriptorIndex := 22, attributes := #[] }, { accessFlags := 26, nameIndex := 501, descriptorIndex := 502, attributes := #[] }, { accessFlags := 25, nameIndex := 505, descriptorIndex := 392, attributes := #[] }, { accessFlags := 25, nameIndex := 506, descriptorIndex := 392, attributes := #[] }, { accessFlags := 4120, nameIndex := 284, descriptorIndex := 285, attributes := #[] }])
  fields := #[{ name := "MIN_RADIX", type := .int, accessFlags := 25, slot := 0, constantValue := 0 }, { name := "MAX_RADIX", type := .int, accessFlags := 25, slot := 1, constantValue := 0 }, { name := "MIN_VALUE", type := .char, accessFlags := 25, slot := 2, constantValue := 0 }, { name := "MAX_VALUE", type := .char, accessFlags := 25, slot := 3, constantValue := 0 }, { name := "TYPE", type := (.object "java/lang/Class"), accessFlags := 25, slot := 4, constantValue := 0 }, { name := "UNASSIGNED", type := .byte, accessFlags := 25, slot := 5, constantValue := 0 }, { name := "UPPERCASE_LETTER", type := .byte, accessFlags := 25, slot := 6, constantValue := 0 }, { name := "LOWERCASE_LETTER", type := .byte, accessFlags := 25, slot := 7, constantValue := 0 }, { name := "TITLECASE_LETTER", type := .byte, accessFlags := 25, slot := 8, constantValue := 0 }, { name := "MODIFIER_LETTER", type := .byte, accessFlags := 25, slot := 9, constantValue := 0 }, { name := "OTHER_LETTER", type := .byte, accessFlags := 25, slot := 10, constantValue := 0 }, { name := "NON_SPACING_MARK", type := .byte, accessFlags := 25, slot := 11, constantValue := 0 }, { name := "ENCLOSING_MARK", type := .byte, accessFlags := 25, slot := 12, constantValue := 0 }, { name := "COMBINING_SPACING_MARK", type := .byte, accessFlags := 25, slot := 13, constantValue := 0 }, { name := "DECIMAL_DIGIT_NUMBER", type := .byte, accessFlags := 25, slot := 14, constantValue := 0 }, { name := "LETTER_NUMBER", type := .byte, accessFlags := 25, slot := 15, constantValue := 0 }, { name := "OTHER_NUMBER", type := .byte, accessFlags := 25, slot := 16, constantValue := 0 }, { name := "SPACE_SEPARATOR", type := .byte, accessFlags := 25, slot := 17, constantValue := 0 }, { name := "LINE_SEPARATOR", type := .byte, accessFlags := 25, slot := 18, constantValue := 0 }, { name := "PARAGRAPH_SEPARATOR", type := .byte, accessFlags := 25, slot := 19, constantValue := 0 }, { name := "CONTROL", type := .byte, accessFlags := 25, slot := 20, constantValue := 0 }, { name := "FORMAT", type := .byte, accessFlags := 25, slot := 21, constantValue := 0 }, { name := "PRIVATE_USE", type := .byte, accessFlags := 25, slot := 22, constantValue := 0 }, { name := "SURROGATE", type := .byte, accessFlags := 25, slot := 23, constantValue := 0 }, { name := "DASH_PUNCTUATION", type := .byte, accessFlags := 25, slot := 24, constantValue := 0 }, { name := "START_PUNCTUATION", type := .byte, accessFlags := 25, slot := 25, constantValue := 0 }, { name := "END_PUNCTUATION", type := .byte, accessFlags := 25, slot := 26, constantValue := 0 }, { name := "CONNECTOR_PUNCTUATION", type := .byte, accessFlags := 25, slot := 27, constantValue := 0 }, { name := "OTHER_PUNCTUATION", type := .byte, accessFlags := 25, slot := 28, constantValue := 0 }, { name := "MATH_SYMBOL", type := .byte, accessFlags := 25, slot := 29, constantValue := 0 }, { name := "CURRENCY_SYMBOL", type := .byte, accessFlags := 25, slot := 30, constantValue := 0 }, { name := "MODIFIER_SYMBOL", type := .byte, accessFlags := 25, slot := 31, constantValue := 0 }, { name := "OTHER_SYMBOL", type := .byte, accessFlags := 25, slot := 32, constantValue := 0 }, { name := "INITIAL_QUOTE_PUNCTUATION", type := .byte, accessFlags := 25, slot := 33, constantValue := 0 }, { name := "FINAL_QUOTE_PUNCTUATION", type := .byte, accessFlags := 25, slot := 34, constantValue := 0 }, { name := "ERROR", type := .int, accessFlags := 24, slot := 35, constantValue := 0 }, { name := "DIRECTIONALITY_UNDEFINED", type := .byte, accessFlags := 25, slot := 36, constantValue := 0 }, { name := "DIRECTIONALITY_LEFT_TO_RIGHT", type := .byte, accessFlags := 25, slot := 37, constantValue := 0 }, { name := "DIRECTIONALITY_RIGHT_TO_LEFT", type := .byte, accessFlags := 25, slot := 38, constantValue := 0 }, { name := "DIRECTIONALITY_RIGHT_TO_LEFT_ARABIC", type := .byte, accessFlags := 25, slot := 39, constantValue := 0 }, { name := "DIRECTIONALITY_EUROPEAN_NUMBER", type := .byte, accessFlags := 25, slot := 40, constantValue := 0 }, { name := "DIRECTIONALITY_EUROPEAN_NUMBER_SEPARATOR", type := .byte, accessFlags := 25, slot := 41, constantValue := 0 }, { name := "DIRECTIONALITY_EUROPEAN_NUMBER_TERMINATOR", type := .byte, accessFlags := 25, slot := 42, constantValue := 0 }, { name := "DIRECTIONALITY_ARABIC_NUMBER", type := .byte, accessFlags := 25, slot := 43, constantValue := 0 }, { name := "DIRECTIONALITY_COMMON_NUMBER_SEPARATOR", type := .byte, accessFlags := 25, slot := 44, constantValue := 0 }, { name := "DIRECTIONALITY_NONSPACING_MARK", type := .byte, accessFlags := 25, slot := 45, constantValue := 0 }, { name := "DIRECTIONALITY_BOUNDARY_NEUTRAL", type := .byte, accessFlags := 25, slot := 46, constantValue := 0 }, { name := "DIRECTIONALITY_PARAGRAPH_SEPARATOR", type := .byte, accessFlags := 25, slot := 47, constantValue := 0 }, { name := "DIRECTIONALITY_SEGMENT_SEPARATOR", type := .byte, accessFlags := 25, slot := 48, constantValue := 0 }, { name := "DIRECTIONALITY_WHITESPACE", type := .byte, accessFlags := 25, slot := 49, constantValue := 0 }, { name := "DIRECTIONALITY_OTHER_NEUTRALS", type := .byte, accessFlags := 25, slot := 50, constantValue := 0 }, { name := "DIRECTIONALITY_LEFT_TO_RIGHT_EMBEDDING", type := .byte, accessFlags := 25, slot := 51, constantValue := 0 }, { name := "DIRECTIONALITY_LEFT_TO_RIGHT_OVERRIDE", type := .byte, accessFlags := 25, slot := 52, constantValue := 0 }, { name := "DIRECTIONALITY_RIGHT_TO_LEFT_EMBEDDING", type := .byte, accessFlags := 25, slot := 53, constantValue := 0 }, { name := "DIRECTIONALITY_RIGHT_TO_LEFT_OVERRIDE", type := .byte, accessFlags := 25, slot := 54, constantValue := 0 }, { name := "DIRECTIONALITY_POP_DIRECTIONAL_FORMAT", type := .byte, accessFlags := 25, slot := 55, constantValue := 0 }, { name := "DIRECTIONALITY_LEFT_TO_RIGHT_ISOLATE", type := .byte, accessFlags := 25, slot := 56, constantValue := 0 }, { name := "DIRECTIONALITY_RIGHT_TO_LEFT_ISOLATE", type := .byte, accessFlags := 25, slot := 57, constantValue := 0 }, { name := "DIRECTIONALITY_FIRST_STRONG_ISOLATE", type := .byte, accessFlags := 25, slot := 58, constantValue := 0 }, { name := "DIRECTIONALITY_POP_DIRECTIONAL_ISOLATE", type := .byte, accessFlags := 25, slot := 59, constantValue := 0 }, { name := "MIN_HIGH_SURROGATE", type := .char, accessFlags := 25, slot := 60, constantValue := 0 }, { name := "MAX_HIGH_SURROGATE", type := .char, accessFlags := 25, slot := 61, constantValue := 0 }, { name := "MIN_LOW_SURROGATE", type := .char, accessFlags := 25, slot := 62, constantValue := 0 }, { name := "MAX_LOW_SURROGATE", type := .char, accessFlags := 25, slot := 63, constantValue := 0 }, { name := "MIN_SURROGATE", type := .char, accessFlags := 25, slot := 64, constantValue := 0 }, { name := "MAX_SURROGATE", type := .char, accessFlags := 25, slot := 65, constantValue := 0 }, { name := "MIN_SUPPLEMENTARY_CODE_POINT", type := .int, accessFlags := 25, slot := 66, constantValue := 0 }, { name := "MIN_CODE_POINT", type := .int, accessFlags := 25, slot := 67, constantValue := 0 }, { name := "MAX_CODE_POINT", type := .int, accessFlags := 25, slot := 68, constantValue := 0 }, { name := "value", type := .char, accessFlags := 18, slot := 0, constantValue := 0 }, { name := "serialVersionUID", type := .long, accessFlags := 26, slot := 69, constantValue := 0 }, { name := "SIZE", type := .int, accessFlags := 25, slot := 70, constantValue := 0 }, { name := "BYTES", type := .int, accessFlags := 25, slot := 71, constantValue := 0 }, { name := "$assertionsDisabled", type := .boolean, accessFlags := 4120, slot := 72, constantValue := 0 }]
  methods := #[k12m0, k12m1, k12m2, k12m3, k12m4, k12m5]
  instanceTypes := #[.char]
  staticTypes := #[.int, .int, .char, .char, (.object "java/lang/Class"), .byte, .byte, .byte, .byte, .byte, .byte, .byte, .byte, .byte, .byte, .byte, .byte, .byte, .byte, .byte, .byte, .byte, .byte, .byte, .byte, .byte, .byte, .byte, .byte, .byte, .byte, .byte, .byte, .byte, .byte, .int, .byte, .byte, .byte, .byte, .byte, .byte, .byte, .byte, .byte, .byte, .byte, .byte, .byte, .byte, .byte, .byte, .byte, .byte, .byte, .byte, .byte, .byte, .byte, .byte, .char, .char, .char, .char, .char, .char, .int, .int, .int, .long, .int, .int, .boolean]
  resolved := Array.replicate 604 none
  statics := none }

def pool13 : Array CpInfo := pool [(1, .class_ 2), (0, u "java/lang/String"), (1, .class_ 6), (1, u "java/lang/Object"), (0, u "<init>"), (0, u "()V"), (0, .methodref 1 10), (0, .nameAndType 11 12), (0, u "checkIndex"), (0, u "(II)V"), (1, .class_ 16), (1, u "java/lang/StringLatin1"), (0, u "inflate"), (2, .class_ 22), (1, u "java/lang/StringUTF16"), (3, .nameAndType 17 27), (0, u "([BI[BII)V"), (25, u "([BI)C"), (36, u "canEncode"), (14, u "(C)Z"), (15, u "$assertionsDisabled"), (0, u "Z"), (98, .class_ 223), (1, u "java/lang/StringLatin1$LinesSpliterator"), (16, .methodref 20 26), (11, u "charAt"), (137, .class_ 391), (0, u "java/lang/StringLatin1$CharsSpliterator")] 3

def k13m0 : Method := { name := "<init>", desc := "()V", sig := { parameters := [], returnType := none }, accessFlags := 0, code := none }
def k13c1 : Code := { maxStack := 2, maxLocals := 2, code := jdk_43_method_2_code, exceptionTable := #[], attributes := #[] }
def k13m1 : Method := { name := "charAt", desc := "([BI)C", sig := { parameters := [(.array .byte), .int], returnType := some .char }, accessFlags := 9, code := some k13c1 }
def k13c2 : Code := { maxStack := 2, maxLocals := 1, code := jdk_43_method_3_code, exceptionTable := #[], attributes := #[] }
def k13m2 : Method := { name := "canEncode", desc := "(C)Z", sig := { parameters := [.char], returnType := some .boolean }, accessFlags := 9, code := some k13c2 }
def k13c3 : Code := { maxStack := 5, maxLocals := 5, code := jdk_43_method_50_code, exceptionTable := #[], attributes := #[] }
def k13m3 : Method := { name := "inflate", desc := "([BI[BII)V", sig := { parameters := [(.array .byte), .int, (.array .byte), .int, .int], returnType := none }, accessFlags := 9, code := some k13c3 }
/-- java/lang/StringLatin1 -/
def k13 : Class := { plain "java/lang/StringLatin1" (some 0) with
  accessFlags := 48
  interfaces := #[]
  cf := some (fileOf pool13 14 #[.nestMembers #[390, 221]] #[{ accessFlags := 0, nameIndex := 7, descriptorIndex := 8, attributes := #[] }, { accessFlags := 9, nameIndex := 252, descriptorIndex := 53, attributes := #[] }, { accessFlags := 9, nameIndex := 90, descriptorIndex := 105, attributes := #[] }, { accessFlags := 9, nameIndex := 17, descriptorIndex := 27, attributes := #[] }] 48 4 #[] #[{ accessFlags := 4120, nameIndex := 121, descriptorIndex := 122, attributes := #[] }])
  fields := #[{ name := "$assertionsDisabled", type := .boolean, accessFlags := 4120, slot := 0, constantValue := 0 }]
  methods := #[k13m0, k13m1, k13m2, k13m3]
  instanceTypes := #[]
  staticTypes := #[.boolean]
  resolved := Array.replicate 395 none
  statics := none }

def pool14 : Array CpInfo := pool [(2, .class_ 4), (1, u "java/lang/Object"), (0, u "<init>"), (0, u "()V"), (7, .class_ 16), (1, u "java/util/Arrays"), (57, .class_ 76), (1, u "java/util/Arrays$NaturalOrder"), (32, u "()Ljava/lang/Object;"), (3, .class_ 115), (1, u "java/util/Arrays$LegacyMergeSort"), (1, u "Z"), (10, .nameAndType 129 109), (0, u "clone"), (9, u "copyOfRange"), (10, .methodref 151 152), (0, .class_ 153), (0, .nameAndType 154 155), (0, u "java/lang/System"), (0, u "arraycopy"), (0, u "(Ljava/lang/Object;ILjava/lang/Object;II)V"), (148, .methodref 305 306), (0, .class_ 307), (0, .nameAndType 308 309), (0, u "java/lang/Math"), (0, u "min"), (0, u "(II)I"), (0, .methodref 311 128), (0, .class_ 312), (0, u "[B"), (26, .methodref 14 340), (0, .nameAndType 341 342), (0, u "copyOfRangeByte"), (0, u "([BII)[B"), (0, .methodref 14 344), (0, .nameAndType 345 346), (0, u "checkLength"), (0, u "(II)V"), (28, .class_ 376), (0, u "java/util/Arrays$ArrayList"), (68, u "$assertionsDisabled"), (269, u "MIN_ARRAY_SORT_GRAN"), (0, u "I"), (2, u "INSERTIONSORT_THRESHOLD"), (255, .class_ 976), (0, u "java/util/Arrays$ArrayItr")] 52

def k14m0 : Method := { name := "<init>", desc := "()V", sig := { parameters := [], returnType := none }, accessFlags := 2, code := none }
def k14c1 : Code := { maxStack := 4, maxLocals := 2, code := jdk_65_method_131_code, exceptionTable := #[], attributes := #[] }
def k14m1 : Method := { name := "checkLength", desc := "(II)V", sig := { parameters := [.int, .int], returnType := none }, accessFlags := 10, code := some k14c1 }
def k14c2 : Code := { maxStack := 3, maxLocals := 3, code := jdk_65_method_132_code, exceptionTable := #[], attributes := #[] }
def k14m2 : Method := { name := "copyOfRange", desc := "([BII)[B", sig := { parameters := [(.array .byte), .int, .int], returnType := some (.array .byte) }, accessFlags := 9, code := some k14c2 }
def k14c3 : Code := { maxStack := 6, maxLocals := 5, code := jdk_65_method_133_code, exceptionTable := #[], attributes := #[] }
def k14m3 : Method := { name := "copyOfRangeByte", desc := "([BII)[B", sig := { parameters := [(.array .byte), .int, .int], returnType := some (.array .byte) }, accessFlags := 10, code := some k14c3 }
/-- java/util/Arrays -/
def k14 : Class := { plain "java/util/Arrays" (some 0) with
  accessFlags := 49
  interfaces := #[]
  cf := some (fileOf pool14 14 #[.nestMembers #[975, 375, 113, 74]] #[{ accessFlags := 2, nameIndex := 5, descriptorIndex := 6, attributes := #[] }, { accessFlags := 10, nameIndex := 345, descriptorIndex := 346, attributes := #[] }, { accessFlags := 9, nameIndex := 139, descriptorIndex := 342, attributes := #[] }, { accessFlags := 10, nameIndex := 341, descriptorIndex := 342, attributes := #[] }] 49 2 #[] #[{ accessFlags := 26, nameIndex := 715, descriptorIndex := 716, attributes := #[] }, { accessFlags := 26, nameIndex := 719, descriptorIndex := 716, attributes := #[] }, { accessFlags := 4120, nameIndex := 445, descriptorIndex := 117, attributes := #[] }])
  fields := #[{ name := "MIN_ARRAY_SORT_GRAN", type := .int, accessFlags := 26, slot := 0, constantValue := 0 }, { name := "INSERTIONSORT_THRESHOLD", type := .int, accessFlags := 26, slot := 1, constantValue := 0 }, { name := "$assertionsDisabled", type := .boolean, accessFlags := 4120, slot := 2, constantValue := 0 }]
  methods := #[k14m0, k14m1, k14m2, k14m3]
  instanceTypes := #[]
  staticTypes := #[.int, .int, .boolean]
  resolved := Array.replicate 1029 none
  statics := none }

def pool15 : Array CpInfo := pool [(1, .class_ 2), (0, u "java/lang/Cloneable"), (0, .class_ 4), (0, u "java/lang/Object")] 2

/-- java/lang/Cloneable -/
def k15 : Class := { plain "java/lang/Cloneable" (some 0) with
  accessFlags := 1537
  interfaces := #[]
  cf := some (fileOf pool15 1 #[] #[] 1537 3 #[] #[])
  fields := #[]
  methods := #[]
  instanceTypes := #[]
  staticTypes := #[]
  resolved := Array.replicate 7 none
  statics := none }

def pool16 : Array CpInfo := pool [(2, .class_ 4), (1, u "java/lang/Object"), (0, u "<init>"), (0, u "()V"), (17, .class_ 26), (1, u "jdk/internal/util/Preconditions"), (6, u "checkIndex"), (13, u "checkFromToIndex"), (1, u "checkFromIndexSize"), (5, .class_ 56), (0, u "jdk/internal/util/Preconditions$4"), (57, .class_ 115), (0, u "jdk/internal/util/Preconditions$1"), (7, u "SIOOBE_FORMATTER"), (0, u "Ljava/util/function/BiFunction;"), (0, .class_ 126), (0, u "jdk/internal/util/Preconditions$2"), (3, u "AIOOBE_FORMATTER"), (0, .class_ 132), (0, u "jdk/internal/util/Preconditions$3"), (3, u "IOOBE_FORMATTER"), (41, u "(IILjava/util/function/BiFunction;)I"), (4, u "(IIILjava/util/function/BiFunction;)I")] 10

def k16m0 : Method := { name := "<init>", desc := "()V", sig := { parameters := [], returnType := none }, accessFlags := 1, code := none }
def k16c1 : Code := { maxStack := 3, maxLocals := 3, code := jdk_41_method_11_code, exceptionTable := #[], attributes := #[] }
def k16m1 : Method := { name := "checkIndex", desc := "(IILjava/util/function/BiFunction;)I", sig := { parameters := [.int, .int, (.object "java/util/function/BiFunction")], returnType := some .int }, accessFlags := 9, code := some k16c1 }
def k16c2 : Code := { maxStack := 4, maxLocals := 4, code := jdk_41_method_12_code, exceptionTable := #[], attributes := #[] }
def k16m2 : Method := { name := "checkFromToIndex", desc := "(IIILjava/util/function/BiFunction;)I", sig := { parameters := [.int, .int, .int, (.object "java/util/function/BiFunction")], returnType := some .int }, accessFlags := 9, code := some k16c2 }
def k16c3 : Code := { maxStack := 4, maxLocals := 4, code := jdk_41_method_13_code, exceptionTable := #[], attributes := #[] }
def k16m3 : Method := { name := "checkFromIndexSize", desc := "(IIILjava/util/function/BiFunction;)I", sig := { parameters := [.int, .int, .int, (.object "java/util/function/BiFunction")], returnType := some .int }, accessFlags := 9, code := some k16c3 }
/-- jdk/internal/util/Preconditions -/
def k16 : Class := { plain "jdk/internal/util/Preconditions" (some 0) with
  accessFlags := 33
  interfaces := #[]
  cf := some (fileOf pool16 24 #[.nestMembers #[55, 131, 125, 114]] #[{ accessFlags := 1, nameIndex := 5, descriptorIndex := 6, attributes := #[] }, { accessFlags := 9, nameIndex := 33, descriptorIndex := 178, attributes := #[] }, { accessFlags := 9, nameIndex := 47, descriptorIndex := 183, attributes := #[] }, { accessFlags := 9, nameIndex := 49, descriptorIndex := 183, attributes := #[] }] 33 2 #[] #[{ accessFlags := 25, nameIndex := 123, descriptorIndex := 124, attributes := #[] }, { accessFlags := 25, nameIndex := 130, descriptorIndex := 124, attributes := #[] }, { accessFlags := 25, nameIndex := 136, descriptorIndex := 124, attributes := #[] }])
  fields := #[{ name := "SIOOBE_FORMATTER", type := (.object "java/util/function/BiFunction"), accessFlags := 25, slot := 0, constantValue := 0 }, { name := "AIOOBE_FORMATTER", type := (.object "java/util/function/BiFunction"), accessFlags := 25, slot := 1, constantValue := 0 }, { name := "IOOBE_FORMATTER", type := (.object "java/util/function/BiFunction"), accessFlags := 25, slot := 2, constantValue := 0 }]
  methods := #[k16m0, k16m1, k16m2, k16m3]
  instanceTypes := #[]
  staticTypes := #[(.object "java/util/function/BiFunction"), (.object "java/util/function/BiFunction"), (.object "java/util/function/BiFunction")]
  resolved := Array.replicate 194 none
  statics := some 1 }

def pool17 : Array CpInfo := pool [(1, .class_ 2), (0, u "java/lang/Math"), (1, .class_ 6), (1, u "java/lang/Object"), (0, u "<init>"), (0, u "()V"), (89, .class_ 100), (1, u "java/lang/Math$RandomNumberGeneratorHolder"), (71, u "negativeZeroFloatBits"), (0, u "J"), (2, u "negativeZeroDoubleBits"), (24, u "min"), (43, u "$assertionsDisabled"), (0, u "Z"), (88, u "(II)I"), (2, u "twoToTheDoubleScaleDown"), (0, u "D"), (4, u "twoToTheDoubleScaleUp"), (9, u "E"), (3, u "PI"), (2, u "TAU"), (2, u "DEGREES_TO_RADIANS"), (0, u "RADIANS_TO_DEGREES")] 94

def k17m0 : Method := { name := "<init>", desc := "()V", sig := { parameters := [], returnType := none }, accessFlags := 2, code := none }
def k17c1 : Code := { maxStack := 2, maxLocals := 2, code := jdk_29_method_69_code, exceptionTable := #[], attributes := #[] }
def k17m1 : Method := { name := "min", desc := "(II)I", sig := { parameters := [.int, .int], returnType := some .int }, accessFlags := 9, code := some k17c1 }
/-- java/lang/Math -/
def k17 : Class := { plain "java/lang/Math" (some 0) with
  accessFlags := 49
  interfaces := #[]
  cf := some (fileOf pool17 1 #[.nestMembers #[98]] #[{ accessFlags := 2, nameIndex := 7, descriptorIndex := 8, attributes := #[] }, { accessFlags := 9, nameIndex := 201, descriptorIndex := 335, attributes := #[] }] 49 4 #[] #[{ accessFlags := 25, nameIndex := 354, descriptorIndex := 339, attributes := #[] }, { accessFlags := 25, nameIndex := 358, descriptorIndex := 339, attributes := #[] }, { accessFlags := 25, nameIndex := 361, descriptorIndex := 339, attributes := #[] }, { accessFlags := 26, nameIndex := 364, descriptorIndex := 339, attributes := #[] }, { accessFlags := 26, nameIndex := 365, descriptorIndex := 339, attributes := #[] }, { accessFlags := 26, nameIndex := 172, descriptorIndex := 173, attributes := #[] }, { accessFlags := 26, nameIndex := 176, descriptorIndex := 173, attributes := #[] }, { accessFlags := 8, nameIndex := 344, descriptorIndex := 339, attributes := #[] }, { accessFlags := 8, nameIndex := 338, descriptorIndex := 339, attributes := #[] }, { accessFlags := 4120, nameIndex := 245, descriptorIndex := 246, attributes := #[] }])
  fields := #[{ name := "E", type := .double, accessFlags := 25, slot := 0, constantValue := 0 }, { name := "PI", type := .double, accessFlags := 25, slot := 1, constantValue := 0 }, { name := "TAU", type := .double, accessFlags := 25, slot := 2, constantValue := 0 }, { name := "DEGREES_TO_RADIANS", type := .double, accessFlags := 26, slot := 3, constantValue := 0 }, { name := "RADIANS_TO_DEGREES", type := .double, accessFlags := 26, slot := 4, constantValue := 0 }, { name := "negativeZeroFloatBits", type := .long, accessFlags := 26, slot := 5, constantValue := 0 }, { name := "negativeZeroDoubleBits", type := .long, accessFlags := 26, slot := 6, constantValue := 0 }, { name := "twoToTheDoubleScaleUp", type := .double, accessFlags := 8, slot := 7, constantValue := 0 }, { name := "twoToTheDoubleScaleDown", type := .double, accessFlags := 8, slot := 8, constantValue := 0 }, { name := "$assertionsDisabled", type := .boolean, accessFlags := 4120, slot := 9, constantValue := 0 }]
  methods := #[k17m0, k17m1]
  instanceTypes := #[]
  staticTypes := #[.double, .double, .double, .double, .double, .long, .long, .double, .double, .boolean]
  resolved := Array.replicate 460 none
  statics := none }

def pool18 : Array CpInfo := pool [(2, .class_ 4), (1, u "java/lang/Object"), (0, u "<init>"), (0, u "()V"), (1, .class_ 10), (1, u "java/lang/System"), (0, u "allowSecurityManager"), (0, u "I"), (16, u "cons"), (0, u "Ljava/io/Console;"), (77, .class_ 110), (1, u "java/lang/System$CallersHolder"), (43, u "initialErrStream"), (0, u "Ljava/io/PrintStream;"), (19, u "security"), (0, u "Ljava/lang/SecurityManager;"), (31, .class_ 209), (0, u "java/lang/System$1"), (7, u "props"), (0, u "Ljava/util/Properties;"), (2, u "lineSeparator"), (0, u "Ljava/lang/String;"), (96, .class_ 321), (1, u "java/lang/System$LoggerFinder"), (5, .class_ 328), (0, u "java/lang/System$Logger"), (67, u "err"), (2, u "out"), (91, u "notSupportedJnuEncoding"), (15, u "in"), (17, u "initialIn"), (0, u "Ljava/io/InputStream;"), (35, u "bootLayer"), (0, u "Ljava/lang/ModuleLayer;"), (99, .class_ 664), (0, u "java/lang/System$2"), (9, u "NEVER"), (2, u "MAYBE"), (49, u "arraycopy"), (0, u "(Ljava/lang/Object;ILjava/lang/Object;II)V"), (72, .class_ 802), (0, u "java/lang/System$Logger$Level")] 31

def k18m0 : Method := { name := "<init>", desc := "()V", sig := { parameters := [], returnType := none }, accessFlags := 2, code := none }
def k18m1 : Method := { name := "arraycopy", desc := "(Ljava/lang/Object;ILjava/lang/Object;II)V", sig := { parameters := [(.object "java/lang/Object"), .int, (.object "java/lang/Object"), .int, .int], returnType := none }, accessFlags := 265, code := none }
/-- java/lang/System -/
def k18 : Class := { plain "java/lang/System" (some 0) with
  accessFlags := 49
  interfaces := #[]
  cf := some (fileOf pool18 8 #[.nestMembers #[319, 327, 801, 108, 663, 208]] #[{ accessFlags := 2, nameIndex := 5, descriptorIndex := 6, attributes := #[] }, { accessFlags := 265, nameIndex := 727, descriptorIndex := 728, attributes := #[] }] 49 2 #[] #[{ accessFlags := 25, nameIndex := 507, descriptorIndex := 526, attributes := #[] }, { accessFlags := 25, nameIndex := 399, descriptorIndex := 155, attributes := #[] }, { accessFlags := 25, nameIndex := 396, descriptorIndex := 155, attributes := #[] }, { accessFlags := 10, nameIndex := 525, descriptorIndex := 526, attributes := #[] }, { accessFlags := 26, nameIndex := 674, descriptorIndex := 12, attributes := #[] }, { accessFlags := 26, nameIndex := 677, descriptorIndex := 12, attributes := #[] }, { accessFlags := 10, nameIndex := 11, descriptorIndex := 12, attributes := #[] }, { accessFlags := 74, nameIndex := 175, descriptorIndex := 176, attributes := #[] }, { accessFlags := 10, nameIndex := 491, descriptorIndex := 222, attributes := #[] }, { accessFlags := 74, nameIndex := 29, descriptorIndex := 30, attributes := #[] }, { accessFlags := 74, nameIndex := 154, descriptorIndex := 155, attributes := #[] }, { accessFlags := 10, nameIndex := 217, descriptorIndex := 218, attributes := #[] }, { accessFlags := 10, nameIndex := 221, descriptorIndex := 222, attributes := #[] }, { accessFlags := 8, nameIndex := 562, descriptorIndex := 563, attributes := #[] }])
  fields := #[{ name := "in", type := (.object "java/io/InputStream"), accessFlags := 25, slot := 0, constantValue := 0 }, { name := "out", type := (.object "java/io/PrintStream"), accessFlags := 25, slot := 1, constantValue := 0 }, { name := "err", type := (.object "java/io/PrintStream"), accessFlags := 25, slot := 2, constantValue := 0 }, { name := "initialIn", type := (.object "java/io/InputStream"), accessFlags := 10, slot := 3, constantValue := 0 }, { name := "NEVER", type := .int, accessFlags := 26, slot := 4, constantValue := 0 }, { name := "MAYBE", type := .int, accessFlags := 26, slot := 5, constantValue := 0 }, { name := "allowSecurityManager", type := .int, accessFlags := 10, slot := 6, constantValue := 0 }, { name := "security", type := (.object "java/lang/SecurityManager"), accessFlags := 74, slot := 7, constantValue := 0 }, { name := "notSupportedJnuEncoding", type := (.object "java/lang/String"), accessFlags := 10, slot := 8, constantValue := 0 }, { name := "cons", type := (.object "java/io/Console"), accessFlags := 74, slot := 9, constantValue := 0 }, { name := "initialErrStream", type := (.object "java/io/PrintStream"), accessFlags := 74, slot := 10, constantValue := 0 }, { name := "props", type := (.object "java/util/Properties"), accessFlags := 10, slot := 11, constantValue := 0 }, { name := "lineSeparator", type := (.object "java/lang/String"), accessFlags := 10, slot := 12, constantValue := 0 }, { name := "bootLayer", type := (.object "java/lang/ModuleLayer"), accessFlags := 8, slot := 13, constantValue := 0 }]
  methods := #[k18m0, k18m1]
  instanceTypes := #[]
  staticTypes := #[(.object "java/io/InputStream"), (.object "java/io/PrintStream"), (.object "java/io/PrintStream"), (.object "java/io/InputStream"), .int, .int, .int, (.object "java/lang/SecurityManager"), (.object "java/lang/String"), (.object "java/io/Console"), (.object "java/io/PrintStream"), (.object "java/util/Properties"), (.object "java/lang/String"), (.object "java/lang/ModuleLayer")]
  resolved := Array.replicate 834 none
  statics := none }

def pool19 : Array CpInfo := pool [(3, .class_ 4), (0, u "java/lang/String"), (1, .class_ 8), (1, u "java/lang/Object"), (0, u "<init>"), (0, u "()V"), (0, .methodref 12 13), (0, .class_ 14), (0, .nameAndType 15 16), (0, u "java/lang/StringUTF16"), (0, u "newBytesLength"), (0, u "(I)I"), (3, .integer 1073741823), (23, .fieldref 12 45), (0, .nameAndType 46 47), (0, u "$assertionsDisabled"), (0, u "Z"), (0, .methodref 12 49), (0, .nameAndType 50 51), (0, u "length"), (0, u "([B)I"), (7, .fieldref 12 60), (0, .nameAndType 61 62), (0, u "HI_BYTE_SHIFT"), (0, u "I"), (0, .fieldref 12 64), (0, .nameAndType 65 62), (0, u "LO_BYTE_SHIFT"), (1, .methodref 12 68), (0, .nameAndType 69 70), (0, u "checkIndex"), (0, u "(I[B)V"), (0, .methodref 12 72), (0, .nameAndType 73 74), (0, u "getChar"), (0, u "([BI)C"), (21, .methodref 12 97), (0, .nameAndType 98 99), (0, u "checkBoundsBeginEnd"), (0, u "(II[B)V"), (9, u "newBytesFor"), (0, u "(I)[B"), (0, .methodref 12 112), (0, .nameAndType 113 114), (0, u "putChar"), (0, u "([BII)V"), (25, u "inflate"), (0, u "([BI[BII)V"), (31, .methodref 12 174), (0, .nameAndType 175 99), (0, u "checkBoundsOffCount"), (65, .methodref 3 242), (0, .nameAndType 98 243), (0, u "(III)V"), (37, u "(III)I"), (87, .class_ 371), (1, u "java/lang/StringUTF16$LinesSpliterator"), (12, .methodref 12 385), (0, .nameAndType 386 387), (0, u "putChars"), (0, u "([BI[CII)V"), (4, u "charAt"), (21, .methodref 3 415), (0, .nameAndType 69 416), (0, u "(II)V"), (2, .methodref 3 420), (0, .nameAndType 175 281), (9, u "MAX_LENGTH"), (155, u "putCharSB"), (0, u "putCharsSB"), (39, .class_ 628), (0, u "java/lang/StringUTF16$CodePointsSpliterator"), (0, .class_ 630), (0, u "java/lang/StringUTF16$CharsSpliterator")] 4

def k19m0 : Method := { name := "<init>", desc := "()V", sig := { parameters := [], returnType := none }, accessFlags := 0, code := none }
def k19c1 : Code := { maxStack := 1, maxLocals := 1, code := jdk_52_method_2_code, exceptionTable := #[], attributes := #[] }
def k19m1 : Method := { name := "newBytesFor", desc := "(I)[B", sig := { parameters := [.int], returnType := some (.array .byte) }, accessFlags := 9, code := some k19c1 }
def k19c2 : Code := { maxStack := 4, maxLocals := 1, code := jdk_52_method_3_code, exceptionTable := #[], attributes := #[] }
def k19m2 : Method := { name := "newBytesLength", desc := "(I)I", sig := { parameters := [.int], returnType := some .int }, accessFlags := 9, code := some k19c2 }
def k19c3 : Code := { maxStack := 4, maxLocals := 3, code := jdk_52_method_4_code, exceptionTable := #[], attributes := #[] }
def k19m3 : Method := { name := "putChar", desc := "([BII)V", sig := { parameters := [(.array .byte), .int, .int], returnType := none }, accessFlags := 8, code := some k19c3 }
def k19c4 : Code := { maxStack := 3, maxLocals := 2, code := jdk_52_method_5_code, exceptionTable := #[], attributes := #[] }
def k19m4 : Method := { name := "getChar", desc := "([BI)C", sig := { parameters := [(.array .byte), .int], returnType := some .char }, accessFlags := 8, code := some k19c4 }
def k19c5 : Code := { maxStack := 2, maxLocals := 1, code := jdk_52_method_6_code, exceptionTable := #[], attributes := #[] }
def k19m5 : Method := { name := "length", desc := "([B)I", sig := { parameters := [(.array .byte)], returnType := some .int }, accessFlags := 9, code := some k19c5 }
def k19c6 : Code := { maxStack := 4, maxLocals := 5, code := jdk_52_method_68_code, exceptionTable := #[], attributes := #[] }
def k19m6 : Method := { name := "putChars", desc := "([BI[CII)V", sig := { parameters := [(.array .byte), .int, (.array .char), .int, .int], returnType := none }, accessFlags := 10, code := some k19c6 }
def k19c7 : Code := { maxStack := 3, maxLocals := 3, code := jdk_52_method_71_code, exceptionTable := #[], attributes := #[] }
def k19m7 : Method := { name := "putCharSB", desc := "([BII)V", sig := { parameters := [(.array .byte), .int, .int], returnType := none }, accessFlags := 9, code := some k19c7 }
def k19c8 : Code := { maxStack := 5, maxLocals := 5, code := jdk_52_method_72_code, exceptionTable := #[], attributes := #[] }
def k19m8 : Method := { name := "putCharsSB", desc := "([BI[CII)V", sig := { parameters := [(.array .byte), .int, (.array .char), .int, .int], returnType := none }, accessFlags := 9, code := some k19c8 }
def k19c9 : Code := { maxStack := 2, maxLocals := 2, code := jdk_52_method_83_code, exceptionTable := #[], attributes := #[] }
def k19m9 : Method := { name := "charAt", desc := "([BI)C", sig := { parameters := [(.array .byte), .int], returnType := some .char }, accessFlags := 9, code := some k19c9 }
def k19c10 : Code := { maxStack := 4, maxLocals := 6, code := jdk_52_method_86_code, exceptionTable := #[], attributes := #[] }
def k19m10 : Method := { name := "inflate", desc := "([BI[BII)V", sig := { parameters := [(.array .byte), .int, (.array .byte), .int, .int], returnType := none }, accessFlags := 9, code := some k19c10 }
def k19c11 : Code := { maxStack := 2, maxLocals := 2, code := jdk_52_method_91_code, exceptionTable := #[], attributes := #[] }
def k19m11 : Method := { name := "checkIndex", desc := "(I[B)V", sig := { parameters := [.int, (.array .byte)], returnType := none }, accessFlags := 9, code := some k19c11 }
def k19c12 : Code := { maxStack := 3, maxLocals := 3, code := jdk_52_method_93_code, exceptionTable := #[], attributes := #[] }
def k19m12 : Method := { name := "checkBoundsBeginEnd", desc := "(II[B)V", sig := { parameters := [.int, .int, (.array .byte)], returnType := none }, accessFlags := 9, code := some k19c12 }
def k19c13 : Code := { maxStack := 3, maxLocals := 3, code := jdk_52_method_94_code, exceptionTable := #[], attributes := #[] }
def k19m13 : Method := { name := "checkBoundsOffCount", desc := "(II[B)V", sig := { parameters := [.int, .int, (.array .byte)], returnType := none }, accessFlags := 9, code := some k19c13 }
/-- java/lang/StringUTF16 -/
def k19 : Class := { plain "java/lang/StringUTF16" (some 0) with
  accessFlags := 48
  interfaces := #[]
  cf := some (fileOf pool19 12 #[.nestMembers #[627, 629, 369]] #[{ accessFlags := 0, nameIndex := 9, descriptorIndex := 10, attributes := #[] }, { accessFlags := 9, nameIndex := 109, descriptorIndex := 110, attributes := #[] }, { accessFlags := 9, nameIndex := 15, descriptorIndex := 16, attributes := #[] }, { accessFlags := 8, nameIndex := 113, descriptorIndex := 114, attributes := #[] }, { accessFlags := 8, nameIndex := 73, descriptorIndex := 74, attributes := #[] }, { accessFlags := 9, nameIndex := 50, descriptorIndex := 51, attributes := #[] }, { accessFlags := 10, nameIndex := 386, descriptorIndex := 387, attributes := #[] }, { accessFlags := 9, nameIndex := 586, descriptorIndex := 114, attributes := #[] }, { accessFlags := 9, nameIndex := 587, descriptorIndex := 387, attributes := #[] }, { accessFlags := 9, nameIndex := 392, descriptorIndex := 74, attributes := #[] }, { accessFlags := 9, nameIndex := 140, descriptorIndex := 141, attributes := #[] }, { accessFlags := 9, nameIndex := 69, descriptorIndex := 70, attributes := #[] }, { accessFlags := 9, nameIndex := 98, descriptorIndex := 99, attributes := #[] }, { accessFlags := 9, nameIndex := 175, descriptorIndex := 99, attributes := #[] }] 48 6 #[] #[{ accessFlags := 26, nameIndex := 61, descriptorIndex := 62, attributes := #[] }, { accessFlags := 26, nameIndex := 65, descriptorIndex := 62, attributes := #[] }, { accessFlags := 24, nameIndex := 430, descriptorIndex := 62, attributes := #[] }, { accessFlags := 4120, nameIndex := 46, descriptorIndex := 47, attributes := #[] }])
  fields := #[{ name := "HI_BYTE_SHIFT", type := .int, accessFlags := 26, slot := 0, constantValue := 0 }, { name := "LO_BYTE_SHIFT", type := .int, accessFlags := 26, slot := 1, constantValue := 0 }, { name := "MAX_LENGTH", type := .int, accessFlags := 24, slot := 2, constantValue := 0 }, { name := "$assertionsDisabled", type := .boolean, accessFlags := 4120, slot := 3, constantValue := 0 }]
  methods := #[k19m0, k19m1, k19m2, k19m3, k19m4, k19m5, k19m6, k19m7, k19m8, k19m9, k19m10, k19m11, k19m12, k19m13]
  instanceTypes := #[]
  staticTypes := #[.int, .int, .int, .boolean]
  resolved := Array.replicate 635 none
  statics := some 2 }

def pool20 : Array CpInfo := pool [(9, u "<init>"), (6, .class_ 18), (1, u "java/lang/Object"), (0, u "()V"), (1, .class_ 23), (1, u "jdk/internal/util/ArraysSupport"), (0, u "LOG2_ARRAY_LONG_INDEX_SCALE"), (0, u "I"), (2, u "U"), (0, u "Ljdk/internal/misc/Unsafe;"), (8, u "BIG_ENDIAN"), (0, u "Z"), (8, u "LOG2_BYTE_BIT_SIZE"), (4, u "LOG2_ARRAY_INT_INDEX_SCALE"), (54, u "JLA"), (0, u "Ljdk/internal/access/JavaLangAccess;"), (11, u "LOG2_ARRAY_BOOLEAN_INDEX_SCALE"), (9, u "LOG2_ARRAY_BYTE_INDEX_SCALE"), (5, u "LOG2_ARRAY_CHAR_INDEX_SCALE"), (5, u "LOG2_ARRAY_SHORT_INDEX_SCALE"), (18, u "LOG2_ARRAY_FLOAT_INDEX_SCALE"), (24, u "LOG2_ARRAY_DOUBLE_INDEX_SCALE"), (89, u "T_BOOLEAN"), (2, u "T_CHAR"), (1, u "T_FLOAT"), (1, u "T_DOUBLE"), (1, u "T_BYTE"), (1, u "T_SHORT"), (1, u "T_INT"), (1, u "T_LONG"), (1, u "SOFT_MAX_ARRAY_LENGTH")] 83

def k20m0 : Method := { name := "<init>", desc := "()V", sig := { parameters := [], returnType := none }, accessFlags := 2, code := none }
/-- jdk/internal/util/ArraysSupport -/
def k20 : Class := { plain "jdk/internal/util/ArraysSupport" (some 0) with
  accessFlags := 33
  interfaces := #[]
  cf := some (fileOf pool20 21 #[] #[{ accessFlags := 2, nameIndex := 9, descriptorIndex := 19, attributes := #[] }] 33 16 #[] #[{ accessFlags := 24, nameIndex := 28, descriptorIndex := 29, attributes := #[] }, { accessFlags := 26, nameIndex := 38, descriptorIndex := 39, attributes := #[] }, { accessFlags := 25, nameIndex := 121, descriptorIndex := 25, attributes := #[] }, { accessFlags := 25, nameIndex := 131, descriptorIndex := 25, attributes := #[] }, { accessFlags := 25, nameIndex := 137, descriptorIndex := 25, attributes := #[] }, { accessFlags := 25, nameIndex := 143, descriptorIndex := 25, attributes := #[] }, { accessFlags := 25, nameIndex := 53, descriptorIndex := 25, attributes := #[] }, { accessFlags := 25, nameIndex := 24, descriptorIndex := 25, attributes := #[] }, { accessFlags := 25, nameIndex := 162, descriptorIndex := 25, attributes := #[] }, { accessFlags := 25, nameIndex := 187, descriptorIndex := 25, attributes := #[] }, { accessFlags := 26, nameIndex := 48, descriptorIndex := 25, attributes := #[] }, { accessFlags := 25, nameIndex := 277, descriptorIndex := 25, attributes := #[] }, { accessFlags := 25, nameIndex := 280, descriptorIndex := 25, attributes := #[] }, { accessFlags := 25, nameIndex := 282, descriptorIndex := 25, attributes := #[] }, { accessFlags := 25, nameIndex := 284, descriptorIndex := 25, attributes := #[] }, { accessFlags := 25, nameIndex := 286, descriptorIndex := 25, attributes := #[] }, { accessFlags := 25, nameIndex := 288, descriptorIndex := 25, attributes := #[] }, { accessFlags := 25, nameIndex := 290, descriptorIndex := 25, attributes := #[] }, { accessFlags := 25, nameIndex := 292, descriptorIndex := 25, attributes := #[] }, { accessFlags := 26, nameIndex := 108, descriptorIndex := 109, attributes := #[] }, { accessFlags := 25, nameIndex := 294, descriptorIndex := 25, attributes := #[] }])
  fields := #[{ name := "U", type := (.object "jdk/internal/misc/Unsafe"), accessFlags := 24, slot := 0, constantValue := 0 }, { name := "BIG_ENDIAN", type := .boolean, accessFlags := 26, slot := 1, constantValue := 0 }, { name := "LOG2_ARRAY_BOOLEAN_INDEX_SCALE", type := .int, accessFlags := 25, slot := 2, constantValue := 0 }, { name := "LOG2_ARRAY_BYTE_INDEX_SCALE", type := .int, accessFlags := 25, slot := 3, constantValue := 0 }, { name := "LOG2_ARRAY_CHAR_INDEX_SCALE", type := .int, accessFlags := 25, slot := 4, constantValue := 0 }, { name := "LOG2_ARRAY_SHORT_INDEX_SCALE", type := .int, accessFlags := 25, slot := 5, constantValue := 0 }, { name := "LOG2_ARRAY_INT_INDEX_SCALE", type := .int, accessFlags := 25, slot := 6, constantValue := 0 }, { name := "LOG2_ARRAY_LONG_INDEX_SCALE", type := .int, accessFlags := 25, slot := 7, constantValue := 0 }, { name := "LOG2_ARRAY_FLOAT_INDEX_SCALE", type := .int, accessFlags := 25, slot := 8, constantValue := 0 }, { name := "LOG2_ARRAY_DOUBLE_INDEX_SCALE", type := .int, accessFlags := 25, slot := 9, constantValue := 0 }, { name := "LOG2_BYTE_BIT_SIZE", type := .int, accessFlags := 26, slot := 10, constantValue := 0 }, { name := "T_BOOLEAN", type := .int, accessFlags := 25, slot := 11, constantValue := 0 }, { name := "T_CHAR", type := .int, accessFlags := 25, slot := 12, constantValue := 0 }, { name := "T_FLOAT", type := .int, accessFlags := 25, slot := 13, constantValue := 0 }, { name := "T_DOUBLE", type := .int, accessFlags := 25, slot := 14, constantValue := 0 }, { name := "T_BYTE", type := .int, accessFlags := 25, slot := 15, constantValue := 0 }, { name := "T_SHORT", type := .int, accessFlags := 25, slot := 16, constantValue := 0 }, { name := "T_INT", type := .int, accessFlags := 25, slot := 17, constantValue := 0 }, { name := "T_LONG", type := .int, accessFlags := 25, slot := 18, constantValue := 0 }, { name := "JLA", type := (.object "jdk/internal/access/JavaLangAccess"), accessFlags := 26, slot := 19, constantValue := 0 }, { name := "SOFT_MAX_ARRAY_LENGTH", type := .int, accessFlags := 25, slot := 20, constantValue := 0 }]
  methods := #[k20m0]
  instanceTypes := #[]
  staticTypes := #[(.object "jdk/internal/misc/Unsafe"), .boolean, .int, .int, .int, .int, .int, .int, .int, .int, .int, .int, .int, .int, .int, .int, .int, .int, .int, (.object "jdk/internal/access/JavaLangAccess"), .int]
  resolved := Array.replicate 378 none
  statics := none }

/-- the primitive byte -/
def k21 : Class := { plain "byte" none with kind := .primitive 'B', accessFlags := 0x411 }
/-- [B -/
def k22 : Class := { plain "[B" (some 0) with kind := .array 21 .byte, interfaces := #[15, 6], accessFlags := 1041 }

/-- the primitive char -/
def k23 : Class := { plain "char" none with kind := .primitive 'C', accessFlags := 0x411 }
/-- [C -/
def k24 : Class := { plain "[C" (some 0) with kind := .array 23 .char, interfaces := #[15, 6], accessFlags := 1041 }

/-- the primitive int -/
def k25 : Class := { plain "int" none with kind := .primitive 'I', accessFlags := 0x411 }
/-- [I -/
def k26 : Class := { plain "[I" (some 0) with kind := .array 25 .int, interfaces := #[15, 6], accessFlags := 1041 }

def heap : Heap := #[{ cls := 11, slots := #[.long 0, .int 1, .null, .int 0, .null, .int 0, .int 0], vm := .statics 11 },
  { cls := 16, slots := #[.null, .null, .null], vm := .statics 16 },
  { cls := 19, slots := #[.int 0, .int 8, .int 0, .int 1], vm := .statics 19 }]
def classes : Array Class := #[k0, k1, k2, k3, k4, k5, k6, k7, k8, k9, k10, k11, k12, k13, k14, k15, k16, k17, k18, k19, k20, k21, k22, k23, k24, k25, k26]
def interned : List (Array UInt16 × Addr) := []
def slotsUsed : Nat := 14
def theMethod : MethodId := ⟨1, 1⟩
def args0 : Array Value := #[.int 1, .int 1, .int 1]
def aboutOver (below : List Frame) : State where
  vm := { classes := classes, interned := interned.toArray }
  heap := heap
  slotsUsed := slotsUsed
  threads := #[{ frames := .invoking theMethod args0 :: below }]
def below0 : List Frame := [.native { method := ⟨0, 0⟩, args := #[] }]
def about1 : State := aboutOver below0
def p0 : Program := .bare "" "" ""
def e0 : Env := launch0.env 0 0 0
theorem w_frames : about1.frames = Frame.invoking theMethod args0 :: below0 := rfl
set_option maxRecDepth 65536 in
theorem w_args : argsFit about1.vm theMethod args0 = true := by decide +kernel
set_option maxRecDepth 65536 in
theorem w_heap : heapFits about1 = true := by decide +kernel
set_option maxRecDepth 65536 in
theorem w_runnable : about1.curStatus? = some .runnable := by decide +kernel
set_option maxRecDepth 65536 in
theorem w_alone : about1.alone = true := by decide +kernel
set_option maxRecDepth 65536 in
theorem w_named : about1.methodNamed? x = some theMethod := by decide +kernel
set_option maxRecDepth 65536 in
theorem w_hears : about1.hears theMethod below0 = true := by decide +kernel
set_option maxRecDepth 65536 in
theorem w_ripe : about1.ripe theMethod args0 below0 = true := by decide +kernel
theorem w_running : about1.status = .running := rfl
set_option maxRecDepth 65536 in
theorem w_room : about1.hasRoom e0.platform room_1 = true :=
  launch0.hasRoom_least _ room_1 (by decide +kernel) (by decide +kernel) (by decide +kernel) (by decide +kernel) (by decide +kernel) (by decide +kernel)
theorem allAtoms_all (ts : List Jvm.Cond) (a : Array Jvm.Value) (st : Jvm.State) : (allAtoms ts).before a st = ts.all (fun c => c.before a st) := by
  induction ts with
  | nil => rfl
  | cons c t ih =>
    show (Jvm.Cond.and c (allAtoms t)).before a st = _
    rw [Jvm.Cond.before_and, ih, List.all_cons]
def words1 : List Jvm.Cond := Jvm.Cond.code x code maxLocals ret :: tables_1
/-- a 'code' word, met by the world's own term for the bytes: nothing is compared byte by byte -/
theorem code_word {y : MethodName} {bytes : ByteArray} {mx : Nat} {rt : Option FieldType} {a : Array Value} {s : State} {m : MethodId} {meth : Method} {c : Code} (h1 : s.methodNamed? y = some m) (h2 : s.vm.method? m = some meth) (h3 : meth.code = some c) (h4 : c.code = bytes)
    (h5 : (c.maxLocals == mx && c.exceptionTable.isEmpty && decide (c.maxStack ≤ mostOperands) && decide (meth.sig.returnType = rt) && !meth.locks && decide (parseMethodDescriptor y.desc = some meth.sig)) = true) : (Jvm.Cond.code y bytes mx rt).before a s = true := by
  simp only [Bool.and_eq_true, beq_iff_eq, Bool.not_eq_true', decide_eq_true_eq] at h5
  obtain ⟨⟨⟨⟨⟨g1, g2⟩, g3⟩, g4⟩, g5⟩, g6⟩ := h5
  simp [Cond.before, Cond.holds, Cond.value, h1, h2, h3, h4, g1, g2, g3, g4, g5, g6]
def isCode : Jvm.Cond → Bool
  | .code _ _ _ _ => true
  | _ => false
theorem all_split {L : List Jvm.Cond} {P : Jvm.Cond → Bool} (h1 : L.all (fun c => isCode c || P c) = true) (h2 : ∀ c ∈ L.filter isCode, P c = true) : L.all P = true := by
  refine List.all_eq_true.mpr fun c hc => ?_
  have h := List.all_eq_true.mp h1 c hc
  rcases Bool.eq_false_or_eq_true (isCode c) with hi | hi
  · exact h2 c (List.mem_filter.mpr ⟨hc, hi⟩)
  · simpa [hi] using h
set_option maxRecDepth 65536 in
theorem w_c0 : (Jvm.Cond.code x code maxLocals ret).before args0 about1 = true := code_word (m := ⟨1, 1⟩) (meth := k1m1) (c := k1c1) (by decide +kernel) rfl rfl rfl (by decide +kernel)
set_option maxRecDepth 65536 in
theorem w_c1 : (Jvm.Cond.code ({ cls := "com/example/espalier/espalier/EntriesIdPinLaw", name := "utf8Length", desc := "(I)I" } : Jvm.MethodName) method_3_code (1 : Nat) (Option.some Jvm.ClassFile.FieldType.int)).before args0 about1 = true := code_word (m := ⟨1, 2⟩) (meth := k1m2) (c := k1c2) (by decide +kernel) rfl rfl rfl (by decide +kernel)
set_option maxRecDepth 65536 in
theorem w_c2 : (Jvm.Cond.code ({ cls := "com/example/espalier/espalier/EntriesIdPinLaw", name := "put", desc := "([BII)V" } : Jvm.MethodName) method_5_code (3 : Nat) (Option.none : Option Jvm.ClassFile.FieldType)).before args0 about1 = true := code_word (m := ⟨1, 4⟩) (meth := k1m4) (c := k1c4) (by decide +kernel) rfl rfl rfl (by decide +kernel)
set_option maxRecDepth 65536 in
theorem w_c3 : (Jvm.Cond.code ({ cls := "com/example/espalier/espalier/Entries", name := "id", desc := "([B)Ljava/lang/String;" } : Jvm.MethodName) prog_6_method_6_code (7 : Nat) (Option.some (Jvm.ClassFile.FieldType.object "java/lang/String"))).before args0 about1 = true := code_word (m := ⟨2, 1⟩) (meth := k2m1) (c := k2c1) (by decide +kernel) rfl rfl rfl (by decide +kernel)
set_option maxRecDepth 65536 in
theorem w_c4 : (Jvm.Cond.code ({ cls := "java/lang/StringBuilder", name := "<init>", desc := "(I)V" } : Jvm.MethodName) jdk_67_method_2_code (2 : Nat) (Option.none : Option Jvm.ClassFile.FieldType)).before args0 about1 = true := code_word (m := ⟨8, 1⟩) (meth := k8m1) (c := k8c1) (by decide +kernel) rfl rfl rfl (by decide +kernel)
set_option maxRecDepth 65536 in
theorem w_c5 : (Jvm.Cond.code ({ cls := "java/lang/AbstractStringBuilder", name := "<init>", desc := "(I)V" } : Jvm.MethodName) jdk_68_method_2_code (2 : Nat) (Option.none : Option Jvm.ClassFile.FieldType)).before args0 about1 = true := code_word (m := ⟨5, 1⟩) (meth := k5m1) (c := k5c1) (by decide +kernel) rfl rfl rfl (by decide +kernel)
set_option maxRecDepth 65536 in
theorem w_c6 : (Jvm.Cond.code ({ cls := "java/lang/Object", name := "<init>", desc := "()V" } : Jvm.MethodName) object_method_1_code (1 : Nat) (Option.none : Option Jvm.ClassFile.FieldType)).before args0 about1 = true := code_word (m := ⟨0, 0⟩) (meth := k0m0) (c := k0c0) (by decide +kernel) rfl rfl rfl (by decide +kernel)
set_option maxRecDepth 65536 in
theorem w_c7 : (Jvm.Cond.code ({ cls := "java/lang/StringBuilder", name := "appendCodePoint", desc := "(I)Ljava/lang/StringBuilder;" } : Jvm.MethodName) jdk_67_method_19_code (2 : Nat) (Option.some (Jvm.ClassFile.FieldType.object "java/lang/StringBuilder"))).before args0 about1 = true := code_word (m := ⟨8, 4⟩) (meth := k8m4) (c := k8c4) (by decide +kernel) rfl rfl rfl (by decide +kernel)
set_option maxRecDepth 65536 in
theorem w_c8 : (Jvm.Cond.code ({ cls := "java/lang/AbstractStringBuilder", name := "appendCodePoint", desc := "(I)Ljava/lang/AbstractStringBuilder;" } : Jvm.MethodName) jdk_68_method_37_code (2 : Nat) (Option.some (Jvm.ClassFile.FieldType.object "java/lang/AbstractStringBuilder"))).before args0 about1 = true := code_word (m := ⟨5, 7⟩) (meth := k5m7) (c := k5c7) (by decide +kernel) rfl rfl rfl (by decide +kernel)
set_option maxRecDepth 65536 in
theorem w_c9 : (Jvm.Cond.code ({ cls := "java/lang/Character", name := "isBmpCodePoint", desc := "(I)Z" } : Jvm.MethodName) jdk_89_method_12_code (1 : Nat) (Option.some Jvm.ClassFile.FieldType.boolean)).before args0 about1 = true := code_word (m := ⟨12, 1⟩) (meth := k12m1) (c := k12c1) (by decide +kernel) rfl rfl rfl (by decide +kernel)
set_option maxRecDepth 65536 in
theorem w_c10 : (Jvm.Cond.code ({ cls := "java/lang/StringBuilder", name := "append", desc := "(C)Ljava/lang/AbstractStringBuilder;" } : Jvm.MethodName) jdk_67_method_73_code (2 : Nat) (Option.some (Jvm.ClassFile.FieldType.object "java/lang/AbstractStringBuilder"))).before args0 about1 = true := code_word (m := ⟨8, 6⟩) (meth := k8m6) (c := k8c6) (by decide +kernel) rfl rfl rfl (by decide +kernel)
set_option maxRecDepth 65536 in
theorem w_c11 : (Jvm.Cond.code ({ cls := "java/lang/StringBuilder", name := "append", desc := "(C)Ljava/lang/StringBuilder;" } : Jvm.MethodName) jdk_67_method_14_code (2 : Nat) (Option.some (Jvm.ClassFile.FieldType.object "java/lang/StringBuilder"))).before args0 about1 = true := code_word (m := ⟨8, 3⟩) (meth := k8m3) (c := k8c3) (by decide +kernel) rfl rfl rfl (by decide +kernel)
set_option maxRecDepth 65536 in
theorem w_c12 : (Jvm.Cond.code ({ cls := "java/lang/AbstractStringBuilder", name := "append", desc := "(C)Ljava/lang/AbstractStringBuilder;" } : Jvm.MethodName) jdk_68_method_31_code (2 : Nat) (Option.some (Jvm.ClassFile.FieldType.object "java/lang/AbstractStringBuilder"))).before args0 about1 = true := code_word (m := ⟨5, 6⟩) (meth := k5m6) (c := k5c6) (by decide +kernel) rfl rfl rfl (by decide +kernel)
set_option maxRecDepth 65536 in
theorem w_c13 : (Jvm.Cond.code ({ cls := "java/lang/AbstractStringBuilder", name := "ensureCapacityInternal", desc := "(I)V" } : Jvm.MethodName) jdk_68_method_9_code (3 : Nat) (Option.none : Option Jvm.ClassFile.FieldType)).before args0 about1 = true := code_word (m := ⟨5, 3⟩) (meth := k5m3) (c := k5c3) (by decide +kernel) rfl rfl rfl (by decide +kernel)
set_option maxRecDepth 65536 in
theorem w_c14 : (Jvm.Cond.code ({ cls := "java/lang/AbstractStringBuilder", name := "isLatin1", desc := "()Z" } : Jvm.MethodName) jdk_68_method_68_code (1 : Nat) (Option.some Jvm.ClassFile.FieldType.boolean)).before args0 about1 = true := code_word (m := ⟨5, 9⟩) (meth := k5m9) (c := k5c9) (by decide +kernel) rfl rfl rfl (by decide +kernel)
set_option maxRecDepth 65536 in
theorem w_c15 : (Jvm.Cond.code ({ cls := "java/lang/StringLatin1", name := "canEncode", desc := "(C)Z" } : Jvm.MethodName) jdk_43_method_3_code (1 : Nat) (Option.some Jvm.ClassFile.FieldType.boolean)).before args0 about1 = true := code_word (m := ⟨13, 2⟩) (meth := k13m2) (c := k13c2) (by decide +kernel) rfl rfl rfl (by decide +kernel)
set_option maxRecDepth 65536 in
theorem w_c16 : (Jvm.Cond.code ({ cls := "java/lang/StringBuilder", name := "toString", desc := "()Ljava/lang/String;" } : Jvm.MethodName) jdk_67_method_42_code (1 : Nat) (Option.some (Jvm.ClassFile.FieldType.object "java/lang/String"))).before args0 about1 = true := code_word (m := ⟨8, 5⟩) (meth := k8m5) (c := k8c5) (by decide +kernel) rfl rfl rfl (by decide +kernel)
set_option maxRecDepth 65536 in
theorem w_c17 : (Jvm.Cond.code ({ cls := "java/lang/String", name := "<init>", desc := "(Ljava/lang/StringBuilder;)V" } : Jvm.MethodName) jdk_42_method_53_code (2 : Nat) (Option.none : Option Jvm.ClassFile.FieldType)).before args0 about1 = true := code_word (m := ⟨11, 1⟩) (meth := k11m1) (c := k11c1) (by decide +kernel) rfl rfl rfl (by decide +kernel)
set_option maxRecDepth 65536 in
theorem w_c18 : (Jvm.Cond.code ({ cls := "java/lang/String", name := "<init>", desc := "(Ljava/lang/AbstractStringBuilder;Ljava/lang/Void;)V" } : Jvm.MethodName) jdk_42_method_150_code (5 : Nat) (Option.none : Option Jvm.ClassFile.FieldType)).before args0 about1 = true := code_word (m := ⟨11, 4⟩) (meth := k11m4) (c := k11c4) (by decide +kernel) rfl rfl rfl (by decide +kernel)
set_option maxRecDepth 65536 in
theorem w_c19 : (Jvm.Cond.code ({ cls := "java/lang/AbstractStringBuilder", name := "getValue", desc := "()[B" } : Jvm.MethodName) jdk_68_method_64_code (1 : Nat) (Option.some (Jvm.ClassFile.FieldType.array Jvm.ClassFile.FieldType.byte))).before args0 about1 = true := code_word (m := ⟨5, 8⟩) (meth := k5m8) (c := k5c8) (by decide +kernel) rfl rfl rfl (by decide +kernel)
set_option maxRecDepth 65536 in
theorem w_c20 : (Jvm.Cond.code ({ cls := "java/lang/StringBuilder", name := "length", desc := "()I" } : Jvm.MethodName) jdk_67_method_93_code (1 : Nat) (Option.some Jvm.ClassFile.FieldType.int)).before args0 about1 = true := code_word (m := ⟨8, 8⟩) (meth := k8m8) (c := k8c8) (by decide +kernel) rfl rfl rfl (by decide +kernel)
set_option maxRecDepth 65536 in
theorem w_c21 : (Jvm.Cond.code ({ cls := "java/lang/AbstractStringBuilder", name := "length", desc := "()I" } : Jvm.MethodName) jdk_68_method_6_code (1 : Nat) (Option.some Jvm.ClassFile.FieldType.int)).before args0 about1 = true := code_word (m := ⟨5, 2⟩) (meth := k5m2) (c := k5c2) (by decide +kernel) rfl rfl rfl (by decide +kernel)
set_option maxRecDepth 65536 in
theorem w_c22 : (Jvm.Cond.code ({ cls := "java/util/Arrays", name := "copyOfRange", desc := "([BII)[B" } : Jvm.MethodName) jdk_65_method_132_code (3 : Nat) (Option.some (Jvm.ClassFile.FieldType.array Jvm.ClassFile.FieldType.byte))).before args0 about1 = true := code_word (m := ⟨14, 2⟩) (meth := k14m2) (c := k14c2) (by decide +kernel) rfl rfl rfl (by decide +kernel)
set_option maxRecDepth 65536 in
theorem w_c23 : (Jvm.Cond.code ({ cls := "com/example/espalier/espalier/EntriesIdPinLaw", name := "utf16Length", desc := "(I)I" } : Jvm.MethodName) method_4_code (1 : Nat) (Option.some Jvm.ClassFile.FieldType.int)).before args0 about1 = true := code_word (m := ⟨1, 3⟩) (meth := k1m3) (c := k1c3) (by decide +kernel) rfl rfl rfl (by decide +kernel)
set_option maxRecDepth 65536 in
theorem w_c24 : (Jvm.Cond.code ({ cls := "java/lang/String", name := "length", desc := "()I" } : Jvm.MethodName) jdk_42_method_54_code (1 : Nat) (Option.some Jvm.ClassFile.FieldType.int)).before args0 about1 = true := code_word (m := ⟨11, 2⟩) (meth := k11m2) (c := k11c2) (by decide +kernel) rfl rfl rfl (by decide +kernel)
set_option maxRecDepth 65536 in
theorem w_c25 : (Jvm.Cond.code ({ cls := "java/lang/String", name := "coder", desc := "()B" } : Jvm.MethodName) jdk_42_method_152_code (1 : Nat) (Option.some Jvm.ClassFile.FieldType.byte)).before args0 about1 = true := code_word (m := ⟨11, 5⟩) (meth := k11m5) (c := k11c5) (by decide +kernel) rfl rfl rfl (by decide +kernel)
set_option maxRecDepth 65536 in
theorem w_c26 : (Jvm.Cond.code ({ cls := "com/example/espalier/espalier/EntriesIdPinLaw", name := "hasUnits", desc := "(Ljava/lang/String;II)Z" } : Jvm.MethodName) method_6_code (4 : Nat) (Option.some Jvm.ClassFile.FieldType.boolean)).before args0 about1 = true := code_word (m := ⟨1, 5⟩) (meth := k1m5) (c := k1c5) (by decide +kernel) rfl rfl rfl (by decide +kernel)
set_option maxRecDepth 65536 in
theorem w_c27 : (Jvm.Cond.code ({ cls := "java/lang/String", name := "charAt", desc := "(I)C" } : Jvm.MethodName) jdk_42_method_56_code (2 : Nat) (Option.some Jvm.ClassFile.FieldType.char)).before args0 about1 = true := code_word (m := ⟨11, 3⟩) (meth := k11m3) (c := k11c3) (by decide +kernel) rfl rfl rfl (by decide +kernel)
set_option maxRecDepth 65536 in
theorem w_c28 : (Jvm.Cond.code ({ cls := "java/lang/String", name := "isLatin1", desc := "()Z" } : Jvm.MethodName) jdk_42_method_154_code (1 : Nat) (Option.some Jvm.ClassFile.FieldType.boolean)).before args0 about1 = true := code_word (m := ⟨11, 6⟩) (meth := k11m6) (c := k11c6) (by decide +kernel) rfl rfl rfl (by decide +kernel)
set_option maxRecDepth 65536 in
theorem w_c29 : (Jvm.Cond.code ({ cls := "java/lang/StringLatin1", name := "charAt", desc := "([BI)C" } : Jvm.MethodName) jdk_43_method_2_code (2 : Nat) (Option.some Jvm.ClassFile.FieldType.char)).before args0 about1 = true := code_word (m := ⟨13, 1⟩) (meth := k13m1) (c := k13c1) (by decide +kernel) rfl rfl rfl (by decide +kernel)
set_option maxRecDepth 65536 in
theorem w_c30 : (Jvm.Cond.code ({ cls := "java/lang/String", name := "checkIndex", desc := "(II)V" } : Jvm.MethodName) jdk_42_method_155_code (2 : Nat) (Option.none : Option Jvm.ClassFile.FieldType)).before args0 about1 = true := code_word (m := ⟨11, 7⟩) (meth := k11m7) (c := k11c7) (by decide +kernel) rfl rfl rfl (by decide +kernel)
set_option maxRecDepth 65536 in
theorem w_c31 : (Jvm.Cond.code ({ cls := "jdk/internal/util/Preconditions", name := "checkIndex", desc := "(IILjava/util/function/BiFunction;)I" } : Jvm.MethodName) jdk_41_method_11_code (3 : Nat) (Option.some Jvm.ClassFile.FieldType.int)).before args0 about1 = true := code_word (m := ⟨16, 1⟩) (meth := k16m1) (c := k16c1) (by decide +kernel) rfl rfl rfl (by decide +kernel)
set_option maxRecDepth 65536 in
theorem w_c32 : (Jvm.Cond.code ({ cls := "java/util/Arrays", name := "copyOfRangeByte", desc := "([BII)[B" } : Jvm.MethodName) jdk_65_method_133_code (5 : Nat) (Option.some (Jvm.ClassFile.FieldType.array Jvm.ClassFile.FieldType.byte))).before args0 about1 = true := code_word (m := ⟨14, 3⟩) (meth := k14m3) (c := k14c3) (by decide +kernel) rfl rfl rfl (by decide +kernel)
set_option maxRecDepth 65536 in
theorem w_c33 : (Jvm.Cond.code ({ cls := "java/util/Arrays", name := "checkLength", desc := "(II)V" } : Jvm.MethodName) jdk_65_method_131_code (2 : Nat) (Option.none : Option Jvm.ClassFile.FieldType)).before args0 about1 = true := code_word (m := ⟨14, 1⟩) (meth := k14m1) (c := k14c1) (by decide +kernel) rfl rfl rfl (by decide +kernel)
set_option maxRecDepth 65536 in
theorem w_c34 : (Jvm.Cond.code ({ cls := "java/lang/Math", name := "min", desc := "(II)I" } : Jvm.MethodName) jdk_29_method_69_code (2 : Nat) (Option.some Jvm.ClassFile.FieldType.int)).before args0 about1 = true := code_word (m := ⟨17, 1⟩) (meth := k17m1) (c := k17c1) (by decide +kernel) rfl rfl rfl (by decide +kernel)
set_option maxRecDepth 65536 in
theorem w_c35 : (Jvm.Cond.code ({ cls := "java/lang/Character", name := "toChars", desc := "(I)[C" } : Jvm.MethodName) jdk_89_method_31_code (2 : Nat) (Option.some (Jvm.ClassFile.FieldType.array Jvm.ClassFile.FieldType.char))).before args0 about1 = true := code_word (m := ⟨12, 4⟩) (meth := k12m4) (c := k12c4) (by decide +kernel) rfl rfl rfl (by decide +kernel)
set_option maxRecDepth 65536 in
theorem w_c36 : (Jvm.Cond.code ({ cls := "java/lang/Character", name := "isValidCodePoint", desc := "(I)Z" } : Jvm.MethodName) jdk_89_method_11_code (2 : Nat) (Option.some Jvm.ClassFile.FieldType.boolean)).before args0 about1 = true := code_word (m := ⟨12, 0⟩) (meth := k12m0) (c := k12c0) (by decide +kernel) rfl rfl rfl (by decide +kernel)
set_option maxRecDepth 65536 in
theorem w_c37 : (Jvm.Cond.code ({ cls := "java/lang/Character", name := "toSurrogates", desc := "(I[CI)V" } : Jvm.MethodName) jdk_89_method_32_code (3 : Nat) (Option.none : Option Jvm.ClassFile.FieldType)).before args0 about1 = true := code_word (m := ⟨12, 5⟩) (meth := k12m5) (c := k12c5) (by decide +kernel) rfl rfl rfl (by decide +kernel)
set_option maxRecDepth 65536 in
theorem w_c38 : (Jvm.Cond.code ({ cls := "java/lang/Character", name := "lowSurrogate", desc := "(I)C" } : Jvm.MethodName) jdk_89_method_29_code (1 : Nat) (Option.some Jvm.ClassFile.FieldType.char)).before args0 about1 = true := code_word (m := ⟨12, 3⟩) (meth := k12m3) (c := k12c3) (by decide +kernel) rfl rfl rfl (by decide +kernel)
set_option maxRecDepth 65536 in
theorem w_c39 : (Jvm.Cond.code ({ cls := "java/lang/Character", name := "highSurrogate", desc := "(I)C" } : Jvm.MethodName) jdk_89_method_28_code (1 : Nat) (Option.some Jvm.ClassFile.FieldType.char)).before args0 about1 = true := code_word (m := ⟨12, 2⟩) (meth := k12m2) (c := k12c2) (by decide +kernel) rfl rfl rfl (by decide +kernel)
set_option maxRecDepth 65536 in
theorem w_c40 : (Jvm.Cond.code ({ cls := "java/lang/StringBuilder", name := "append", desc := "([C)Ljava/lang/AbstractStringBuilder;" } : Jvm.MethodName) jdk_67_method_76_code (2 : Nat) (Option.some (Jvm.ClassFile.FieldType.object "java/lang/AbstractStringBuilder"))).before args0 about1 = true := code_word (m := ⟨8, 7⟩) (meth := k8m7) (c := k8c7) (by decide +kernel) rfl rfl rfl (by decide +kernel)
set_option maxRecDepth 65536 in
theorem w_c41 : (Jvm.Cond.code ({ cls := "java/lang/StringBuilder", name := "append", desc := "([C)Ljava/lang/StringBuilder;" } : Jvm.MethodName) jdk_67_method_11_code (2 : Nat) (Option.some (Jvm.ClassFile.FieldType.object "java/lang/StringBuilder"))).before args0 about1 = true := code_word (m := ⟨8, 2⟩) (meth := k8m2) (c := k8c2) (by decide +kernel) rfl rfl rfl (by decide +kernel)
set_option maxRecDepth 65536 in
theorem w_c42 : (Jvm.Cond.code ({ cls := "java/lang/AbstractStringBuilder", name := "append", desc := "([C)Ljava/lang/AbstractStringBuilder;" } : Jvm.MethodName) jdk_68_method_28_code (3 : Nat) (Option.some (Jvm.ClassFile.FieldType.object "java/lang/AbstractStringBuilder"))).before args0 about1 = true := code_word (m := ⟨5, 5⟩) (meth := k5m5) (c := k5c5) (by decide +kernel) rfl rfl rfl (by decide +kernel)
set_option maxRecDepth 65536 in
theorem w_c43 : (Jvm.Cond.code ({ cls := "java/lang/AbstractStringBuilder", name := "appendChars", desc := "([CII)V" } : Jvm.MethodName) jdk_68_method_74_code (9 : Nat) (Option.none : Option Jvm.ClassFile.FieldType)).before args0 about1 = true := code_word (m := ⟨5, 10⟩) (meth := k5m10) (c := k5c10) (by decide +kernel) rfl rfl rfl (by decide +kernel)
set_option maxRecDepth 65536 in
theorem w_c44 : (Jvm.Cond.code ({ cls := "java/lang/AbstractStringBuilder", name := "inflate", desc := "()V" } : Jvm.MethodName) jdk_68_method_11_code (2 : Nat) (Option.none : Option Jvm.ClassFile.FieldType)).before args0 about1 = true := code_word (m := ⟨5, 4⟩) (meth := k5m4) (c := k5c4) (by decide +kernel) rfl rfl rfl (by decide +kernel)
set_option maxRecDepth 65536 in
theorem w_c45 : (Jvm.Cond.code ({ cls := "java/lang/StringUTF16", name := "newBytesFor", desc := "(I)[B" } : Jvm.MethodName) jdk_52_method_2_code (1 : Nat) (Option.some (Jvm.ClassFile.FieldType.array Jvm.ClassFile.FieldType.byte))).before args0 about1 = true := code_word (m := ⟨19, 1⟩) (meth := k19m1) (c := k19c1) (by decide +kernel) rfl rfl rfl (by decide +kernel)
set_option maxRecDepth 65536 in
theorem w_c46 : (Jvm.Cond.code ({ cls := "java/lang/StringUTF16", name := "newBytesLength", desc := "(I)I" } : Jvm.MethodName) jdk_52_method_3_code (1 : Nat) (Option.some Jvm.ClassFile.FieldType.int)).before args0 about1 = true := code_word (m := ⟨19, 2⟩) (meth := k19m2) (c := k19c2) (by decide +kernel) rfl rfl rfl (by decide +kernel)
set_option maxRecDepth 65536 in
theorem w_c47 : (Jvm.Cond.code ({ cls := "java/lang/StringLatin1", name := "inflate", desc := "([BI[BII)V" } : Jvm.MethodName) jdk_43_method_50_code (5 : Nat) (Option.none : Option Jvm.ClassFile.FieldType)).before args0 about1 = true := code_word (m := ⟨13, 3⟩) (meth := k13m3) (c := k13c3) (by decide +kernel) rfl rfl rfl (by decide +kernel)
set_option maxRecDepth 65536 in
theorem w_c48 : (Jvm.Cond.code ({ cls := "java/lang/StringUTF16", name := "inflate", desc := "([BI[BII)V" } : Jvm.MethodName) jdk_52_method_86_code (6 : Nat) (Option.none : Option Jvm.ClassFile.FieldType)).before args0 about1 = true := code_word (m := ⟨19, 10⟩) (meth := k19m10) (c := k19c10) (by decide +kernel) rfl rfl rfl (by decide +kernel)
set_option maxRecDepth 65536 in
theorem w_c49 : (Jvm.Cond.code ({ cls := "java/lang/StringUTF16", name := "checkBoundsOffCount", desc := "(II[B)V" } : Jvm.MethodName) jdk_52_method_94_code (3 : Nat) (Option.none : Option Jvm.ClassFile.FieldType)).before args0 about1 = true := code_word (m := ⟨19, 13⟩) (meth := k19m13) (c := k19c13) (by decide +kernel) rfl rfl rfl (by decide +kernel)
set_option maxRecDepth 65536 in
theorem w_c50 : (Jvm.Cond.code ({ cls := "java/lang/StringUTF16", name := "length", desc := "([B)I" } : Jvm.MethodName) jdk_52_method_6_code (1 : Nat) (Option.some Jvm.ClassFile.FieldType.int)).before args0 about1 = true := code_word (m := ⟨19, 5⟩) (meth := k19m5) (c := k19c5) (by decide +kernel) rfl rfl rfl (by decide +kernel)
set_option maxRecDepth 65536 in
theorem w_c51 : (Jvm.Cond.code ({ cls := "java/lang/String", name := "checkBoundsOffCount", desc := "(III)I" } : Jvm.MethodName) jdk_42_method_157_code (3 : Nat) (Option.some Jvm.ClassFile.FieldType.int)).before args0 about1 = true := code_word (m := ⟨11, 8⟩) (meth := k11m8) (c := k11c8) (by decide +kernel) rfl rfl rfl (by decide +kernel)
set_option maxRecDepth 65536 in
theorem w_c52 : (Jvm.Cond.code ({ cls := "jdk/internal/util/Preconditions", name := "checkFromIndexSize", desc := "(IIILjava/util/function/BiFunction;)I" } : Jvm.MethodName) jdk_41_method_13_code (4 : Nat) (Option.some Jvm.ClassFile.FieldType.int)).before args0 about1 = true := code_word (m := ⟨16, 3⟩) (meth := k16m3) (c := k16c3) (by decide +kernel) rfl rfl rfl (by decide +kernel)
set_option maxRecDepth 65536 in
theorem w_c53 : (Jvm.Cond.code ({ cls := "java/lang/StringUTF16", name := "putCharsSB", desc := "([BI[CII)V" } : Jvm.MethodName) jdk_52_method_72_code (5 : Nat) (Option.none : Option Jvm.ClassFile.FieldType)).before args0 about1 = true := code_word (m := ⟨19, 8⟩) (meth := k19m8) (c := k19c8) (by decide +kernel) rfl rfl rfl (by decide +kernel)
set_option maxRecDepth 65536 in
theorem w_c54 : (Jvm.Cond.code ({ cls := "java/lang/StringUTF16", name := "checkBoundsBeginEnd", desc := "(II[B)V" } : Jvm.MethodName) jdk_52_method_93_code (3 : Nat) (Option.none : Option Jvm.ClassFile.FieldType)).before args0 about1 = true := code_word (m := ⟨19, 12⟩) (meth := k19m12) (c := k19c12) (by decide +kernel) rfl rfl rfl (by decide +kernel)
set_option maxRecDepth 65536 in
theorem w_c55 : (Jvm.Cond.code ({ cls := "java/lang/String", name := "checkBoundsBeginEnd", desc := "(III)V" } : Jvm.MethodName) jdk_42_method_158_code (3 : Nat) (Option.none : Option Jvm.ClassFile.FieldType)).before args0 about1 = true := code_word (m := ⟨11, 9⟩) (meth := k11m9) (c := k11c9) (by decide +kernel) rfl rfl rfl (by decide +kernel)
set_option maxRecDepth 65536 in
theorem w_c56 : (Jvm.Cond.code ({ cls := "jdk/internal/util/Preconditions", name := "checkFromToIndex", desc := "(IIILjava/util/function/BiFunction;)I" } : Jvm.MethodName) jdk_41_method_12_code (4 : Nat) (Option.some Jvm.ClassFile.FieldType.int)).before args0 about1 = true := code_word (m := ⟨16, 2⟩) (meth := k16m2) (c := k16c2) (by decide +kernel) rfl rfl rfl (by decide +kernel)
set_option maxRecDepth 65536 in
theorem w_c57 : (Jvm.Cond.code ({ cls := "java/lang/StringUTF16", name := "putChars", desc := "([BI[CII)V" } : Jvm.MethodName) jdk_52_method_68_code (5 : Nat) (Option.none : Option Jvm.ClassFile.FieldType)).before args0 about1 = true := code_word (m := ⟨19, 6⟩) (meth := k19m6) (c := k19c6) (by decide +kernel) rfl rfl rfl (by decide +kernel)
set_option maxRecDepth 65536 in
theorem w_c58 : (Jvm.Cond.code ({ cls := "java/lang/StringUTF16", name := "putChar", desc := "([BII)V" } : Jvm.MethodName) jdk_52_method_4_code (3 : Nat) (Option.none : Option Jvm.ClassFile.FieldType)).before args0 about1 = true := code_word (m := ⟨19, 3⟩) (meth := k19m3) (c := k19c3) (by decide +kernel) rfl rfl rfl (by decide +kernel)
set_option maxRecDepth 65536 in
theorem w_c59 : (Jvm.Cond.code ({ cls := "java/lang/StringUTF16", name := "charAt", desc := "([BI)C" } : Jvm.MethodName) jdk_52_method_83_code (2 : Nat) (Option.some Jvm.ClassFile.FieldType.char)).before args0 about1 = true := code_word (m := ⟨19, 9⟩) (meth := k19m9) (c := k19c9) (by decide +kernel) rfl rfl rfl (by decide +kernel)
set_option maxRecDepth 65536 in
theorem w_c60 : (Jvm.Cond.code ({ cls := "java/lang/StringUTF16", name := "checkIndex", desc := "(I[B)V" } : Jvm.MethodName) jdk_52_method_91_code (2 : Nat) (Option.none : Option Jvm.ClassFile.FieldType)).before args0 about1 = true := code_word (m := ⟨19, 11⟩) (meth := k19m11) (c := k19c11) (by decide +kernel) rfl rfl rfl (by decide +kernel)
set_option maxRecDepth 65536 in
theorem w_c61 : (Jvm.Cond.code ({ cls := "java/lang/StringUTF16", name := "getChar", desc := "([BI)C" } : Jvm.MethodName) jdk_52_method_5_code (2 : Nat) (Option.some Jvm.ClassFile.FieldType.char)).before args0 about1 = true := code_word (m := ⟨19, 4⟩) (meth := k19m4) (c := k19c4) (by decide +kernel) rfl rfl rfl (by decide +kernel)
set_option maxRecDepth 65536 in
theorem w_c62 : (Jvm.Cond.code ({ cls := "java/lang/StringUTF16", name := "putCharSB", desc := "([BII)V" } : Jvm.MethodName) jdk_52_method_71_code (3 : Nat) (Option.none : Option Jvm.ClassFile.FieldType)).before args0 about1 = true := code_word (m := ⟨19, 7⟩) (meth := k19m7) (c := k19c7) (by decide +kernel) rfl rfl rfl (by decide +kernel)
def codes1 : List Jvm.Cond := [Jvm.Cond.code x code maxLocals ret, Jvm.Cond.code ({ cls := "com/example/espalier/espalier/EntriesIdPinLaw", name := "utf8Length", desc := "(I)I" } : Jvm.MethodName) method_3_code (1 : Nat) (Option.some Jvm.ClassFile.FieldType.int), Jvm.Cond.code ({ cls := "com/example/espalier/espalier/EntriesIdPinLaw", name := "put", desc := "([BII)V" } : Jvm.MethodName) method_5_code (3 : Nat) (Option.none : Option Jvm.ClassFile.FieldType), Jvm.Cond.code ({ cls := "com/example/espalier/espalier/Entries", name := "id", desc := "([B)Ljava/lang/String;" } : Jvm.MethodName) prog_6_method_6_code (7 : Nat) (Option.some (Jvm.ClassFile.FieldType.object "java/lang/String")), Jvm.Cond.code ({ cls := "java/lang/StringBuilder", name := "<init>", desc := "(I)V" } : Jvm.MethodName) jdk_67_method_2_code (2 : Nat) (Option.none : Option Jvm.ClassFile.FieldType), Jvm.Cond.code ({ cls := "java/lang/AbstractStringBuilder", name := "<init>", desc := "(I)V" } : Jvm.MethodName) jdk_68_method_2_code (2 : Nat) (Option.none : Option Jvm.ClassFile.FieldType), Jvm.Cond.code ({ cls := "java/lang/Object", name := "<init>", desc := "()V" } : Jvm.MethodName) object_method_1_code (1 : Nat) (Option.none : Option Jvm.ClassFile.FieldType), Jvm.Cond.code ({ cls := "java/lang/StringBuilder", name := "appendCodePoint", desc := "(I)Ljava/lang/StringBuilder;" } : Jvm.MethodName) jdk_67_method_19_code (2 : Nat) (Option.some (Jvm.ClassFile.FieldType.object "java/lang/StringBuilder")), Jvm.Cond.code ({ cls := "java/lang/AbstractStringBuilder", name := "appendCodePoint", desc := "(I)Ljava/lang/AbstractStringBuilder;" } : Jvm.MethodName) jdk_68_method_37_code (2 : Nat) (Option.some (Jvm.ClassFile.FieldType.object "java/lang/AbstractStringBuilder")), Jvm.Cond.code ({ cls := "java/lang/Character", name := "isBmpCodePoint", desc := "(I)Z" } : Jvm.MethodName) jdk_89_method_12_code (1 : Nat) (Option.some Jvm.ClassFile.FieldType.boolean), Jvm.Cond.code ({ cls := "java/lang/StringBuilder", name := "append", desc := "(C)Ljava/lang/AbstractStringBuilder;" } : Jvm.MethodName) jdk_67_method_73_code (2 : Nat) (Option.some (Jvm.ClassFile.FieldType.object "java/lang/AbstractStringBuilder")), Jvm.Cond.code ({ cls := "java/lang/StringBuilder", name := "append", desc := "(C)Ljava/lang/StringBuilder;" } : Jvm.MethodName) jdk_67_method_14_code (2 : Nat) (Option.some (Jvm.ClassFile.FieldType.object "java/lang/StringBuilder")), Jvm.Cond.code ({ cls := "java/lang/AbstractStringBuilder", name := "append", desc := "(C)Ljava/lang/AbstractStringBuilder;" } : Jvm.MethodName) jdk_68_method_31_code (2 : Nat) (Option.some (Jvm.ClassFile.FieldType.object "java/lang/AbstractStringBuilder")), Jvm.Cond.code ({ cls := "java/lang/AbstractStringBuilder", name := "ensureCapacityInternal", desc := "(I)V" } : Jvm.MethodName) jdk_68_method_9_code (3 : Nat) (Option.none : Option Jvm.ClassFile.FieldType), Jvm.Cond.code ({ cls := "java/lang/AbstractStringBuilder", name := "isLatin1", desc := "()Z" } : Jvm.MethodName) jdk_68_method_68_code (1 : Nat) (Option.some Jvm.ClassFile.FieldType.boolean), Jvm.Cond.code ({ cls := "java/lang/StringLatin1", name := "canEncode", desc := "(C)Z" } : Jvm.MethodName) jdk_43_method_3_code (1 : Nat) (Option.some Jvm.ClassFile.FieldType.boolean), Jvm.Cond.code ({ cls := "java/lang/StringBuilder", name := "toString", desc := "()Ljava/lang/String;" } : Jvm.MethodName) jdk_67_method_42_code (1 : Nat) (Option.some (Jvm.ClassFile.FieldType.object "java/lang/String")), Jvm.Cond.code ({ cls := "java/lang/String", name := "<init>", desc := "(Ljava/lang/StringBuilder;)V" } : Jvm.MethodName) jdk_42_method_53_code (2 : Nat) (Option.none : Option Jvm.ClassFile.FieldType), Jvm.Cond.code ({ cls := "java/lang/String", name := "<init>", desc := "(Ljava/lang/AbstractStringBuilder;Ljava/lang/Void;)V" } : Jvm.MethodName) jdk_42_method_150_code (5 : Nat) (Option.none : Option Jvm.ClassFile.FieldType), Jvm.Cond.code ({ cls := "java/lang/AbstractStringBuilder", name := "getValue", desc := "()[B" } : Jvm.MethodName) jdk_68_method_64_code (1 : Nat) (Option.some (Jvm.ClassFile.FieldType.array Jvm.ClassFile.FieldType.byte)), Jvm.Cond.code ({ cls := "java/lang/StringBuilder", name := "length", desc := "()I" } : Jvm.MethodName) jdk_67_method_93_code (1 : Nat) (Option.some Jvm.ClassFile.FieldType.int), Jvm.Cond.code ({ cls := "java/lang/AbstractStringBuilder", name := "length", desc := "()I" } : Jvm.MethodName) jdk_68_method_6_code (1 : Nat) (Option.some Jvm.ClassFile.FieldType.int), Jvm.Cond.code ({ cls := "java/util/Arrays", name := "copyOfRange", desc := "([BII)[B" } : Jvm.MethodName) jdk_65_method_132_code (3 : Nat) (Option.some (Jvm.ClassFile.FieldType.array Jvm.ClassFile.FieldType.byte)), Jvm.Cond.code ({ cls := "com/example/espalier/espalier/EntriesIdPinLaw", name := "utf16Length", desc := "(I)I" } : Jvm.MethodName) method_4_code (1 : Nat) (Option.some Jvm.ClassFile.FieldType.int), Jvm.Cond.code ({ cls := "java/lang/String", name := "length", desc := "()I" } : Jvm.MethodName) jdk_42_method_54_code (1 : Nat) (Option.some Jvm.ClassFile.FieldType.int), Jvm.Cond.code ({ cls := "java/lang/String", name := "coder", desc := "()B" } : Jvm.MethodName) jdk_42_method_152_code (1 : Nat) (Option.some Jvm.ClassFile.FieldType.byte), Jvm.Cond.code ({ cls := "com/example/espalier/espalier/EntriesIdPinLaw", name := "hasUnits", desc := "(Ljava/lang/String;II)Z" } : Jvm.MethodName) method_6_code (4 : Nat) (Option.some Jvm.ClassFile.FieldType.boolean), Jvm.Cond.code ({ cls := "java/lang/String", name := "charAt", desc := "(I)C" } : Jvm.MethodName) jdk_42_method_56_code (2 : Nat) (Option.some Jvm.ClassFile.FieldType.char), Jvm.Cond.code ({ cls := "java/lang/String", name := "isLatin1", desc := "()Z" } : Jvm.MethodName) jdk_42_method_154_code (1 : Nat) (Option.some Jvm.ClassFile.FieldType.boolean), Jvm.Cond.code ({ cls := "java/lang/StringLatin1", name := "charAt", desc := "([BI)C" } : Jvm.MethodName) jdk_43_method_2_code (2 : Nat) (Option.some Jvm.ClassFile.FieldType.char), Jvm.Cond.code ({ cls := "java/lang/String", name := "checkIndex", desc := "(II)V" } : Jvm.MethodName) jdk_42_method_155_code (2 : Nat) (Option.none : Option Jvm.ClassFile.FieldType), Jvm.Cond.code ({ cls := "jdk/internal/util/Preconditions", name := "checkIndex", desc := "(IILjava/util/function/BiFunction;)I" } : Jvm.MethodName) jdk_41_method_11_code (3 : Nat) (Option.some Jvm.ClassFile.FieldType.int), Jvm.Cond.code ({ cls := "java/util/Arrays", name := "copyOfRangeByte", desc := "([BII)[B" } : Jvm.MethodName) jdk_65_method_133_code (5 : Nat) (Option.some (Jvm.ClassFile.FieldType.array Jvm.ClassFile.FieldType.byte)), Jvm.Cond.code ({ cls := "java/util/Arrays", name := "checkLength", desc := "(II)V" } : Jvm.MethodName) jdk_65_method_131_code (2 : Nat) (Option.none : Option Jvm.ClassFile.FieldType), Jvm.Cond.code ({ cls := "java/lang/Math", name := "min", desc := "(II)I" } : Jvm.MethodName) jdk_29_method_69_code (2 : Nat) (Option.some Jvm.ClassFile.FieldType.int), Jvm.Cond.code ({ cls := "java/lang/Character", name := "toChars", desc := "(I)[C" } : Jvm.MethodName) jdk_89_method_31_code (2 : Nat) (Option.some (Jvm.ClassFile.FieldType.array Jvm.ClassFile.FieldType.char)), Jvm.Cond.code ({ cls := "java/lang/Character", name := "isValidCodePoint", desc := "(I)Z" } : Jvm.MethodName) jdk_89_method_11_code (2 : Nat) (Option.some Jvm.ClassFile.FieldType.boolean), Jvm.Cond.code ({ cls := "java/lang/Character", name := "toSurrogates", desc := "(I[CI)V" } : Jvm.MethodName) jdk_89_method_32_code (3 : Nat) (Option.none : Option Jvm.ClassFile.FieldType), Jvm.Cond.code ({ cls := "java/lang/Character", name := "lowSurrogate", desc := "(I)C" } : Jvm.MethodName) jdk_89_method_29_code (1 : Nat) (Option.some Jvm.ClassFile.FieldType.char), Jvm.Cond.code ({ cls := "java/lang/Character", name := "highSurrogate", desc := "(I)C" } : Jvm.MethodName) jdk_89_method_28_code (1 : Nat) (Option.some Jvm.ClassFile.FieldType.char), Jvm.Cond.code ({ cls := "java/lang/StringBuilder", name := "append", desc := "([C)Ljava/lang/AbstractStringBuilder;" } : Jvm.MethodName) jdk_67_method_76_code (2 : Nat) (Option.some (Jvm.ClassFile.FieldType.object "java/lang/AbstractStringBuilder")), Jvm.Cond.code ({ cls := "java/lang/StringBuilder", name := "append", desc := "([C)Ljava/lang/StringBuilder;" } : Jvm.MethodName) jdk_67_method_11_code (2 : Nat) (Option.some (Jvm.ClassFile.FieldType.object "java/lang/StringBuilder")), Jvm.Cond.code ({ cls := "java/lang/AbstractStringBuilder", name := "append", desc := "([C)Ljava/lang/AbstractStringBuilder;" } : Jvm.MethodName) jdk_68_method_28_code (3 : Nat) (Option.some (Jvm.ClassFile.FieldType.object "java/lang/AbstractStringBuilder")), Jvm.Cond.code ({ cls := "java/lang/AbstractStringBuilder", name := "appendChars", desc := "([CII)V" } : Jvm.MethodName) jdk_68_method_74_code (9 : Nat) (Option.none : Option Jvm.ClassFile.FieldType), Jvm.Cond.code ({ cls := "java/lang/AbstractStringBuilder", name := "inflate", desc := "()V" } : Jvm.MethodName) jdk_68_method_11_code (2 : Nat) (Option.none : Option Jvm.ClassFile.FieldType), Jvm.Cond.code ({ cls := "java/lang/StringUTF16", name := "newBytesFor", desc := "(I)[B" } : Jvm.MethodName) jdk_52_method_2_code (1 : Nat) (Option.some (Jvm.ClassFile.FieldType.array Jvm.ClassFile.FieldType.byte)), Jvm.Cond.code ({ cls := "java/lang/StringUTF16", name := "newBytesLength", desc := "(I)I" } : Jvm.MethodName) jdk_52_method_3_code (1 : Nat) (Option.some Jvm.ClassFile.FieldType.int), Jvm.Cond.code ({ cls := "java/lang/StringLatin1", name := "inflate", desc := "([BI[BII)V" } : Jvm.MethodName) jdk_43_method_50_code (5 : Nat) (Option.none : Option Jvm.ClassFile.FieldType), Jvm.Cond.code ({ cls := "java/lang/StringUTF16", name := "inflate", desc := "([BI[BII)V" } : Jvm.MethodName) jdk_52_method_86_code (6 : Nat) (Option.none : Option Jvm.ClassFile.FieldType), Jvm.Cond.code ({ cls := "java/lang/StringUTF16", name := "checkBoundsOffCount", desc := "(II[B)V" } : Jvm.MethodName) jdk_52_method_94_code (3 : Nat) (Option.none : Option Jvm.ClassFile.FieldType), Jvm.Cond.code ({ cls := "java/lang/StringUTF16", name := "length", desc := "([B)I" } : Jvm.MethodName) jdk_52_method_6_code (1 : Nat) (Option.some Jvm.ClassFile.FieldType.int), Jvm.Cond.code ({ cls := "java/lang/String", name := "checkBoundsOffCount", desc := "(III)I" } : Jvm.MethodName) jdk_42_method_157_code (3 : Nat) (Option.some Jvm.ClassFile.FieldType.int), Jvm.Cond.code ({ cls := "jdk/internal/util/Preconditions", name := "checkFromIndexSize", desc := "(IIILjava/util/function/BiFunction;)I" } : Jvm.MethodName) jdk_41_method_13_code (4 : Nat) (Option.some Jvm.ClassFile.FieldType.int), Jvm.Cond.code ({ cls := "java/lang/StringUTF16", name := "putCharsSB", desc := "([BI[CII)V" } : Jvm.MethodName) jdk_52_method_72_code (5 : Nat) (Option.none : Option Jvm.ClassFile.FieldType), Jvm.Cond.code ({ cls := "java/lang/StringUTF16", name := "checkBoundsBeginEnd", desc := "(II[B)V" } : Jvm.MethodName) jdk_52_method_93_code (3 : Nat) (Option.none : Option Jvm.ClassFile.FieldType), Jvm.Cond.code ({ cls := "java/lang/String", name := "checkBoundsBeginEnd", desc := "(III)V" } : Jvm.MethodName) jdk_42_method_158_code (3 : Nat) (Option.none : Option Jvm.ClassFile.FieldType), Jvm.Cond.code ({ cls := "jdk/internal/util/Preconditions", name := "checkFromToIndex", desc := "(IIILjava/util/function/BiFunction;)I" } : Jvm.MethodName) jdk_41_method_12_code (4 : Nat) (Option.some Jvm.ClassFile.FieldType.int), Jvm.Cond.code ({ cls := "java/lang/StringUTF16", name := "putChars", desc := "([BI[CII)V" } : Jvm.MethodName) jdk_52_method_68_code (5 : Nat) (Option.none : Option Jvm.ClassFile.FieldType), Jvm.Cond.code ({ cls := "java/lang/StringUTF16", name := "putChar", desc := "([BII)V" } : Jvm.MethodName) jdk_52_method_4_code (3 : Nat) (Option.none : Option Jvm.ClassFile.FieldType), Jvm.Cond.code ({ cls := "java/lang/StringUTF16", name := "charAt", desc := "([BI)C" } : Jvm.MethodName) jdk_52_method_83_code (2 : Nat) (Option.some Jvm.ClassFile.FieldType.char), Jvm.Cond.code ({ cls := "java/lang/StringUTF16", name := "checkIndex", desc := "(I[B)V" } : Jvm.MethodName) jdk_52_method_91_code (2 : Nat) (Option.none : Option Jvm.ClassFile.FieldType), Jvm.Cond.code ({ cls := "java/lang/StringUTF16", name := "getChar", desc := "([BI)C" } : Jvm.MethodName) jdk_52_method_5_code (2 : Nat) (Option.some Jvm.ClassFile.FieldType.char), Jvm.Cond.code ({ cls := "java/lang/StringUTF16", name := "putCharSB", desc := "([BII)V" } : Jvm.MethodName) jdk_52_method_71_code (3 : Nat) (Option.none : Option Jvm.ClassFile.FieldType)]
set_option maxRecDepth 65536 in
theorem codes_eq : words1.filter isCode = codes1 := rfl
theorem w_codes : ∀ c ∈ words1.filter isCode, c.before args0 about1 = true := by
  rw [codes_eq]
  intro c hc
  simp only [codes1, List.mem_cons, List.not_mem_nil, or_false] at hc
  rcases hc with rfl | rfl | rfl | rfl | rfl | rfl | rfl | rfl | rfl | rfl | rfl | rfl | rfl | rfl | rfl | rfl | rfl | rfl | rfl | rfl | rfl | rfl | rfl | rfl | rfl | rfl | rfl | rfl | rfl | rfl | rfl | rfl | rfl | rfl | rfl | rfl | rfl | rfl | rfl | rfl | rfl | rfl | rfl | rfl | rfl | rfl | rfl | rfl | rfl | rfl | rfl | rfl | rfl | rfl | rfl | rfl | rfl | rfl | rfl | rfl | rfl | rfl | rfl
  · exact w_c0
  · exact w_c1
  · exact w_c2
  · exact w_c3
  · exact w_c4
  · exact w_c5
  · exact w_c6
  · exact w_c7
  · exact w_c8
  · exact w_c9
  · exact w_c10
  · exact w_c11
  · exact w_c12
  · exact w_c13
  · exact w_c14
  · exact w_c15
  · exact w_c16
  · exact w_c17
  · exact w_c18
  · exact w_c19
  · exact w_c20
  · exact w_c21
  · exact w_c22
  · exact w_c23
  · exact w_c24
  · exact w_c25
  · exact w_c26
  · exact w_c27
  · exact w_c28
  · exact w_c29
  · exact w_c30
  · exact w_c31
  · exact w_c32
  · exact w_c33
  · exact w_c34
  · exact w_c35
  · exact w_c36
  · exact w_c37
  · exact w_c38
  · exact w_c39
  · exact w_c40
  · exact w_c41
  · exact w_c42
  · exact w_c43
  · exact w_c44
  · exact w_c45
  · exact w_c46
  · exact w_c47
  · exact w_c48
  · exact w_c49
  · exact w_c50
  · exact w_c51
  · exact w_c52
  · exact w_c53
  · exact w_c54
  · exact w_c55
  · exact w_c56
  · exact w_c57
  · exact w_c58
  · exact w_c59
  · exact w_c60
  · exact w_c61
  · exact w_c62
set_option maxRecDepth 65536 in
theorem w_t1 : (words1.take 24).all (fun c => isCode c || c.before args0 about1) = true := by decide +kernel
set_option maxRecDepth 65536 in
theorem w_t2 : ((words1.drop 24).take 24).all (fun c => isCode c || c.before args0 about1) = true := by decide +kernel
set_option maxRecDepth 65536 in
theorem w_t3 : (((words1.drop 24).drop 24).take 24).all (fun c => isCode c || c.before args0 about1) = true := by decide +kernel
set_option maxRecDepth 65536 in
theorem w_t4 : ((((words1.drop 24).drop 24).drop 24).take 24).all (fun c => isCode c || c.before args0 about1) = true := by decide +kernel
set_option maxRecDepth 65536 in
theorem w_t5 : (((((words1.drop 24).drop 24).drop 24).drop 24).take 24).all (fun c => isCode c || c.before args0 about1) = true := by decide +kernel
set_option maxRecDepth 65536 in
theorem w_t6 : ((((((words1.drop 24).drop 24).drop 24).drop 24).drop 24).take 24).all (fun c => isCode c || c.before args0 about1) = true := by decide +kernel
set_option maxRecDepth 65536 in
theorem w_t7 : (((((((words1.drop 24).drop 24).drop 24).drop 24).drop 24).drop 24).take 24).all (fun c => isCode c || c.before args0 about1) = true := by decide +kernel
set_option maxRecDepth 65536 in
theorem w_t8 : ((((((((words1.drop 24).drop 24).drop 24).drop 24).drop 24).drop 24).drop 24).take 24).all (fun c => isCode c || c.before args0 about1) = true := by decide +kernel
set_option maxRecDepth 65536 in
theorem w_t9 : (((((((((words1.drop 24).drop 24).drop 24).drop 24).drop 24).drop 24).drop 24).drop 24).take 24).all (fun c => isCode c || c.before args0 about1) = true := by decide +kernel
set_option maxRecDepth 65536 in
theorem w_t10 : ((((((((((words1.drop 24).drop 24).drop 24).drop 24).drop 24).drop 24).drop 24).drop 24).drop 24).take 24).all (fun c => isCode c || c.before args0 about1) = true := by decide +kernel
set_option maxRecDepth 65536 in
theorem w_t11 : (((((((((((words1.drop 24).drop 24).drop 24).drop 24).drop 24).drop 24).drop 24).drop 24).drop 24).drop 24).take 24).all (fun c => isCode c || c.before args0 about1) = true := by decide +kernel
set_option maxRecDepth 65536 in
theorem w_t12 : (((((((((((words1.drop 24).drop 24).drop 24).drop 24).drop 24).drop 24).drop 24).drop 24).drop 24).drop 24).drop 24).all (fun c => isCode c || c.before args0 about1) = true := by decide +kernel
theorem w_tables : (allAtoms (Jvm.Cond.code x code maxLocals ret :: tables_1)).before args0 about1 = true := by
  rw [allAtoms_all]
  show words1.all (fun c => c.before args0 about1) = true
  refine all_split ?_ w_codes
  rw [← List.take_append_drop 24 words1, List.all_append, w_t1, ← List.take_append_drop 24 (words1.drop 24), List.all_append, w_t2, ← List.take_append_drop 24 ((words1.drop 24).drop 24), List.all_append, w_t3, ← List.take_append_drop 24 (((words1.drop 24).drop 24).drop 24), List.all_append, w_t4, ← List.take_append_drop 24 ((((words1.drop 24).drop 24).drop 24).drop 24), List.all_append, w_t5, ← List.take_append_drop 24 (((((words1.drop 24).drop 24).drop 24).drop 24).drop 24), List.all_append, w_t6, ← List.take_append_drop 24 ((((((words1.drop 24).drop 24).drop 24).drop 24).drop 24).drop 24), List.all_append, w_t7, ← List.take_append_drop 24 (((((((words1.drop 24).drop 24).drop 24).drop 24).drop 24).drop 24).drop 24), List.all_append, w_t8, ← List.take_append_drop 24 ((((((((words1.drop 24).drop 24).drop 24).drop 24).drop 24).drop 24).drop 24).drop 24), List.all_append, w_t9, ← List.take_append_drop 24 (((((((((words1.drop 24).drop 24).drop 24).drop 24).drop 24).drop 24).drop 24).drop 24).drop 24), List.all_append, w_t10, ← List.take_append_drop 24 ((((((((((words1.drop 24).drop 24).drop 24).drop 24).drop 24).drop 24).drop 24).drop 24).drop 24).drop 24), List.all_append, w_t11, w_t12]
  rfl
set_option maxRecDepth 65536 in
theorem w_rest : rest_1_c.before args0 about1 = true := by decide +kernel
set_option maxRecDepth 65536 in
theorem w_case : (Jvm.Cond.and given_1 narrow_1).before args0 about1 = true := by decide +kernel
theorem w_applies : (headSpec (Jvm.Cond.code x code maxLocals ret :: tables_1) room_1).applies x e0.platform about1 = true :=
  (Spec.applies_iff w_frames).mpr ⟨w_running, w_runnable, w_alone, w_named, w_hears, w_ripe, w_room, w_tables⟩
theorem atStart : AtStart classFile x code maxLocals ret World_1 tables_1 room_1 Calls_1 rest_1 Pre_1 launch0 p0 e0 about1 theMethod args0 below0 :=
  ⟨lists_1, trivial, launch0.admits_env _ _ _, launch0.least_env, fairChoices_fair.cas, fairChoices_fair.clock, w_frames, w_args, w_heap, w_applies, trivial, w_rest, w_case⟩
end start1
theorem witness_1 : WitnessClaimed_1 := ⟨start1.p0, start1.e0, start1.about1, start1.theMethod, start1.args0, start1.below0, start1.atStart⟩
end Jvm.Pilot.@@N@@
