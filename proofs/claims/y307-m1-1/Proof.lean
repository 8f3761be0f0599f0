import JvmDerived
import JvmDerived.Pilot.@@N@@Statement
import JvmDerived.Pilot.@@N@@Code
set_option linter.unusedVariables false
set_option linter.unusedSimpArgs false
namespace Jvm.RoadKit
open Sem ClassFile Op Lib Jvm.Stand Jvm.Free Jvm.LawKit
section New
variable {p : Program} {l : Launch} {e : Env} {R : Room} {s : State} {m : MethodId} {args : Array Value} {below : List Frame} {meth : Method} {c : Code} {T : State} {locs : List Loc} {cells slots : Nat}
theorem own_retI (X : Stand p l e R s m args below meth c T locs cells slots) (hx : p.tables.exec = Jvm.exec) {pc : Nat} {Ls : Array Slot} {z : Int32} {rest : List Value} (hret : meth.sig.returnType = some .int) (hd : decode c.code pc = .ok (.ireturn, 1)) {fs : List Frame}
    (hl : ∀ (f : JFrame) (acts : List Action), f.method = m → f.locked = none → f.entered = [] → (doReturn e (T.setTop f) acts (some (.int z))).1 = T.setFrames fs) : Steps p.tables e below (T.setTop (mkF m pc Ls (.int z :: rest))) (T.setFrames fs) :=
  retOut X hx hret rfl (Or.inl ⟨rfl, Or.inl rfl, z, rfl⟩) hd hl
theorem own_retJ (X : Stand p l e R s m args below meth c T locs cells slots) (hx : p.tables.exec = Jvm.exec) {pc : Nat} {Ls : Array Slot} {z : Int64} {rest : List Value} (hret : meth.sig.returnType = some .long) (hd : decode c.code pc = .ok (.lreturn, 1)) {fs : List Frame}
    (hl : ∀ (f : JFrame) (acts : List Action), f.method = m → f.locked = none → f.entered = [] → (doReturn e (T.setTop f) acts (some (.long z))).1 = T.setFrames fs) : Steps p.tables e below (T.setTop (mkF m pc Ls (.long z :: rest))) (T.setFrames fs) :=
  retOut X hx hret rfl (Or.inr (Or.inl ⟨rfl, rfl, z, rfl⟩)) hd hl
end New
/-- the rest of a walk: from here the run comes to an end with Q -/
def own_Fin (p : Program) (e : Env) (below : List Frame) (A : State) (Q : Outcome → State → Prop) : Prop :=
  ∃ t o, Steps p.tables e below A t ∧ t.status = .running ∧ Ended t below o ∧ Q o t
theorem own_go {p : Program} {e : Env} {below : List Frame} {A B : State} {Q : Outcome → State → Prop} (st : ∀ t, Steps p.tables e below A t → Steps p.tables e below B t) (k : own_Fin p e below A Q) : own_Fin p e below B Q := by
  obtain ⟨t, o, h, r⟩ := k; exact ⟨t, o, st t h, r⟩
theorem own_start {p : Program} {e : Env} {below : List Frame} {T : State} {g g' : JFrame} {Q : Outcome → State → Prop} (q : g = g') (k : own_Fin p e below (T.setTop g') Q) :
    ∃ t o, Steps p.tables e below (T.setTop g) t ∧ t.status = .running ∧ Ended t below o ∧ Q o t := by subst q; exact k
theorem own_cat {v : Value} (h : v.isRef = true) : v.category = 1 := by cases v <;> simp [Value.isRef] at h <;> rfl
theorem own_st1 {l l' : Array Slot} {i : Nat} {v : Value} (hold : (match l[i]? with | some .unset => true | some (.val w) => w.category == 1 | _ => false) = true) (hv : v.isRef = true) (e : l.setIfInBounds i (.val v) = l') : storeLocals l i v = some l' := by
  subst e
  cases h : l[i]? with
  | none => simp [h] at hold
  | some o =>
    refine Jvm.Free.XS.store1 h ?_ (own_cat hv)
    cases o with
    | unset => exact Or.inl rfl
    | second => simp [h] at hold
    | val w => simp [h] at hold; exact Or.inr ⟨w, rfl, hold⟩
theorem own_st2 {l l' : Array Slot} {i : Nat} {v : Value} {o : Slot} (hold : l[i]? = some o) (ho : One o) (hv : v.category = 1) (e : l.setIfInBounds i (.val v) = l') : storeLocals l i v = some l' := by
  subst e; exact Jvm.Free.XS.store1 hold ho hv
theorem own_fitR {v : Value} {C : String} (h : v.isRef = true) : fits (.object C) v = true := by cases v <;> simp [Value.isRef, fits] at h ⊢
theorem own_osz {Z : State} {n0 : Nat} {h : Heap} (O : Old Z n0 h) : n0 ≤ h.size := O.1 ▸ O.2.1
def own_bi (P : Prop) [Decidable P] : Int32 := if P then 1 else 0
theorem own_bi1 {P : Prop} [Decidable P] (h : P) : own_bi P = 1 := if_pos h
theorem own_bi0 {P : Prop} [Decidable P] (h : ¬ P) : own_bi P = 0 := if_neg h
theorem own_bz {P : Prop} [Decidable P] (h : ¬ P) : own_bi P = 0 := if_neg h
theorem own_bn {P : Prop} [Decidable P] (h : P) : ¬ own_bi P = 0 := by rw [own_bi1 h]; decide
theorem own_narb {P : Prop} [Decidable P] : nar .boolean (own_bi P) = own_bi P := by unfold own_bi; split <;> decide
theorem own_narbi (P : Prop) [Decidable P] : narrow .boolean (.int (own_bi P)) = .int (own_bi P) := by unfold own_bi; split <;> rfl
theorem own_fitbi (P : Prop) [Decidable P] : fits .boolean (.int (own_bi P)) = true := by unfold own_bi; split <;> rfl
theorem own_e1 {P : Prop} [Decidable P] (h : P) : ¬ own_bi P = 0 := by rw [own_bi1 h]; decide
theorem own_e0 {P : Prop} [Decidable P] (h : ¬ P) : ¬ own_bi P = 1 := by rw [own_bi0 h]; decide
theorem own_retB {p : Program} {l : Launch} {e : Env} {R : Room} {s : State} {m : MethodId} {args : Array Value} {below : List Frame} {meth : Method} {c : Code} {T : State} {locs : List Loc} {cells slots : Nat} (X : Stand p l e R s m args below meth c T locs cells slots) (hx : p.tables.exec = Jvm.exec) {pc : Nat} {Ls : Array Slot} {P : Prop} [Decidable P] {rest : List Value} (hret : meth.sig.returnType = some .boolean) (hd : decode c.code pc = .ok (.ireturn, 1)) {fs : List Frame}
    (hl : ∀ (f : JFrame) (acts : List Action), f.method = m → f.locked = none → f.entered = [] → (doReturn e (T.setTop f) acts (some (.int (own_bi P)))).1 = T.setFrames fs) : Steps p.tables e below (T.setTop (mkF m pc Ls (.int (own_bi P) :: rest))) (T.setFrames fs) :=
  retN X hx (t := .boolean) hret (by simp) hd (by rw [own_narb]; exact hl)
theorem own_eqv {args : Array Value} {f s : State} {o : Option Outcome} {idx : List Nat} {a b : Term} {v : Value} (h : (Cond.eq a b).value args f o s idx = some true) (hb : b.eval args f o idx s = some v) (hk : (match v with | .int _ => true | .long _ => true | .ref _ => true | .null => true | _ => false) = true) : a.eval args f o idx s = some v := by
  obtain ⟨x, y, h1, h2, h3, h4⟩ := cmp_v (Or.inl h)
  rw [hb] at h2; cases h2
  rw [h1]
  cases x <;> cases v <;> simp [Kin, Value.isRef] at h3 h4 hk <;> simp [Cond.value, h1, hb] at h ⊢ <;> exact h
theorem own_eqBi {v : Option Value} {P : Prop} [Decidable P] (h : (v = some (.int 1) ∧ P) ∨ (v = some (.int 0) ∧ ¬ P)) : v = some (.int (own_bi P)) := by
  rcases h with ⟨h, q⟩ | ⟨h, q⟩
  · rw [h, own_bi1 q]
  · rw [h, own_bi0 q]
theorem own_up {cs : List Int32} (h : ∀ c ∈ cs, ¬ c < 0 ∧ ¬ (255 : Int32) < c) : ∀ c ∈ cs, ¬ c < 0 ∧ ¬ (65535 : Int32) < c := fun c hc => ⟨(h c hc).1, fun q => (h c hc).2 (by
  rw [Int32.lt_iff_toInt_lt] at q ⊢
  have e1 : (65535 : Int32).toInt = 65535 := by decide
  have e2 : (255 : Int32).toInt = 255 := by decide
  omega)⟩
theorem own_narid {a : Int32} (h : ¬ a < 0 ∧ ¬ (255 : Int32) < a) : nar .char a = a := by
  have e0 : (0 : Int32).toInt = 0 := by decide
  have e2 : (255 : Int32).toInt = 255 := by decide
  obtain ⟨h1, h2⟩ := h
  rw [Int32.lt_iff_toInt_lt] at h1 h2
  have q := c_i2c a
  rw [← Int32.toInt_inj]
  show a.toUInt32.toUInt16.toUInt32.toInt32.toInt = a.toInt
  omega
theorem own_nez {args : Array Value} {f s : State} {o : Option Outcome} {idx : List Nat} {t : Term} {z : Int32} (ev : t.eval args f o idx s = some (.int z)) (h : (Cond.not (Cond.eq t (Term.int 0))).value args f o s idx = some true) : ¬ z = 0 := by
  intro q; subst q; have h' := not_v h; simp [Cond.value, ev, Term.eval] at h'
theorem own_notOf {Z : State} {a0 : Array Value} {C O K : String} {n : Nat} (w : (Cond.superclass C O).before a0 Z = true) (w0 : (Cond.noSuperclass O).before a0 Z = true) (wi : (Cond.instantiable K n).before a0 Z = true) (hn : C ≠ K) (ho : O ≠ K) : ∃ c t, Z.vm.findClass C = some c ∧ Z.vm.findClass K = some t ∧ Z.vm.assignable c t = false := by
  obtain ⟨t, kt, g0, g2, g5, g7, -⟩ := Cond.instantiable_spec wi
  obtain ⟨c, h0⟩ := found_sup w
  obtain ⟨p, k, kp, h1, h2, h3, h4, h5, -, h7⟩ := Cond.superclass_spec h0 w
  obtain ⟨c', k', j1, j2, j3, -, -⟩ := Cond.noSuperclass_spec w0
  cases j1.symm.trans h1
  have ne := ids_ne h0 g0 hn
  have neo := ids_ne h1 g0 ho
  have g7' : kt.isInterface = false := by cases h : kt.isInterface <;> simp [h] at g7 ⊢
  have hs : ∀ fuel, Z.vm.isSubclassAux fuel c t = false := by
    intro fuel
    cases fuel with
    | zero => rfl
    | succ f =>
      cases f with
      | zero => simp [Vm.isSubclassAux, ne, h2, h4]
      | succ f => simp [Vm.isSubclassAux, ne, h2, h4, neo, j2, j3]
  refine ⟨c, t, h0, g0, ?_⟩
  show Z.vm.assignableAux (255 + 1) c t = false
  simp [Vm.assignableAux, ne, h2, g2, h5, g5, g7', Vm.isSubclass, hs]
theorem own_selS {args : Array Value} {s : State} {y w z : MethodName} {C : String} (h : (Cond.selects C w z).before args s = true) (e : z.cls = y.cls) (hpriv : s.PrivateAt y) (hinst : (Cond.instanceMethod y).before args s = true) (hy : y.cls ≠ "java/lang/invoke/MethodHandle" ∧ y.cls ≠ "java/lang/invoke/VarHandle") : (Cond.selects y.cls y y).before args s = true := by
  obtain ⟨c2, r2, m2, q1, q2, q3, q4, kP, hkP, hkPi⟩ := Cond.selects_spec h
  exact selects_self_of_private (c := m2.cls) (by rw [← e]; exact findClass_of_methodNamed q3) hkP hkPi hpriv hinst hy
theorem own_same {args : Array Value} {s : State} {y w z : MethodName} {C : String} (hinst : (Cond.instanceMethod y).before args s = true) (h : (Cond.selects C w z).before args s = true) (e : z.cls = y.cls) (hy : y.cls ≠ "java/lang/invoke/MethodHandle" ∧ y.cls ≠ "java/lang/invoke/VarHandle") : (Cond.sameMethod y.cls y.cls y.name y.desc).before args s = true := by
  obtain ⟨c2, r2, m2, q1, q2, q3, q4, kP, hkP, hkPi⟩ := Cond.selects_spec h
  obtain ⟨mk, methM, hnamed, hmethM, -, -⟩ := Cond.instanceMethod_spec hinst
  have hf : s.methodFound? y.cls y.name y.desc = some mk := State.methodFound?_of_named hnamed hy
  have hc : s.vm.findClass y.cls = some m2.cls := by rw [← e]; exact findClass_of_methodNamed q3
  have hn : s.methodNamed? ⟨y.cls, y.name, y.desc⟩ = some mk := hnamed
  simp [Cond.before, Cond.holds, Cond.value, hc, hf, hn, hkP, hkPi]
theorem own_nf {args : Array Value} {s : State} {y w z : MethodName} {C : String} (h : (Cond.selects C w z).before args s = true) (e : z.cls = y.cls) : NotFace s y := fun r0 h0 => by
  obtain ⟨c2, r2, m2, q1, q2, q3, q4, kP, hkP, hkPi⟩ := Cond.selects_spec h
  have a := findClass_of_methodNamed q3
  have b := findClass_of_methodNamed h0
  rw [e] at a
  have hc : m2.cls = r0.cls := Option.some.inj (a.symm.trans b)
  exact ⟨kP, by rw [← hc]; exact hkP, hkPi⟩
theorem own_selI {args : Array Value} {s : State} {y : MethodName} {n : Nat} (h : (Cond.instantiable y.cls n).before args s = true) (hpriv : s.PrivateAt y) (hinst : (Cond.instanceMethod y).before args s = true) (hy : y.cls ≠ "java/lang/invoke/MethodHandle" ∧ y.cls ≠ "java/lang/invoke/VarHandle") : (Cond.selects y.cls y y).before args s = true := by
  obtain ⟨c, k, h1, h2, h3, h4, -⟩ := Cond.instantiable_spec h
  exact selects_self_of_private h1 h2 (by cases hq : k.isInterface <;> simp [hq] at h4 ⊢) hpriv hinst hy
theorem own_selP {args : Array Value} {s : State} {y : MethodName} {S : String} (h : (Cond.superclass y.cls S).before args s = true) (hpriv : s.PrivateAt y) (hinst : (Cond.instanceMethod y).before args s = true) (hy : y.cls ≠ "java/lang/invoke/MethodHandle" ∧ y.cls ≠ "java/lang/invoke/VarHandle") : (Cond.selects y.cls y y).before args s = true := by
  obtain ⟨c, hc⟩ := found_sup h
  obtain ⟨p, k, kp, h1, h2, h3, h4, h5, h6, h7⟩ := Cond.superclass_spec hc h
  exact selects_self_of_private hc h2 h7 hpriv hinst hy
end Jvm.RoadKit
namespace Jvm.Pilot.@@N@@
open Jvm Jvm.ClassFile Sem Op Lib Jvm.Free Jvm.Stand Jvm.LawKit Jvm.RoadKit Bundle Jvm.Pilot.@@N@@.Jvm.D
theorem ow {Z : State} {a0 : Array Value} (hw : ∀ d ∈ tables_1, d.before a0 Z = true) (i : Nat) {d : Jvm.Cond} (h : tables_1[i]? = some d := by rfl) : d.before a0 Z = true := hw d (List.mem_of_getElem? h)
theorem d2_0 : decode jdk_37_method_2_code 0 = .ok (.aload_n 0, 1) := by decide +kernel
theorem d2_1 : decode jdk_37_method_2_code 1 = .ok (.getfield 7, 3) := by decide +kernel
theorem d2_4 : decode jdk_37_method_2_code 4 = .ok (.ireturn, 1) := by decide +kernel
theorem pn_0 : plainName "java/lang/Enum" = true := by first | (simp [plainName, overriddenIn]; done) | decide +kernel
theorem ef_rm2 (m : MethodId) (x0 : Addr) : entryFrame m #[(.ref x0)] 1 = mkF m 0 #[.val (.ref x0)] [] := by first | (simp [entryFrame, mkF, argsToLocals, Value.category]; done) | rfl
def Qrm2 (Z : State) (a : Addr) (z : Int32) (h0 : Heap) (n0 : Nat) (v : Option Value) (h : Heap) (L : List Loc) : Prop := v = some (.int z) ∧ Fr n0 L ∧ h = h0
set_option maxRecDepth 65536 in
set_option maxHeartbeats 40000000 in
theorem rm2 (l : Launch) (Z : State) (a0 : Array Value) (hw : ∀ d ∈ tables_1, d.before a0 Z = true) (ws : List Jvm.Cond) (a : Addr) (z : Int32) (h0 : Heap) (n0 : Nat) (O : Old Z n0 h0) (F_a_Enum_ordinal : Fld Z h0 a "java/lang/Enum" "ordinal" "I" (.int z)) :
    MetFree l (⟨"java/lang/Enum", "ordinal", "()I"⟩ : MethodName) (head1 (Jvm.Cond.code (⟨"java/lang/Enum", "ordinal", "()I"⟩ : MethodName) jdk_37_method_2_code 1 (some .int) :: ws) ({ frames := 0, cells := 0, slots := 0, locals := 0 } : Room)) (fun a' U' => a' = #[(.ref a)] ∧ Z.Warmed39 U'.vm ∧ U'.heap = h0) (fun _ _ _ _ _ => True) (fun _ U' o' W' => ∃ v' L', o' = .returned v' ∧ Qrm2 Z a z h0 n0 v' W'.heap L' ∧ FrameEnd U' o' W' L' ({ frames := 0, cells := 0, slots := 0, locals := 0 } : Room).cells ({ frames := 0, cells := 0, slots := 0, locals := 0 } : Room).slots) := by
  refine MetFree.of_bodySF (plainFor_of_name pn_0) hisR ?_
  intro p e s m args below meth c s₁ Bd hml0 hP hK
  obtain ⟨rfl, hZ, hh⟩ := hP
  have hx := Bd.exec
  have hby := Bd.bytes
  have hml : c.maxLocals = 1 := hml0
  have hown : s.vm.findClass "java/lang/Enum" = some m.cls := findClass_of_methodNamed Bd.named
  have hnm := (name_of_methodNamed Bd.named Bd.method).1
  have X0 : Stand p l e ({ frames := 0, cells := 0, slots := 0, locals := 0 } : Room) s m #[(.ref a)] below meth c s₁ [] 0 0 := Stand.of_body Bd
  have e0 : s₁.heap = h0 := by rw [← hh, Bd.state]; rfl
  have N0 := Fr.nil n0
  refine own_start (ef_rm2 m a) (Q := fun o' t' => ∃ v' L', o' = .returned v' ∧ Qrm2 Z a z h0 n0 v' t'.heap L' ∧ FrameEnd s o' t' L' ({ frames := 0, cells := 0, slots := 0, locals := 0 } : Room).cells ({ frames := 0, cells := 0, slots := 0, locals := 0 } : Room).slots) ?_
  show own_Fin p e below (s₁.setTop (mkF m 0 #[.val (.ref a)] [])) _
  refine own_go (fun _ k => XS.aloadN X0.here hx rfl (hb hby d2_0) rfl rfl k) ?_
  show own_Fin p e below (s₁.setTop (mkF m 1 #[.val (.ref a)] [(.ref a)])) _
  obtain ⟨T1, X1, e1, st1⟩ := getF X0 hx hZ hown (host := "") (Or.inl (ow hw 27)) Via.refl e0 F_a_Enum_ordinal (g := (mkF m 1 #[.val (.ref a)] [(.ref a)])) rfl rfl (hb hby d2_1)
  refine own_go (fun _ k => st1 _ k) ?_
  show own_Fin p e below (T1.setTop (mkF m 4 #[.val (.ref a)] [(.int z)])) _
  obtain ⟨fs, hr, hrun, hended, hW, hsame⟩ := X1.leave (v := some (.int z)) (fun h => by rw [Bd.returns] at h; cases h)
  refine ⟨_, _, ?_, hrun, hended, _, _, rfl, ?_, ⟨_, rfl⟩, hW, hsame.mono (by decide) (by decide)⟩
  ·exact own_retI X1 hx Bd.returns (hb hby d2_4) hr
  ·show Qrm2 Z a z h0 n0 _ T1.heap _
   rw [e1]
   exact ⟨rfl, N0, rfl⟩
theorem d1_0 : decode prog_49_method_8_code 0 = .ok (.aload_n 0, 1) := by decide +kernel
theorem d1_1 : decode prog_49_method_8_code 1 = .ok (.invokevirtual 68, 3) := by decide +kernel
theorem pd_0 : parseMethodDescriptor "()I" = some ⟨[], some .int⟩ := by decide +kernel
theorem d1_4 : decode prog_49_method_8_code 4 = .ok (.tableswitch 36 0 4 #[46, 46, 52, 52, 58], 36) := by decide +kernel
theorem d1_50 : decode prog_49_method_8_code 50 = .ok (.getstatic 7, 3) := by decide +kernel
theorem d1_53 : decode prog_49_method_8_code 53 = .ok (.goto 12, 3) := by decide +kernel
theorem d1_65 : decode prog_49_method_8_code 65 = .ok (.areturn, 1) := by decide +kernel
theorem pn_1 : plainName "com/example/crete/crete/policy/NameKind" = true := by first | (simp [plainName, overriddenIn]; done) | decide +kernel
theorem ef_rm1_0 (m : MethodId) (x0 : Addr) : entryFrame m #[(.ref x0)] 1 = mkF m 0 #[.val (.ref x0)] [] := by first | (simp [entryFrame, mkF, argsToLocals, Value.category]; done) | rfl
def Qrm1_0 (Z : State) (a : Addr) (w : Addr) (h0 : Heap) (n0 : Nat) (v : Option Value) (h : Heap) (L : List Loc) : Prop := v = some (.ref w) ∧ Fr n0 L ∧ h = h0
set_option maxRecDepth 65536 in
set_option maxHeartbeats 40000000 in
theorem rm1_0 (l : Launch) (Z : State) (a0 : Array Value) (hw : ∀ d ∈ tables_1, d.before a0 Z = true) (ws : List Jvm.Cond) (a : Addr) (w : Addr) (h0 : Heap) (n0 : Nat) (O : Old Z n0 h0) (E_a : Exa Z h0 a "com/example/crete/crete/policy/NameKind") (F_a_Enum_ordinal : Fld Z h0 a "java/lang/Enum" "ordinal" "I" (.int 0)) (S_NameKind_GROUP : Sta Z Z.heap "com/example/crete/crete/policy/NameKind" "GROUP" "Lcom/example/crete/crete/policy/NameKind;" (.ref w)) :
    MetFree l (⟨"com/example/crete/crete/policy/NameKind", "parentKind", "()Lcom/example/crete/crete/policy/NameKind;"⟩ : MethodName) (head1 (Jvm.Cond.code (⟨"com/example/crete/crete/policy/NameKind", "parentKind", "()Lcom/example/crete/crete/policy/NameKind;"⟩ : MethodName) prog_49_method_8_code 1 (some (.object "com/example/crete/crete/policy/NameKind")) :: ws) ({ frames := 1, cells := 0, slots := 0, locals := 12 } : Room)) (fun a' U' => a' = #[(.ref a)] ∧ Z.Warmed39 U'.vm ∧ U'.heap = h0) (fun _ _ _ _ _ => True) (fun _ U' o' W' => ∃ v' L', o' = .returned v' ∧ Qrm1_0 Z a w h0 n0 v' W'.heap L' ∧ FrameEnd U' o' W' L' ({ frames := 1, cells := 0, slots := 0, locals := 12 } : Room).cells ({ frames := 1, cells := 0, slots := 0, locals := 12 } : Room).slots) := by
  refine MetFree.of_bodySF (plainFor_of_name pn_1) hisR ?_
  intro p e s m args below meth c s₁ Bd hml0 hP hK
  obtain ⟨rfl, hZ, hh⟩ := hP
  have hx := Bd.exec
  have hby := Bd.bytes
  have hml : c.maxLocals = 1 := hml0
  have hown : s.vm.findClass "com/example/crete/crete/policy/NameKind" = some m.cls := findClass_of_methodNamed Bd.named
  have hnm := (name_of_methodNamed Bd.named Bd.method).1
  have X0 : Stand p l e ({ frames := 1, cells := 0, slots := 0, locals := 12 } : Room) s m #[(.ref a)] below meth c s₁ [] 0 0 := Stand.of_body Bd
  have e0 : s₁.heap = h0 := by rw [← hh, Bd.state]; rfl
  have N0 := Fr.nil n0
  refine own_start (ef_rm1_0 m a) (Q := fun o' t' => ∃ v' L', o' = .returned v' ∧ Qrm1_0 Z a w h0 n0 v' t'.heap L' ∧ FrameEnd s o' t' L' ({ frames := 1, cells := 0, slots := 0, locals := 12 } : Room).cells ({ frames := 1, cells := 0, slots := 0, locals := 12 } : Room).slots) ?_
  show own_Fin p e below (s₁.setTop (mkF m 0 #[.val (.ref a)] [])) _
  refine own_go (fun _ k => XS.aloadN X0.here hx rfl (hb hby d1_0) rfl rfl k) ?_
  show own_Fin p e below (s₁.setTop (mkF m 1 #[.val (.ref a)] [(.ref a)])) _
  obtain ⟨cq3, kq3, q3a, q3b, q3c⟩ := isOf hZ e0 E_a
  obtain ⟨_, _, ⟨T3, L3, k3, n3⟩, -, X3, ⟨Lc3, hQ3, l3, y3, z3⟩, st3⟩ := X0.virtualBackUp hx (x := (⟨"com/example/crete/crete/policy/NameKind", "ordinal", "()I"⟩ : MethodName)) (y := (⟨"java/lang/Enum", "ordinal", "()I"⟩ : MethodName)) (owner := "java/lang/Enum") hown (mvT hZ (ow hw 20)) (mvT hZ (ow hw 21)) (mvT hZ (ow hw 22)) (by decide) (mvT hZ (ow hw 24)) (mvT hZ (ow hw 23)) (backOf (W := 0) (rm2 l Z a0 hw [] a (0 : Int32) h0 n0 O F_a_Enum_ordinal) hZ (ow hw 26) (ow hw 25) (by decide) (by decide)) q3a q3c (g := (mkF m 1 #[.val (.ref a)] [(.ref a)])) rfl (by rw [hml]; rfl) (Steps.refl _) (argsL := []) (rest := []) (lenOf pd_0 rfl) rfl (by show 2 * 0 + _ ≤ _; exact Nat.le_of_eq rfl) (hb hby d1_1) (fun _ _ => ⟨rfl, e0, (by decide : 0 + 0 ≤ _), (by decide : 0 + 0 ≤ _)⟩)
  dsimp only [Pt.U, Pt.locs, Pt.cells, Pt.slots] at X3 l3 y3 z3 st3 hQ3
  subst l3 y3 z3
  obtain ⟨rfl, N3q, e3⟩ := hQ3
  refine own_go (fun _ k => st3.trans k) ?_
  have N3 := Fr.app N0 N3q
  show own_Fin p e below (T3.setTop (mkF m 4 #[.val (.ref a)] [(.int 0)])) _
  refine own_go (fun _ k => XS.tswIn X3.here hx rfl (pc0 := 4) (pc' := 50) rfl (hb hby d1_4) rfl (by decide) rfl (by decide) (by decide) k) ?_
  show own_Fin p e below (T3.setTop (mkF m 50 #[.val (.ref a)] [])) _
  obtain ⟨T4, X4, e4, st4⟩ := getS2 X3 hx hZ hown (host := "") (Or.inl (ow hw 29)) Via.refl e3 (S_NameKind_GROUP.ext O.2) (g := (mkF m 50 #[.val (.ref a)] [])) rfl (hb hby d1_50)
  refine own_go (fun _ k => st4 _ k) ?_
  show own_Fin p e below (T4.setTop (mkF m 53 #[.val (.ref a)] [(.ref w)])) _
  refine own_go (fun _ k => XS.goto X4.here hx rfl (pc0 := 53) (pc' := 65) rfl (hb hby d1_53) (by decide) (by decide) k) ?_
  show own_Fin p e below (T4.setTop (mkF m 65 #[.val (.ref a)] [(.ref w)])) _
  obtain ⟨fs, hr, hrun, hended, hW, hsame⟩ := X4.leave (v := some (.ref w)) (fun h => by rw [Bd.returns] at h; cases h)
  refine ⟨_, _, ?_, hrun, hended, _, _, rfl, ?_, ⟨_, rfl⟩, hW, hsame.mono (by decide) (by decide)⟩
  ·exact X4.areturnOut hx rfl Bd.returns rfl (hb hby d1_65) hr
  ·show Qrm1_0 Z a w h0 n0 _ T4.heap _
   rw [e4]
   exact ⟨rfl, N3, rfl⟩
theorem ef_rm1_1 (m : MethodId) (x0 : Addr) : entryFrame m #[(.ref x0)] 1 = mkF m 0 #[.val (.ref x0)] [] := by first | (simp [entryFrame, mkF, argsToLocals, Value.category]; done) | rfl
def Qrm1_1 (Z : State) (a : Addr) (w : Addr) (h0 : Heap) (n0 : Nat) (v : Option Value) (h : Heap) (L : List Loc) : Prop := v = some (.ref w) ∧ Fr n0 L ∧ h = h0
set_option maxRecDepth 65536 in
set_option maxHeartbeats 40000000 in
theorem rm1_1 (l : Launch) (Z : State) (a0 : Array Value) (hw : ∀ d ∈ tables_1, d.before a0 Z = true) (ws : List Jvm.Cond) (a : Addr) (w : Addr) (h0 : Heap) (n0 : Nat) (O : Old Z n0 h0) (E_a : Exa Z h0 a "com/example/crete/crete/policy/NameKind") (F_a_Enum_ordinal : Fld Z h0 a "java/lang/Enum" "ordinal" "I" (.int 1)) (S_NameKind_GROUP : Sta Z Z.heap "com/example/crete/crete/policy/NameKind" "GROUP" "Lcom/example/crete/crete/policy/NameKind;" (.ref w)) :
    MetFree l (⟨"com/example/crete/crete/policy/NameKind", "parentKind", "()Lcom/example/crete/crete/policy/NameKind;"⟩ : MethodName) (head1 (Jvm.Cond.code (⟨"com/example/crete/crete/policy/NameKind", "parentKind", "()Lcom/example/crete/crete/policy/NameKind;"⟩ : MethodName) prog_49_method_8_code 1 (some (.object "com/example/crete/crete/policy/NameKind")) :: ws) ({ frames := 1, cells := 0, slots := 0, locals := 12 } : Room)) (fun a' U' => a' = #[(.ref a)] ∧ Z.Warmed39 U'.vm ∧ U'.heap = h0) (fun _ _ _ _ _ => True) (fun _ U' o' W' => ∃ v' L', o' = .returned v' ∧ Qrm1_1 Z a w h0 n0 v' W'.heap L' ∧ FrameEnd U' o' W' L' ({ frames := 1, cells := 0, slots := 0, locals := 12 } : Room).cells ({ frames := 1, cells := 0, slots := 0, locals := 12 } : Room).slots) := by
  refine MetFree.of_bodySF (plainFor_of_name pn_1) hisR ?_
  intro p e s m args below meth c s₁ Bd hml0 hP hK
  obtain ⟨rfl, hZ, hh⟩ := hP
  have hx := Bd.exec
  have hby := Bd.bytes
  have hml : c.maxLocals = 1 := hml0
  have hown : s.vm.findClass "com/example/crete/crete/policy/NameKind" = some m.cls := findClass_of_methodNamed Bd.named
  have hnm := (name_of_methodNamed Bd.named Bd.method).1
  have X0 : Stand p l e ({ frames := 1, cells := 0, slots := 0, locals := 12 } : Room) s m #[(.ref a)] below meth c s₁ [] 0 0 := Stand.of_body Bd
  have e0 : s₁.heap = h0 := by rw [← hh, Bd.state]; rfl
  have N0 := Fr.nil n0
  refine own_start (ef_rm1_1 m a) (Q := fun o' t' => ∃ v' L', o' = .returned v' ∧ Qrm1_1 Z a w h0 n0 v' t'.heap L' ∧ FrameEnd s o' t' L' ({ frames := 1, cells := 0, slots := 0, locals := 12 } : Room).cells ({ frames := 1, cells := 0, slots := 0, locals := 12 } : Room).slots) ?_
  show own_Fin p e below (s₁.setTop (mkF m 0 #[.val (.ref a)] [])) _
  refine own_go (fun _ k => XS.aloadN X0.here hx rfl (hb hby d1_0) rfl rfl k) ?_
  show own_Fin p e below (s₁.setTop (mkF m 1 #[.val (.ref a)] [(.ref a)])) _
  obtain ⟨cq6, kq6, q6a, q6b, q6c⟩ := isOf hZ e0 E_a
  obtain ⟨_, _, ⟨T6, L6, k6, n6⟩, -, X6, ⟨Lc6, hQ6, l6, y6, z6⟩, st6⟩ := X0.virtualBackUp hx (x := (⟨"com/example/crete/crete/policy/NameKind", "ordinal", "()I"⟩ : MethodName)) (y := (⟨"java/lang/Enum", "ordinal", "()I"⟩ : MethodName)) (owner := "java/lang/Enum") hown (mvT hZ (ow hw 20)) (mvT hZ (ow hw 21)) (mvT hZ (ow hw 22)) (by decide) (mvT hZ (ow hw 24)) (mvT hZ (ow hw 23)) (backOf (W := 0) (rm2 l Z a0 hw [] a (1 : Int32) h0 n0 O F_a_Enum_ordinal) hZ (ow hw 26) (ow hw 25) (by decide) (by decide)) q6a q6c (g := (mkF m 1 #[.val (.ref a)] [(.ref a)])) rfl (by rw [hml]; rfl) (Steps.refl _) (argsL := []) (rest := []) (lenOf pd_0 rfl) rfl (by show 2 * 0 + _ ≤ _; exact Nat.le_of_eq rfl) (hb hby d1_1) (fun _ _ => ⟨rfl, e0, (by decide : 0 + 0 ≤ _), (by decide : 0 + 0 ≤ _)⟩)
  dsimp only [Pt.U, Pt.locs, Pt.cells, Pt.slots] at X6 l6 y6 z6 st6 hQ6
  subst l6 y6 z6
  obtain ⟨rfl, N6q, e6⟩ := hQ6
  refine own_go (fun _ k => st6.trans k) ?_
  have N6 := Fr.app N0 N6q
  show own_Fin p e below (T6.setTop (mkF m 4 #[.val (.ref a)] [(.int 1)])) _
  refine own_go (fun _ k => XS.tswIn X6.here hx rfl (pc0 := 4) (pc' := 50) rfl (hb hby d1_4) rfl (by decide) rfl (by decide) (by decide) k) ?_
  show own_Fin p e below (T6.setTop (mkF m 50 #[.val (.ref a)] [])) _
  obtain ⟨T7, X7, e7, st7⟩ := getS2 X6 hx hZ hown (host := "") (Or.inl (ow hw 29)) Via.refl e6 (S_NameKind_GROUP.ext O.2) (g := (mkF m 50 #[.val (.ref a)] [])) rfl (hb hby d1_50)
  refine own_go (fun _ k => st7 _ k) ?_
  show own_Fin p e below (T7.setTop (mkF m 53 #[.val (.ref a)] [(.ref w)])) _
  refine own_go (fun _ k => XS.goto X7.here hx rfl (pc0 := 53) (pc' := 65) rfl (hb hby d1_53) (by decide) (by decide) k) ?_
  show own_Fin p e below (T7.setTop (mkF m 65 #[.val (.ref a)] [(.ref w)])) _
  obtain ⟨fs, hr, hrun, hended, hW, hsame⟩ := X7.leave (v := some (.ref w)) (fun h => by rw [Bd.returns] at h; cases h)
  refine ⟨_, _, ?_, hrun, hended, _, _, rfl, ?_, ⟨_, rfl⟩, hW, hsame.mono (by decide) (by decide)⟩
  ·exact X7.areturnOut hx rfl Bd.returns rfl (hb hby d1_65) hr
  ·show Qrm1_1 Z a w h0 n0 _ T7.heap _
   rw [e7]
   exact ⟨rfl, N6, rfl⟩
theorem d1_56 : decode prog_49_method_8_code 56 = .ok (.getstatic 13, 3) := by decide +kernel
theorem d1_59 : decode prog_49_method_8_code 59 = .ok (.goto 6, 3) := by decide +kernel
theorem ef_rm1_2 (m : MethodId) (x0 : Addr) : entryFrame m #[(.ref x0)] 1 = mkF m 0 #[.val (.ref x0)] [] := by first | (simp [entryFrame, mkF, argsToLocals, Value.category]; done) | rfl
def Qrm1_2 (Z : State) (a : Addr) (w : Addr) (h0 : Heap) (n0 : Nat) (v : Option Value) (h : Heap) (L : List Loc) : Prop := v = some (.ref w) ∧ Fr n0 L ∧ h = h0
set_option maxRecDepth 65536 in
set_option maxHeartbeats 40000000 in
theorem rm1_2 (l : Launch) (Z : State) (a0 : Array Value) (hw : ∀ d ∈ tables_1, d.before a0 Z = true) (ws : List Jvm.Cond) (a : Addr) (w : Addr) (h0 : Heap) (n0 : Nat) (O : Old Z n0 h0) (E_a : Exa Z h0 a "com/example/crete/crete/policy/NameKind") (F_a_Enum_ordinal : Fld Z h0 a "java/lang/Enum" "ordinal" "I" (.int 2)) (S_NameKind_CLASS : Sta Z Z.heap "com/example/crete/crete/policy/NameKind" "CLASS" "Lcom/example/crete/crete/policy/NameKind;" (.ref w)) :
    MetFree l (⟨"com/example/crete/crete/policy/NameKind", "parentKind", "()Lcom/example/crete/crete/policy/NameKind;"⟩ : MethodName) (head1 (Jvm.Cond.code (⟨"com/example/crete/crete/policy/NameKind", "parentKind", "()Lcom/example/crete/crete/policy/NameKind;"⟩ : MethodName) prog_49_method_8_code 1 (some (.object "com/example/crete/crete/policy/NameKind")) :: ws) ({ frames := 1, cells := 0, slots := 0, locals := 12 } : Room)) (fun a' U' => a' = #[(.ref a)] ∧ Z.Warmed39 U'.vm ∧ U'.heap = h0) (fun _ _ _ _ _ => True) (fun _ U' o' W' => ∃ v' L', o' = .returned v' ∧ Qrm1_2 Z a w h0 n0 v' W'.heap L' ∧ FrameEnd U' o' W' L' ({ frames := 1, cells := 0, slots := 0, locals := 12 } : Room).cells ({ frames := 1, cells := 0, slots := 0, locals := 12 } : Room).slots) := by
  refine MetFree.of_bodySF (plainFor_of_name pn_1) hisR ?_
  intro p e s m args below meth c s₁ Bd hml0 hP hK
  obtain ⟨rfl, hZ, hh⟩ := hP
  have hx := Bd.exec
  have hby := Bd.bytes
  have hml : c.maxLocals = 1 := hml0
  have hown : s.vm.findClass "com/example/crete/crete/policy/NameKind" = some m.cls := findClass_of_methodNamed Bd.named
  have hnm := (name_of_methodNamed Bd.named Bd.method).1
  have X0 : Stand p l e ({ frames := 1, cells := 0, slots := 0, locals := 12 } : Room) s m #[(.ref a)] below meth c s₁ [] 0 0 := Stand.of_body Bd
  have e0 : s₁.heap = h0 := by rw [← hh, Bd.state]; rfl
  have N0 := Fr.nil n0
  refine own_start (ef_rm1_2 m a) (Q := fun o' t' => ∃ v' L', o' = .returned v' ∧ Qrm1_2 Z a w h0 n0 v' t'.heap L' ∧ FrameEnd s o' t' L' ({ frames := 1, cells := 0, slots := 0, locals := 12 } : Room).cells ({ frames := 1, cells := 0, slots := 0, locals := 12 } : Room).slots) ?_
  show own_Fin p e below (s₁.setTop (mkF m 0 #[.val (.ref a)] [])) _
  refine own_go (fun _ k => XS.aloadN X0.here hx rfl (hb hby d1_0) rfl rfl k) ?_
  show own_Fin p e below (s₁.setTop (mkF m 1 #[.val (.ref a)] [(.ref a)])) _
  obtain ⟨cq9, kq9, q9a, q9b, q9c⟩ := isOf hZ e0 E_a
  obtain ⟨_, _, ⟨T9, L9, k9, n9⟩, -, X9, ⟨Lc9, hQ9, l9, y9, z9⟩, st9⟩ := X0.virtualBackUp hx (x := (⟨"com/example/crete/crete/policy/NameKind", "ordinal", "()I"⟩ : MethodName)) (y := (⟨"java/lang/Enum", "ordinal", "()I"⟩ : MethodName)) (owner := "java/lang/Enum") hown (mvT hZ (ow hw 20)) (mvT hZ (ow hw 21)) (mvT hZ (ow hw 22)) (by decide) (mvT hZ (ow hw 24)) (mvT hZ (ow hw 23)) (backOf (W := 0) (rm2 l Z a0 hw [] a (2 : Int32) h0 n0 O F_a_Enum_ordinal) hZ (ow hw 26) (ow hw 25) (by decide) (by decide)) q9a q9c (g := (mkF m 1 #[.val (.ref a)] [(.ref a)])) rfl (by rw [hml]; rfl) (Steps.refl _) (argsL := []) (rest := []) (lenOf pd_0 rfl) rfl (by show 2 * 0 + _ ≤ _; exact Nat.le_of_eq rfl) (hb hby d1_1) (fun _ _ => ⟨rfl, e0, (by decide : 0 + 0 ≤ _), (by decide : 0 + 0 ≤ _)⟩)
  dsimp only [Pt.U, Pt.locs, Pt.cells, Pt.slots] at X9 l9 y9 z9 st9 hQ9
  subst l9 y9 z9
  obtain ⟨rfl, N9q, e9⟩ := hQ9
  refine own_go (fun _ k => st9.trans k) ?_
  have N9 := Fr.app N0 N9q
  show own_Fin p e below (T9.setTop (mkF m 4 #[.val (.ref a)] [(.int 2)])) _
  refine own_go (fun _ k => XS.tswIn X9.here hx rfl (pc0 := 4) (pc' := 56) rfl (hb hby d1_4) rfl (by decide) rfl (by decide) (by decide) k) ?_
  show own_Fin p e below (T9.setTop (mkF m 56 #[.val (.ref a)] [])) _
  obtain ⟨T10, X10, e10, st10⟩ := getS2 X9 hx hZ hown (host := "") (Or.inl (ow hw 43)) Via.refl e9 (S_NameKind_CLASS.ext O.2) (g := (mkF m 56 #[.val (.ref a)] [])) rfl (hb hby d1_56)
  refine own_go (fun _ k => st10 _ k) ?_
  show own_Fin p e below (T10.setTop (mkF m 59 #[.val (.ref a)] [(.ref w)])) _
  refine own_go (fun _ k => XS.goto X10.here hx rfl (pc0 := 59) (pc' := 65) rfl (hb hby d1_59) (by decide) (by decide) k) ?_
  show own_Fin p e below (T10.setTop (mkF m 65 #[.val (.ref a)] [(.ref w)])) _
  obtain ⟨fs, hr, hrun, hended, hW, hsame⟩ := X10.leave (v := some (.ref w)) (fun h => by rw [Bd.returns] at h; cases h)
  refine ⟨_, _, ?_, hrun, hended, _, _, rfl, ?_, ⟨_, rfl⟩, hW, hsame.mono (by decide) (by decide)⟩
  ·exact X10.areturnOut hx rfl Bd.returns rfl (hb hby d1_65) hr
  ·show Qrm1_2 Z a w h0 n0 _ T10.heap _
   rw [e10]
   exact ⟨rfl, N9, rfl⟩
theorem ef_rm1_3 (m : MethodId) (x0 : Addr) : entryFrame m #[(.ref x0)] 1 = mkF m 0 #[.val (.ref x0)] [] := by first | (simp [entryFrame, mkF, argsToLocals, Value.category]; done) | rfl
def Qrm1_3 (Z : State) (a : Addr) (w : Addr) (h0 : Heap) (n0 : Nat) (v : Option Value) (h : Heap) (L : List Loc) : Prop := v = some (.ref w) ∧ Fr n0 L ∧ h = h0
set_option maxRecDepth 65536 in
set_option maxHeartbeats 40000000 in
theorem rm1_3 (l : Launch) (Z : State) (a0 : Array Value) (hw : ∀ d ∈ tables_1, d.before a0 Z = true) (ws : List Jvm.Cond) (a : Addr) (w : Addr) (h0 : Heap) (n0 : Nat) (O : Old Z n0 h0) (E_a : Exa Z h0 a "com/example/crete/crete/policy/NameKind") (F_a_Enum_ordinal : Fld Z h0 a "java/lang/Enum" "ordinal" "I" (.int 3)) (S_NameKind_CLASS : Sta Z Z.heap "com/example/crete/crete/policy/NameKind" "CLASS" "Lcom/example/crete/crete/policy/NameKind;" (.ref w)) :
    MetFree l (⟨"com/example/crete/crete/policy/NameKind", "parentKind", "()Lcom/example/crete/crete/policy/NameKind;"⟩ : MethodName) (head1 (Jvm.Cond.code (⟨"com/example/crete/crete/policy/NameKind", "parentKind", "()Lcom/example/crete/crete/policy/NameKind;"⟩ : MethodName) prog_49_method_8_code 1 (some (.object "com/example/crete/crete/policy/NameKind")) :: ws) ({ frames := 1, cells := 0, slots := 0, locals := 12 } : Room)) (fun a' U' => a' = #[(.ref a)] ∧ Z.Warmed39 U'.vm ∧ U'.heap = h0) (fun _ _ _ _ _ => True) (fun _ U' o' W' => ∃ v' L', o' = .returned v' ∧ Qrm1_3 Z a w h0 n0 v' W'.heap L' ∧ FrameEnd U' o' W' L' ({ frames := 1, cells := 0, slots := 0, locals := 12 } : Room).cells ({ frames := 1, cells := 0, slots := 0, locals := 12 } : Room).slots) := by
  refine MetFree.of_bodySF (plainFor_of_name pn_1) hisR ?_
  intro p e s m args below meth c s₁ Bd hml0 hP hK
  obtain ⟨rfl, hZ, hh⟩ := hP
  have hx := Bd.exec
  have hby := Bd.bytes
  have hml : c.maxLocals = 1 := hml0
  have hown : s.vm.findClass "com/example/crete/crete/policy/NameKind" = some m.cls := findClass_of_methodNamed Bd.named
  have hnm := (name_of_methodNamed Bd.named Bd.method).1
  have X0 : Stand p l e ({ frames := 1, cells := 0, slots := 0, locals := 12 } : Room) s m #[(.ref a)] below meth c s₁ [] 0 0 := Stand.of_body Bd
  have e0 : s₁.heap = h0 := by rw [← hh, Bd.state]; rfl
  have N0 := Fr.nil n0
  refine own_start (ef_rm1_3 m a) (Q := fun o' t' => ∃ v' L', o' = .returned v' ∧ Qrm1_3 Z a w h0 n0 v' t'.heap L' ∧ FrameEnd s o' t' L' ({ frames := 1, cells := 0, slots := 0, locals := 12 } : Room).cells ({ frames := 1, cells := 0, slots := 0, locals := 12 } : Room).slots) ?_
  show own_Fin p e below (s₁.setTop (mkF m 0 #[.val (.ref a)] [])) _
  refine own_go (fun _ k => XS.aloadN X0.here hx rfl (hb hby d1_0) rfl rfl k) ?_
  show own_Fin p e below (s₁.setTop (mkF m 1 #[.val (.ref a)] [(.ref a)])) _
  obtain ⟨cq12, kq12, q12a, q12b, q12c⟩ := isOf hZ e0 E_a
  obtain ⟨_, _, ⟨T12, L12, k12, n12⟩, -, X12, ⟨Lc12, hQ12, l12, y12, z12⟩, st12⟩ := X0.virtualBackUp hx (x := (⟨"com/example/crete/crete/policy/NameKind", "ordinal", "()I"⟩ : MethodName)) (y := (⟨"java/lang/Enum", "ordinal", "()I"⟩ : MethodName)) (owner := "java/lang/Enum") hown (mvT hZ (ow hw 20)) (mvT hZ (ow hw 21)) (mvT hZ (ow hw 22)) (by decide) (mvT hZ (ow hw 24)) (mvT hZ (ow hw 23)) (backOf (W := 0) (rm2 l Z a0 hw [] a (3 : Int32) h0 n0 O F_a_Enum_ordinal) hZ (ow hw 26) (ow hw 25) (by decide) (by decide)) q12a q12c (g := (mkF m 1 #[.val (.ref a)] [(.ref a)])) rfl (by rw [hml]; rfl) (Steps.refl _) (argsL := []) (rest := []) (lenOf pd_0 rfl) rfl (by show 2 * 0 + _ ≤ _; exact Nat.le_of_eq rfl) (hb hby d1_1) (fun _ _ => ⟨rfl, e0, (by decide : 0 + 0 ≤ _), (by decide : 0 + 0 ≤ _)⟩)
  dsimp only [Pt.U, Pt.locs, Pt.cells, Pt.slots] at X12 l12 y12 z12 st12 hQ12
  subst l12 y12 z12
  obtain ⟨rfl, N12q, e12⟩ := hQ12
  refine own_go (fun _ k => st12.trans k) ?_
  have N12 := Fr.app N0 N12q
  show own_Fin p e below (T12.setTop (mkF m 4 #[.val (.ref a)] [(.int 3)])) _
  refine own_go (fun _ k => XS.tswIn X12.here hx rfl (pc0 := 4) (pc' := 56) rfl (hb hby d1_4) rfl (by decide) rfl (by decide) (by decide) k) ?_
  show own_Fin p e below (T12.setTop (mkF m 56 #[.val (.ref a)] [])) _
  obtain ⟨T13, X13, e13, st13⟩ := getS2 X12 hx hZ hown (host := "") (Or.inl (ow hw 43)) Via.refl e12 (S_NameKind_CLASS.ext O.2) (g := (mkF m 56 #[.val (.ref a)] [])) rfl (hb hby d1_56)
  refine own_go (fun _ k => st13 _ k) ?_
  show own_Fin p e below (T13.setTop (mkF m 59 #[.val (.ref a)] [(.ref w)])) _
  refine own_go (fun _ k => XS.goto X13.here hx rfl (pc0 := 59) (pc' := 65) rfl (hb hby d1_59) (by decide) (by decide) k) ?_
  show own_Fin p e below (T13.setTop (mkF m 65 #[.val (.ref a)] [(.ref w)])) _
  obtain ⟨fs, hr, hrun, hended, hW, hsame⟩ := X13.leave (v := some (.ref w)) (fun h => by rw [Bd.returns] at h; cases h)
  refine ⟨_, _, ?_, hrun, hended, _, _, rfl, ?_, ⟨_, rfl⟩, hW, hsame.mono (by decide) (by decide)⟩
  ·exact X13.areturnOut hx rfl Bd.returns rfl (hb hby d1_65) hr
  ·show Qrm1_3 Z a w h0 n0 _ T13.heap _
   rw [e13]
   exact ⟨rfl, N12, rfl⟩
theorem d1_62 : decode prog_49_method_8_code 62 = .ok (.getstatic 16, 3) := by decide +kernel
theorem ef_rm1_4 (m : MethodId) (x0 : Addr) : entryFrame m #[(.ref x0)] 1 = mkF m 0 #[.val (.ref x0)] [] := by first | (simp [entryFrame, mkF, argsToLocals, Value.category]; done) | rfl
def Qrm1_4 (Z : State) (a : Addr) (w : Addr) (h0 : Heap) (n0 : Nat) (v : Option Value) (h : Heap) (L : List Loc) : Prop := v = some (.ref w) ∧ Fr n0 L ∧ h = h0
set_option maxRecDepth 65536 in
set_option maxHeartbeats 40000000 in
theorem rm1_4 (l : Launch) (Z : State) (a0 : Array Value) (hw : ∀ d ∈ tables_1, d.before a0 Z = true) (ws : List Jvm.Cond) (a : Addr) (w : Addr) (h0 : Heap) (n0 : Nat) (O : Old Z n0 h0) (E_a : Exa Z h0 a "com/example/crete/crete/policy/NameKind") (F_a_Enum_ordinal : Fld Z h0 a "java/lang/Enum" "ordinal" "I" (.int 4)) (S_NameKind_PERMISSION : Sta Z Z.heap "com/example/crete/crete/policy/NameKind" "PERMISSION" "Lcom/example/crete/crete/policy/NameKind;" (.ref w)) :
    MetFree l (⟨"com/example/crete/crete/policy/NameKind", "parentKind", "()Lcom/example/crete/crete/policy/NameKind;"⟩ : MethodName) (head1 (Jvm.Cond.code (⟨"com/example/crete/crete/policy/NameKind", "parentKind", "()Lcom/example/crete/crete/policy/NameKind;"⟩ : MethodName) prog_49_method_8_code 1 (some (.object "com/example/crete/crete/policy/NameKind")) :: ws) ({ frames := 1, cells := 0, slots := 0, locals := 12 } : Room)) (fun a' U' => a' = #[(.ref a)] ∧ Z.Warmed39 U'.vm ∧ U'.heap = h0) (fun _ _ _ _ _ => True) (fun _ U' o' W' => ∃ v' L', o' = .returned v' ∧ Qrm1_4 Z a w h0 n0 v' W'.heap L' ∧ FrameEnd U' o' W' L' ({ frames := 1, cells := 0, slots := 0, locals := 12 } : Room).cells ({ frames := 1, cells := 0, slots := 0, locals := 12 } : Room).slots) := by
  refine MetFree.of_bodySF (plainFor_of_name pn_1) hisR ?_
  intro p e s m args below meth c s₁ Bd hml0 hP hK
  obtain ⟨rfl, hZ, hh⟩ := hP
  have hx := Bd.exec
  have hby := Bd.bytes
  have hml : c.maxLocals = 1 := hml0
  have hown : s.vm.findClass "com/example/crete/crete/policy/NameKind" = some m.cls := findClass_of_methodNamed Bd.named
  have hnm := (name_of_methodNamed Bd.named Bd.method).1
  have X0 : Stand p l e ({ frames := 1, cells := 0, slots := 0, locals := 12 } : Room) s m #[(.ref a)] below meth c s₁ [] 0 0 := Stand.of_body Bd
  have e0 : s₁.heap = h0 := by rw [← hh, Bd.state]; rfl
  have N0 := Fr.nil n0
  refine own_start (ef_rm1_4 m a) (Q := fun o' t' => ∃ v' L', o' = .returned v' ∧ Qrm1_4 Z a w h0 n0 v' t'.heap L' ∧ FrameEnd s o' t' L' ({ frames := 1, cells := 0, slots := 0, locals := 12 } : Room).cells ({ frames := 1, cells := 0, slots := 0, locals := 12 } : Room).slots) ?_
  show own_Fin p e below (s₁.setTop (mkF m 0 #[.val (.ref a)] [])) _
  refine own_go (fun _ k => XS.aloadN X0.here hx rfl (hb hby d1_0) rfl rfl k) ?_
  show own_Fin p e below (s₁.setTop (mkF m 1 #[.val (.ref a)] [(.ref a)])) _
  obtain ⟨cq15, kq15, q15a, q15b, q15c⟩ := isOf hZ e0 E_a
  obtain ⟨_, _, ⟨T15, L15, k15, n15⟩, -, X15, ⟨Lc15, hQ15, l15, y15, z15⟩, st15⟩ := X0.virtualBackUp hx (x := (⟨"com/example/crete/crete/policy/NameKind", "ordinal", "()I"⟩ : MethodName)) (y := (⟨"java/lang/Enum", "ordinal", "()I"⟩ : MethodName)) (owner := "java/lang/Enum") hown (mvT hZ (ow hw 20)) (mvT hZ (ow hw 21)) (mvT hZ (ow hw 22)) (by decide) (mvT hZ (ow hw 24)) (mvT hZ (ow hw 23)) (backOf (W := 0) (rm2 l Z a0 hw [] a (4 : Int32) h0 n0 O F_a_Enum_ordinal) hZ (ow hw 26) (ow hw 25) (by decide) (by decide)) q15a q15c (g := (mkF m 1 #[.val (.ref a)] [(.ref a)])) rfl (by rw [hml]; rfl) (Steps.refl _) (argsL := []) (rest := []) (lenOf pd_0 rfl) rfl (by show 2 * 0 + _ ≤ _; exact Nat.le_of_eq rfl) (hb hby d1_1) (fun _ _ => ⟨rfl, e0, (by decide : 0 + 0 ≤ _), (by decide : 0 + 0 ≤ _)⟩)
  dsimp only [Pt.U, Pt.locs, Pt.cells, Pt.slots] at X15 l15 y15 z15 st15 hQ15
  subst l15 y15 z15
  obtain ⟨rfl, N15q, e15⟩ := hQ15
  refine own_go (fun _ k => st15.trans k) ?_
  have N15 := Fr.app N0 N15q
  show own_Fin p e below (T15.setTop (mkF m 4 #[.val (.ref a)] [(.int 4)])) _
  refine own_go (fun _ k => XS.tswIn X15.here hx rfl (pc0 := 4) (pc' := 62) rfl (hb hby d1_4) rfl (by decide) rfl (by decide) (by decide) k) ?_
  show own_Fin p e below (T15.setTop (mkF m 62 #[.val (.ref a)] [])) _
  obtain ⟨T16, X16, e16, st16⟩ := getS2 X15 hx hZ hown (host := "") (Or.inl (ow hw 44)) Via.refl e15 (S_NameKind_PERMISSION.ext O.2) (g := (mkF m 62 #[.val (.ref a)] [])) rfl (hb hby d1_62)
  refine own_go (fun _ k => st16 _ k) ?_
  show own_Fin p e below (T16.setTop (mkF m 65 #[.val (.ref a)] [(.ref w)])) _
  obtain ⟨fs, hr, hrun, hended, hW, hsame⟩ := X16.leave (v := some (.ref w)) (fun h => by rw [Bd.returns] at h; cases h)
  refine ⟨_, _, ?_, hrun, hended, _, _, rfl, ?_, ⟨_, rfl⟩, hW, hsame.mono (by decide) (by decide)⟩
  ·exact X16.areturnOut hx rfl Bd.returns rfl (hb hby d1_65) hr
  ·show Qrm1_4 Z a w h0 n0 _ T16.heap _
   rw [e16]
   exact ⟨rfl, N15, rfl⟩
theorem d3_0 : decode prog_49_method_7_code 0 = .ok (.aload_n 0, 1) := by decide +kernel
theorem d3_1 : decode prog_49_method_7_code 1 = .ok (.getfield 45, 3) := by decide +kernel
theorem d3_4 : decode prog_49_method_7_code 4 = .ok (.areturn, 1) := by decide +kernel
theorem ef_rm3 (m : MethodId) (x0 : Addr) : entryFrame m #[(.ref x0)] 1 = mkF m 0 #[.val (.ref x0)] [] := by first | (simp [entryFrame, mkF, argsToLocals, Value.category]; done) | rfl
def Qrm3 (Z : State) (a : Addr) (w : Addr) (h0 : Heap) (n0 : Nat) (v : Option Value) (h : Heap) (L : List Loc) : Prop := v = some (.ref w) ∧ Fr n0 L ∧ h = h0
set_option maxRecDepth 65536 in
set_option maxHeartbeats 40000000 in
theorem rm3 (l : Launch) (Z : State) (a0 : Array Value) (hw : ∀ d ∈ tables_1, d.before a0 Z = true) (ws : List Jvm.Cond) (a : Addr) (w : Addr) (h0 : Heap) (n0 : Nat) (O : Old Z n0 h0) (F_a_NameKind_linkWord : Fld Z h0 a "com/example/crete/crete/policy/NameKind" "linkWord" "Ljava/lang/String;" (.ref w)) :
    MetFree l (⟨"com/example/crete/crete/policy/NameKind", "linkWord", "()Ljava/lang/String;"⟩ : MethodName) (head1 (Jvm.Cond.code (⟨"com/example/crete/crete/policy/NameKind", "linkWord", "()Ljava/lang/String;"⟩ : MethodName) prog_49_method_7_code 1 (some (.object "java/lang/String")) :: ws) ({ frames := 0, cells := 0, slots := 0, locals := 0 } : Room)) (fun a' U' => a' = #[(.ref a)] ∧ Z.Warmed39 U'.vm ∧ U'.heap = h0) (fun _ _ _ _ _ => True) (fun _ U' o' W' => ∃ v' L', o' = .returned v' ∧ Qrm3 Z a w h0 n0 v' W'.heap L' ∧ FrameEnd U' o' W' L' ({ frames := 0, cells := 0, slots := 0, locals := 0 } : Room).cells ({ frames := 0, cells := 0, slots := 0, locals := 0 } : Room).slots) := by
  refine MetFree.of_bodySF (plainFor_of_name pn_1) hisR ?_
  intro p e s m args below meth c s₁ Bd hml0 hP hK
  obtain ⟨rfl, hZ, hh⟩ := hP
  have hx := Bd.exec
  have hby := Bd.bytes
  have hml : c.maxLocals = 1 := hml0
  have hown : s.vm.findClass "com/example/crete/crete/policy/NameKind" = some m.cls := findClass_of_methodNamed Bd.named
  have hnm := (name_of_methodNamed Bd.named Bd.method).1
  have X0 : Stand p l e ({ frames := 0, cells := 0, slots := 0, locals := 0 } : Room) s m #[(.ref a)] below meth c s₁ [] 0 0 := Stand.of_body Bd
  have e0 : s₁.heap = h0 := by rw [← hh, Bd.state]; rfl
  have N0 := Fr.nil n0
  refine own_start (ef_rm3 m a) (Q := fun o' t' => ∃ v' L', o' = .returned v' ∧ Qrm3 Z a w h0 n0 v' t'.heap L' ∧ FrameEnd s o' t' L' ({ frames := 0, cells := 0, slots := 0, locals := 0 } : Room).cells ({ frames := 0, cells := 0, slots := 0, locals := 0 } : Room).slots) ?_
  show own_Fin p e below (s₁.setTop (mkF m 0 #[.val (.ref a)] [])) _
  refine own_go (fun _ k => XS.aloadN X0.here hx rfl (hb hby d3_0) rfl rfl k) ?_
  show own_Fin p e below (s₁.setTop (mkF m 1 #[.val (.ref a)] [(.ref a)])) _
  obtain ⟨T18, X18, e18, st18⟩ := getF X0 hx hZ hown (host := "") (Or.inl (ow hw 35)) Via.refl e0 F_a_NameKind_linkWord (g := (mkF m 1 #[.val (.ref a)] [(.ref a)])) rfl rfl (hb hby d3_1)
  refine own_go (fun _ k => st18 _ k) ?_
  show own_Fin p e below (T18.setTop (mkF m 4 #[.val (.ref a)] [(.ref w)])) _
  obtain ⟨fs, hr, hrun, hended, hW, hsame⟩ := X18.leave (v := some (.ref w)) (fun h => by rw [Bd.returns] at h; cases h)
  refine ⟨_, _, ?_, hrun, hended, _, _, rfl, ?_, ⟨_, rfl⟩, hW, hsame.mono (by decide) (by decide)⟩
  ·exact X18.areturnOut hx rfl Bd.returns rfl (hb hby d3_4) hr
  ·show Qrm3 Z a w h0 n0 _ T18.heap _
   rw [e18]
   exact ⟨rfl, N0, rfl⟩
theorem d4_0 : decode jdk_42_method_66_code 0 = .ok (.aload_n 0, 1) := by decide +kernel
theorem d4_1 : decode jdk_42_method_66_code 1 = .ok (.aload_n 1, 1) := by decide +kernel
theorem d4_2 : decode jdk_42_method_66_code 2 = .ok (.if_acmp .ne 5, 3) := by decide +kernel
theorem d4_5 : decode jdk_42_method_66_code 5 = .ok (.iconst 1, 1) := by decide +kernel
theorem d4_6 : decode jdk_42_method_66_code 6 = .ok (.ireturn, 1) := by decide +kernel
theorem pn_2 : plainName "java/lang/String" = true := by first | (simp [plainName, overriddenIn]; done) | decide +kernel
theorem ef_rm4 (m : MethodId) (x0 : Addr) (x1 : Addr) : entryFrame m #[(.ref x0), (.ref x1)] 3 = mkF m 0 #[.val (.ref x0), .val (.ref x1), .unset] [] := by first | (simp [entryFrame, mkF, argsToLocals, Value.category]; done) | rfl
def Qrm4 (Z : State) (a : Addr) (h0 : Heap) (n0 : Nat) (v : Option Value) (h : Heap) (L : List Loc) : Prop := v = some (.int 1) ∧ Fr n0 L ∧ h = h0
set_option maxRecDepth 65536 in
set_option maxHeartbeats 40000000 in
theorem rm4 (l : Launch) (Z : State) (a0 : Array Value) (hw : ∀ d ∈ tables_1, d.before a0 Z = true) (ws : List Jvm.Cond) (a : Addr) (h0 : Heap) (n0 : Nat) (O : Old Z n0 h0) :
    MetFree l (⟨"java/lang/String", "equals", "(Ljava/lang/Object;)Z"⟩ : MethodName) (head1 (Jvm.Cond.code (⟨"java/lang/String", "equals", "(Ljava/lang/Object;)Z"⟩ : MethodName) jdk_42_method_66_code 3 (some .boolean) :: ws) ({ frames := 0, cells := 0, slots := 0, locals := 0 } : Room)) (fun a' U' => a' = #[(.ref a), (.ref a)] ∧ Z.Warmed39 U'.vm ∧ U'.heap = h0) (fun _ _ _ _ _ => True) (fun _ U' o' W' => ∃ v' L', o' = .returned v' ∧ Qrm4 Z a h0 n0 v' W'.heap L' ∧ FrameEnd U' o' W' L' ({ frames := 0, cells := 0, slots := 0, locals := 0 } : Room).cells ({ frames := 0, cells := 0, slots := 0, locals := 0 } : Room).slots) := by
  refine MetFree.of_bodySF (plainFor_of_name pn_2) hisR ?_
  intro p e s m args below meth c s₁ Bd hml0 hP hK
  obtain ⟨rfl, hZ, hh⟩ := hP
  have hx := Bd.exec
  have hby := Bd.bytes
  have hml : c.maxLocals = 3 := hml0
  have hown : s.vm.findClass "java/lang/String" = some m.cls := findClass_of_methodNamed Bd.named
  have hnm := (name_of_methodNamed Bd.named Bd.method).1
  have X0 : Stand p l e ({ frames := 0, cells := 0, slots := 0, locals := 0 } : Room) s m #[(.ref a), (.ref a)] below meth c s₁ [] 0 0 := Stand.of_body Bd
  have e0 : s₁.heap = h0 := by rw [← hh, Bd.state]; rfl
  have N0 := Fr.nil n0
  refine own_start (ef_rm4 m a a) (Q := fun o' t' => ∃ v' L', o' = .returned v' ∧ Qrm4 Z a h0 n0 v' t'.heap L' ∧ FrameEnd s o' t' L' ({ frames := 0, cells := 0, slots := 0, locals := 0 } : Room).cells ({ frames := 0, cells := 0, slots := 0, locals := 0 } : Room).slots) ?_
  show own_Fin p e below (s₁.setTop (mkF m 0 #[.val (.ref a), .val (.ref a), .unset] [])) _
  refine own_go (fun _ k => XS.aloadN X0.here hx rfl (hb hby d4_0) rfl rfl (XS.aloadN X0.here hx rfl (hb hby d4_1) rfl rfl k)) ?_
  show own_Fin p e below (s₁.setTop (mkF m 2 #[.val (.ref a), .val (.ref a), .unset] [(.ref a), (.ref a)])) _
  refine own_go (fun _ k => Jvm.RoadKit.acmp (g := (mkF m 2 #[.val (.ref a), .val (.ref a), .unset] [(.ref a), (.ref a)])) X0 hx rfl rfl rfl (pc0 := 2) (pc' := 5) (same := true) rfl (hb hby d4_2) rfl (decide_eq_true rfl) (by decide) (by decide) k) ?_
  show own_Fin p e below (s₁.setTop (mkF m 5 #[.val (.ref a), .val (.ref a), .unset] [])) _
  refine own_go (fun _ k => XS.iconst X0.here hx rfl (hb hby d4_5) k) ?_
  show own_Fin p e below (s₁.setTop (mkF m 6 #[.val (.ref a), .val (.ref a), .unset] [(.int 1)])) _
  obtain ⟨fs, hr, hrun, hended, hW, hsame⟩ := X0.leave (v := some (.int 1)) (fun h => by rw [Bd.returns] at h; cases h)
  refine ⟨_, _, ?_, hrun, hended, _, _, rfl, ?_, ⟨_, rfl⟩, hW, hsame.mono (by decide) (by decide)⟩
  ·exact retN X0 hx (t := .boolean) Bd.returns (by simp) (hb hby d4_6) hr
  ·show Qrm4 Z a h0 n0 _ s₁.heap _
   rw [e0]
   exact ⟨rfl, N0, rfl⟩
theorem own_k5 (p : Int32) : (p &&& (2147483647 : Int32)) % (5 : Int32) = 0 ∨ (p &&& (2147483647 : Int32)) % (5 : Int32) = 1 ∨ (p &&& (2147483647 : Int32)) % (5 : Int32) = 2 ∨ (p &&& (2147483647 : Int32)) % (5 : Int32) = 3 ∨ (p &&& (2147483647 : Int32)) % (5 : Int32) = 4 := by
  have h1 := c_mask p 2147483647 31 (by decide) (by decide)
  have h2 := (c_irem (p &&& 2147483647) 5 5 (by decide)).1 (by omega)
  simp only [← Int32.toInt_inj]
  have e0 : (0 : Int32).toInt = 0 := by decide
  have e1 : (1 : Int32).toInt = 1 := by decide
  have e2 : (2 : Int32).toInt = 2 := by decide
  have e3 : (3 : Int32).toInt = 3 := by decide
  have e4 : (4 : Int32).toInt = 4 := by decide
  omega
theorem pd_1 : parseMethodDescriptor "()Lcom/example/crete/crete/policy/NameKind;" = some ⟨[], some (.object "com/example/crete/crete/policy/NameKind")⟩ := by decide +kernel
theorem pd_2 : parseMethodDescriptor "()Ljava/lang/String;" = some ⟨[], some (.object "java/lang/String")⟩ := by decide +kernel
theorem pd_3 : parseMethodDescriptor "(Ljava/lang/Object;)Z" = some ⟨[(.object "java/lang/Object")], some .boolean⟩ := by decide +kernel
theorem pn_3 : plainName "com/example/crete/crete/policy/NameKindParentKindPinLaw" = true := by first | (simp [plainName, overriddenIn]; done) | decide +kernel
theorem ef_rm0 (m : MethodId) (x0 : Int32) : entryFrame m #[(.int x0)] maxLocals = mkF m 0 #[.val (.int x0), .unset, .unset, .unset, .unset, .unset] [] := by first | (simp [entryFrame, mkF, argsToLocals, Value.category, maxLocals]; done) | rfl
def Qrm0 (Z : State) (pa : Int32) (a0_ : Addr) (a1_ : Addr) (a2_ : Addr) (a3_ : Addr) (a4_ : Addr) (s1 : Addr) (s4 : Addr) (h0 : Heap) (n0 : Nat) (v : Option Value) (h : Heap) (L : List Loc) : Prop := v = some (.int 1) ∧ Fr n0 L ∧ Keep h0 h []
set_option maxRecDepth 65536 in
set_option maxHeartbeats 40000000 in
theorem rm0 (l : Launch) (Z : State) (a0 : Array Value) (hw : ∀ d ∈ tables_1, d.before a0 Z = true) (ws : List Jvm.Cond) (pa : Int32) (a0_ : Addr) (a1_ : Addr) (a2_ : Addr) (a3_ : Addr) (a4_ : Addr) (s1 : Addr) (s4 : Addr) (h0 : Heap) (n0 : Nat) (O : Old Z n0 h0) (S_NameKind_SUBJECT : Sta Z Z.heap "com/example/crete/crete/policy/NameKind" "SUBJECT" "Lcom/example/crete/crete/policy/NameKind;" (.ref a0_)) (S_NameKind_GROUP : Sta Z Z.heap "com/example/crete/crete/policy/NameKind" "GROUP" "Lcom/example/crete/crete/policy/NameKind;" (.ref a1_)) (S_NameKind_OBJECT : Sta Z Z.heap "com/example/crete/crete/policy/NameKind" "OBJECT" "Lcom/example/crete/crete/policy/NameKind;" (.ref a2_)) (S_NameKind_CLASS : Sta Z Z.heap "com/example/crete/crete/policy/NameKind" "CLASS" "Lcom/example/crete/crete/policy/NameKind;" (.ref a3_)) (S_NameKind_PERMISSION : Sta Z Z.heap "com/example/crete/crete/policy/NameKind" "PERMISSION" "Lcom/example/crete/crete/policy/NameKind;" (.ref a4_)) (E_a0_ : Exa Z Z.heap a0_ "com/example/crete/crete/policy/NameKind") (E_a1_ : Exa Z Z.heap a1_ "com/example/crete/crete/policy/NameKind") (E_a2_ : Exa Z Z.heap a2_ "com/example/crete/crete/policy/NameKind") (E_a3_ : Exa Z Z.heap a3_ "com/example/crete/crete/policy/NameKind") (E_a4_ : Exa Z Z.heap a4_ "com/example/crete/crete/policy/NameKind") (F_a0__Enum_ordinal : Fld Z Z.heap a0_ "java/lang/Enum" "ordinal" "I" (.int 0)) (F_a1__Enum_ordinal : Fld Z Z.heap a1_ "java/lang/Enum" "ordinal" "I" (.int 1)) (F_a2__Enum_ordinal : Fld Z Z.heap a2_ "java/lang/Enum" "ordinal" "I" (.int 2)) (F_a3__Enum_ordinal : Fld Z Z.heap a3_ "java/lang/Enum" "ordinal" "I" (.int 3)) (F_a4__Enum_ordinal : Fld Z Z.heap a4_ "java/lang/Enum" "ordinal" "I" (.int 4)) (F_a0__NameKind_linkWord : Fld Z Z.heap a0_ "com/example/crete/crete/policy/NameKind" "linkWord" "Ljava/lang/String;" (.ref s1)) (F_a1__NameKind_linkWord : Fld Z Z.heap a1_ "com/example/crete/crete/policy/NameKind" "linkWord" "Ljava/lang/String;" (.ref s1)) (F_a2__NameKind_linkWord : Fld Z Z.heap a2_ "com/example/crete/crete/policy/NameKind" "linkWord" "Ljava/lang/String;" (.ref s1)) (F_a3__NameKind_linkWord : Fld Z Z.heap a3_ "com/example/crete/crete/policy/NameKind" "linkWord" "Ljava/lang/String;" (.ref s1)) (F_a4__NameKind_linkWord : Fld Z Z.heap a4_ "com/example/crete/crete/policy/NameKind" "linkWord" "Ljava/lang/String;" (.ref s4)) (E_s1 : Exa Z Z.heap s1 "java/lang/String") (E_s4 : Exa Z Z.heap s4 "java/lang/String") :
    MetFree l x (head1 (Jvm.Cond.code x code maxLocals ret :: ws) room_1) (fun a' U' => a' = #[(.int pa)] ∧ Z.Warmed39 U'.vm ∧ U'.heap = h0) (fun _ _ _ _ _ => True) (fun _ U' o' W' => ∃ v' L', o' = .returned v' ∧ Qrm0 Z pa a0_ a1_ a2_ a3_ a4_ s1 s4 h0 n0 v' W'.heap L' ∧ FrameEnd U' o' W' L' 1 5) := by
  refine MetFree.of_bodySF (plainFor_of_name pn_3) hisR ?_
  intro p e s m args below meth c s₁ Bd hml0 hP hK
  obtain ⟨rfl, hZ, hh⟩ := hP
  have hx := Bd.exec
  have hby := Bd.bytes
  have hml : c.maxLocals = 6 := hml0
  have hown : s.vm.findClass "com/example/crete/crete/policy/NameKindParentKindPinLaw" = some m.cls := findClass_of_methodNamed Bd.named
  have hnm := (name_of_methodNamed Bd.named Bd.method).1
  have X0 : Stand p l e room_1 s m #[(.int pa)] below meth c s₁ [] 0 0 := Stand.of_body Bd
  have e0 : s₁.heap = h0 := by rw [← hh, Bd.state]; rfl
  have N0 := Fr.nil n0
  have K0 := Keep.refl h0 []
  refine own_start (ef_rm0 m pa) (Q := fun o' t' => ∃ v' L', o' = .returned v' ∧ Qrm0 Z pa a0_ a1_ a2_ a3_ a4_ s1 s4 h0 n0 v' t'.heap L' ∧ FrameEnd s o' t' L' 1 5) ?_
  show own_Fin p e below (s₁.setTop (mkF m 0 #[.val (.int pa), .unset, .unset, .unset, .unset, .unset] [])) _
  refine own_go (fun _ k => XS.iconst X0.here hx rfl (hb hby at_0) k) ?_
  show own_Fin p e below (s₁.setTop (mkF m 1 #[.val (.int pa), .unset, .unset, .unset, .unset, .unset] [(.int 5)])) _
  obtain ⟨T21, h21, k21, X21, e21, E21, A21, V21, st21⟩ := newR X0 hx hZ hown (ow hw 0) (ow hw 1) e0 (g := (mkF m 1 #[.val (.int pa), .unset, .unset, .unset, .unset, .unset] [(.int 5)])) rfl (hb hby at_1) rfl (by decide) (cap := 5) (by decide) (by decide) (by decide) (by decide)
  obtain ⟨b21, g21⟩ : ∃ z, z = h0.size := ⟨_, rfl⟩
  rw [← g21] at A21 st21
  refine own_go (fun _ k => st21 _ k) ?_
  have g_b21 : n0 ≤ b21 := Nat.le_trans (own_osz O) (Nat.le_of_eq g21.symm)
  have sz_b21 : h0.size ≤ b21 := Nat.le_trans K0.1 (Nat.le_of_eq g21.symm)
  have O := O.ext E21
  have K22 := K0.ext E21
  have V_b21 : Arv Z h21 b21 k21 (.object "com/example/crete/crete/policy/NameKind") (5 : Int32) [.null, .null, .null, .null, .null] .null := (Arv.new A21 (by decide)).pad (pad_rep [] .null 5)
  show own_Fin p e below (T21.setTop (mkF m 4 #[.val (.int pa), .unset, .unset, .unset, .unset, .unset] [(.ref b21)])) _
  refine own_go (fun _ k => XS.dup X21.here hx rfl (hb hby at_4) rfl rfl (XS.iconst X21.here hx rfl (hb hby at_5) k)) ?_
  show own_Fin p e below (T21.setTop (mkF m 6 #[.val (.int pa), .unset, .unset, .unset, .unset, .unset] [(.int 0), (.ref b21), (.ref b21)])) _
  obtain ⟨T23, X23, e23, st23⟩ := getS2 X21 hx hZ hown (host := "") (Or.inl (ow hw 2)) Via.refl e21 (S_NameKind_SUBJECT.ext O.2) (g := (mkF m 6 #[.val (.int pa), .unset, .unset, .unset, .unset, .unset] [(.int 0), (.ref b21), (.ref b21)])) rfl (hb hby at_6)
  refine own_go (fun _ k => st23 _ k) ?_
  show own_Fin p e below (T23.setTop (mkF m 9 #[.val (.int pa), .unset, .unset, .unset, .unset, .unset] [(.ref a0_), (.int 0), (.ref b21), (.ref b21)])) _
  obtain ⟨cl24, A24, q24, S24, M24, H24, G24⟩ := id V_b21
  have hin24 : ¬ ((0 : Int32) < 0 ∨ cl24.slots.size ≤ ((0 : Int32)).toNatClampNeg) := inb_of S24 ⟨by decide, by decide⟩
  obtain ⟨T24, h24, X24, e24, W24, st24⟩ := stR X23 hx hZ e23 A24 (j := (0 : Int32)) hin24 rfl (Sto.ofV A24 q24 V21 (Ins.self (E_a0_.ext O.2))) (g := (mkF m 9 #[.val (.int pa), .unset, .unset, .unset, .unset, .unset] [(.ref a0_), (.int 0), (.ref b21), (.ref b21)])) rfl rfl (hb hby at_9)
  refine own_go (fun _ k => st24 _ k) ?_
  have O := O.wr W24 g_b21
  have K25 := K22.wr W24 (Or.inr sz_b21)
  have V_b21 : Arv Z h24 b21 k21 (.object "com/example/crete/crete/policy/NameKind") (5 : Int32) [(.ref a0_), .null, .null, .null, .null] .null := Arv.set A24 q24 S24 M24 H24 G24 rfl W24 0 rfl (Nat.le_of_ble_eq_true rfl)
  have N24 := Fr.snoc X24 N0 g_b21
  show own_Fin p e below (T24.setTop (mkF m 10 #[.val (.int pa), .unset, .unset, .unset, .unset, .unset] [(.ref b21)])) _
  refine own_go (fun _ k => XS.dup X24.here hx rfl (hb hby at_10) rfl rfl (XS.iconst X24.here hx rfl (hb hby at_11) k)) ?_
  show own_Fin p e below (T24.setTop (mkF m 12 #[.val (.int pa), .unset, .unset, .unset, .unset, .unset] [(.int 1), (.ref b21), (.ref b21)])) _
  obtain ⟨T26, X26, e26, st26⟩ := getS2 X24 hx hZ hown (host := "") (Or.inl (ow hw 6)) Via.refl e24 (S_NameKind_GROUP.ext O.2) (g := (mkF m 12 #[.val (.int pa), .unset, .unset, .unset, .unset, .unset] [(.int 1), (.ref b21), (.ref b21)])) rfl (hb hby at_12)
  refine own_go (fun _ k => st26 _ k) ?_
  show own_Fin p e below (T26.setTop (mkF m 15 #[.val (.int pa), .unset, .unset, .unset, .unset, .unset] [(.ref a1_), (.int 1), (.ref b21), (.ref b21)])) _
  obtain ⟨cl27, A27, q27, S27, M27, H27, G27⟩ := id V_b21
  have hin27 : ¬ ((1 : Int32) < 0 ∨ cl27.slots.size ≤ ((1 : Int32)).toNatClampNeg) := inb_of S27 ⟨by decide, by decide⟩
  obtain ⟨T27, h27, X27, e27, W27, st27⟩ := stR X26 hx hZ e26 A27 (j := (1 : Int32)) hin27 rfl (Sto.ofV A27 q27 V21 (Ins.self (E_a1_.ext O.2))) (g := (mkF m 15 #[.val (.int pa), .unset, .unset, .unset, .unset, .unset] [(.ref a1_), (.int 1), (.ref b21), (.ref b21)])) rfl rfl (hb hby at_15)
  refine own_go (fun _ k => st27 _ k) ?_
  have O := O.wr W27 g_b21
  have K28 := K25.wr W27 (Or.inr sz_b21)
  have V_b21 : Arv Z h27 b21 k21 (.object "com/example/crete/crete/policy/NameKind") (5 : Int32) [(.ref a0_), (.ref a1_), .null, .null, .null] .null := Arv.set A27 q27 S27 M27 H27 G27 rfl W27 1 rfl (Nat.le_of_ble_eq_true rfl)
  have N27 := Fr.snoc X27 N24 g_b21
  show own_Fin p e below (T27.setTop (mkF m 16 #[.val (.int pa), .unset, .unset, .unset, .unset, .unset] [(.ref b21)])) _
  refine own_go (fun _ k => XS.dup X27.here hx rfl (hb hby at_16) rfl rfl (XS.iconst X27.here hx rfl (hb hby at_17) k)) ?_
  show own_Fin p e below (T27.setTop (mkF m 18 #[.val (.int pa), .unset, .unset, .unset, .unset, .unset] [(.int 2), (.ref b21), (.ref b21)])) _
  obtain ⟨T29, X29, e29, st29⟩ := getS2 X27 hx hZ hown (host := "") (Or.inl (ow hw 8)) Via.refl e27 (S_NameKind_OBJECT.ext O.2) (g := (mkF m 18 #[.val (.int pa), .unset, .unset, .unset, .unset, .unset] [(.int 2), (.ref b21), (.ref b21)])) rfl (hb hby at_18)
  refine own_go (fun _ k => st29 _ k) ?_
  show own_Fin p e below (T29.setTop (mkF m 21 #[.val (.int pa), .unset, .unset, .unset, .unset, .unset] [(.ref a2_), (.int 2), (.ref b21), (.ref b21)])) _
  obtain ⟨cl30, A30, q30, S30, M30, H30, G30⟩ := id V_b21
  have hin30 : ¬ ((2 : Int32) < 0 ∨ cl30.slots.size ≤ ((2 : Int32)).toNatClampNeg) := inb_of S30 ⟨by decide, by decide⟩
  obtain ⟨T30, h30, X30, e30, W30, st30⟩ := stR X29 hx hZ e29 A30 (j := (2 : Int32)) hin30 rfl (Sto.ofV A30 q30 V21 (Ins.self (E_a2_.ext O.2))) (g := (mkF m 21 #[.val (.int pa), .unset, .unset, .unset, .unset, .unset] [(.ref a2_), (.int 2), (.ref b21), (.ref b21)])) rfl rfl (hb hby at_21)
  refine own_go (fun _ k => st30 _ k) ?_
  have O := O.wr W30 g_b21
  have K31 := K28.wr W30 (Or.inr sz_b21)
  have V_b21 : Arv Z h30 b21 k21 (.object "com/example/crete/crete/policy/NameKind") (5 : Int32) [(.ref a0_), (.ref a1_), (.ref a2_), .null, .null] .null := Arv.set A30 q30 S30 M30 H30 G30 rfl W30 2 rfl (Nat.le_of_ble_eq_true rfl)
  have N30 := Fr.snoc X30 N27 g_b21
  show own_Fin p e below (T30.setTop (mkF m 22 #[.val (.int pa), .unset, .unset, .unset, .unset, .unset] [(.ref b21)])) _
  refine own_go (fun _ k => XS.dup X30.here hx rfl (hb hby at_22) rfl rfl (XS.iconst X30.here hx rfl (hb hby at_23) k)) ?_
  show own_Fin p e below (T30.setTop (mkF m 24 #[.val (.int pa), .unset, .unset, .unset, .unset, .unset] [(.int 3), (.ref b21), (.ref b21)])) _
  obtain ⟨T32, X32, e32, st32⟩ := getS2 X30 hx hZ hown (host := "") (Or.inl (ow hw 10)) Via.refl e30 (S_NameKind_CLASS.ext O.2) (g := (mkF m 24 #[.val (.int pa), .unset, .unset, .unset, .unset, .unset] [(.int 3), (.ref b21), (.ref b21)])) rfl (hb hby at_24)
  refine own_go (fun _ k => st32 _ k) ?_
  show own_Fin p e below (T32.setTop (mkF m 27 #[.val (.int pa), .unset, .unset, .unset, .unset, .unset] [(.ref a3_), (.int 3), (.ref b21), (.ref b21)])) _
  obtain ⟨cl33, A33, q33, S33, M33, H33, G33⟩ := id V_b21
  have hin33 : ¬ ((3 : Int32) < 0 ∨ cl33.slots.size ≤ ((3 : Int32)).toNatClampNeg) := inb_of S33 ⟨by decide, by decide⟩
  obtain ⟨T33, h33, X33, e33, W33, st33⟩ := stR X32 hx hZ e32 A33 (j := (3 : Int32)) hin33 rfl (Sto.ofV A33 q33 V21 (Ins.self (E_a3_.ext O.2))) (g := (mkF m 27 #[.val (.int pa), .unset, .unset, .unset, .unset, .unset] [(.ref a3_), (.int 3), (.ref b21), (.ref b21)])) rfl rfl (hb hby at_27)
  refine own_go (fun _ k => st33 _ k) ?_
  have O := O.wr W33 g_b21
  have K34 := K31.wr W33 (Or.inr sz_b21)
  have V_b21 : Arv Z h33 b21 k21 (.object "com/example/crete/crete/policy/NameKind") (5 : Int32) [(.ref a0_), (.ref a1_), (.ref a2_), (.ref a3_), .null] .null := Arv.set A33 q33 S33 M33 H33 G33 rfl W33 3 rfl (Nat.le_of_ble_eq_true rfl)
  have N33 := Fr.snoc X33 N30 g_b21
  show own_Fin p e below (T33.setTop (mkF m 28 #[.val (.int pa), .unset, .unset, .unset, .unset, .unset] [(.ref b21)])) _
  refine own_go (fun _ k => XS.dup X33.here hx rfl (hb hby at_28) rfl rfl (XS.iconst X33.here hx rfl (hb hby at_29) k)) ?_
  show own_Fin p e below (T33.setTop (mkF m 30 #[.val (.int pa), .unset, .unset, .unset, .unset, .unset] [(.int 4), (.ref b21), (.ref b21)])) _
  obtain ⟨T35, X35, e35, st35⟩ := getS2 X33 hx hZ hown (host := "") (Or.inl (ow hw 12)) Via.refl e33 (S_NameKind_PERMISSION.ext O.2) (g := (mkF m 30 #[.val (.int pa), .unset, .unset, .unset, .unset, .unset] [(.int 4), (.ref b21), (.ref b21)])) rfl (hb hby at_30)
  refine own_go (fun _ k => st35 _ k) ?_
  show own_Fin p e below (T35.setTop (mkF m 33 #[.val (.int pa), .unset, .unset, .unset, .unset, .unset] [(.ref a4_), (.int 4), (.ref b21), (.ref b21)])) _
  obtain ⟨cl36, A36, q36, S36, M36, H36, G36⟩ := id V_b21
  have hin36 : ¬ ((4 : Int32) < 0 ∨ cl36.slots.size ≤ ((4 : Int32)).toNatClampNeg) := inb_of S36 ⟨by decide, by decide⟩
  obtain ⟨T36, h36, X36, e36, W36, st36⟩ := stR X35 hx hZ e35 A36 (j := (4 : Int32)) hin36 rfl (Sto.ofV A36 q36 V21 (Ins.self (E_a4_.ext O.2))) (g := (mkF m 33 #[.val (.int pa), .unset, .unset, .unset, .unset, .unset] [(.ref a4_), (.int 4), (.ref b21), (.ref b21)])) rfl rfl (hb hby at_33)
  refine own_go (fun _ k => st36 _ k) ?_
  have O := O.wr W36 g_b21
  have K37 := K34.wr W36 (Or.inr sz_b21)
  have V_b21 : Arv Z h36 b21 k21 (.object "com/example/crete/crete/policy/NameKind") (5 : Int32) [(.ref a0_), (.ref a1_), (.ref a2_), (.ref a3_), (.ref a4_)] .null := Arv.set A36 q36 S36 M36 H36 G36 rfl W36 4 rfl (Nat.le_of_ble_eq_true rfl)
  have N36 := Fr.snoc X36 N33 g_b21
  show own_Fin p e below (T36.setTop (mkF m 34 #[.val (.int pa), .unset, .unset, .unset, .unset, .unset] [(.ref b21)])) _
  refine own_go (fun _ k => XS.astoreN X36.here hx rfl (hb hby at_34) rfl rfl (l' := #[.val (.int pa), .val (.ref b21), .unset, .unset, .unset, .unset]) rfl (XS.iloadN X36.here hx rfl (hb hby at_35) rfl k)) ?_
  show own_Fin p e below (T36.setTop (mkF m 36 #[.val (.int pa), .val (.ref b21), .unset, .unset, .unset, .unset] [(.int pa)])) _
  refine own_go (fun _ k => X36.ldcInt hx hown (mvT hZ (ow hw 14)) (g := (mkF m 36 #[.val (.int pa), .val (.ref b21), .unset, .unset, .unset, .unset] [(.int pa)])) rfl (hb hby at_36) _ k) ?_
  show own_Fin p e below (T36.setTop (mkF m 38 #[.val (.int pa), .val (.ref b21), .unset, .unset, .unset, .unset] [(.int 2147483647), (.int pa)])) _
  refine own_go (fun _ k => XS.iand X36.here hx rfl (hb hby at_38) rfl (XS.iconst X36.here hx rfl (hb hby at_39) (iremM X36 hx rfl (hb hby at_40) rfl (by decide) (XS.istoreN X36.here hx rfl (hb hby at_41) rfl (l' := #[.val (.int pa), .val (.ref b21), .val (.int ((pa &&& (2147483647 : Int32)) % (5 : Int32))), .unset, .unset, .unset]) rfl k)))) ?_
  show own_Fin p e below (T36.setTop (mkF m 42 #[.val (.int pa), .val (.ref b21), .val (.int ((pa &&& (2147483647 : Int32)) % (5 : Int32))), .unset, .unset, .unset] [])) _
  rcases own_k5 pa with hk | hk | hk | hk | hk
  ·rw [hk]
   show own_Fin p e below (T36.setTop (mkF m 42 #[.val (.int pa), .val (.ref b21), .val (.int 0), .unset, .unset, .unset] [])) _
   refine own_go (fun _ k => XS.aloadN X36.here hx rfl (hb hby at_42) rfl rfl (XS.iloadN X36.here hx rfl (hb hby at_43) rfl k)) ?_
   show own_Fin p e below (T36.setTop (mkF m 44 #[.val (.int pa), .val (.ref b21), .val (.int 0), .unset, .unset, .unset] [(.int 0), (.ref b21)])) _
   obtain ⟨cl38, A38, q38, S38, M38, H38, G38⟩ := id V_b21
   have hin38 : ¬ ((0 : Int32) < 0 ∨ cl38.slots.size ≤ ((0 : Int32)).toNatClampNeg) := inb_of S38 ⟨by decide, by decide⟩
   have hat38 : cl38.slots[((0 : Int32)).toNatClampNeg]? = some (.ref a0_) := Has.at H38 hin38 rfl
   refine own_go (fun _ k => X36.aaload hx (j := (0 : Int32)) (v := (.ref a0_)) (by rw [e36]; exact A38.1) (State.isArrayOf_alike hZ.alike A38.2.1) rfl A38.2.2 hin38 hat38 (g := (mkF m 44 #[.val (.int pa), .val (.ref b21), .val (.int 0), .unset, .unset, .unset] [(.int 0), (.ref b21)])) rfl rfl (hb hby at_44) _ k) ?_
   show own_Fin p e below (T36.setTop (mkF m 45 #[.val (.int pa), .val (.ref b21), .val (.int 0), .unset, .unset, .unset] [(.ref a0_)])) _
   refine own_go (fun _ k => XS.astoreN X36.here hx rfl (hb hby at_45) rfl rfl (l' := #[.val (.int pa), .val (.ref b21), .val (.int 0), .val (.ref a0_), .unset, .unset]) rfl (XS.aloadN X36.here hx rfl (hb hby at_46) rfl rfl k)) ?_
   show own_Fin p e below (T36.setTop (mkF m 47 #[.val (.int pa), .val (.ref b21), .val (.int 0), .val (.ref a0_), .unset, .unset] [(.ref a0_)])) _
   obtain ⟨cq39, kq39, q39a, q39b, q39c⟩ := isOf hZ e36 (E_a0_.ext O.2)
   obtain ⟨_, _, ⟨T39, L39, k39, n39⟩, -, X39, ⟨Lc39, hQ39, l39, y39, z39⟩, st39⟩ := X36.virtualBack hx (y := (⟨"com/example/crete/crete/policy/NameKind", "parentKind", "()Lcom/example/crete/crete/policy/NameKind;"⟩ : MethodName)) (z := (⟨"com/example/crete/crete/policy/NameKind", "parentKind", "()Lcom/example/crete/crete/policy/NameKind;"⟩ : MethodName)) hown (mvT hZ (ow hw 15)) (mvT hZ (ow hw 16)) (notFace_of_selects (args := #[]) (mvT hZ (ow hw 18))) (mvT hZ (ow hw 18)) (mvT hZ (ow hw 17)) (by decide) (backOf (W := 0) (rm1_0 l Z a0 hw [] a0_ a1_ h36 n0 O (E_a0_.ext O.2) (F_a0__Enum_ordinal.ext O.2) S_NameKind_GROUP) hZ (ow hw 19) (ow hw 3) (by decide) (by decide)) q39a q39c (g := (mkF m 47 #[.val (.int pa), .val (.ref b21), .val (.int 0), .val (.ref a0_), .unset, .unset] [(.ref a0_)])) rfl (by rw [hml]; rfl) (Steps.refl _) (argsL := []) (rest := []) (lenOf pd_1 rfl) rfl (by show 2 * 0 + _ ≤ _; exact Nat.le_of_eq rfl) (hb hby at_47) (fun _ _ => ⟨rfl, e36, (by decide : 1 + 0 ≤ _), (by decide : 5 + 0 ≤ _)⟩)
   dsimp only [Pt.U, Pt.locs, Pt.cells, Pt.slots] at X39 l39 y39 z39 st39 hQ39
   subst l39 y39 z39
   obtain ⟨rfl, N39q, e39⟩ := hQ39
   refine own_go (fun _ k => st39.trans k) ?_
   have N39 := Fr.app N36 N39q
   show own_Fin p e below (T39.setTop (mkF m 50 #[.val (.int pa), .val (.ref b21), .val (.int 0), .val (.ref a0_), .unset, .unset] [(.ref a1_)])) _
   refine own_go (fun _ k => XS.astore X39.here hx rfl (hb hby at_50) rfl rfl (l' := #[.val (.int pa), .val (.ref b21), .val (.int 0), .val (.ref a0_), .val (.ref a1_), .unset]) rfl (XS.iloadN X39.here hx rfl (hb hby at_52) rfl (XS.iconst X39.here hx rfl (hb hby at_53) (XS.icmpYes X39.here hx rfl (pc0 := 54) (pc' := 61) rfl (hb hby at_54) rfl (feq (by decide : ¬ ((0 : Int32) = (4 : Int32)))).2 (by decide) (by decide) (XS.iloadN X39.here hx rfl (hb hby at_61) rfl (XS.iconst X39.here hx rfl (hb hby at_62) (XS.ior X39.here hx rfl (hb hby at_63) rfl (XS.istore X39.here hx rfl (hb hby at_64) rfl (l' := #[.val (.int pa), .val (.ref b21), .val (.int 0), .val (.ref a0_), .val (.ref a1_), .val (.int 1)]) rfl (XS.aload X39.here hx rfl (hb hby at_66) rfl rfl (XS.aloadN X39.here hx rfl (hb hby at_68) rfl rfl k)))))))))) ?_
   show own_Fin p e below (T39.setTop (mkF m 69 #[.val (.int pa), .val (.ref b21), .val (.int 0), .val (.ref a0_), .val (.ref a1_), .val (.int 1)] [(.ref b21), (.ref a1_)])) _
   refine own_go (fun _ k => XS.iload X39.here hx rfl (hb hby at_69) rfl k) ?_
   show own_Fin p e below (T39.setTop (mkF m 71 #[.val (.int pa), .val (.ref b21), .val (.int 0), .val (.ref a0_), .val (.ref a1_), .val (.int 1)] [(.int 1), (.ref b21), (.ref a1_)])) _
   obtain ⟨cl40, A40, q40, S40, M40, H40, G40⟩ := id V_b21
   have hin40 : ¬ ((1 : Int32) < 0 ∨ cl40.slots.size ≤ ((1 : Int32)).toNatClampNeg) := inb_of S40 ⟨by decide, by decide⟩
   have hat40 : cl40.slots[((1 : Int32)).toNatClampNeg]? = some (.ref a1_) := Has.at H40 hin40 rfl
   refine own_go (fun _ k => X39.aaload hx (j := (1 : Int32)) (v := (.ref a1_)) (by rw [e39]; exact A40.1) (State.isArrayOf_alike hZ.alike A40.2.1) rfl A40.2.2 hin40 hat40 (g := (mkF m 71 #[.val (.int pa), .val (.ref b21), .val (.int 0), .val (.ref a0_), .val (.ref a1_), .val (.int 1)] [(.int 1), (.ref b21), (.ref a1_)])) rfl rfl (hb hby at_71) _ k) ?_
   show own_Fin p e below (T39.setTop (mkF m 72 #[.val (.int pa), .val (.ref b21), .val (.int 0), .val (.ref a0_), .val (.ref a1_), .val (.int 1)] [(.ref a1_), (.ref a1_)])) _
   refine own_go (fun _ k => Jvm.RoadKit.acmp (g := (mkF m 72 #[.val (.int pa), .val (.ref b21), .val (.int 0), .val (.ref a0_), .val (.ref a1_), .val (.int 1)] [(.ref a1_), (.ref a1_)])) X39 hx rfl rfl rfl (pc0 := 72) (pc' := 77) (same := true) rfl (hb hby at_72) rfl (decide_eq_true rfl) (by decide) (by decide) k) ?_
   show own_Fin p e below (T39.setTop (mkF m 77 #[.val (.int pa), .val (.ref b21), .val (.int 0), .val (.ref a0_), .val (.ref a1_), .val (.int 1)] [])) _
   refine own_go (fun _ k => XS.aload X39.here hx rfl (hb hby at_77) rfl rfl k) ?_
   show own_Fin p e below (T39.setTop (mkF m 79 #[.val (.int pa), .val (.ref b21), .val (.int 0), .val (.ref a0_), .val (.ref a1_), .val (.int 1)] [(.ref a1_)])) _
   obtain ⟨cq41, kq41, q41a, q41b, q41c⟩ := isOf hZ e39 (E_a1_.ext O.2)
   obtain ⟨_, _, ⟨T41, L41, k41, n41⟩, -, X41, ⟨Lc41, hQ41, l41, y41, z41⟩, st41⟩ := X39.virtualBack hx (y := (⟨"com/example/crete/crete/policy/NameKind", "parentKind", "()Lcom/example/crete/crete/policy/NameKind;"⟩ : MethodName)) (z := (⟨"com/example/crete/crete/policy/NameKind", "parentKind", "()Lcom/example/crete/crete/policy/NameKind;"⟩ : MethodName)) hown (mvT hZ (ow hw 15)) (mvT hZ (ow hw 16)) (notFace_of_selects (args := #[]) (mvT hZ (ow hw 18))) (mvT hZ (ow hw 18)) (mvT hZ (ow hw 17)) (by decide) (backOf (W := 0) (rm1_1 l Z a0 hw [] a1_ a1_ h36 n0 O (E_a1_.ext O.2) (F_a1__Enum_ordinal.ext O.2) S_NameKind_GROUP) hZ (ow hw 19) (ow hw 3) (by decide) (by decide)) q41a q41c (g := (mkF m 79 #[.val (.int pa), .val (.ref b21), .val (.int 0), .val (.ref a0_), .val (.ref a1_), .val (.int 1)] [(.ref a1_)])) rfl (by rw [hml]; rfl) (Steps.refl _) (argsL := []) (rest := []) (lenOf pd_1 rfl) rfl (by show 2 * 0 + _ ≤ _; exact Nat.le_of_eq rfl) (hb hby at_79) (fun _ _ => ⟨rfl, e39, (by decide : 1 + 0 ≤ _), (by decide : 5 + 0 ≤ _)⟩)
   dsimp only [Pt.U, Pt.locs, Pt.cells, Pt.slots] at X41 l41 y41 z41 st41 hQ41
   subst l41 y41 z41
   obtain ⟨rfl, N41q, e41⟩ := hQ41
   refine own_go (fun _ k => st41.trans k) ?_
   have N41 := Fr.app N39 N41q
   show own_Fin p e below (T41.setTop (mkF m 82 #[.val (.int pa), .val (.ref b21), .val (.int 0), .val (.ref a0_), .val (.ref a1_), .val (.int 1)] [(.ref a1_)])) _
   refine own_go (fun _ k => XS.aload X41.here hx rfl (hb hby at_82) rfl rfl k) ?_
   show own_Fin p e below (T41.setTop (mkF m 84 #[.val (.int pa), .val (.ref b21), .val (.int 0), .val (.ref a0_), .val (.ref a1_), .val (.int 1)] [(.ref a1_), (.ref a1_)])) _
   refine own_go (fun _ k => Jvm.RoadKit.acmp (g := (mkF m 84 #[.val (.int pa), .val (.ref b21), .val (.int 0), .val (.ref a0_), .val (.ref a1_), .val (.int 1)] [(.ref a1_), (.ref a1_)])) X41 hx rfl rfl rfl (pc0 := 84) (pc' := 89) (same := true) rfl (hb hby at_84) rfl (decide_eq_true rfl) (by decide) (by decide) k) ?_
   show own_Fin p e below (T41.setTop (mkF m 89 #[.val (.int pa), .val (.ref b21), .val (.int 0), .val (.ref a0_), .val (.ref a1_), .val (.int 1)] [])) _
   refine own_go (fun _ k => XS.aload X41.here hx rfl (hb hby at_89) rfl rfl k) ?_
   show own_Fin p e below (T41.setTop (mkF m 91 #[.val (.int pa), .val (.ref b21), .val (.int 0), .val (.ref a0_), .val (.ref a1_), .val (.int 1)] [(.ref a1_)])) _
   obtain ⟨cq42, kq42, q42a, q42b, q42c⟩ := isOf hZ e41 (E_a1_.ext O.2)
   obtain ⟨_, _, ⟨T42, L42, k42, n42⟩, -, X42, ⟨Lc42, hQ42, l42, y42, z42⟩, st42⟩ := X41.virtualBack hx (y := (⟨"com/example/crete/crete/policy/NameKind", "linkWord", "()Ljava/lang/String;"⟩ : MethodName)) (z := (⟨"com/example/crete/crete/policy/NameKind", "linkWord", "()Ljava/lang/String;"⟩ : MethodName)) hown (mvT hZ (ow hw 30)) (mvT hZ (ow hw 31)) (notFace_of_selects (args := #[]) (mvT hZ (ow hw 33))) (mvT hZ (ow hw 33)) (mvT hZ (ow hw 32)) (by decide) (backOf (W := 0) (rm3 l Z a0 hw [] a1_ s1 h36 n0 O (F_a1__NameKind_linkWord.ext O.2)) hZ (ow hw 34) (ow hw 3) (by decide) (by decide)) q42a q42c (g := (mkF m 91 #[.val (.int pa), .val (.ref b21), .val (.int 0), .val (.ref a0_), .val (.ref a1_), .val (.int 1)] [(.ref a1_)])) rfl (by rw [hml]; rfl) (Steps.refl _) (argsL := []) (rest := []) (lenOf pd_2 rfl) rfl (by show 2 * 0 + _ ≤ _; exact Nat.le_of_eq rfl) (hb hby at_91) (fun _ _ => ⟨rfl, e41, (by decide : 1 + 0 ≤ _), (by decide : 5 + 0 ≤ _)⟩)
   dsimp only [Pt.U, Pt.locs, Pt.cells, Pt.slots] at X42 l42 y42 z42 st42 hQ42
   subst l42 y42 z42
   obtain ⟨rfl, N42q, e42⟩ := hQ42
   refine own_go (fun _ k => st42.trans k) ?_
   have N42 := Fr.app N41 N42q
   show own_Fin p e below (T42.setTop (mkF m 94 #[.val (.int pa), .val (.ref b21), .val (.int 0), .val (.ref a0_), .val (.ref a1_), .val (.int 1)] [(.ref s1)])) _
   refine own_go (fun _ k => XS.aloadN X42.here hx rfl (hb hby at_94) rfl rfl k) ?_
   show own_Fin p e below (T42.setTop (mkF m 95 #[.val (.int pa), .val (.ref b21), .val (.int 0), .val (.ref a0_), .val (.ref a1_), .val (.int 1)] [(.ref a0_), (.ref s1)])) _
   obtain ⟨cq43, kq43, q43a, q43b, q43c⟩ := isOf hZ e42 (E_a0_.ext O.2)
   obtain ⟨_, _, ⟨T43, L43, k43, n43⟩, -, X43, ⟨Lc43, hQ43, l43, y43, z43⟩, st43⟩ := X42.virtualBack hx (y := (⟨"com/example/crete/crete/policy/NameKind", "linkWord", "()Ljava/lang/String;"⟩ : MethodName)) (z := (⟨"com/example/crete/crete/policy/NameKind", "linkWord", "()Ljava/lang/String;"⟩ : MethodName)) hown (mvT hZ (ow hw 30)) (mvT hZ (ow hw 31)) (notFace_of_selects (args := #[]) (mvT hZ (ow hw 33))) (mvT hZ (ow hw 33)) (mvT hZ (ow hw 32)) (by decide) (backOf (W := 1) (rm3 l Z a0 hw [] a0_ s1 h36 n0 O (F_a0__NameKind_linkWord.ext O.2)) hZ (ow hw 34) (ow hw 3) (by decide) (by decide)) q43a q43c (g := (mkF m 95 #[.val (.int pa), .val (.ref b21), .val (.int 0), .val (.ref a0_), .val (.ref a1_), .val (.int 1)] [(.ref a0_), (.ref s1)])) rfl (by rw [hml]; rfl) (Steps.refl _) (argsL := []) (rest := [(.ref s1)]) (lenOf pd_2 rfl) rfl (by show 2 * 0 + _ ≤ _; exact Nat.le_of_eq rfl) (hb hby at_95) (fun _ _ => ⟨rfl, e42, (by decide : 1 + 0 ≤ _), (by decide : 5 + 0 ≤ _)⟩)
   dsimp only [Pt.U, Pt.locs, Pt.cells, Pt.slots] at X43 l43 y43 z43 st43 hQ43
   subst l43 y43 z43
   obtain ⟨rfl, N43q, e43⟩ := hQ43
   refine own_go (fun _ k => st43.trans k) ?_
   have N43 := Fr.app N42 N43q
   show own_Fin p e below (T43.setTop (mkF m 98 #[.val (.int pa), .val (.ref b21), .val (.int 0), .val (.ref a0_), .val (.ref a1_), .val (.int 1)] [(.ref s1), (.ref s1)])) _
   obtain ⟨cq44, kq44, q44a, q44b, q44c⟩ := isOf hZ e43 (E_s1.ext O.2)
   obtain ⟨_, _, ⟨T44, L44, k44, n44⟩, -, X44, ⟨Lc44, hQ44, l44, y44, z44⟩, st44⟩ := X43.virtualBack hx (y := (⟨"java/lang/String", "equals", "(Ljava/lang/Object;)Z"⟩ : MethodName)) (z := (⟨"java/lang/String", "equals", "(Ljava/lang/Object;)Z"⟩ : MethodName)) hown (mvT hZ (ow hw 37)) (mvT hZ (ow hw 38)) (notFace_of_selects (args := #[]) (mvT hZ (ow hw 40))) (mvT hZ (ow hw 40)) (mvT hZ (ow hw 39)) (by decide) (backOf (W := 0) (rm4 l Z a0 hw [] s1 h36 n0 O ) hZ (ow hw 42) (ow hw 41) (by decide) (by decide)) q44a q44c (g := (mkF m 98 #[.val (.int pa), .val (.ref b21), .val (.int 0), .val (.ref a0_), .val (.ref a1_), .val (.int 1)] [(.ref s1), (.ref s1)])) rfl (by rw [hml]; rfl) (Steps.refl _) (argsL := [(.ref s1)]) (rest := []) (lenOf pd_3 rfl) rfl (by show 2 * 0 + _ ≤ _; exact Nat.le_of_eq rfl) (hb hby at_98) (fun _ _ => ⟨rfl, e43, (by decide : 1 + 0 ≤ _), (by decide : 5 + 0 ≤ _)⟩)
   dsimp only [Pt.U, Pt.locs, Pt.cells, Pt.slots] at X44 l44 y44 z44 st44 hQ44
   subst l44 y44 z44
   obtain ⟨rfl, N44q, e44⟩ := hQ44
   refine own_go (fun _ k => st44.trans k) ?_
   have N44 := Fr.app N43 N44q
   show own_Fin p e below (T44.setTop (mkF m 101 #[.val (.int pa), .val (.ref b21), .val (.int 0), .val (.ref a0_), .val (.ref a1_), .val (.int 1)] [(.int 1)])) _
   obtain ⟨fs, hr, hrun, hended, hW, hsame⟩ := X44.leave (v := some (.int 1)) (fun h => by rw [Bd.returns] at h; cases h)
   refine ⟨_, _, ?_, hrun, hended, _, _, rfl, ?_, ⟨_, rfl⟩, hW, hsame.mono (by decide) (by decide)⟩
   ·exact retN X44 hx (t := .boolean) Bd.returns (by simp) (hb hby at_101) hr
   ·show Qrm0 Z pa a0_ a1_ a2_ a3_ a4_ s1 s4 h0 n0 _ T44.heap _
    rw [e44]
    exact ⟨rfl, N44, K37⟩
  ·rw [hk]
   show own_Fin p e below (T36.setTop (mkF m 42 #[.val (.int pa), .val (.ref b21), .val (.int 1), .unset, .unset, .unset] [])) _
   refine own_go (fun _ k => XS.aloadN X36.here hx rfl (hb hby at_42) rfl rfl (XS.iloadN X36.here hx rfl (hb hby at_43) rfl k)) ?_
   show own_Fin p e below (T36.setTop (mkF m 44 #[.val (.int pa), .val (.ref b21), .val (.int 1), .unset, .unset, .unset] [(.int 1), (.ref b21)])) _
   obtain ⟨cl46, A46, q46, S46, M46, H46, G46⟩ := id V_b21
   have hin46 : ¬ ((1 : Int32) < 0 ∨ cl46.slots.size ≤ ((1 : Int32)).toNatClampNeg) := inb_of S46 ⟨by decide, by decide⟩
   have hat46 : cl46.slots[((1 : Int32)).toNatClampNeg]? = some (.ref a1_) := Has.at H46 hin46 rfl
   refine own_go (fun _ k => X36.aaload hx (j := (1 : Int32)) (v := (.ref a1_)) (by rw [e36]; exact A46.1) (State.isArrayOf_alike hZ.alike A46.2.1) rfl A46.2.2 hin46 hat46 (g := (mkF m 44 #[.val (.int pa), .val (.ref b21), .val (.int 1), .unset, .unset, .unset] [(.int 1), (.ref b21)])) rfl rfl (hb hby at_44) _ k) ?_
   show own_Fin p e below (T36.setTop (mkF m 45 #[.val (.int pa), .val (.ref b21), .val (.int 1), .unset, .unset, .unset] [(.ref a1_)])) _
   refine own_go (fun _ k => XS.astoreN X36.here hx rfl (hb hby at_45) rfl rfl (l' := #[.val (.int pa), .val (.ref b21), .val (.int 1), .val (.ref a1_), .unset, .unset]) rfl (XS.aloadN X36.here hx rfl (hb hby at_46) rfl rfl k)) ?_
   show own_Fin p e below (T36.setTop (mkF m 47 #[.val (.int pa), .val (.ref b21), .val (.int 1), .val (.ref a1_), .unset, .unset] [(.ref a1_)])) _
   obtain ⟨cq47, kq47, q47a, q47b, q47c⟩ := isOf hZ e36 (E_a1_.ext O.2)
   obtain ⟨_, _, ⟨T47, L47, k47, n47⟩, -, X47, ⟨Lc47, hQ47, l47, y47, z47⟩, st47⟩ := X36.virtualBack hx (y := (⟨"com/example/crete/crete/policy/NameKind", "parentKind", "()Lcom/example/crete/crete/policy/NameKind;"⟩ : MethodName)) (z := (⟨"com/example/crete/crete/policy/NameKind", "parentKind", "()Lcom/example/crete/crete/policy/NameKind;"⟩ : MethodName)) hown (mvT hZ (ow hw 15)) (mvT hZ (ow hw 16)) (notFace_of_selects (args := #[]) (mvT hZ (ow hw 18))) (mvT hZ (ow hw 18)) (mvT hZ (ow hw 17)) (by decide) (backOf (W := 0) (rm1_1 l Z a0 hw [] a1_ a1_ h36 n0 O (E_a1_.ext O.2) (F_a1__Enum_ordinal.ext O.2) S_NameKind_GROUP) hZ (ow hw 19) (ow hw 3) (by decide) (by decide)) q47a q47c (g := (mkF m 47 #[.val (.int pa), .val (.ref b21), .val (.int 1), .val (.ref a1_), .unset, .unset] [(.ref a1_)])) rfl (by rw [hml]; rfl) (Steps.refl _) (argsL := []) (rest := []) (lenOf pd_1 rfl) rfl (by show 2 * 0 + _ ≤ _; exact Nat.le_of_eq rfl) (hb hby at_47) (fun _ _ => ⟨rfl, e36, (by decide : 1 + 0 ≤ _), (by decide : 5 + 0 ≤ _)⟩)
   dsimp only [Pt.U, Pt.locs, Pt.cells, Pt.slots] at X47 l47 y47 z47 st47 hQ47
   subst l47 y47 z47
   obtain ⟨rfl, N47q, e47⟩ := hQ47
   refine own_go (fun _ k => st47.trans k) ?_
   have N47 := Fr.app N36 N47q
   show own_Fin p e below (T47.setTop (mkF m 50 #[.val (.int pa), .val (.ref b21), .val (.int 1), .val (.ref a1_), .unset, .unset] [(.ref a1_)])) _
   refine own_go (fun _ k => XS.astore X47.here hx rfl (hb hby at_50) rfl rfl (l' := #[.val (.int pa), .val (.ref b21), .val (.int 1), .val (.ref a1_), .val (.ref a1_), .unset]) rfl (XS.iloadN X47.here hx rfl (hb hby at_52) rfl (XS.iconst X47.here hx rfl (hb hby at_53) (XS.icmpYes X47.here hx rfl (pc0 := 54) (pc' := 61) rfl (hb hby at_54) rfl (feq (by decide : ¬ ((1 : Int32) = (4 : Int32)))).2 (by decide) (by decide) (XS.iloadN X47.here hx rfl (hb hby at_61) rfl (XS.iconst X47.here hx rfl (hb hby at_62) (XS.ior X47.here hx rfl (hb hby at_63) rfl (XS.istore X47.here hx rfl (hb hby at_64) rfl (l' := #[.val (.int pa), .val (.ref b21), .val (.int 1), .val (.ref a1_), .val (.ref a1_), .val (.int 1)]) rfl (XS.aload X47.here hx rfl (hb hby at_66) rfl rfl (XS.aloadN X47.here hx rfl (hb hby at_68) rfl rfl k)))))))))) ?_
   show own_Fin p e below (T47.setTop (mkF m 69 #[.val (.int pa), .val (.ref b21), .val (.int 1), .val (.ref a1_), .val (.ref a1_), .val (.int 1)] [(.ref b21), (.ref a1_)])) _
   refine own_go (fun _ k => XS.iload X47.here hx rfl (hb hby at_69) rfl k) ?_
   show own_Fin p e below (T47.setTop (mkF m 71 #[.val (.int pa), .val (.ref b21), .val (.int 1), .val (.ref a1_), .val (.ref a1_), .val (.int 1)] [(.int 1), (.ref b21), (.ref a1_)])) _
   obtain ⟨cl48, A48, q48, S48, M48, H48, G48⟩ := id V_b21
   have hin48 : ¬ ((1 : Int32) < 0 ∨ cl48.slots.size ≤ ((1 : Int32)).toNatClampNeg) := inb_of S48 ⟨by decide, by decide⟩
   have hat48 : cl48.slots[((1 : Int32)).toNatClampNeg]? = some (.ref a1_) := Has.at H48 hin48 rfl
   refine own_go (fun _ k => X47.aaload hx (j := (1 : Int32)) (v := (.ref a1_)) (by rw [e47]; exact A48.1) (State.isArrayOf_alike hZ.alike A48.2.1) rfl A48.2.2 hin48 hat48 (g := (mkF m 71 #[.val (.int pa), .val (.ref b21), .val (.int 1), .val (.ref a1_), .val (.ref a1_), .val (.int 1)] [(.int 1), (.ref b21), (.ref a1_)])) rfl rfl (hb hby at_71) _ k) ?_
   show own_Fin p e below (T47.setTop (mkF m 72 #[.val (.int pa), .val (.ref b21), .val (.int 1), .val (.ref a1_), .val (.ref a1_), .val (.int 1)] [(.ref a1_), (.ref a1_)])) _
   refine own_go (fun _ k => Jvm.RoadKit.acmp (g := (mkF m 72 #[.val (.int pa), .val (.ref b21), .val (.int 1), .val (.ref a1_), .val (.ref a1_), .val (.int 1)] [(.ref a1_), (.ref a1_)])) X47 hx rfl rfl rfl (pc0 := 72) (pc' := 77) (same := true) rfl (hb hby at_72) rfl (decide_eq_true rfl) (by decide) (by decide) k) ?_
   show own_Fin p e below (T47.setTop (mkF m 77 #[.val (.int pa), .val (.ref b21), .val (.int 1), .val (.ref a1_), .val (.ref a1_), .val (.int 1)] [])) _
   refine own_go (fun _ k => XS.aload X47.here hx rfl (hb hby at_77) rfl rfl k) ?_
   show own_Fin p e below (T47.setTop (mkF m 79 #[.val (.int pa), .val (.ref b21), .val (.int 1), .val (.ref a1_), .val (.ref a1_), .val (.int 1)] [(.ref a1_)])) _
   obtain ⟨cq49, kq49, q49a, q49b, q49c⟩ := isOf hZ e47 (E_a1_.ext O.2)
   obtain ⟨_, _, ⟨T49, L49, k49, n49⟩, -, X49, ⟨Lc49, hQ49, l49, y49, z49⟩, st49⟩ := X47.virtualBack hx (y := (⟨"com/example/crete/crete/policy/NameKind", "parentKind", "()Lcom/example/crete/crete/policy/NameKind;"⟩ : MethodName)) (z := (⟨"com/example/crete/crete/policy/NameKind", "parentKind", "()Lcom/example/crete/crete/policy/NameKind;"⟩ : MethodName)) hown (mvT hZ (ow hw 15)) (mvT hZ (ow hw 16)) (notFace_of_selects (args := #[]) (mvT hZ (ow hw 18))) (mvT hZ (ow hw 18)) (mvT hZ (ow hw 17)) (by decide) (backOf (W := 0) (rm1_1 l Z a0 hw [] a1_ a1_ h36 n0 O (E_a1_.ext O.2) (F_a1__Enum_ordinal.ext O.2) S_NameKind_GROUP) hZ (ow hw 19) (ow hw 3) (by decide) (by decide)) q49a q49c (g := (mkF m 79 #[.val (.int pa), .val (.ref b21), .val (.int 1), .val (.ref a1_), .val (.ref a1_), .val (.int 1)] [(.ref a1_)])) rfl (by rw [hml]; rfl) (Steps.refl _) (argsL := []) (rest := []) (lenOf pd_1 rfl) rfl (by show 2 * 0 + _ ≤ _; exact Nat.le_of_eq rfl) (hb hby at_79) (fun _ _ => ⟨rfl, e47, (by decide : 1 + 0 ≤ _), (by decide : 5 + 0 ≤ _)⟩)
   dsimp only [Pt.U, Pt.locs, Pt.cells, Pt.slots] at X49 l49 y49 z49 st49 hQ49
   subst l49 y49 z49
   obtain ⟨rfl, N49q, e49⟩ := hQ49
   refine own_go (fun _ k => st49.trans k) ?_
   have N49 := Fr.app N47 N49q
   show own_Fin p e below (T49.setTop (mkF m 82 #[.val (.int pa), .val (.ref b21), .val (.int 1), .val (.ref a1_), .val (.ref a1_), .val (.int 1)] [(.ref a1_)])) _
   refine own_go (fun _ k => XS.aload X49.here hx rfl (hb hby at_82) rfl rfl k) ?_
   show own_Fin p e below (T49.setTop (mkF m 84 #[.val (.int pa), .val (.ref b21), .val (.int 1), .val (.ref a1_), .val (.ref a1_), .val (.int 1)] [(.ref a1_), (.ref a1_)])) _
   refine own_go (fun _ k => Jvm.RoadKit.acmp (g := (mkF m 84 #[.val (.int pa), .val (.ref b21), .val (.int 1), .val (.ref a1_), .val (.ref a1_), .val (.int 1)] [(.ref a1_), (.ref a1_)])) X49 hx rfl rfl rfl (pc0 := 84) (pc' := 89) (same := true) rfl (hb hby at_84) rfl (decide_eq_true rfl) (by decide) (by decide) k) ?_
   show own_Fin p e below (T49.setTop (mkF m 89 #[.val (.int pa), .val (.ref b21), .val (.int 1), .val (.ref a1_), .val (.ref a1_), .val (.int 1)] [])) _
   refine own_go (fun _ k => XS.aload X49.here hx rfl (hb hby at_89) rfl rfl k) ?_
   show own_Fin p e below (T49.setTop (mkF m 91 #[.val (.int pa), .val (.ref b21), .val (.int 1), .val (.ref a1_), .val (.ref a1_), .val (.int 1)] [(.ref a1_)])) _
   obtain ⟨cq50, kq50, q50a, q50b, q50c⟩ := isOf hZ e49 (E_a1_.ext O.2)
   obtain ⟨_, _, ⟨T50, L50, k50, n50⟩, -, X50, ⟨Lc50, hQ50, l50, y50, z50⟩, st50⟩ := X49.virtualBack hx (y := (⟨"com/example/crete/crete/policy/NameKind", "linkWord", "()Ljava/lang/String;"⟩ : MethodName)) (z := (⟨"com/example/crete/crete/policy/NameKind", "linkWord", "()Ljava/lang/String;"⟩ : MethodName)) hown (mvT hZ (ow hw 30)) (mvT hZ (ow hw 31)) (notFace_of_selects (args := #[]) (mvT hZ (ow hw 33))) (mvT hZ (ow hw 33)) (mvT hZ (ow hw 32)) (by decide) (backOf (W := 0) (rm3 l Z a0 hw [] a1_ s1 h36 n0 O (F_a1__NameKind_linkWord.ext O.2)) hZ (ow hw 34) (ow hw 3) (by decide) (by decide)) q50a q50c (g := (mkF m 91 #[.val (.int pa), .val (.ref b21), .val (.int 1), .val (.ref a1_), .val (.ref a1_), .val (.int 1)] [(.ref a1_)])) rfl (by rw [hml]; rfl) (Steps.refl _) (argsL := []) (rest := []) (lenOf pd_2 rfl) rfl (by show 2 * 0 + _ ≤ _; exact Nat.le_of_eq rfl) (hb hby at_91) (fun _ _ => ⟨rfl, e49, (by decide : 1 + 0 ≤ _), (by decide : 5 + 0 ≤ _)⟩)
   dsimp only [Pt.U, Pt.locs, Pt.cells, Pt.slots] at X50 l50 y50 z50 st50 hQ50
   subst l50 y50 z50
   obtain ⟨rfl, N50q, e50⟩ := hQ50
   refine own_go (fun _ k => st50.trans k) ?_
   have N50 := Fr.app N49 N50q
   show own_Fin p e below (T50.setTop (mkF m 94 #[.val (.int pa), .val (.ref b21), .val (.int 1), .val (.ref a1_), .val (.ref a1_), .val (.int 1)] [(.ref s1)])) _
   refine own_go (fun _ k => XS.aloadN X50.here hx rfl (hb hby at_94) rfl rfl k) ?_
   show own_Fin p e below (T50.setTop (mkF m 95 #[.val (.int pa), .val (.ref b21), .val (.int 1), .val (.ref a1_), .val (.ref a1_), .val (.int 1)] [(.ref a1_), (.ref s1)])) _
   obtain ⟨cq51, kq51, q51a, q51b, q51c⟩ := isOf hZ e50 (E_a1_.ext O.2)
   obtain ⟨_, _, ⟨T51, L51, k51, n51⟩, -, X51, ⟨Lc51, hQ51, l51, y51, z51⟩, st51⟩ := X50.virtualBack hx (y := (⟨"com/example/crete/crete/policy/NameKind", "linkWord", "()Ljava/lang/String;"⟩ : MethodName)) (z := (⟨"com/example/crete/crete/policy/NameKind", "linkWord", "()Ljava/lang/String;"⟩ : MethodName)) hown (mvT hZ (ow hw 30)) (mvT hZ (ow hw 31)) (notFace_of_selects (args := #[]) (mvT hZ (ow hw 33))) (mvT hZ (ow hw 33)) (mvT hZ (ow hw 32)) (by decide) (backOf (W := 1) (rm3 l Z a0 hw [] a1_ s1 h36 n0 O (F_a1__NameKind_linkWord.ext O.2)) hZ (ow hw 34) (ow hw 3) (by decide) (by decide)) q51a q51c (g := (mkF m 95 #[.val (.int pa), .val (.ref b21), .val (.int 1), .val (.ref a1_), .val (.ref a1_), .val (.int 1)] [(.ref a1_), (.ref s1)])) rfl (by rw [hml]; rfl) (Steps.refl _) (argsL := []) (rest := [(.ref s1)]) (lenOf pd_2 rfl) rfl (by show 2 * 0 + _ ≤ _; exact Nat.le_of_eq rfl) (hb hby at_95) (fun _ _ => ⟨rfl, e50, (by decide : 1 + 0 ≤ _), (by decide : 5 + 0 ≤ _)⟩)
   dsimp only [Pt.U, Pt.locs, Pt.cells, Pt.slots] at X51 l51 y51 z51 st51 hQ51
   subst l51 y51 z51
   obtain ⟨rfl, N51q, e51⟩ := hQ51
   refine own_go (fun _ k => st51.trans k) ?_
   have N51 := Fr.app N50 N51q
   show own_Fin p e below (T51.setTop (mkF m 98 #[.val (.int pa), .val (.ref b21), .val (.int 1), .val (.ref a1_), .val (.ref a1_), .val (.int 1)] [(.ref s1), (.ref s1)])) _
   obtain ⟨cq52, kq52, q52a, q52b, q52c⟩ := isOf hZ e51 (E_s1.ext O.2)
   obtain ⟨_, _, ⟨T52, L52, k52, n52⟩, -, X52, ⟨Lc52, hQ52, l52, y52, z52⟩, st52⟩ := X51.virtualBack hx (y := (⟨"java/lang/String", "equals", "(Ljava/lang/Object;)Z"⟩ : MethodName)) (z := (⟨"java/lang/String", "equals", "(Ljava/lang/Object;)Z"⟩ : MethodName)) hown (mvT hZ (ow hw 37)) (mvT hZ (ow hw 38)) (notFace_of_selects (args := #[]) (mvT hZ (ow hw 40))) (mvT hZ (ow hw 40)) (mvT hZ (ow hw 39)) (by decide) (backOf (W := 0) (rm4 l Z a0 hw [] s1 h36 n0 O ) hZ (ow hw 42) (ow hw 41) (by decide) (by decide)) q52a q52c (g := (mkF m 98 #[.val (.int pa), .val (.ref b21), .val (.int 1), .val (.ref a1_), .val (.ref a1_), .val (.int 1)] [(.ref s1), (.ref s1)])) rfl (by rw [hml]; rfl) (Steps.refl _) (argsL := [(.ref s1)]) (rest := []) (lenOf pd_3 rfl) rfl (by show 2 * 0 + _ ≤ _; exact Nat.le_of_eq rfl) (hb hby at_98) (fun _ _ => ⟨rfl, e51, (by decide : 1 + 0 ≤ _), (by decide : 5 + 0 ≤ _)⟩)
   dsimp only [Pt.U, Pt.locs, Pt.cells, Pt.slots] at X52 l52 y52 z52 st52 hQ52
   subst l52 y52 z52
   obtain ⟨rfl, N52q, e52⟩ := hQ52
   refine own_go (fun _ k => st52.trans k) ?_
   have N52 := Fr.app N51 N52q
   show own_Fin p e below (T52.setTop (mkF m 101 #[.val (.int pa), .val (.ref b21), .val (.int 1), .val (.ref a1_), .val (.ref a1_), .val (.int 1)] [(.int 1)])) _
   obtain ⟨fs, hr, hrun, hended, hW, hsame⟩ := X52.leave (v := some (.int 1)) (fun h => by rw [Bd.returns] at h; cases h)
   refine ⟨_, _, ?_, hrun, hended, _, _, rfl, ?_, ⟨_, rfl⟩, hW, hsame.mono (by decide) (by decide)⟩
   ·exact retN X52 hx (t := .boolean) Bd.returns (by simp) (hb hby at_101) hr
   ·show Qrm0 Z pa a0_ a1_ a2_ a3_ a4_ s1 s4 h0 n0 _ T52.heap _
    rw [e52]
    exact ⟨rfl, N52, K37⟩
  ·rw [hk]
   show own_Fin p e below (T36.setTop (mkF m 42 #[.val (.int pa), .val (.ref b21), .val (.int 2), .unset, .unset, .unset] [])) _
   refine own_go (fun _ k => XS.aloadN X36.here hx rfl (hb hby at_42) rfl rfl (XS.iloadN X36.here hx rfl (hb hby at_43) rfl k)) ?_
   show own_Fin p e below (T36.setTop (mkF m 44 #[.val (.int pa), .val (.ref b21), .val (.int 2), .unset, .unset, .unset] [(.int 2), (.ref b21)])) _
   obtain ⟨cl54, A54, q54, S54, M54, H54, G54⟩ := id V_b21
   have hin54 : ¬ ((2 : Int32) < 0 ∨ cl54.slots.size ≤ ((2 : Int32)).toNatClampNeg) := inb_of S54 ⟨by decide, by decide⟩
   have hat54 : cl54.slots[((2 : Int32)).toNatClampNeg]? = some (.ref a2_) := Has.at H54 hin54 rfl
   refine own_go (fun _ k => X36.aaload hx (j := (2 : Int32)) (v := (.ref a2_)) (by rw [e36]; exact A54.1) (State.isArrayOf_alike hZ.alike A54.2.1) rfl A54.2.2 hin54 hat54 (g := (mkF m 44 #[.val (.int pa), .val (.ref b21), .val (.int 2), .unset, .unset, .unset] [(.int 2), (.ref b21)])) rfl rfl (hb hby at_44) _ k) ?_
   show own_Fin p e below (T36.setTop (mkF m 45 #[.val (.int pa), .val (.ref b21), .val (.int 2), .unset, .unset, .unset] [(.ref a2_)])) _
   refine own_go (fun _ k => XS.astoreN X36.here hx rfl (hb hby at_45) rfl rfl (l' := #[.val (.int pa), .val (.ref b21), .val (.int 2), .val (.ref a2_), .unset, .unset]) rfl (XS.aloadN X36.here hx rfl (hb hby at_46) rfl rfl k)) ?_
   show own_Fin p e below (T36.setTop (mkF m 47 #[.val (.int pa), .val (.ref b21), .val (.int 2), .val (.ref a2_), .unset, .unset] [(.ref a2_)])) _
   obtain ⟨cq55, kq55, q55a, q55b, q55c⟩ := isOf hZ e36 (E_a2_.ext O.2)
   obtain ⟨_, _, ⟨T55, L55, k55, n55⟩, -, X55, ⟨Lc55, hQ55, l55, y55, z55⟩, st55⟩ := X36.virtualBack hx (y := (⟨"com/example/crete/crete/policy/NameKind", "parentKind", "()Lcom/example/crete/crete/policy/NameKind;"⟩ : MethodName)) (z := (⟨"com/example/crete/crete/policy/NameKind", "parentKind", "()Lcom/example/crete/crete/policy/NameKind;"⟩ : MethodName)) hown (mvT hZ (ow hw 15)) (mvT hZ (ow hw 16)) (notFace_of_selects (args := #[]) (mvT hZ (ow hw 18))) (mvT hZ (ow hw 18)) (mvT hZ (ow hw 17)) (by decide) (backOf (W := 0) (rm1_2 l Z a0 hw [] a2_ a3_ h36 n0 O (E_a2_.ext O.2) (F_a2__Enum_ordinal.ext O.2) S_NameKind_CLASS) hZ (ow hw 19) (ow hw 3) (by decide) (by decide)) q55a q55c (g := (mkF m 47 #[.val (.int pa), .val (.ref b21), .val (.int 2), .val (.ref a2_), .unset, .unset] [(.ref a2_)])) rfl (by rw [hml]; rfl) (Steps.refl _) (argsL := []) (rest := []) (lenOf pd_1 rfl) rfl (by show 2 * 0 + _ ≤ _; exact Nat.le_of_eq rfl) (hb hby at_47) (fun _ _ => ⟨rfl, e36, (by decide : 1 + 0 ≤ _), (by decide : 5 + 0 ≤ _)⟩)
   dsimp only [Pt.U, Pt.locs, Pt.cells, Pt.slots] at X55 l55 y55 z55 st55 hQ55
   subst l55 y55 z55
   obtain ⟨rfl, N55q, e55⟩ := hQ55
   refine own_go (fun _ k => st55.trans k) ?_
   have N55 := Fr.app N36 N55q
   show own_Fin p e below (T55.setTop (mkF m 50 #[.val (.int pa), .val (.ref b21), .val (.int 2), .val (.ref a2_), .unset, .unset] [(.ref a3_)])) _
   refine own_go (fun _ k => XS.astore X55.here hx rfl (hb hby at_50) rfl rfl (l' := #[.val (.int pa), .val (.ref b21), .val (.int 2), .val (.ref a2_), .val (.ref a3_), .unset]) rfl (XS.iloadN X55.here hx rfl (hb hby at_52) rfl (XS.iconst X55.here hx rfl (hb hby at_53) (XS.icmpYes X55.here hx rfl (pc0 := 54) (pc' := 61) rfl (hb hby at_54) rfl (feq (by decide : ¬ ((2 : Int32) = (4 : Int32)))).2 (by decide) (by decide) (XS.iloadN X55.here hx rfl (hb hby at_61) rfl (XS.iconst X55.here hx rfl (hb hby at_62) (XS.ior X55.here hx rfl (hb hby at_63) rfl (XS.istore X55.here hx rfl (hb hby at_64) rfl (l' := #[.val (.int pa), .val (.ref b21), .val (.int 2), .val (.ref a2_), .val (.ref a3_), .val (.int 3)]) rfl (XS.aload X55.here hx rfl (hb hby at_66) rfl rfl (XS.aloadN X55.here hx rfl (hb hby at_68) rfl rfl k)))))))))) ?_
   show own_Fin p e below (T55.setTop (mkF m 69 #[.val (.int pa), .val (.ref b21), .val (.int 2), .val (.ref a2_), .val (.ref a3_), .val (.int 3)] [(.ref b21), (.ref a3_)])) _
   refine own_go (fun _ k => XS.iload X55.here hx rfl (hb hby at_69) rfl k) ?_
   show own_Fin p e below (T55.setTop (mkF m 71 #[.val (.int pa), .val (.ref b21), .val (.int 2), .val (.ref a2_), .val (.ref a3_), .val (.int 3)] [(.int 3), (.ref b21), (.ref a3_)])) _
   obtain ⟨cl56, A56, q56, S56, M56, H56, G56⟩ := id V_b21
   have hin56 : ¬ ((3 : Int32) < 0 ∨ cl56.slots.size ≤ ((3 : Int32)).toNatClampNeg) := inb_of S56 ⟨by decide, by decide⟩
   have hat56 : cl56.slots[((3 : Int32)).toNatClampNeg]? = some (.ref a3_) := Has.at H56 hin56 rfl
   refine own_go (fun _ k => X55.aaload hx (j := (3 : Int32)) (v := (.ref a3_)) (by rw [e55]; exact A56.1) (State.isArrayOf_alike hZ.alike A56.2.1) rfl A56.2.2 hin56 hat56 (g := (mkF m 71 #[.val (.int pa), .val (.ref b21), .val (.int 2), .val (.ref a2_), .val (.ref a3_), .val (.int 3)] [(.int 3), (.ref b21), (.ref a3_)])) rfl rfl (hb hby at_71) _ k) ?_
   show own_Fin p e below (T55.setTop (mkF m 72 #[.val (.int pa), .val (.ref b21), .val (.int 2), .val (.ref a2_), .val (.ref a3_), .val (.int 3)] [(.ref a3_), (.ref a3_)])) _
   refine own_go (fun _ k => Jvm.RoadKit.acmp (g := (mkF m 72 #[.val (.int pa), .val (.ref b21), .val (.int 2), .val (.ref a2_), .val (.ref a3_), .val (.int 3)] [(.ref a3_), (.ref a3_)])) X55 hx rfl rfl rfl (pc0 := 72) (pc' := 77) (same := true) rfl (hb hby at_72) rfl (decide_eq_true rfl) (by decide) (by decide) k) ?_
   show own_Fin p e below (T55.setTop (mkF m 77 #[.val (.int pa), .val (.ref b21), .val (.int 2), .val (.ref a2_), .val (.ref a3_), .val (.int 3)] [])) _
   refine own_go (fun _ k => XS.aload X55.here hx rfl (hb hby at_77) rfl rfl k) ?_
   show own_Fin p e below (T55.setTop (mkF m 79 #[.val (.int pa), .val (.ref b21), .val (.int 2), .val (.ref a2_), .val (.ref a3_), .val (.int 3)] [(.ref a3_)])) _
   obtain ⟨cq57, kq57, q57a, q57b, q57c⟩ := isOf hZ e55 (E_a3_.ext O.2)
   obtain ⟨_, _, ⟨T57, L57, k57, n57⟩, -, X57, ⟨Lc57, hQ57, l57, y57, z57⟩, st57⟩ := X55.virtualBack hx (y := (⟨"com/example/crete/crete/policy/NameKind", "parentKind", "()Lcom/example/crete/crete/policy/NameKind;"⟩ : MethodName)) (z := (⟨"com/example/crete/crete/policy/NameKind", "parentKind", "()Lcom/example/crete/crete/policy/NameKind;"⟩ : MethodName)) hown (mvT hZ (ow hw 15)) (mvT hZ (ow hw 16)) (notFace_of_selects (args := #[]) (mvT hZ (ow hw 18))) (mvT hZ (ow hw 18)) (mvT hZ (ow hw 17)) (by decide) (backOf (W := 0) (rm1_3 l Z a0 hw [] a3_ a3_ h36 n0 O (E_a3_.ext O.2) (F_a3__Enum_ordinal.ext O.2) S_NameKind_CLASS) hZ (ow hw 19) (ow hw 3) (by decide) (by decide)) q57a q57c (g := (mkF m 79 #[.val (.int pa), .val (.ref b21), .val (.int 2), .val (.ref a2_), .val (.ref a3_), .val (.int 3)] [(.ref a3_)])) rfl (by rw [hml]; rfl) (Steps.refl _) (argsL := []) (rest := []) (lenOf pd_1 rfl) rfl (by show 2 * 0 + _ ≤ _; exact Nat.le_of_eq rfl) (hb hby at_79) (fun _ _ => ⟨rfl, e55, (by decide : 1 + 0 ≤ _), (by decide : 5 + 0 ≤ _)⟩)
   dsimp only [Pt.U, Pt.locs, Pt.cells, Pt.slots] at X57 l57 y57 z57 st57 hQ57
   subst l57 y57 z57
   obtain ⟨rfl, N57q, e57⟩ := hQ57
   refine own_go (fun _ k => st57.trans k) ?_
   have N57 := Fr.app N55 N57q
   show own_Fin p e below (T57.setTop (mkF m 82 #[.val (.int pa), .val (.ref b21), .val (.int 2), .val (.ref a2_), .val (.ref a3_), .val (.int 3)] [(.ref a3_)])) _
   refine own_go (fun _ k => XS.aload X57.here hx rfl (hb hby at_82) rfl rfl k) ?_
   show own_Fin p e below (T57.setTop (mkF m 84 #[.val (.int pa), .val (.ref b21), .val (.int 2), .val (.ref a2_), .val (.ref a3_), .val (.int 3)] [(.ref a3_), (.ref a3_)])) _
   refine own_go (fun _ k => Jvm.RoadKit.acmp (g := (mkF m 84 #[.val (.int pa), .val (.ref b21), .val (.int 2), .val (.ref a2_), .val (.ref a3_), .val (.int 3)] [(.ref a3_), (.ref a3_)])) X57 hx rfl rfl rfl (pc0 := 84) (pc' := 89) (same := true) rfl (hb hby at_84) rfl (decide_eq_true rfl) (by decide) (by decide) k) ?_
   show own_Fin p e below (T57.setTop (mkF m 89 #[.val (.int pa), .val (.ref b21), .val (.int 2), .val (.ref a2_), .val (.ref a3_), .val (.int 3)] [])) _
   refine own_go (fun _ k => XS.aload X57.here hx rfl (hb hby at_89) rfl rfl k) ?_
   show own_Fin p e below (T57.setTop (mkF m 91 #[.val (.int pa), .val (.ref b21), .val (.int 2), .val (.ref a2_), .val (.ref a3_), .val (.int 3)] [(.ref a3_)])) _
   obtain ⟨cq58, kq58, q58a, q58b, q58c⟩ := isOf hZ e57 (E_a3_.ext O.2)
   obtain ⟨_, _, ⟨T58, L58, k58, n58⟩, -, X58, ⟨Lc58, hQ58, l58, y58, z58⟩, st58⟩ := X57.virtualBack hx (y := (⟨"com/example/crete/crete/policy/NameKind", "linkWord", "()Ljava/lang/String;"⟩ : MethodName)) (z := (⟨"com/example/crete/crete/policy/NameKind", "linkWord", "()Ljava/lang/String;"⟩ : MethodName)) hown (mvT hZ (ow hw 30)) (mvT hZ (ow hw 31)) (notFace_of_selects (args := #[]) (mvT hZ (ow hw 33))) (mvT hZ (ow hw 33)) (mvT hZ (ow hw 32)) (by decide) (backOf (W := 0) (rm3 l Z a0 hw [] a3_ s1 h36 n0 O (F_a3__NameKind_linkWord.ext O.2)) hZ (ow hw 34) (ow hw 3) (by decide) (by decide)) q58a q58c (g := (mkF m 91 #[.val (.int pa), .val (.ref b21), .val (.int 2), .val (.ref a2_), .val (.ref a3_), .val (.int 3)] [(.ref a3_)])) rfl (by rw [hml]; rfl) (Steps.refl _) (argsL := []) (rest := []) (lenOf pd_2 rfl) rfl (by show 2 * 0 + _ ≤ _; exact Nat.le_of_eq rfl) (hb hby at_91) (fun _ _ => ⟨rfl, e57, (by decide : 1 + 0 ≤ _), (by decide : 5 + 0 ≤ _)⟩)
   dsimp only [Pt.U, Pt.locs, Pt.cells, Pt.slots] at X58 l58 y58 z58 st58 hQ58
   subst l58 y58 z58
   obtain ⟨rfl, N58q, e58⟩ := hQ58
   refine own_go (fun _ k => st58.trans k) ?_
   have N58 := Fr.app N57 N58q
   show own_Fin p e below (T58.setTop (mkF m 94 #[.val (.int pa), .val (.ref b21), .val (.int 2), .val (.ref a2_), .val (.ref a3_), .val (.int 3)] [(.ref s1)])) _
   refine own_go (fun _ k => XS.aloadN X58.here hx rfl (hb hby at_94) rfl rfl k) ?_
   show own_Fin p e below (T58.setTop (mkF m 95 #[.val (.int pa), .val (.ref b21), .val (.int 2), .val (.ref a2_), .val (.ref a3_), .val (.int 3)] [(.ref a2_), (.ref s1)])) _
   obtain ⟨cq59, kq59, q59a, q59b, q59c⟩ := isOf hZ e58 (E_a2_.ext O.2)
   obtain ⟨_, _, ⟨T59, L59, k59, n59⟩, -, X59, ⟨Lc59, hQ59, l59, y59, z59⟩, st59⟩ := X58.virtualBack hx (y := (⟨"com/example/crete/crete/policy/NameKind", "linkWord", "()Ljava/lang/String;"⟩ : MethodName)) (z := (⟨"com/example/crete/crete/policy/NameKind", "linkWord", "()Ljava/lang/String;"⟩ : MethodName)) hown (mvT hZ (ow hw 30)) (mvT hZ (ow hw 31)) (notFace_of_selects (args := #[]) (mvT hZ (ow hw 33))) (mvT hZ (ow hw 33)) (mvT hZ (ow hw 32)) (by decide) (backOf (W := 1) (rm3 l Z a0 hw [] a2_ s1 h36 n0 O (F_a2__NameKind_linkWord.ext O.2)) hZ (ow hw 34) (ow hw 3) (by decide) (by decide)) q59a q59c (g := (mkF m 95 #[.val (.int pa), .val (.ref b21), .val (.int 2), .val (.ref a2_), .val (.ref a3_), .val (.int 3)] [(.ref a2_), (.ref s1)])) rfl (by rw [hml]; rfl) (Steps.refl _) (argsL := []) (rest := [(.ref s1)]) (lenOf pd_2 rfl) rfl (by show 2 * 0 + _ ≤ _; exact Nat.le_of_eq rfl) (hb hby at_95) (fun _ _ => ⟨rfl, e58, (by decide : 1 + 0 ≤ _), (by decide : 5 + 0 ≤ _)⟩)
   dsimp only [Pt.U, Pt.locs, Pt.cells, Pt.slots] at X59 l59 y59 z59 st59 hQ59
   subst l59 y59 z59
   obtain ⟨rfl, N59q, e59⟩ := hQ59
   refine own_go (fun _ k => st59.trans k) ?_
   have N59 := Fr.app N58 N59q
   show own_Fin p e below (T59.setTop (mkF m 98 #[.val (.int pa), .val (.ref b21), .val (.int 2), .val (.ref a2_), .val (.ref a3_), .val (.int 3)] [(.ref s1), (.ref s1)])) _
   obtain ⟨cq60, kq60, q60a, q60b, q60c⟩ := isOf hZ e59 (E_s1.ext O.2)
   obtain ⟨_, _, ⟨T60, L60, k60, n60⟩, -, X60, ⟨Lc60, hQ60, l60, y60, z60⟩, st60⟩ := X59.virtualBack hx (y := (⟨"java/lang/String", "equals", "(Ljava/lang/Object;)Z"⟩ : MethodName)) (z := (⟨"java/lang/String", "equals", "(Ljava/lang/Object;)Z"⟩ : MethodName)) hown (mvT hZ (ow hw 37)) (mvT hZ (ow hw 38)) (notFace_of_selects (args := #[]) (mvT hZ (ow hw 40))) (mvT hZ (ow hw 40)) (mvT hZ (ow hw 39)) (by decide) (backOf (W := 0) (rm4 l Z a0 hw [] s1 h36 n0 O ) hZ (ow hw 42) (ow hw 41) (by decide) (by decide)) q60a q60c (g := (mkF m 98 #[.val (.int pa), .val (.ref b21), .val (.int 2), .val (.ref a2_), .val (.ref a3_), .val (.int 3)] [(.ref s1), (.ref s1)])) rfl (by rw [hml]; rfl) (Steps.refl _) (argsL := [(.ref s1)]) (rest := []) (lenOf pd_3 rfl) rfl (by show 2 * 0 + _ ≤ _; exact Nat.le_of_eq rfl) (hb hby at_98) (fun _ _ => ⟨rfl, e59, (by decide : 1 + 0 ≤ _), (by decide : 5 + 0 ≤ _)⟩)
   dsimp only [Pt.U, Pt.locs, Pt.cells, Pt.slots] at X60 l60 y60 z60 st60 hQ60
   subst l60 y60 z60
   obtain ⟨rfl, N60q, e60⟩ := hQ60
   refine own_go (fun _ k => st60.trans k) ?_
   have N60 := Fr.app N59 N60q
   show own_Fin p e below (T60.setTop (mkF m 101 #[.val (.int pa), .val (.ref b21), .val (.int 2), .val (.ref a2_), .val (.ref a3_), .val (.int 3)] [(.int 1)])) _
   obtain ⟨fs, hr, hrun, hended, hW, hsame⟩ := X60.leave (v := some (.int 1)) (fun h => by rw [Bd.returns] at h; cases h)
   refine ⟨_, _, ?_, hrun, hended, _, _, rfl, ?_, ⟨_, rfl⟩, hW, hsame.mono (by decide) (by decide)⟩
   ·exact retN X60 hx (t := .boolean) Bd.returns (by simp) (hb hby at_101) hr
   ·show Qrm0 Z pa a0_ a1_ a2_ a3_ a4_ s1 s4 h0 n0 _ T60.heap _
    rw [e60]
    exact ⟨rfl, N60, K37⟩
  ·rw [hk]
   show own_Fin p e below (T36.setTop (mkF m 42 #[.val (.int pa), .val (.ref b21), .val (.int 3), .unset, .unset, .unset] [])) _
   refine own_go (fun _ k => XS.aloadN X36.here hx rfl (hb hby at_42) rfl rfl (XS.iloadN X36.here hx rfl (hb hby at_43) rfl k)) ?_
   show own_Fin p e below (T36.setTop (mkF m 44 #[.val (.int pa), .val (.ref b21), .val (.int 3), .unset, .unset, .unset] [(.int 3), (.ref b21)])) _
   obtain ⟨cl62, A62, q62, S62, M62, H62, G62⟩ := id V_b21
   have hin62 : ¬ ((3 : Int32) < 0 ∨ cl62.slots.size ≤ ((3 : Int32)).toNatClampNeg) := inb_of S62 ⟨by decide, by decide⟩
   have hat62 : cl62.slots[((3 : Int32)).toNatClampNeg]? = some (.ref a3_) := Has.at H62 hin62 rfl
   refine own_go (fun _ k => X36.aaload hx (j := (3 : Int32)) (v := (.ref a3_)) (by rw [e36]; exact A62.1) (State.isArrayOf_alike hZ.alike A62.2.1) rfl A62.2.2 hin62 hat62 (g := (mkF m 44 #[.val (.int pa), .val (.ref b21), .val (.int 3), .unset, .unset, .unset] [(.int 3), (.ref b21)])) rfl rfl (hb hby at_44) _ k) ?_
   show own_Fin p e below (T36.setTop (mkF m 45 #[.val (.int pa), .val (.ref b21), .val (.int 3), .unset, .unset, .unset] [(.ref a3_)])) _
   refine own_go (fun _ k => XS.astoreN X36.here hx rfl (hb hby at_45) rfl rfl (l' := #[.val (.int pa), .val (.ref b21), .val (.int 3), .val (.ref a3_), .unset, .unset]) rfl (XS.aloadN X36.here hx rfl (hb hby at_46) rfl rfl k)) ?_
   show own_Fin p e below (T36.setTop (mkF m 47 #[.val (.int pa), .val (.ref b21), .val (.int 3), .val (.ref a3_), .unset, .unset] [(.ref a3_)])) _
   obtain ⟨cq63, kq63, q63a, q63b, q63c⟩ := isOf hZ e36 (E_a3_.ext O.2)
   obtain ⟨_, _, ⟨T63, L63, k63, n63⟩, -, X63, ⟨Lc63, hQ63, l63, y63, z63⟩, st63⟩ := X36.virtualBack hx (y := (⟨"com/example/crete/crete/policy/NameKind", "parentKind", "()Lcom/example/crete/crete/policy/NameKind;"⟩ : MethodName)) (z := (⟨"com/example/crete/crete/policy/NameKind", "parentKind", "()Lcom/example/crete/crete/policy/NameKind;"⟩ : MethodName)) hown (mvT hZ (ow hw 15)) (mvT hZ (ow hw 16)) (notFace_of_selects (args := #[]) (mvT hZ (ow hw 18))) (mvT hZ (ow hw 18)) (mvT hZ (ow hw 17)) (by decide) (backOf (W := 0) (rm1_3 l Z a0 hw [] a3_ a3_ h36 n0 O (E_a3_.ext O.2) (F_a3__Enum_ordinal.ext O.2) S_NameKind_CLASS) hZ (ow hw 19) (ow hw 3) (by decide) (by decide)) q63a q63c (g := (mkF m 47 #[.val (.int pa), .val (.ref b21), .val (.int 3), .val (.ref a3_), .unset, .unset] [(.ref a3_)])) rfl (by rw [hml]; rfl) (Steps.refl _) (argsL := []) (rest := []) (lenOf pd_1 rfl) rfl (by show 2 * 0 + _ ≤ _; exact Nat.le_of_eq rfl) (hb hby at_47) (fun _ _ => ⟨rfl, e36, (by decide : 1 + 0 ≤ _), (by decide : 5 + 0 ≤ _)⟩)
   dsimp only [Pt.U, Pt.locs, Pt.cells, Pt.slots] at X63 l63 y63 z63 st63 hQ63
   subst l63 y63 z63
   obtain ⟨rfl, N63q, e63⟩ := hQ63
   refine own_go (fun _ k => st63.trans k) ?_
   have N63 := Fr.app N36 N63q
   show own_Fin p e below (T63.setTop (mkF m 50 #[.val (.int pa), .val (.ref b21), .val (.int 3), .val (.ref a3_), .unset, .unset] [(.ref a3_)])) _
   refine own_go (fun _ k => XS.astore X63.here hx rfl (hb hby at_50) rfl rfl (l' := #[.val (.int pa), .val (.ref b21), .val (.int 3), .val (.ref a3_), .val (.ref a3_), .unset]) rfl (XS.iloadN X63.here hx rfl (hb hby at_52) rfl (XS.iconst X63.here hx rfl (hb hby at_53) (XS.icmpYes X63.here hx rfl (pc0 := 54) (pc' := 61) rfl (hb hby at_54) rfl (feq (by decide : ¬ ((3 : Int32) = (4 : Int32)))).2 (by decide) (by decide) (XS.iloadN X63.here hx rfl (hb hby at_61) rfl (XS.iconst X63.here hx rfl (hb hby at_62) (XS.ior X63.here hx rfl (hb hby at_63) rfl (XS.istore X63.here hx rfl (hb hby at_64) rfl (l' := #[.val (.int pa), .val (.ref b21), .val (.int 3), .val (.ref a3_), .val (.ref a3_), .val (.int 3)]) rfl (XS.aload X63.here hx rfl (hb hby at_66) rfl rfl (XS.aloadN X63.here hx rfl (hb hby at_68) rfl rfl k)))))))))) ?_
   show own_Fin p e below (T63.setTop (mkF m 69 #[.val (.int pa), .val (.ref b21), .val (.int 3), .val (.ref a3_), .val (.ref a3_), .val (.int 3)] [(.ref b21), (.ref a3_)])) _
   refine own_go (fun _ k => XS.iload X63.here hx rfl (hb hby at_69) rfl k) ?_
   show own_Fin p e below (T63.setTop (mkF m 71 #[.val (.int pa), .val (.ref b21), .val (.int 3), .val (.ref a3_), .val (.ref a3_), .val (.int 3)] [(.int 3), (.ref b21), (.ref a3_)])) _
   obtain ⟨cl64, A64, q64, S64, M64, H64, G64⟩ := id V_b21
   have hin64 : ¬ ((3 : Int32) < 0 ∨ cl64.slots.size ≤ ((3 : Int32)).toNatClampNeg) := inb_of S64 ⟨by decide, by decide⟩
   have hat64 : cl64.slots[((3 : Int32)).toNatClampNeg]? = some (.ref a3_) := Has.at H64 hin64 rfl
   refine own_go (fun _ k => X63.aaload hx (j := (3 : Int32)) (v := (.ref a3_)) (by rw [e63]; exact A64.1) (State.isArrayOf_alike hZ.alike A64.2.1) rfl A64.2.2 hin64 hat64 (g := (mkF m 71 #[.val (.int pa), .val (.ref b21), .val (.int 3), .val (.ref a3_), .val (.ref a3_), .val (.int 3)] [(.int 3), (.ref b21), (.ref a3_)])) rfl rfl (hb hby at_71) _ k) ?_
   show own_Fin p e below (T63.setTop (mkF m 72 #[.val (.int pa), .val (.ref b21), .val (.int 3), .val (.ref a3_), .val (.ref a3_), .val (.int 3)] [(.ref a3_), (.ref a3_)])) _
   refine own_go (fun _ k => Jvm.RoadKit.acmp (g := (mkF m 72 #[.val (.int pa), .val (.ref b21), .val (.int 3), .val (.ref a3_), .val (.ref a3_), .val (.int 3)] [(.ref a3_), (.ref a3_)])) X63 hx rfl rfl rfl (pc0 := 72) (pc' := 77) (same := true) rfl (hb hby at_72) rfl (decide_eq_true rfl) (by decide) (by decide) k) ?_
   show own_Fin p e below (T63.setTop (mkF m 77 #[.val (.int pa), .val (.ref b21), .val (.int 3), .val (.ref a3_), .val (.ref a3_), .val (.int 3)] [])) _
   refine own_go (fun _ k => XS.aload X63.here hx rfl (hb hby at_77) rfl rfl k) ?_
   show own_Fin p e below (T63.setTop (mkF m 79 #[.val (.int pa), .val (.ref b21), .val (.int 3), .val (.ref a3_), .val (.ref a3_), .val (.int 3)] [(.ref a3_)])) _
   obtain ⟨cq65, kq65, q65a, q65b, q65c⟩ := isOf hZ e63 (E_a3_.ext O.2)
   obtain ⟨_, _, ⟨T65, L65, k65, n65⟩, -, X65, ⟨Lc65, hQ65, l65, y65, z65⟩, st65⟩ := X63.virtualBack hx (y := (⟨"com/example/crete/crete/policy/NameKind", "parentKind", "()Lcom/example/crete/crete/policy/NameKind;"⟩ : MethodName)) (z := (⟨"com/example/crete/crete/policy/NameKind", "parentKind", "()Lcom/example/crete/crete/policy/NameKind;"⟩ : MethodName)) hown (mvT hZ (ow hw 15)) (mvT hZ (ow hw 16)) (notFace_of_selects (args := #[]) (mvT hZ (ow hw 18))) (mvT hZ (ow hw 18)) (mvT hZ (ow hw 17)) (by decide) (backOf (W := 0) (rm1_3 l Z a0 hw [] a3_ a3_ h36 n0 O (E_a3_.ext O.2) (F_a3__Enum_ordinal.ext O.2) S_NameKind_CLASS) hZ (ow hw 19) (ow hw 3) (by decide) (by decide)) q65a q65c (g := (mkF m 79 #[.val (.int pa), .val (.ref b21), .val (.int 3), .val (.ref a3_), .val (.ref a3_), .val (.int 3)] [(.ref a3_)])) rfl (by rw [hml]; rfl) (Steps.refl _) (argsL := []) (rest := []) (lenOf pd_1 rfl) rfl (by show 2 * 0 + _ ≤ _; exact Nat.le_of_eq rfl) (hb hby at_79) (fun _ _ => ⟨rfl, e63, (by decide : 1 + 0 ≤ _), (by decide : 5 + 0 ≤ _)⟩)
   dsimp only [Pt.U, Pt.locs, Pt.cells, Pt.slots] at X65 l65 y65 z65 st65 hQ65
   subst l65 y65 z65
   obtain ⟨rfl, N65q, e65⟩ := hQ65
   refine own_go (fun _ k => st65.trans k) ?_
   have N65 := Fr.app N63 N65q
   show own_Fin p e below (T65.setTop (mkF m 82 #[.val (.int pa), .val (.ref b21), .val (.int 3), .val (.ref a3_), .val (.ref a3_), .val (.int 3)] [(.ref a3_)])) _
   refine own_go (fun _ k => XS.aload X65.here hx rfl (hb hby at_82) rfl rfl k) ?_
   show own_Fin p e below (T65.setTop (mkF m 84 #[.val (.int pa), .val (.ref b21), .val (.int 3), .val (.ref a3_), .val (.ref a3_), .val (.int 3)] [(.ref a3_), (.ref a3_)])) _
   refine own_go (fun _ k => Jvm.RoadKit.acmp (g := (mkF m 84 #[.val (.int pa), .val (.ref b21), .val (.int 3), .val (.ref a3_), .val (.ref a3_), .val (.int 3)] [(.ref a3_), (.ref a3_)])) X65 hx rfl rfl rfl (pc0 := 84) (pc' := 89) (same := true) rfl (hb hby at_84) rfl (decide_eq_true rfl) (by decide) (by decide) k) ?_
   show own_Fin p e below (T65.setTop (mkF m 89 #[.val (.int pa), .val (.ref b21), .val (.int 3), .val (.ref a3_), .val (.ref a3_), .val (.int 3)] [])) _
   refine own_go (fun _ k => XS.aload X65.here hx rfl (hb hby at_89) rfl rfl k) ?_
   show own_Fin p e below (T65.setTop (mkF m 91 #[.val (.int pa), .val (.ref b21), .val (.int 3), .val (.ref a3_), .val (.ref a3_), .val (.int 3)] [(.ref a3_)])) _
   obtain ⟨cq66, kq66, q66a, q66b, q66c⟩ := isOf hZ e65 (E_a3_.ext O.2)
   obtain ⟨_, _, ⟨T66, L66, k66, n66⟩, -, X66, ⟨Lc66, hQ66, l66, y66, z66⟩, st66⟩ := X65.virtualBack hx (y := (⟨"com/example/crete/crete/policy/NameKind", "linkWord", "()Ljava/lang/String;"⟩ : MethodName)) (z := (⟨"com/example/crete/crete/policy/NameKind", "linkWord", "()Ljava/lang/String;"⟩ : MethodName)) hown (mvT hZ (ow hw 30)) (mvT hZ (ow hw 31)) (notFace_of_selects (args := #[]) (mvT hZ (ow hw 33))) (mvT hZ (ow hw 33)) (mvT hZ (ow hw 32)) (by decide) (backOf (W := 0) (rm3 l Z a0 hw [] a3_ s1 h36 n0 O (F_a3__NameKind_linkWord.ext O.2)) hZ (ow hw 34) (ow hw 3) (by decide) (by decide)) q66a q66c (g := (mkF m 91 #[.val (.int pa), .val (.ref b21), .val (.int 3), .val (.ref a3_), .val (.ref a3_), .val (.int 3)] [(.ref a3_)])) rfl (by rw [hml]; rfl) (Steps.refl _) (argsL := []) (rest := []) (lenOf pd_2 rfl) rfl (by show 2 * 0 + _ ≤ _; exact Nat.le_of_eq rfl) (hb hby at_91) (fun _ _ => ⟨rfl, e65, (by decide : 1 + 0 ≤ _), (by decide : 5 + 0 ≤ _)⟩)
   dsimp only [Pt.U, Pt.locs, Pt.cells, Pt.slots] at X66 l66 y66 z66 st66 hQ66
   subst l66 y66 z66
   obtain ⟨rfl, N66q, e66⟩ := hQ66
   refine own_go (fun _ k => st66.trans k) ?_
   have N66 := Fr.app N65 N66q
   show own_Fin p e below (T66.setTop (mkF m 94 #[.val (.int pa), .val (.ref b21), .val (.int 3), .val (.ref a3_), .val (.ref a3_), .val (.int 3)] [(.ref s1)])) _
   refine own_go (fun _ k => XS.aloadN X66.here hx rfl (hb hby at_94) rfl rfl k) ?_
   show own_Fin p e below (T66.setTop (mkF m 95 #[.val (.int pa), .val (.ref b21), .val (.int 3), .val (.ref a3_), .val (.ref a3_), .val (.int 3)] [(.ref a3_), (.ref s1)])) _
   obtain ⟨cq67, kq67, q67a, q67b, q67c⟩ := isOf hZ e66 (E_a3_.ext O.2)
   obtain ⟨_, _, ⟨T67, L67, k67, n67⟩, -, X67, ⟨Lc67, hQ67, l67, y67, z67⟩, st67⟩ := X66.virtualBack hx (y := (⟨"com/example/crete/crete/policy/NameKind", "linkWord", "()Ljava/lang/String;"⟩ : MethodName)) (z := (⟨"com/example/crete/crete/policy/NameKind", "linkWord", "()Ljava/lang/String;"⟩ : MethodName)) hown (mvT hZ (ow hw 30)) (mvT hZ (ow hw 31)) (notFace_of_selects (args := #[]) (mvT hZ (ow hw 33))) (mvT hZ (ow hw 33)) (mvT hZ (ow hw 32)) (by decide) (backOf (W := 1) (rm3 l Z a0 hw [] a3_ s1 h36 n0 O (F_a3__NameKind_linkWord.ext O.2)) hZ (ow hw 34) (ow hw 3) (by decide) (by decide)) q67a q67c (g := (mkF m 95 #[.val (.int pa), .val (.ref b21), .val (.int 3), .val (.ref a3_), .val (.ref a3_), .val (.int 3)] [(.ref a3_), (.ref s1)])) rfl (by rw [hml]; rfl) (Steps.refl _) (argsL := []) (rest := [(.ref s1)]) (lenOf pd_2 rfl) rfl (by show 2 * 0 + _ ≤ _; exact Nat.le_of_eq rfl) (hb hby at_95) (fun _ _ => ⟨rfl, e66, (by decide : 1 + 0 ≤ _), (by decide : 5 + 0 ≤ _)⟩)
   dsimp only [Pt.U, Pt.locs, Pt.cells, Pt.slots] at X67 l67 y67 z67 st67 hQ67
   subst l67 y67 z67
   obtain ⟨rfl, N67q, e67⟩ := hQ67
   refine own_go (fun _ k => st67.trans k) ?_
   have N67 := Fr.app N66 N67q
   show own_Fin p e below (T67.setTop (mkF m 98 #[.val (.int pa), .val (.ref b21), .val (.int 3), .val (.ref a3_), .val (.ref a3_), .val (.int 3)] [(.ref s1), (.ref s1)])) _
   obtain ⟨cq68, kq68, q68a, q68b, q68c⟩ := isOf hZ e67 (E_s1.ext O.2)
   obtain ⟨_, _, ⟨T68, L68, k68, n68⟩, -, X68, ⟨Lc68, hQ68, l68, y68, z68⟩, st68⟩ := X67.virtualBack hx (y := (⟨"java/lang/String", "equals", "(Ljava/lang/Object;)Z"⟩ : MethodName)) (z := (⟨"java/lang/String", "equals", "(Ljava/lang/Object;)Z"⟩ : MethodName)) hown (mvT hZ (ow hw 37)) (mvT hZ (ow hw 38)) (notFace_of_selects (args := #[]) (mvT hZ (ow hw 40))) (mvT hZ (ow hw 40)) (mvT hZ (ow hw 39)) (by decide) (backOf (W := 0) (rm4 l Z a0 hw [] s1 h36 n0 O ) hZ (ow hw 42) (ow hw 41) (by decide) (by decide)) q68a q68c (g := (mkF m 98 #[.val (.int pa), .val (.ref b21), .val (.int 3), .val (.ref a3_), .val (.ref a3_), .val (.int 3)] [(.ref s1), (.ref s1)])) rfl (by rw [hml]; rfl) (Steps.refl _) (argsL := [(.ref s1)]) (rest := []) (lenOf pd_3 rfl) rfl (by show 2 * 0 + _ ≤ _; exact Nat.le_of_eq rfl) (hb hby at_98) (fun _ _ => ⟨rfl, e67, (by decide : 1 + 0 ≤ _), (by decide : 5 + 0 ≤ _)⟩)
   dsimp only [Pt.U, Pt.locs, Pt.cells, Pt.slots] at X68 l68 y68 z68 st68 hQ68
   subst l68 y68 z68
   obtain ⟨rfl, N68q, e68⟩ := hQ68
   refine own_go (fun _ k => st68.trans k) ?_
   have N68 := Fr.app N67 N68q
   show own_Fin p e below (T68.setTop (mkF m 101 #[.val (.int pa), .val (.ref b21), .val (.int 3), .val (.ref a3_), .val (.ref a3_), .val (.int 3)] [(.int 1)])) _
   obtain ⟨fs, hr, hrun, hended, hW, hsame⟩ := X68.leave (v := some (.int 1)) (fun h => by rw [Bd.returns] at h; cases h)
   refine ⟨_, _, ?_, hrun, hended, _, _, rfl, ?_, ⟨_, rfl⟩, hW, hsame.mono (by decide) (by decide)⟩
   ·exact retN X68 hx (t := .boolean) Bd.returns (by simp) (hb hby at_101) hr
   ·show Qrm0 Z pa a0_ a1_ a2_ a3_ a4_ s1 s4 h0 n0 _ T68.heap _
    rw [e68]
    exact ⟨rfl, N68, K37⟩
  ·rw [hk]
   show own_Fin p e below (T36.setTop (mkF m 42 #[.val (.int pa), .val (.ref b21), .val (.int 4), .unset, .unset, .unset] [])) _
   refine own_go (fun _ k => XS.aloadN X36.here hx rfl (hb hby at_42) rfl rfl (XS.iloadN X36.here hx rfl (hb hby at_43) rfl k)) ?_
   show own_Fin p e below (T36.setTop (mkF m 44 #[.val (.int pa), .val (.ref b21), .val (.int 4), .unset, .unset, .unset] [(.int 4), (.ref b21)])) _
   obtain ⟨cl70, A70, q70, S70, M70, H70, G70⟩ := id V_b21
   have hin70 : ¬ ((4 : Int32) < 0 ∨ cl70.slots.size ≤ ((4 : Int32)).toNatClampNeg) := inb_of S70 ⟨by decide, by decide⟩
   have hat70 : cl70.slots[((4 : Int32)).toNatClampNeg]? = some (.ref a4_) := Has.at H70 hin70 rfl
   refine own_go (fun _ k => X36.aaload hx (j := (4 : Int32)) (v := (.ref a4_)) (by rw [e36]; exact A70.1) (State.isArrayOf_alike hZ.alike A70.2.1) rfl A70.2.2 hin70 hat70 (g := (mkF m 44 #[.val (.int pa), .val (.ref b21), .val (.int 4), .unset, .unset, .unset] [(.int 4), (.ref b21)])) rfl rfl (hb hby at_44) _ k) ?_
   show own_Fin p e below (T36.setTop (mkF m 45 #[.val (.int pa), .val (.ref b21), .val (.int 4), .unset, .unset, .unset] [(.ref a4_)])) _
   refine own_go (fun _ k => XS.astoreN X36.here hx rfl (hb hby at_45) rfl rfl (l' := #[.val (.int pa), .val (.ref b21), .val (.int 4), .val (.ref a4_), .unset, .unset]) rfl (XS.aloadN X36.here hx rfl (hb hby at_46) rfl rfl k)) ?_
   show own_Fin p e below (T36.setTop (mkF m 47 #[.val (.int pa), .val (.ref b21), .val (.int 4), .val (.ref a4_), .unset, .unset] [(.ref a4_)])) _
   obtain ⟨cq71, kq71, q71a, q71b, q71c⟩ := isOf hZ e36 (E_a4_.ext O.2)
   obtain ⟨_, _, ⟨T71, L71, k71, n71⟩, -, X71, ⟨Lc71, hQ71, l71, y71, z71⟩, st71⟩ := X36.virtualBack hx (y := (⟨"com/example/crete/crete/policy/NameKind", "parentKind", "()Lcom/example/crete/crete/policy/NameKind;"⟩ : MethodName)) (z := (⟨"com/example/crete/crete/policy/NameKind", "parentKind", "()Lcom/example/crete/crete/policy/NameKind;"⟩ : MethodName)) hown (mvT hZ (ow hw 15)) (mvT hZ (ow hw 16)) (notFace_of_selects (args := #[]) (mvT hZ (ow hw 18))) (mvT hZ (ow hw 18)) (mvT hZ (ow hw 17)) (by decide) (backOf (W := 0) (rm1_4 l Z a0 hw [] a4_ a4_ h36 n0 O (E_a4_.ext O.2) (F_a4__Enum_ordinal.ext O.2) S_NameKind_PERMISSION) hZ (ow hw 19) (ow hw 3) (by decide) (by decide)) q71a q71c (g := (mkF m 47 #[.val (.int pa), .val (.ref b21), .val (.int 4), .val (.ref a4_), .unset, .unset] [(.ref a4_)])) rfl (by rw [hml]; rfl) (Steps.refl _) (argsL := []) (rest := []) (lenOf pd_1 rfl) rfl (by show 2 * 0 + _ ≤ _; exact Nat.le_of_eq rfl) (hb hby at_47) (fun _ _ => ⟨rfl, e36, (by decide : 1 + 0 ≤ _), (by decide : 5 + 0 ≤ _)⟩)
   dsimp only [Pt.U, Pt.locs, Pt.cells, Pt.slots] at X71 l71 y71 z71 st71 hQ71
   subst l71 y71 z71
   obtain ⟨rfl, N71q, e71⟩ := hQ71
   refine own_go (fun _ k => st71.trans k) ?_
   have N71 := Fr.app N36 N71q
   show own_Fin p e below (T71.setTop (mkF m 50 #[.val (.int pa), .val (.ref b21), .val (.int 4), .val (.ref a4_), .unset, .unset] [(.ref a4_)])) _
   refine own_go (fun _ k => XS.astore X71.here hx rfl (hb hby at_50) rfl rfl (l' := #[.val (.int pa), .val (.ref b21), .val (.int 4), .val (.ref a4_), .val (.ref a4_), .unset]) rfl (XS.iloadN X71.here hx rfl (hb hby at_52) rfl (XS.iconst X71.here hx rfl (hb hby at_53) (XS.icmpNo X71.here hx rfl (hb hby at_54) rfl (teq (by decide : (4 : Int32) = (4 : Int32))).2 (XS.iconst X71.here hx rfl (hb hby at_57) (XS.goto X71.here hx rfl (pc0 := 58) (pc' := 64) rfl (hb hby at_58) (by decide) (by decide) (XS.istore X71.here hx rfl (hb hby at_64) rfl (l' := #[.val (.int pa), .val (.ref b21), .val (.int 4), .val (.ref a4_), .val (.ref a4_), .val (.int 4)]) rfl (XS.aload X71.here hx rfl (hb hby at_66) rfl rfl (XS.aloadN X71.here hx rfl (hb hby at_68) rfl rfl (XS.iload X71.here hx rfl (hb hby at_69) rfl k)))))))))) ?_
   show own_Fin p e below (T71.setTop (mkF m 71 #[.val (.int pa), .val (.ref b21), .val (.int 4), .val (.ref a4_), .val (.ref a4_), .val (.int 4)] [(.int 4), (.ref b21), (.ref a4_)])) _
   obtain ⟨cl72, A72, q72, S72, M72, H72, G72⟩ := id V_b21
   have hin72 : ¬ ((4 : Int32) < 0 ∨ cl72.slots.size ≤ ((4 : Int32)).toNatClampNeg) := inb_of S72 ⟨by decide, by decide⟩
   have hat72 : cl72.slots[((4 : Int32)).toNatClampNeg]? = some (.ref a4_) := Has.at H72 hin72 rfl
   refine own_go (fun _ k => X71.aaload hx (j := (4 : Int32)) (v := (.ref a4_)) (by rw [e71]; exact A72.1) (State.isArrayOf_alike hZ.alike A72.2.1) rfl A72.2.2 hin72 hat72 (g := (mkF m 71 #[.val (.int pa), .val (.ref b21), .val (.int 4), .val (.ref a4_), .val (.ref a4_), .val (.int 4)] [(.int 4), (.ref b21), (.ref a4_)])) rfl rfl (hb hby at_71) _ k) ?_
   show own_Fin p e below (T71.setTop (mkF m 72 #[.val (.int pa), .val (.ref b21), .val (.int 4), .val (.ref a4_), .val (.ref a4_), .val (.int 4)] [(.ref a4_), (.ref a4_)])) _
   refine own_go (fun _ k => Jvm.RoadKit.acmp (g := (mkF m 72 #[.val (.int pa), .val (.ref b21), .val (.int 4), .val (.ref a4_), .val (.ref a4_), .val (.int 4)] [(.ref a4_), (.ref a4_)])) X71 hx rfl rfl rfl (pc0 := 72) (pc' := 77) (same := true) rfl (hb hby at_72) rfl (decide_eq_true rfl) (by decide) (by decide) k) ?_
   show own_Fin p e below (T71.setTop (mkF m 77 #[.val (.int pa), .val (.ref b21), .val (.int 4), .val (.ref a4_), .val (.ref a4_), .val (.int 4)] [])) _
   refine own_go (fun _ k => XS.aload X71.here hx rfl (hb hby at_77) rfl rfl k) ?_
   show own_Fin p e below (T71.setTop (mkF m 79 #[.val (.int pa), .val (.ref b21), .val (.int 4), .val (.ref a4_), .val (.ref a4_), .val (.int 4)] [(.ref a4_)])) _
   obtain ⟨cq73, kq73, q73a, q73b, q73c⟩ := isOf hZ e71 (E_a4_.ext O.2)
   obtain ⟨_, _, ⟨T73, L73, k73, n73⟩, -, X73, ⟨Lc73, hQ73, l73, y73, z73⟩, st73⟩ := X71.virtualBack hx (y := (⟨"com/example/crete/crete/policy/NameKind", "parentKind", "()Lcom/example/crete/crete/policy/NameKind;"⟩ : MethodName)) (z := (⟨"com/example/crete/crete/policy/NameKind", "parentKind", "()Lcom/example/crete/crete/policy/NameKind;"⟩ : MethodName)) hown (mvT hZ (ow hw 15)) (mvT hZ (ow hw 16)) (notFace_of_selects (args := #[]) (mvT hZ (ow hw 18))) (mvT hZ (ow hw 18)) (mvT hZ (ow hw 17)) (by decide) (backOf (W := 0) (rm1_4 l Z a0 hw [] a4_ a4_ h36 n0 O (E_a4_.ext O.2) (F_a4__Enum_ordinal.ext O.2) S_NameKind_PERMISSION) hZ (ow hw 19) (ow hw 3) (by decide) (by decide)) q73a q73c (g := (mkF m 79 #[.val (.int pa), .val (.ref b21), .val (.int 4), .val (.ref a4_), .val (.ref a4_), .val (.int 4)] [(.ref a4_)])) rfl (by rw [hml]; rfl) (Steps.refl _) (argsL := []) (rest := []) (lenOf pd_1 rfl) rfl (by show 2 * 0 + _ ≤ _; exact Nat.le_of_eq rfl) (hb hby at_79) (fun _ _ => ⟨rfl, e71, (by decide : 1 + 0 ≤ _), (by decide : 5 + 0 ≤ _)⟩)
   dsimp only [Pt.U, Pt.locs, Pt.cells, Pt.slots] at X73 l73 y73 z73 st73 hQ73
   subst l73 y73 z73
   obtain ⟨rfl, N73q, e73⟩ := hQ73
   refine own_go (fun _ k => st73.trans k) ?_
   have N73 := Fr.app N71 N73q
   show own_Fin p e below (T73.setTop (mkF m 82 #[.val (.int pa), .val (.ref b21), .val (.int 4), .val (.ref a4_), .val (.ref a4_), .val (.int 4)] [(.ref a4_)])) _
   refine own_go (fun _ k => XS.aload X73.here hx rfl (hb hby at_82) rfl rfl k) ?_
   show own_Fin p e below (T73.setTop (mkF m 84 #[.val (.int pa), .val (.ref b21), .val (.int 4), .val (.ref a4_), .val (.ref a4_), .val (.int 4)] [(.ref a4_), (.ref a4_)])) _
   refine own_go (fun _ k => Jvm.RoadKit.acmp (g := (mkF m 84 #[.val (.int pa), .val (.ref b21), .val (.int 4), .val (.ref a4_), .val (.ref a4_), .val (.int 4)] [(.ref a4_), (.ref a4_)])) X73 hx rfl rfl rfl (pc0 := 84) (pc' := 89) (same := true) rfl (hb hby at_84) rfl (decide_eq_true rfl) (by decide) (by decide) k) ?_
   show own_Fin p e below (T73.setTop (mkF m 89 #[.val (.int pa), .val (.ref b21), .val (.int 4), .val (.ref a4_), .val (.ref a4_), .val (.int 4)] [])) _
   refine own_go (fun _ k => XS.aload X73.here hx rfl (hb hby at_89) rfl rfl k) ?_
   show own_Fin p e below (T73.setTop (mkF m 91 #[.val (.int pa), .val (.ref b21), .val (.int 4), .val (.ref a4_), .val (.ref a4_), .val (.int 4)] [(.ref a4_)])) _
   obtain ⟨cq74, kq74, q74a, q74b, q74c⟩ := isOf hZ e73 (E_a4_.ext O.2)
   obtain ⟨_, _, ⟨T74, L74, k74, n74⟩, -, X74, ⟨Lc74, hQ74, l74, y74, z74⟩, st74⟩ := X73.virtualBack hx (y := (⟨"com/example/crete/crete/policy/NameKind", "linkWord", "()Ljava/lang/String;"⟩ : MethodName)) (z := (⟨"com/example/crete/crete/policy/NameKind", "linkWord", "()Ljava/lang/String;"⟩ : MethodName)) hown (mvT hZ (ow hw 30)) (mvT hZ (ow hw 31)) (notFace_of_selects (args := #[]) (mvT hZ (ow hw 33))) (mvT hZ (ow hw 33)) (mvT hZ (ow hw 32)) (by decide) (backOf (W := 0) (rm3 l Z a0 hw [] a4_ s4 h36 n0 O (F_a4__NameKind_linkWord.ext O.2)) hZ (ow hw 34) (ow hw 3) (by decide) (by decide)) q74a q74c (g := (mkF m 91 #[.val (.int pa), .val (.ref b21), .val (.int 4), .val (.ref a4_), .val (.ref a4_), .val (.int 4)] [(.ref a4_)])) rfl (by rw [hml]; rfl) (Steps.refl _) (argsL := []) (rest := []) (lenOf pd_2 rfl) rfl (by show 2 * 0 + _ ≤ _; exact Nat.le_of_eq rfl) (hb hby at_91) (fun _ _ => ⟨rfl, e73, (by decide : 1 + 0 ≤ _), (by decide : 5 + 0 ≤ _)⟩)
   dsimp only [Pt.U, Pt.locs, Pt.cells, Pt.slots] at X74 l74 y74 z74 st74 hQ74
   subst l74 y74 z74
   obtain ⟨rfl, N74q, e74⟩ := hQ74
   refine own_go (fun _ k => st74.trans k) ?_
   have N74 := Fr.app N73 N74q
   show own_Fin p e below (T74.setTop (mkF m 94 #[.val (.int pa), .val (.ref b21), .val (.int 4), .val (.ref a4_), .val (.ref a4_), .val (.int 4)] [(.ref s4)])) _
   refine own_go (fun _ k => XS.aloadN X74.here hx rfl (hb hby at_94) rfl rfl k) ?_
   show own_Fin p e below (T74.setTop (mkF m 95 #[.val (.int pa), .val (.ref b21), .val (.int 4), .val (.ref a4_), .val (.ref a4_), .val (.int 4)] [(.ref a4_), (.ref s4)])) _
   obtain ⟨cq75, kq75, q75a, q75b, q75c⟩ := isOf hZ e74 (E_a4_.ext O.2)
   obtain ⟨_, _, ⟨T75, L75, k75, n75⟩, -, X75, ⟨Lc75, hQ75, l75, y75, z75⟩, st75⟩ := X74.virtualBack hx (y := (⟨"com/example/crete/crete/policy/NameKind", "linkWord", "()Ljava/lang/String;"⟩ : MethodName)) (z := (⟨"com/example/crete/crete/policy/NameKind", "linkWord", "()Ljava/lang/String;"⟩ : MethodName)) hown (mvT hZ (ow hw 30)) (mvT hZ (ow hw 31)) (notFace_of_selects (args := #[]) (mvT hZ (ow hw 33))) (mvT hZ (ow hw 33)) (mvT hZ (ow hw 32)) (by decide) (backOf (W := 1) (rm3 l Z a0 hw [] a4_ s4 h36 n0 O (F_a4__NameKind_linkWord.ext O.2)) hZ (ow hw 34) (ow hw 3) (by decide) (by decide)) q75a q75c (g := (mkF m 95 #[.val (.int pa), .val (.ref b21), .val (.int 4), .val (.ref a4_), .val (.ref a4_), .val (.int 4)] [(.ref a4_), (.ref s4)])) rfl (by rw [hml]; rfl) (Steps.refl _) (argsL := []) (rest := [(.ref s4)]) (lenOf pd_2 rfl) rfl (by show 2 * 0 + _ ≤ _; exact Nat.le_of_eq rfl) (hb hby at_95) (fun _ _ => ⟨rfl, e74, (by decide : 1 + 0 ≤ _), (by decide : 5 + 0 ≤ _)⟩)
   dsimp only [Pt.U, Pt.locs, Pt.cells, Pt.slots] at X75 l75 y75 z75 st75 hQ75
   subst l75 y75 z75
   obtain ⟨rfl, N75q, e75⟩ := hQ75
   refine own_go (fun _ k => st75.trans k) ?_
   have N75 := Fr.app N74 N75q
   show own_Fin p e below (T75.setTop (mkF m 98 #[.val (.int pa), .val (.ref b21), .val (.int 4), .val (.ref a4_), .val (.ref a4_), .val (.int 4)] [(.ref s4), (.ref s4)])) _
   obtain ⟨cq76, kq76, q76a, q76b, q76c⟩ := isOf hZ e75 (E_s4.ext O.2)
   obtain ⟨_, _, ⟨T76, L76, k76, n76⟩, -, X76, ⟨Lc76, hQ76, l76, y76, z76⟩, st76⟩ := X75.virtualBack hx (y := (⟨"java/lang/String", "equals", "(Ljava/lang/Object;)Z"⟩ : MethodName)) (z := (⟨"java/lang/String", "equals", "(Ljava/lang/Object;)Z"⟩ : MethodName)) hown (mvT hZ (ow hw 37)) (mvT hZ (ow hw 38)) (notFace_of_selects (args := #[]) (mvT hZ (ow hw 40))) (mvT hZ (ow hw 40)) (mvT hZ (ow hw 39)) (by decide) (backOf (W := 0) (rm4 l Z a0 hw [] s4 h36 n0 O ) hZ (ow hw 42) (ow hw 41) (by decide) (by decide)) q76a q76c (g := (mkF m 98 #[.val (.int pa), .val (.ref b21), .val (.int 4), .val (.ref a4_), .val (.ref a4_), .val (.int 4)] [(.ref s4), (.ref s4)])) rfl (by rw [hml]; rfl) (Steps.refl _) (argsL := [(.ref s4)]) (rest := []) (lenOf pd_3 rfl) rfl (by show 2 * 0 + _ ≤ _; exact Nat.le_of_eq rfl) (hb hby at_98) (fun _ _ => ⟨rfl, e75, (by decide : 1 + 0 ≤ _), (by decide : 5 + 0 ≤ _)⟩)
   dsimp only [Pt.U, Pt.locs, Pt.cells, Pt.slots] at X76 l76 y76 z76 st76 hQ76
   subst l76 y76 z76
   obtain ⟨rfl, N76q, e76⟩ := hQ76
   refine own_go (fun _ k => st76.trans k) ?_
   have N76 := Fr.app N75 N76q
   show own_Fin p e below (T76.setTop (mkF m 101 #[.val (.int pa), .val (.ref b21), .val (.int 4), .val (.ref a4_), .val (.ref a4_), .val (.int 4)] [(.int 1)])) _
   obtain ⟨fs, hr, hrun, hended, hW, hsame⟩ := X76.leave (v := some (.int 1)) (fun h => by rw [Bd.returns] at h; cases h)
   refine ⟨_, _, ?_, hrun, hended, _, _, rfl, ?_, ⟨_, rfl⟩, hW, hsame.mono (by decide) (by decide)⟩
   ·exact retN X76 hx (t := .boolean) Bd.returns (by simp) (hb hby at_101) hr
   ·show Qrm0 Z pa a0_ a1_ a2_ a3_ a4_ s1 s4 h0 n0 _ T76.heap _
    rw [e76]
    exact ⟨rfl, N76, K37⟩
set_option maxRecDepth 65536 in
set_option maxHeartbeats 40000000 in
theorem comes_1 {Post : Tables → Env → Array Value → State → Outcome → State → Prop} (hpost : ∀ tb e args s v u, (limb_1_1.after args s (.returned v) u = true ∧ limb_1_2.after args s (.returned v) u = true ∧ True) → FrameEnd s (.returned v) u (Jvm.fieldLocs frame_1_writes args s ++ Jvm.arrayLocs frame_1_arrays args s ++ Jvm.staticLocs frame_1_statics s) 16 128 → Post tb e args s (.returned v) u) :
    ArmFor flags0 classFile x code maxLocals ret World_1 tables_1 room_1 Calls_1 rest_1 Pre_1 Post := by
  intro l hfl _ _ p e ha hc hk s m args below hf hA hF happ hP
  obtain ⟨hcalls, hrest, hpre⟩ := hP
  obtain ⟨-, -, -, hnamed, -, -, -, hat⟩ := (Spec.applies_iff hf).mp happ
  obtain ⟨hg, hn⟩ := and_e (Cond.before_iff.mp (show (Jvm.Cond.and given_1 narrow_1).before args s = true from hpre))
  obtain ⟨g1, g2⟩ := and_e hg
  obtain ⟨w0, rfl⟩ : ∃ w0 : Value, args = #[w0] := by
    have hs : args.size = 1 := by simpa [Cond.value, given_1] using g1
    obtain ⟨L⟩ := args
    match L, hs with
    | [w0], _ => exact ⟨w0, rfl⟩
  have hw := fun d (hd : d ∈ tables_1) => atoms_spec (ws := Jvm.Cond.code x code maxLocals ret :: tables_1) hat d (List.mem_cons_of_mem _ hd)
  have hfit : Fit s := fun {y c} hc i hi => by
    obtain ⟨ha, rfl⟩ := Array.getElem?_eq_some_iff.mp hc
    have q := List.all_eq_true.mp ((Array.all_eq_true_iff_forall_mem.mp hF) _ (Array.getElem_mem ha)) i (List.mem_range.mpr hi)
    simpa [Array.getElem?_eq_getElem hi] using q
  obtain ⟨i0, ei0⟩ := is_v g2
  obtain rfl : w0 = (.int i0) := Option.some.inj ei0
  obtain ⟨m1, m2⟩ := and_e hn
  obtain ⟨m3, m4⟩ := and_e m2
  obtain ⟨m5, m6⟩ := and_e m4
  obtain ⟨m7, m8⟩ := and_e m6
  obtain ⟨m9, m10⟩ := and_e m8
  obtain ⟨m11, m12⟩ := and_e m10
  obtain ⟨m13, m14⟩ := and_e m12
  obtain ⟨m15, m16⟩ := and_e m14
  obtain ⟨m17, m18⟩ := and_e m16
  obtain ⟨m19, m20⟩ := and_e m18
  obtain ⟨m21, m22⟩ := and_e m20
  obtain ⟨m23, m24⟩ := and_e m22
  obtain ⟨m25, m26⟩ := and_e m24
  obtain ⟨m27, m28⟩ := and_e m26
  have hx_st_SUBJECT := m1
  obtain ⟨st_SUBJECT, ev_st_SUBJECT⟩ := exa_v hx_st_SUBJECT
  have E_st_SUBJECT := Exa.start ev_st_SUBJECT hx_st_SUBJECT
  have S_st_SUBJECT := Sta.start ev_st_SUBJECT (Or.inr ⟨(ow hw 3), (ow hw 4)⟩)
  have hx_st_GROUP := m3
  obtain ⟨st_GROUP, ev_st_GROUP⟩ := exa_v hx_st_GROUP
  have E_st_GROUP := Exa.start ev_st_GROUP hx_st_GROUP
  have S_st_GROUP := Sta.start ev_st_GROUP (Or.inr ⟨(ow hw 3), (ow hw 7)⟩)
  have hx_st_OBJECT := m5
  obtain ⟨st_OBJECT, ev_st_OBJECT⟩ := exa_v hx_st_OBJECT
  have E_st_OBJECT := Exa.start ev_st_OBJECT hx_st_OBJECT
  have S_st_OBJECT := Sta.start ev_st_OBJECT (Or.inr ⟨(ow hw 3), (ow hw 9)⟩)
  have hx_st_CLASS := m7
  obtain ⟨st_CLASS, ev_st_CLASS⟩ := exa_v hx_st_CLASS
  have E_st_CLASS := Exa.start ev_st_CLASS hx_st_CLASS
  have S_st_CLASS := Sta.start ev_st_CLASS (Or.inr ⟨(ow hw 3), (ow hw 11)⟩)
  have hx_st_PERMISSION := m9
  obtain ⟨st_PERMISSION, ev_st_PERMISSION⟩ := exa_v hx_st_PERMISSION
  have E_st_PERMISSION := Exa.start ev_st_PERMISSION hx_st_PERMISSION
  have S_st_PERMISSION := Sta.start ev_st_PERMISSION (Or.inr ⟨(ow hw 3), (ow hw 13)⟩)
  have ev_st_SUBJECT_ordinal := own_eqv m11 (Term.int_eval _) rfl
  have F_st_SUBJECT_ordinal : Fld s s.heap st_SUBJECT "java/lang/Enum" "ordinal" "I" (.int 0) := Fld.start ((fld_at ev_st_SUBJECT).symm.trans ev_st_SUBJECT_ordinal)
  have ev_st_GROUP_ordinal := own_eqv m13 (Term.int_eval _) rfl
  have F_st_GROUP_ordinal : Fld s s.heap st_GROUP "java/lang/Enum" "ordinal" "I" (.int 1) := Fld.start ((fld_at ev_st_GROUP).symm.trans ev_st_GROUP_ordinal)
  have hx_st_GROUP_linkWord := m15
  obtain ⟨st_GROUP_linkWord, ev_st_GROUP_linkWord⟩ := exa_v hx_st_GROUP_linkWord
  have E_st_GROUP_linkWord := Exa.start ev_st_GROUP_linkWord hx_st_GROUP_linkWord
  have F_st_GROUP_linkWord : Fld s s.heap st_GROUP "com/example/crete/crete/policy/NameKind" "linkWord" "Ljava/lang/String;" (.ref st_GROUP_linkWord) := Fld.start ((fld_at ev_st_GROUP).symm.trans ev_st_GROUP_linkWord)
  have ev_st_SUBJECT_linkWord := own_eqv m17 ev_st_GROUP_linkWord rfl
  have F_st_SUBJECT_linkWord : Fld s s.heap st_SUBJECT "com/example/crete/crete/policy/NameKind" "linkWord" "Ljava/lang/String;" (.ref st_GROUP_linkWord) := Fld.start ((fld_at ev_st_SUBJECT).symm.trans ev_st_SUBJECT_linkWord)
  have ev_st_CLASS_ordinal := own_eqv m19 (Term.int_eval _) rfl
  have F_st_CLASS_ordinal : Fld s s.heap st_CLASS "java/lang/Enum" "ordinal" "I" (.int 3) := Fld.start ((fld_at ev_st_CLASS).symm.trans ev_st_CLASS_ordinal)
  have ev_st_CLASS_linkWord := own_eqv m21 ev_st_GROUP_linkWord rfl
  have F_st_CLASS_linkWord : Fld s s.heap st_CLASS "com/example/crete/crete/policy/NameKind" "linkWord" "Ljava/lang/String;" (.ref st_GROUP_linkWord) := Fld.start ((fld_at ev_st_CLASS).symm.trans ev_st_CLASS_linkWord)
  have ev_st_PERMISSION_ordinal := own_eqv m23 (Term.int_eval _) rfl
  have F_st_PERMISSION_ordinal : Fld s s.heap st_PERMISSION "java/lang/Enum" "ordinal" "I" (.int 4) := Fld.start ((fld_at ev_st_PERMISSION).symm.trans ev_st_PERMISSION_ordinal)
  have hx_st_PERMISSION_linkWord := m25
  obtain ⟨st_PERMISSION_linkWord, ev_st_PERMISSION_linkWord⟩ := exa_v hx_st_PERMISSION_linkWord
  have E_st_PERMISSION_linkWord := Exa.start ev_st_PERMISSION_linkWord hx_st_PERMISSION_linkWord
  have F_st_PERMISSION_linkWord : Fld s s.heap st_PERMISSION "com/example/crete/crete/policy/NameKind" "linkWord" "Ljava/lang/String;" (.ref st_PERMISSION_linkWord) := Fld.start ((fld_at ev_st_PERMISSION).symm.trans ev_st_PERMISSION_linkWord)
  have ev_st_OBJECT_ordinal := own_eqv m27 (Term.int_eval _) rfl
  have F_st_OBJECT_ordinal : Fld s s.heap st_OBJECT "java/lang/Enum" "ordinal" "I" (.int 2) := Fld.start ((fld_at ev_st_OBJECT).symm.trans ev_st_OBJECT_ordinal)
  have ev_st_OBJECT_linkWord := own_eqv m28 ev_st_GROUP_linkWord rfl
  have F_st_OBJECT_linkWord : Fld s s.heap st_OBJECT "com/example/crete/crete/policy/NameKind" "linkWord" "Ljava/lang/String;" (.ref st_GROUP_linkWord) := Fld.start ((fld_at ev_st_OBJECT).symm.trans ev_st_OBJECT_linkWord)
  obtain ⟨n, o, h1, h2, h3, _, L, rfl, ⟨rfl, N, hK⟩, hq⟩ := rm0 l s _ hw tables_1 i0 st_SUBJECT st_GROUP st_OBJECT st_CLASS st_PERMISSION st_GROUP_linkWord st_PERMISSION_linkWord s.heap s.heap.size (Old.start s) S_st_SUBJECT S_st_GROUP S_st_OBJECT S_st_CLASS S_st_PERMISSION E_st_SUBJECT E_st_GROUP E_st_OBJECT E_st_CLASS E_st_PERMISSION F_st_SUBJECT_ordinal F_st_GROUP_ordinal F_st_OBJECT_ordinal F_st_CLASS_ordinal F_st_PERMISSION_ordinal F_st_SUBJECT_linkWord F_st_GROUP_linkWord F_st_OBJECT_linkWord F_st_CLASS_linkWord F_st_PERMISSION_linkWord E_st_GROUP_linkWord E_st_PERMISSION_linkWord p e ha hc hk s m _ below hf ((Spec.applies_iff_loose hf).mp happ).1 ⟨rfl, State.Warmed39.refl s, rfl⟩ trivial
  refine ⟨n, _, h1, h2, h3, hpost _ _ _ _ _ _ ⟨Cond.after_iff.mpr rfl, Cond.after_iff.mpr (eq_i res_at (Term.int_eval (1)) rfl), trivial⟩ ⟨hq.1, hq.2.1, (hq.2.2.sift fun y hy => Or.inr (N y hy)).mono (by decide) (by decide)⟩⟩
theorem main_1_1 : Claimed_1_1 := comes_1 fun _ _ _ _ _ _ h hF => ⟨h.1, hF⟩
theorem main_1_2 : Claimed_1_2 := comes_1 fun _ _ _ _ _ _ h hF => ⟨h.2.1, hF⟩
end Jvm.Pilot.@@N@@
namespace Jvm.Pilot.@@N@@
open Jvm Jvm.ClassFile Sem Op Lib Jvm.Free Jvm.Stand Jvm.Pilot.@@N@@.Jvm.D
/-! MADE BY PROGRAM (witnessworld.py) out of the Statement's table words and the real class files: 16 classes; the members and pool entries that the words name. The judged class is class 1, her method 1. -/
namespace start1
open Jvm.ClassFile
def u (s : String) : CpInfo := .utf8 (stringToUtf16 s)
/-- a pool by its gaps: so many unusable entries, then the entry; so many at the end -/
def gap : Nat → List CpInfo → List CpInfo
  | 0, r => r
  | n + 1, r => .unusable :: gap n r
def poolList (es : List (Nat × CpInfo)) (last : Nat) : List CpInfo := es.foldr (fun e r => gap e.1 (e.2 :: r)) (gap last [])
def pool (es : List (Nat × CpInfo)) (last : Nat) : Array CpInfo := ⟨poolList es last⟩
def fileOf (pool : Array CpInfo) (this : Nat) (attrs : Array Attribute := #[]) (ms : Array MethodInfo := #[]) (fl : Nat := 33) (sup : Nat := 0) (ifs : Array Nat := #[]) (fds : Array FieldInfo := #[]) : ClassFile where
  minorVersion := 0
  majorVersion := 65
  constantPool := pool
  accessFlags := fl
  thisClass := this
  superClass := sup
  interfaces := ifs
  fields := fds
  methods := ms
  attributes := attrs
def plain (name : String) (sup : Option ClassId) : Class where
  name := name
  kind := .ordinary
  loader := none
  accessFlags := 33
  super := sup
  interfaces := #[]
  cf := none
  fields := #[]
  methods := #[]
  instanceTypes := #[]
  staticTypes := #[]
  resolved := #[]
  callSites := []
  init := .initialized
  statics := none
  mirror := none

def pool0 : Array CpInfo := pool [(5, u "<init>"), (0, u "()V"), (1, .class_ 10), (1, u "java/lang/Object")] 113

def k0m0 : Method := { name := "<init>", desc := "()V", sig := { parameters := [], returnType := none }, accessFlags := 1, code := none }
/-- java/lang/Object -/
def k0 : Class := { plain "java/lang/Object" none with
  accessFlags := 33
  interfaces := #[]
  cf := some (fileOf pool0 8 #[] #[{ accessFlags := 1, nameIndex := 5, descriptorIndex := 6, attributes := #[] }] 33 0 #[] #[])
  fields := #[]
  methods := #[k0m0]
  instanceTypes := #[]
  staticTypes := #[]
  resolved := Array.replicate 124 none
  statics := none }

def pool1 : Array CpInfo := pool [(2, .class_ 4), (1, u "java/lang/Object"), (0, u "<init>"), (0, u "()V"), (0, .class_ 8), (0, u "com/example/crete/crete/policy/NameKind"), (0, .fieldref 7 10), (0, .nameAndType 11 12), (0, u "SUBJECT"), (0, u "Lcom/example/crete/crete/policy/NameKind;"), (0, .fieldref 7 14), (0, .nameAndType 15 12), (0, u "GROUP"), (0, .fieldref 7 17), (0, .nameAndType 18 12), (0, u "OBJECT"), (0, .fieldref 7 20), (0, .nameAndType 21 12), (0, u "CLASS"), (0, .fieldref 7 23), (0, .nameAndType 24 12), (0, u "PERMISSION"), (0, .integer 2147483647), (0, .methodref 7 27), (0, .nameAndType 28 29), (0, u "parentKind"), (0, u "()Lcom/example/crete/crete/policy/NameKind;"), (0, .methodref 7 31), (0, .nameAndType 32 33), (0, u "linkWord"), (0, u "()Ljava/lang/String;"), (0, .methodref 35 36), (0, .class_ 37), (0, .nameAndType 38 39), (0, u "java/lang/String"), (0, u "equals"), (0, u "(Ljava/lang/Object;)Z"), (0, .class_ 41), (0, u "com/example/crete/crete/policy/NameKindParentKindPinLaw"), (2, u "law"), (0, u "(I)Z")] 5

def k1m0 : Method := { name := "<init>", desc := "()V", sig := { parameters := [], returnType := none }, accessFlags := 1, code := none }
def k1c1 : Code := { maxStack := 4, maxLocals := 6, code := code, exceptionTable := #[], attributes := #[] }
def k1m1 : Method := { name := "law", desc := "(I)Z", sig := { parameters := [.int], returnType := some .boolean }, accessFlags := 9, code := some k1c1 }
/-- com/example/crete/crete/policy/NameKindParentKindPinLaw -/
def k1 : Class := { plain "com/example/crete/crete/policy/NameKindParentKindPinLaw" (some 0) with
  accessFlags := 49
  interfaces := #[]
  cf := some (fileOf pool1 40 #[] #[{ accessFlags := 1, nameIndex := 5, descriptorIndex := 6, attributes := #[] }, { accessFlags := 9, nameIndex := 44, descriptorIndex := 45, attributes := #[] }] 49 2 #[] #[])
  fields := #[]
  methods := #[k1m0, k1m1]
  instanceTypes := #[]
  staticTypes := #[]
  resolved := Array.replicate 51 none
  statics := none }

def pool2 : Array CpInfo := pool [(1, .class_ 2), (0, u "java/lang/constant/Constable"), (0, .class_ 4), (0, u "java/lang/Object")] 6

/-- java/lang/constant/Constable -/
def k2 : Class := { plain "java/lang/constant/Constable" (some 0) with
  accessFlags := 1537
  interfaces := #[]
  cf := some (fileOf pool2 1 #[] #[] 1537 3 #[] #[])
  fields := #[]
  methods := #[]
  instanceTypes := #[]
  staticTypes := #[]
  resolved := Array.replicate 11 none
  statics := none }

def pool3 : Array CpInfo := pool [(1, .class_ 2), (0, u "java/lang/Comparable"), (0, .class_ 4), (0, u "java/lang/Object")] 7

/-- java/lang/Comparable -/
def k3 : Class := { plain "java/lang/Comparable" (some 0) with
  accessFlags := 1537
  interfaces := #[]
  cf := some (fileOf pool3 1 #[] #[] 1537 3 #[] #[])
  fields := #[]
  methods := #[]
  instanceTypes := #[]
  staticTypes := #[]
  resolved := Array.replicate 12 none
  statics := none }

def pool4 : Array CpInfo := pool [(1, .class_ 2), (0, u "java/io/Serializable"), (0, .class_ 4), (0, u "java/lang/Object")] 2

/-- java/io/Serializable -/
def k4 : Class := { plain "java/io/Serializable" (some 0) with
  accessFlags := 1537
  interfaces := #[]
  cf := some (fileOf pool4 1 #[] #[] 1537 3 #[] #[])
  fields := #[]
  methods := #[]
  instanceTypes := #[]
  staticTypes := #[]
  resolved := Array.replicate 7 none
  statics := none }

def pool5 : Array CpInfo := pool [(2, .class_ 4), (1, u "java/lang/Enum"), (0, u "name"), (0, u "Ljava/lang/String;"), (0, .fieldref 2 8), (0, .nameAndType 9 10), (0, u "ordinal"), (0, u "I"), (1, .class_ 14), (1, u "java/lang/Object"), (4, u "hash"), (86, .class_ 108), (1, u "java/lang/Enum$EnumDesc"), (2, .class_ 112), (0, u "java/lang/constant/Constable"), (0, .class_ 114), (0, u "java/lang/Comparable"), (0, .class_ 116), (0, u "java/io/Serializable"), (9, u "()I")] 77

def k5c0 : Code := { maxStack := 1, maxLocals := 1, code := jdk_37_method_2_code, exceptionTable := #[], attributes := #[] }
def k5m0 : Method := { name := "ordinal", desc := "()I", sig := { parameters := [], returnType := some .int }, accessFlags := 17, code := some k5c0 }
/-- java/lang/Enum -/
def k5 : Class := { plain "java/lang/Enum" (some 0) with
  accessFlags := 1057
  interfaces := #[2, 3, 4]
  cf := some (fileOf pool5 2 #[.nestMembers #[106]] #[{ accessFlags := 17, nameIndex := 9, descriptorIndex := 126, attributes := #[] }] 1057 12 #[111, 113, 115] #[{ accessFlags := 18, nameIndex := 5, descriptorIndex := 6, attributes := #[] }, { accessFlags := 18, nameIndex := 9, descriptorIndex := 10, attributes := #[] }, { accessFlags := 2, nameIndex := 19, descriptorIndex := 10, attributes := #[] }])
  fields := #[{ name := "name", type := (.object "java/lang/String"), accessFlags := 18, slot := 0, constantValue := 0 }, { name := "ordinal", type := .int, accessFlags := 18, slot := 1, constantValue := 0 }, { name := "hash", type := .int, accessFlags := 2, slot := 2, constantValue := 0 }]
  methods := #[k5m0]
  instanceTypes := #[(.object "java/lang/String"), .int, .int]
  staticTypes := #[]
  resolved := Array.replicate 204 none
  statics := none }

def pool6 : Array CpInfo := pool [(1, .class_ 2), (0, u "com/example/crete/crete/policy/NameKind"), (2, u "SUBJECT"), (0, u "Lcom/example/crete/crete/policy/NameKind;"), (0, .fieldref 1 8), (0, .nameAndType 9 6), (0, u "GROUP"), (2, u "OBJECT"), (0, .fieldref 1 14), (0, .nameAndType 15 6), (0, u "CLASS"), (0, .fieldref 1 17), (0, .nameAndType 18 6), (0, u "PERMISSION"), (2, u "$VALUES"), (0, u "[Lcom/example/crete/crete/policy/NameKind;"), (6, .class_ 31), (1, u "java/lang/Enum"), (8, u "keyword"), (0, u "Ljava/lang/String;"), (2, u "plural"), (0, .fieldref 1 46), (0, .nameAndType 47 41), (0, u "linkWord"), (20, .methodref 1 69), (0, .nameAndType 70 71), (0, u "ordinal"), (0, u "()I"), (48, u "()Ljava/lang/String;"), (2, u "parentKind"), (0, u "()Lcom/example/crete/crete/policy/NameKind;")] 20

def k6c0 : Code := { maxStack := 1, maxLocals := 1, code := prog_49_method_7_code, exceptionTable := #[], attributes := #[] }
def k6m0 : Method := { name := "linkWord", desc := "()Ljava/lang/String;", sig := { parameters := [], returnType := some (.object "java/lang/String") }, accessFlags := 1, code := some k6c0 }
def k6c1 : Code := { maxStack := 4, maxLocals := 1, code := prog_49_method_8_code, exceptionTable := #[], attributes := #[] }
def k6m1 : Method := { name := "parentKind", desc := "()Lcom/example/crete/crete/policy/NameKind;", sig := { parameters := [], returnType := some (.object "com/example/crete/crete/policy/NameKind") }, accessFlags := 1, code := some k6c1 }
/-- com/example/crete/crete/policy/NameKind -/
def k6 : Class := { plain "com/example/crete/crete/policy/NameKind" (some 5) with
  accessFlags := 16433
  interfaces := #[]
  cf := some (fileOf pool6 1 #[] #[{ accessFlags := 1, nameIndex := 47, descriptorIndex := 120, attributes := #[] }, { accessFlags := 1, nameIndex := 123, descriptorIndex := 124, attributes := #[] }] 16433 29 #[] #[{ accessFlags := 16409, nameIndex := 5, descriptorIndex := 6, attributes := #[] }, { accessFlags := 16409, nameIndex := 9, descriptorIndex := 6, attributes := #[] }, { accessFlags := 16409, nameIndex := 12, descriptorIndex := 6, attributes := #[] }, { accessFlags := 16409, nameIndex := 15, descriptorIndex := 6, attributes := #[] }, { accessFlags := 16409, nameIndex := 18, descriptorIndex := 6, attributes := #[] }, { accessFlags := 18, nameIndex := 40, descriptorIndex := 41, attributes := #[] }, { accessFlags := 18, nameIndex := 44, descriptorIndex := 41, attributes := #[] }, { accessFlags := 18, nameIndex := 47, descriptorIndex := 41, attributes := #[] }, { accessFlags := 4122, nameIndex := 21, descriptorIndex := 22, attributes := #[] }])
  fields := #[{ name := "SUBJECT", type := (.object "com/example/crete/crete/policy/NameKind"), accessFlags := 16409, slot := 0, constantValue := 0 }, { name := "GROUP", type := (.object "com/example/crete/crete/policy/NameKind"), accessFlags := 16409, slot := 1, constantValue := 0 }, { name := "OBJECT", type := (.object "com/example/crete/crete/policy/NameKind"), accessFlags := 16409, slot := 2, constantValue := 0 }, { name := "CLASS", type := (.object "com/example/crete/crete/policy/NameKind"), accessFlags := 16409, slot := 3, constantValue := 0 }, { name := "PERMISSION", type := (.object "com/example/crete/crete/policy/NameKind"), accessFlags := 16409, slot := 4, constantValue := 0 }, { name := "keyword", type := (.object "java/lang/String"), accessFlags := 18, slot := 3, constantValue := 0 }, { name := "plural", type := (.object "java/lang/String"), accessFlags := 18, slot := 4, constantValue := 0 }, { name := "linkWord", type := (.object "java/lang/String"), accessFlags := 18, slot := 5, constantValue := 0 }, { name := "$VALUES", type := (.array (.object "com/example/crete/crete/policy/NameKind")), accessFlags := 4122, slot := 5, constantValue := 0 }]
  methods := #[k6m0, k6m1]
  instanceTypes := #[(.object "java/lang/String"), .int, .int, (.object "java/lang/String"), (.object "java/lang/String"), (.object "java/lang/String")]
  staticTypes := #[(.object "com/example/crete/crete/policy/NameKind"), (.object "com/example/crete/crete/policy/NameKind"), (.object "com/example/crete/crete/policy/NameKind"), (.object "com/example/crete/crete/policy/NameKind"), (.object "com/example/crete/crete/policy/NameKind"), (.array (.object "com/example/crete/crete/policy/NameKind"))]
  resolved := Array.replicate 145 none
  statics := some 0 }

def pool7 : Array CpInfo := pool [(2, .class_ 4), (1, u "java/lang/CharSequence"), (42, .class_ 48), (0, u "java/lang/CharSequence$1CodePointIterator"), (10, .class_ 60), (0, u "java/lang/CharSequence$1CharIterator"), (5, .class_ 67), (0, u "java/lang/Object")] 63

/-- java/lang/CharSequence -/
def k7 : Class := { plain "java/lang/CharSequence" (some 0) with
  accessFlags := 1537
  interfaces := #[]
  cf := some (fileOf pool7 2 #[.nestMembers #[47, 59]] #[] 1537 66 #[] #[])
  fields := #[]
  methods := #[]
  instanceTypes := #[]
  staticTypes := #[]
  resolved := Array.replicate 131 none
  statics := none }

def pool8 : Array CpInfo := pool [(1, .class_ 2), (0, u "java/lang/constant/ConstantDesc"), (0, .class_ 4), (0, u "java/lang/Object")] 32

/-- java/lang/constant/ConstantDesc -/
def k8 : Class := { plain "java/lang/constant/ConstantDesc" (some 0) with
  accessFlags := 1537
  interfaces := #[]
  cf := some (fileOf pool8 1 #[] #[] 1537 3 #[] #[])
  fields := #[]
  methods := #[]
  instanceTypes := #[]
  staticTypes := #[]
  resolved := Array.replicate 37 none
  statics := none }

def pool9 : Array CpInfo := pool [(2, .class_ 4), (1, u "java/lang/Object"), (0, u "<init>"), (0, u "()V"), (3, .class_ 12), (1, u "java/lang/String"), (0, u "value"), (0, u "[B"), (2, u "coder"), (0, u "B"), (2, u "hash"), (0, u "I"), (2, u "hashIsZero"), (0, u "Z"), (13, u "COMPACT_STRINGS"), (502, u "equals"), (29, u "(Ljava/lang/Object;)Z"), (1, .class_ 576), (0, u "java/lang/CharSequence"), (22, u "CASE_INSENSITIVE_ORDER"), (0, u "Ljava/util/Comparator;"), (500, u "serialPersistentFields"), (0, u "[Ljava/io/ObjectStreamField;"), (0, .class_ 1104), (0, u "java/lang/String$CaseInsensitiveComparator"), (1, .class_ 1107), (0, u "java/io/Serializable"), (0, .class_ 1109), (0, u "java/lang/Comparable"), (0, .class_ 1111), (0, u "java/lang/constant/Constable"), (0, .class_ 1113), (0, u "java/lang/constant/ConstantDesc"), (2, u "serialVersionUID"), (0, u "J"), (3, u "REPL"), (0, u "C"), (2, u "LATIN1"), (1, u "UTF16")] 323

def k9m0 : Method := { name := "<init>", desc := "()V", sig := { parameters := [], returnType := none }, accessFlags := 1, code := none }
def k9c1 : Code := { maxStack := 2, maxLocals := 3, code := jdk_42_method_66_code, exceptionTable := #[], attributes := #[] }
def k9m1 : Method := { name := "equals", desc := "(Ljava/lang/Object;)Z", sig := { parameters := [(.object "java/lang/Object")], returnType := some .boolean }, accessFlags := 1, code := some k9c1 }
/-- java/lang/String -/
def k9 : Class := { plain "java/lang/String" (some 0) with
  accessFlags := 49
  interfaces := #[4, 3, 7, 2, 8]
  cf := some (fileOf pool9 10 #[.nestMembers #[1103]] #[{ accessFlags := 1, nameIndex := 5, descriptorIndex := 6, attributes := #[] }, { accessFlags := 1, nameIndex := 543, descriptorIndex := 573, attributes := #[] }] 49 2 #[1106, 1108, 575, 1110, 1112] #[{ accessFlags := 18, nameIndex := 13, descriptorIndex := 14, attributes := #[] }, { accessFlags := 18, nameIndex := 17, descriptorIndex := 18, attributes := #[] }, { accessFlags := 2, nameIndex := 21, descriptorIndex := 22, attributes := #[] }, { accessFlags := 2, nameIndex := 25, descriptorIndex := 26, attributes := #[] }, { accessFlags := 26, nameIndex := 1116, descriptorIndex := 1117, attributes := #[] }, { accessFlags := 24, nameIndex := 40, descriptorIndex := 26, attributes := #[] }, { accessFlags := 26, nameIndex := 1101, descriptorIndex := 1102, attributes := #[] }, { accessFlags := 26, nameIndex := 1121, descriptorIndex := 1122, attributes := #[] }, { accessFlags := 25, nameIndex := 599, descriptorIndex := 600, attributes := #[] }, { accessFlags := 24, nameIndex := 1125, descriptorIndex := 18, attributes := #[] }, { accessFlags := 24, nameIndex := 1127, descriptorIndex := 18, attributes := #[] }])
  fields := #[{ name := "value", type := (.array .byte), accessFlags := 18, slot := 0, constantValue := 0 }, { name := "coder", type := .byte, accessFlags := 18, slot := 1, constantValue := 0 }, { name := "hash", type := .int, accessFlags := 2, slot := 2, constantValue := 0 }, { name := "hashIsZero", type := .boolean, accessFlags := 2, slot := 3, constantValue := 0 }, { name := "serialVersionUID", type := .long, accessFlags := 26, slot := 0, constantValue := 0 }, { name := "COMPACT_STRINGS", type := .boolean, accessFlags := 24, slot := 1, constantValue := 0 }, { name := "serialPersistentFields", type := (.array (.object "java/io/ObjectStreamField")), accessFlags := 26, slot := 2, constantValue := 0 }, { name := "REPL", type := .char, accessFlags := 26, slot := 3, constantValue := 0 }, { name := "CASE_INSENSITIVE_ORDER", type := (.object "java/util/Comparator"), accessFlags := 25, slot := 4, constantValue := 0 }, { name := "LATIN1", type := .byte, accessFlags := 24, slot := 5, constantValue := 0 }, { name := "UTF16", type := .byte, accessFlags := 24, slot := 6, constantValue := 0 }]
  methods := #[k9m0, k9m1]
  instanceTypes := #[(.array .byte), .byte, .int, .boolean]
  staticTypes := #[.long, .boolean, (.array (.object "java/io/ObjectStreamField")), .char, (.object "java/util/Comparator"), .byte, .byte]
  resolved := Array.replicate 1451 none
  statics := none }

def pool10 : Array CpInfo := pool [(1, u "java/lang/Cloneable"), (0, .class_ 1), (0, u "java/lang/Object"), (0, .class_ 3)] 3

/-- java/lang/Cloneable -/
def k10 : Class := { plain "java/lang/Cloneable" (some 0) with
  accessFlags := 1537
  interfaces := #[]
  cf := some (fileOf pool10 2 #[] #[] 1537 4 #[] #[])
  fields := #[]
  methods := #[]
  instanceTypes := #[]
  staticTypes := #[]
  resolved := Array.replicate 8 none
  statics := none }

/-- the primitive byte -/
def k11 : Class := { plain "byte" none with kind := .primitive 'B', accessFlags := 0x411 }
/-- [B -/
def k12 : Class := { plain "[B" (some 0) with kind := .array 11 .byte, interfaces := #[10, 4], accessFlags := 1041 }

/-- the primitive int -/
def k13 : Class := { plain "int" none with kind := .primitive 'I', accessFlags := 0x411 }
/-- [I -/
def k14 : Class := { plain "[I" (some 0) with kind := .array 13 .int, interfaces := #[10, 4], accessFlags := 1041 }

/-- [Lcom/example/crete/crete/policy/NameKind; -/
def k15 : Class := { plain "[Lcom/example/crete/crete/policy/NameKind;" (some 0) with kind := .array 6 (.object "com/example/crete/crete/policy/NameKind"), interfaces := #[10, 4], accessFlags := 1041 }

def heap : Heap := #[{ cls := 6, slots := #[.ref 3, .ref 4, .ref 5, .ref 6, .ref 7, .null], vm := .statics 6 },
  { cls := 9, slots := #[.null, .int 0, .int 0, .int 0], vm := .none },
  { cls := 9, slots := #[.null, .int 0, .int 0, .int 0], vm := .none },
  { cls := 6, slots := #[.null, .int 0, .int 0, .null, .null, .ref 1], vm := .none },
  { cls := 6, slots := #[.null, .int 1, .int 0, .null, .null, .ref 1], vm := .none },
  { cls := 6, slots := #[.null, .int 2, .int 0, .null, .null, .ref 1], vm := .none },
  { cls := 6, slots := #[.null, .int 3, .int 0, .null, .null, .ref 1], vm := .none },
  { cls := 6, slots := #[.null, .int 4, .int 0, .null, .null, .ref 2], vm := .none }]
def classes : Array Class := #[k0, k1, k2, k3, k4, k5, k6, k7, k8, k9, k10, k11, k12, k13, k14, k15]
def interned : List (Array UInt16 × Addr) := []
def slotsUsed : Nat := 44
def theMethod : MethodId := ⟨1, 1⟩
def args0 : Array Value := #[.int 5]
def aboutOver (below : List Frame) : State where
  vm := { classes := classes, interned := interned.toArray }
  heap := heap
  slotsUsed := slotsUsed
  threads := #[{ frames := .invoking theMethod args0 :: below }]
def below0 : List Frame := [.native { method := ⟨0, 0⟩, args := #[] }]
def about1 : State := aboutOver below0
def p0 : Program := .bare "" "" ""
def e0 : Env := launch0.env 0 0 0
theorem w_frames : about1.frames = Frame.invoking theMethod args0 :: below0 := rfl
set_option maxRecDepth 65536 in
theorem w_args : argsFit about1.vm theMethod args0 = true := by decide +kernel
set_option maxRecDepth 65536 in
theorem w_heap : heapFits about1 = true := by decide +kernel
set_option maxRecDepth 65536 in
theorem w_runnable : about1.curStatus? = some .runnable := by decide +kernel
set_option maxRecDepth 65536 in
theorem w_alone : about1.alone = true := by decide +kernel
set_option maxRecDepth 65536 in
theorem w_named : about1.methodNamed? x = some theMethod := by decide +kernel
set_option maxRecDepth 65536 in
theorem w_hears : about1.hears theMethod below0 = true := by decide +kernel
set_option maxRecDepth 65536 in
theorem w_ripe : about1.ripe theMethod args0 below0 = true := by decide +kernel
theorem w_running : about1.status = .running := rfl
set_option maxRecDepth 65536 in
theorem w_room : about1.hasRoom e0.platform room_1 = true :=
  launch0.hasRoom_least _ room_1 (by decide +kernel) (by decide +kernel) (by decide +kernel) (by decide +kernel) (by decide +kernel) (by decide +kernel)
theorem allAtoms_all (ts : List Jvm.Cond) (a : Array Jvm.Value) (st : Jvm.State) : (allAtoms ts).before a st = ts.all (fun c => c.before a st) := by
  induction ts with
  | nil => rfl
  | cons c t ih =>
    show (Jvm.Cond.and c (allAtoms t)).before a st = _
    rw [Jvm.Cond.before_and, ih, List.all_cons]
def words1 : List Jvm.Cond := Jvm.Cond.code x code maxLocals ret :: tables_1
/-- a 'code' word, met by the world's own term for the bytes: nothing is compared byte by byte -/
theorem code_word {y : MethodName} {bytes : ByteArray} {mx : Nat} {rt : Option FieldType} {a : Array Value} {s : State} {m : MethodId} {meth : Method} {c : Code} (h1 : s.methodNamed? y = some m) (h2 : s.vm.method? m = some meth) (h3 : meth.code = some c) (h4 : c.code = bytes)
    (h5 : (c.maxLocals == mx && c.exceptionTable.isEmpty && decide (c.maxStack ≤ mostOperands) && decide (meth.sig.returnType = rt) && !meth.locks && decide (parseMethodDescriptor y.desc = some meth.sig)) = true) : (Jvm.Cond.code y bytes mx rt).before a s = true := by
  simp only [Bool.and_eq_true, beq_iff_eq, Bool.not_eq_true', decide_eq_true_eq] at h5
  obtain ⟨⟨⟨⟨⟨g1, g2⟩, g3⟩, g4⟩, g5⟩, g6⟩ := h5
  simp [Cond.before, Cond.holds, Cond.value, h1, h2, h3, h4, g1, g2, g3, g4, g5, g6]
def isCode : Jvm.Cond → Bool
  | .code _ _ _ _ => true
  | _ => false
theorem all_split {L : List Jvm.Cond} {P : Jvm.Cond → Bool} (h1 : L.all (fun c => isCode c || P c) = true) (h2 : ∀ c ∈ L.filter isCode, P c = true) : L.all P = true := by
  refine List.all_eq_true.mpr fun c hc => ?_
  have h := List.all_eq_true.mp h1 c hc
  rcases Bool.eq_false_or_eq_true (isCode c) with hi | hi
  · exact h2 c (List.mem_filter.mpr ⟨hc, hi⟩)
  · simpa [hi] using h
set_option maxRecDepth 65536 in
theorem w_c0 : (Jvm.Cond.code x code maxLocals ret).before args0 about1 = true := code_word (m := ⟨1, 1⟩) (meth := k1m1) (c := k1c1) (by decide +kernel) rfl rfl rfl (by decide +kernel)
set_option maxRecDepth 65536 in
theorem w_c1 : (Jvm.Cond.code ({ cls := "com/example/crete/crete/policy/NameKind", name := "parentKind", desc := "()Lcom/example/crete/crete/policy/NameKind;" } : Jvm.MethodName) prog_49_method_8_code (1 : Nat) (Option.some (Jvm.ClassFile.FieldType.object "com/example/crete/crete/policy/NameKind"))).before args0 about1 = true := code_word (m := ⟨6, 1⟩) (meth := k6m1) (c := k6c1) (by decide +kernel) rfl rfl rfl (by decide +kernel)
set_option maxRecDepth 65536 in
theorem w_c2 : (Jvm.Cond.code ({ cls := "java/lang/Enum", name := "ordinal", desc := "()I" } : Jvm.MethodName) jdk_37_method_2_code (1 : Nat) (Option.some Jvm.ClassFile.FieldType.int)).before args0 about1 = true := code_word (m := ⟨5, 0⟩) (meth := k5m0) (c := k5c0) (by decide +kernel) rfl rfl rfl (by decide +kernel)
set_option maxRecDepth 65536 in
theorem w_c3 : (Jvm.Cond.code ({ cls := "com/example/crete/crete/policy/NameKind", name := "linkWord", desc := "()Ljava/lang/String;" } : Jvm.MethodName) prog_49_method_7_code (1 : Nat) (Option.some (Jvm.ClassFile.FieldType.object "java/lang/String"))).before args0 about1 = true := code_word (m := ⟨6, 0⟩) (meth := k6m0) (c := k6c0) (by decide +kernel) rfl rfl rfl (by decide +kernel)
set_option maxRecDepth 65536 in
theorem w_c4 : (Jvm.Cond.code ({ cls := "java/lang/String", name := "equals", desc := "(Ljava/lang/Object;)Z" } : Jvm.MethodName) jdk_42_method_66_code (3 : Nat) (Option.some Jvm.ClassFile.FieldType.boolean)).before args0 about1 = true := code_word (m := ⟨9, 1⟩) (meth := k9m1) (c := k9c1) (by decide +kernel) rfl rfl rfl (by decide +kernel)
def codes1 : List Jvm.Cond := [Jvm.Cond.code x code maxLocals ret, Jvm.Cond.code ({ cls := "com/example/crete/crete/policy/NameKind", name := "parentKind", desc := "()Lcom/example/crete/crete/policy/NameKind;" } : Jvm.MethodName) prog_49_method_8_code (1 : Nat) (Option.some (Jvm.ClassFile.FieldType.object "com/example/crete/crete/policy/NameKind")), Jvm.Cond.code ({ cls := "java/lang/Enum", name := "ordinal", desc := "()I" } : Jvm.MethodName) jdk_37_method_2_code (1 : Nat) (Option.some Jvm.ClassFile.FieldType.int), Jvm.Cond.code ({ cls := "com/example/crete/crete/policy/NameKind", name := "linkWord", desc := "()Ljava/lang/String;" } : Jvm.MethodName) prog_49_method_7_code (1 : Nat) (Option.some (Jvm.ClassFile.FieldType.object "java/lang/String")), Jvm.Cond.code ({ cls := "java/lang/String", name := "equals", desc := "(Ljava/lang/Object;)Z" } : Jvm.MethodName) jdk_42_method_66_code (3 : Nat) (Option.some Jvm.ClassFile.FieldType.boolean)]
set_option maxRecDepth 65536 in
theorem codes_eq : words1.filter isCode = codes1 := rfl
theorem w_codes : ∀ c ∈ words1.filter isCode, c.before args0 about1 = true := by
  rw [codes_eq]
  intro c hc
  simp only [codes1, List.mem_cons, List.not_mem_nil, or_false] at hc
  rcases hc with rfl | rfl | rfl | rfl | rfl
  · exact w_c0
  · exact w_c1
  · exact w_c2
  · exact w_c3
  · exact w_c4
set_option maxRecDepth 65536 in
theorem w_t1 : (words1.take 24).all (fun c => isCode c || c.before args0 about1) = true := by decide +kernel
set_option maxRecDepth 65536 in
theorem w_t2 : (words1.drop 24).all (fun c => isCode c || c.before args0 about1) = true := by decide +kernel
theorem w_tables : (allAtoms (Jvm.Cond.code x code maxLocals ret :: tables_1)).before args0 about1 = true := by
  rw [allAtoms_all]
  show words1.all (fun c => c.before args0 about1) = true
  refine all_split ?_ w_codes
  rw [← List.take_append_drop 24 words1, List.all_append, w_t1, w_t2]
  rfl
set_option maxRecDepth 65536 in
theorem w_case : (Jvm.Cond.and given_1 narrow_1).before args0 about1 = true := by decide +kernel
theorem w_applies : (headSpec (Jvm.Cond.code x code maxLocals ret :: tables_1) room_1).applies x e0.platform about1 = true :=
  (Spec.applies_iff w_frames).mpr ⟨w_running, w_runnable, w_alone, w_named, w_hears, w_ripe, w_room, w_tables⟩
theorem atStart : AtStart classFile x code maxLocals ret World_1 tables_1 room_1 Calls_1 rest_1 Pre_1 launch0 p0 e0 about1 theMethod args0 below0 :=
  ⟨lists_1, trivial, launch0.admits_env _ _ _, launch0.least_env, fairChoices_fair.cas, fairChoices_fair.clock, w_frames, w_args, w_heap, w_applies, trivial, trivial, w_case⟩
end start1
theorem witness_1 : WitnessClaimed_1 := ⟨start1.p0, start1.e0, start1.about1, start1.theMethod, start1.args0, start1.below0, start1.atStart⟩
end Jvm.Pilot.@@N@@
