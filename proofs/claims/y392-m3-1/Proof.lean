import JvmDerived
import JvmDerived.Pilot.@@N@@Statement
import JvmDerived.Pilot.@@N@@Code
set_option linter.unusedVariables false
set_option linter.unusedSimpArgs false
namespace Jvm.RoadKit
open Sem ClassFile Op Lib Jvm.Stand Jvm.Free Jvm.LawKit
section New
variable {p : Program} {l : Launch} {e : Env} {R : Room} {s : State} {m : MethodId} {args : Array Value} {below : List Frame} {meth : Method} {c : Code} {T : State} {locs : List Loc} {cells slots : Nat}
theorem own_retI (X : Stand p l e R s m args below meth c T locs cells slots) (hx : p.tables.exec = Jvm.exec) {pc : Nat} {Ls : Array Slot} {z : Int32} {rest : List Value} (hret : meth.sig.returnType = some .int) (hd : decode c.code pc = .ok (.ireturn, 1)) {fs : List Frame}
    (hl : ∀ (f : JFrame) (acts : List Action), f.method = m → f.locked = none → f.entered = [] → (doReturn e (T.setTop f) acts (some (.int z))).1 = T.setFrames fs) : Steps p.tables e below (T.setTop (mkF m pc Ls (.int z :: rest))) (T.setFrames fs) :=
  retOut X hx hret rfl (Or.inl ⟨rfl, Or.inl rfl, z, rfl⟩) hd hl
theorem own_retJ (X : Stand p l e R s m args below meth c T locs cells slots) (hx : p.tables.exec = Jvm.exec) {pc : Nat} {Ls : Array Slot} {z : Int64} {rest : List Value} (hret : meth.sig.returnType = some .long) (hd : decode c.code pc = .ok (.lreturn, 1)) {fs : List Frame}
    (hl : ∀ (f : JFrame) (acts : List Action), f.method = m → f.locked = none → f.entered = [] → (doReturn e (T.setTop f) acts (some (.long z))).1 = T.setFrames fs) : Steps p.tables e below (T.setTop (mkF m pc Ls (.long z :: rest))) (T.setFrames fs) :=
  retOut X hx hret rfl (Or.inr (Or.inl ⟨rfl, rfl, z, rfl⟩)) hd hl
end New
/-- the rest of a walk: from here the run comes to an end with Q -/
def own_Fin (p : Program) (e : Env) (below : List Frame) (A : State) (Q : Outcome → State → Prop) : Prop :=
  ∃ t o, Steps p.tables e below A t ∧ t.status = .running ∧ Ended t below o ∧ Q o t
theorem own_go {p : Program} {e : Env} {below : List Frame} {A B : State} {Q : Outcome → State → Prop} (st : ∀ t, Steps p.tables e below A t → Steps p.tables e below B t) (k : own_Fin p e below A Q) : own_Fin p e below B Q := by
  obtain ⟨t, o, h, r⟩ := k; exact ⟨t, o, st t h, r⟩
theorem own_start {p : Program} {e : Env} {below : List Frame} {T : State} {g g' : JFrame} {Q : Outcome → State → Prop} (q : g = g') (k : own_Fin p e below (T.setTop g') Q) :
    ∃ t o, Steps p.tables e below (T.setTop g) t ∧ t.status = .running ∧ Ended t below o ∧ Q o t := by subst q; exact k
theorem own_cat {v : Value} (h : v.isRef = true) : v.category = 1 := by cases v <;> simp [Value.isRef] at h <;> rfl
theorem own_st1 {l l' : Array Slot} {i : Nat} {v : Value} (hold : (match l[i]? with | some .unset => true | some (.val w) => w.category == 1 | _ => false) = true) (hv : v.isRef = true) (e : l.setIfInBounds i (.val v) = l') : storeLocals l i v = some l' := by
  subst e
  cases h : l[i]? with
  | none => simp [h] at hold
  | some o =>
    refine Jvm.Free.XS.store1 h ?_ (own_cat hv)
    cases o with
    | unset => exact Or.inl rfl
    | second => simp [h] at hold
    | val w => simp [h] at hold; exact Or.inr ⟨w, rfl, hold⟩
theorem own_st2 {l l' : Array Slot} {i : Nat} {v : Value} {o : Slot} (hold : l[i]? = some o) (ho : One o) (hv : v.category = 1) (e : l.setIfInBounds i (.val v) = l') : storeLocals l i v = some l' := by
  subst e; exact Jvm.Free.XS.store1 hold ho hv
theorem own_fitR {v : Value} {C : String} (h : v.isRef = true) : fits (.object C) v = true := by cases v <;> simp [Value.isRef, fits] at h ⊢
theorem own_osz {Z : State} {n0 : Nat} {h : Heap} (O : Old Z n0 h) : n0 ≤ h.size := O.1 ▸ O.2.1
def own_bi (P : Prop) [Decidable P] : Int32 := if P then 1 else 0
theorem own_bi1 {P : Prop} [Decidable P] (h : P) : own_bi P = 1 := if_pos h
theorem own_bi0 {P : Prop} [Decidable P] (h : ¬ P) : own_bi P = 0 := if_neg h
theorem own_bz {P : Prop} [Decidable P] (h : ¬ P) : own_bi P = 0 := if_neg h
theorem own_bn {P : Prop} [Decidable P] (h : P) : ¬ own_bi P = 0 := by rw [own_bi1 h]; decide
theorem own_narb {P : Prop} [Decidable P] : nar .boolean (own_bi P) = own_bi P := by unfold own_bi; split <;> decide
theorem own_narbi (P : Prop) [Decidable P] : narrow .boolean (.int (own_bi P)) = .int (own_bi P) := by unfold own_bi; split <;> rfl
theorem own_fitbi (P : Prop) [Decidable P] : fits .boolean (.int (own_bi P)) = true := by unfold own_bi; split <;> rfl
theorem own_e1 {P : Prop} [Decidable P] (h : P) : ¬ own_bi P = 0 := by rw [own_bi1 h]; decide
theorem own_e0 {P : Prop} [Decidable P] (h : ¬ P) : ¬ own_bi P = 1 := by rw [own_bi0 h]; decide
theorem own_retB {p : Program} {l : Launch} {e : Env} {R : Room} {s : State} {m : MethodId} {args : Array Value} {below : List Frame} {meth : Method} {c : Code} {T : State} {locs : List Loc} {cells slots : Nat} (X : Stand p l e R s m args below meth c T locs cells slots) (hx : p.tables.exec = Jvm.exec) {pc : Nat} {Ls : Array Slot} {P : Prop} [Decidable P] {rest : List Value} (hret : meth.sig.returnType = some .boolean) (hd : decode c.code pc = .ok (.ireturn, 1)) {fs : List Frame}
    (hl : ∀ (f : JFrame) (acts : List Action), f.method = m → f.locked = none → f.entered = [] → (doReturn e (T.setTop f) acts (some (.int (own_bi P)))).1 = T.setFrames fs) : Steps p.tables e below (T.setTop (mkF m pc Ls (.int (own_bi P) :: rest))) (T.setFrames fs) :=
  retN X hx (t := .boolean) hret (by simp) hd (by rw [own_narb]; exact hl)
theorem own_eqv {args : Array Value} {f s : State} {o : Option Outcome} {idx : List Nat} {a b : Term} {v : Value} (h : (Cond.eq a b).value args f o s idx = some true) (hb : b.eval args f o idx s = some v) (hk : (match v with | .int _ => true | .long _ => true | .ref _ => true | .null => true | _ => false) = true) : a.eval args f o idx s = some v := by
  obtain ⟨x, y, h1, h2, h3, h4⟩ := cmp_v (Or.inl h)
  rw [hb] at h2; cases h2
  rw [h1]
  cases x <;> cases v <;> simp [Kin, Value.isRef] at h3 h4 hk <;> simp [Cond.value, h1, hb] at h ⊢ <;> exact h
theorem own_eqBi {v : Option Value} {P : Prop} [Decidable P] (h : (v = some (.int 1) ∧ P) ∨ (v = some (.int 0) ∧ ¬ P)) : v = some (.int (own_bi P)) := by
  rcases h with ⟨h, q⟩ | ⟨h, q⟩
  · rw [h, own_bi1 q]
  · rw [h, own_bi0 q]
theorem own_up {cs : List Int32} (h : ∀ c ∈ cs, ¬ c < 0 ∧ ¬ (255 : Int32) < c) : ∀ c ∈ cs, ¬ c < 0 ∧ ¬ (65535 : Int32) < c := fun c hc => ⟨(h c hc).1, fun q => (h c hc).2 (by
  rw [Int32.lt_iff_toInt_lt] at q ⊢
  have e1 : (65535 : Int32).toInt = 65535 := by decide
  have e2 : (255 : Int32).toInt = 255 := by decide
  omega)⟩
theorem own_narid {a : Int32} (h : ¬ a < 0 ∧ ¬ (255 : Int32) < a) : nar .char a = a := by
  have e0 : (0 : Int32).toInt = 0 := by decide
  have e2 : (255 : Int32).toInt = 255 := by decide
  obtain ⟨h1, h2⟩ := h
  rw [Int32.lt_iff_toInt_lt] at h1 h2
  have q := c_i2c a
  rw [← Int32.toInt_inj]
  show a.toUInt32.toUInt16.toUInt32.toInt32.toInt = a.toInt
  omega
theorem own_nez {args : Array Value} {f s : State} {o : Option Outcome} {idx : List Nat} {t : Term} {z : Int32} (ev : t.eval args f o idx s = some (.int z)) (h : (Cond.not (Cond.eq t (Term.int 0))).value args f o s idx = some true) : ¬ z = 0 := by
  intro q; subst q; have h' := not_v h; simp [Cond.value, ev, Term.eval] at h'
theorem own_notOf {Z : State} {a0 : Array Value} {C O K : String} {n : Nat} (w : (Cond.superclass C O).before a0 Z = true) (w0 : (Cond.noSuperclass O).before a0 Z = true) (wi : (Cond.instantiable K n).before a0 Z = true) (hn : C ≠ K) (ho : O ≠ K) : ∃ c t, Z.vm.findClass C = some c ∧ Z.vm.findClass K = some t ∧ Z.vm.assignable c t = false := by
  obtain ⟨t, kt, g0, g2, g5, g7, -⟩ := Cond.instantiable_spec wi
  obtain ⟨c, h0⟩ := found_sup w
  obtain ⟨p, k, kp, h1, h2, h3, h4, h5, -, h7⟩ := Cond.superclass_spec h0 w
  obtain ⟨c', k', j1, j2, j3, -, -⟩ := Cond.noSuperclass_spec w0
  cases j1.symm.trans h1
  have ne := ids_ne h0 g0 hn
  have neo := ids_ne h1 g0 ho
  have g7' : kt.isInterface = false := by cases h : kt.isInterface <;> simp [h] at g7 ⊢
  have hs : ∀ fuel, Z.vm.isSubclassAux fuel c t = false := by
    intro fuel
    cases fuel with
    | zero => rfl
    | succ f =>
      cases f with
      | zero => simp [Vm.isSubclassAux, ne, h2, h4]
      | succ f => simp [Vm.isSubclassAux, ne, h2, h4, neo, j2, j3]
  refine ⟨c, t, h0, g0, ?_⟩
  show Z.vm.assignableAux (255 + 1) c t = false
  simp [Vm.assignableAux, ne, h2, g2, h5, g5, g7', Vm.isSubclass, hs]
theorem own_selS {args : Array Value} {s : State} {y w z : MethodName} {C : String} (h : (Cond.selects C w z).before args s = true) (e : z.cls = y.cls) (hpriv : s.PrivateAt y) (hinst : (Cond.instanceMethod y).before args s = true) (hy : y.cls ≠ "java/lang/invoke/MethodHandle" ∧ y.cls ≠ "java/lang/invoke/VarHandle") : (Cond.selects y.cls y y).before args s = true := by
  obtain ⟨c2, r2, m2, q1, q2, q3, q4, kP, hkP, hkPi⟩ := Cond.selects_spec h
  exact selects_self_of_private (c := m2.cls) (by rw [← e]; exact findClass_of_methodNamed q3) hkP hkPi hpriv hinst hy
theorem own_same {args : Array Value} {s : State} {y w z : MethodName} {C : String} (hinst : (Cond.instanceMethod y).before args s = true) (h : (Cond.selects C w z).before args s = true) (e : z.cls = y.cls) (hy : y.cls ≠ "java/lang/invoke/MethodHandle" ∧ y.cls ≠ "java/lang/invoke/VarHandle") : (Cond.sameMethod y.cls y.cls y.name y.desc).before args s = true := by
  obtain ⟨c2, r2, m2, q1, q2, q3, q4, kP, hkP, hkPi⟩ := Cond.selects_spec h
  obtain ⟨mk, methM, hnamed, hmethM, -, -⟩ := Cond.instanceMethod_spec hinst
  have hf : s.methodFound? y.cls y.name y.desc = some mk := State.methodFound?_of_named hnamed hy
  have hc : s.vm.findClass y.cls = some m2.cls := by rw [← e]; exact findClass_of_methodNamed q3
  have hn : s.methodNamed? ⟨y.cls, y.name, y.desc⟩ = some mk := hnamed
  simp [Cond.before, Cond.holds, Cond.value, hc, hf, hn, hkP, hkPi]
theorem own_nf {args : Array Value} {s : State} {y w z : MethodName} {C : String} (h : (Cond.selects C w z).before args s = true) (e : z.cls = y.cls) : NotFace s y := fun r0 h0 => by
  obtain ⟨c2, r2, m2, q1, q2, q3, q4, kP, hkP, hkPi⟩ := Cond.selects_spec h
  have a := findClass_of_methodNamed q3
  have b := findClass_of_methodNamed h0
  rw [e] at a
  have hc : m2.cls = r0.cls := Option.some.inj (a.symm.trans b)
  exact ⟨kP, by rw [← hc]; exact hkP, hkPi⟩
theorem own_selI {args : Array Value} {s : State} {y : MethodName} {n : Nat} (h : (Cond.instantiable y.cls n).before args s = true) (hpriv : s.PrivateAt y) (hinst : (Cond.instanceMethod y).before args s = true) (hy : y.cls ≠ "java/lang/invoke/MethodHandle" ∧ y.cls ≠ "java/lang/invoke/VarHandle") : (Cond.selects y.cls y y).before args s = true := by
  obtain ⟨c, k, h1, h2, h3, h4, -⟩ := Cond.instantiable_spec h
  exact selects_self_of_private h1 h2 (by cases hq : k.isInterface <;> simp [hq] at h4 ⊢) hpriv hinst hy
theorem own_selP {args : Array Value} {s : State} {y : MethodName} {S : String} (h : (Cond.superclass y.cls S).before args s = true) (hpriv : s.PrivateAt y) (hinst : (Cond.instanceMethod y).before args s = true) (hy : y.cls ≠ "java/lang/invoke/MethodHandle" ∧ y.cls ≠ "java/lang/invoke/VarHandle") : (Cond.selects y.cls y y).before args s = true := by
  obtain ⟨c, hc⟩ := found_sup h
  obtain ⟨p, k, kp, h1, h2, h3, h4, h5, h6, h7⟩ := Cond.superclass_spec hc h
  exact selects_self_of_private hc h2 h7 hpriv hinst hy
end Jvm.RoadKit
namespace Jvm.Pilot.@@N@@
open Jvm Jvm.ClassFile Sem Op Lib Jvm.Free Jvm.Stand Jvm.LawKit Jvm.RoadKit Bundle Jvm.Pilot.@@N@@.Jvm.D
theorem ow {Z : State} {a0 : Array Value} (hw : ∀ d ∈ tables_1, d.before a0 Z = true) (i : Nat) {d : Jvm.Cond} (h : tables_1[i]? = some d := by rfl) : d.before a0 Z = true := hw d (List.mem_of_getElem? h)
theorem d2_0 : decode jdk_2650_method_2_code 0 = .ok (.getstatic 17, 3) := by decide +kernel
theorem d2_3 : decode jdk_2650_method_2_code 3 = .ok (.areturn, 1) := by decide +kernel
theorem pn_0 : plainName "java/util/OptionalLong" = true := by first | (simp [plainName, overriddenIn]; done) | decide +kernel
theorem ef_rm2 (m : MethodId)  : entryFrame m #[] 0 = mkF m 0 #[] [] := by first | (simp [entryFrame, mkF, argsToLocals, Value.category]; done) | rfl
def Qrm2 (Z : State) (w : Addr) (h0 : Heap) (n0 : Nat) (v : Option Value) (h : Heap) (L : List Loc) : Prop := v = some (.ref w) ∧ Fr n0 L ∧ h = h0
set_option maxRecDepth 65536 in
set_option maxHeartbeats 40000000 in
theorem rm2 (l : Launch) (Z : State) (a0 : Array Value) (hw : ∀ d ∈ tables_1, d.before a0 Z = true) (ws : List Jvm.Cond) (w : Addr) (h0 : Heap) (n0 : Nat) (O : Old Z n0 h0) (S_OptionalLong_EMPTY : Sta Z Z.heap "java/util/OptionalLong" "EMPTY" "Ljava/util/OptionalLong;" (.ref w)) :
    MetFree l (⟨"java/util/OptionalLong", "empty", "()Ljava/util/OptionalLong;"⟩ : MethodName) (head1 (Jvm.Cond.code (⟨"java/util/OptionalLong", "empty", "()Ljava/util/OptionalLong;"⟩ : MethodName) jdk_2650_method_2_code 0 (some (.object "java/util/OptionalLong")) :: ws) ({ frames := 0, cells := 0, slots := 0, locals := 0 } : Room)) (fun a' U' => a' = #[] ∧ Z.Warmed39 U'.vm ∧ U'.heap = h0) (fun _ _ _ _ _ => True) (fun _ U' o' W' => ∃ v' L', o' = .returned v' ∧ Qrm2 Z w h0 n0 v' W'.heap L' ∧ FrameEnd U' o' W' L' ({ frames := 0, cells := 0, slots := 0, locals := 0 } : Room).cells ({ frames := 0, cells := 0, slots := 0, locals := 0 } : Room).slots) := by
  refine MetFree.of_bodySF (plainFor_of_name pn_0) hisR ?_
  intro p e s m args below meth c s₁ Bd hml0 hP hK
  obtain ⟨rfl, hZ, hh⟩ := hP
  have hx := Bd.exec
  have hby := Bd.bytes
  have hml : c.maxLocals = 0 := hml0
  have hown : s.vm.findClass "java/util/OptionalLong" = some m.cls := findClass_of_methodNamed Bd.named
  have hnm := (name_of_methodNamed Bd.named Bd.method).1
  have X0 : Stand p l e ({ frames := 0, cells := 0, slots := 0, locals := 0 } : Room) s m #[] below meth c s₁ [] 0 0 := Stand.of_body Bd
  have e0 : s₁.heap = h0 := by rw [← hh, Bd.state]; rfl
  have N0 := Fr.nil n0
  refine own_start (ef_rm2 m ) (Q := fun o' t' => ∃ v' L', o' = .returned v' ∧ Qrm2 Z w h0 n0 v' t'.heap L' ∧ FrameEnd s o' t' L' ({ frames := 0, cells := 0, slots := 0, locals := 0 } : Room).cells ({ frames := 0, cells := 0, slots := 0, locals := 0 } : Room).slots) ?_
  show own_Fin p e below (s₁.setTop (mkF m 0 #[] [])) _
  obtain ⟨T1, X1, e1, st1⟩ := getS2 X0 hx hZ hown (host := "") (Or.inl (ow hw 10)) Via.refl e0 (S_OptionalLong_EMPTY.ext O.2) (g := (mkF m 0 #[] [])) rfl (hb hby d2_0)
  refine own_go (fun _ k => st1 _ k) ?_
  show own_Fin p e below (T1.setTop (mkF m 3 #[] [(.ref w)])) _
  obtain ⟨fs, hr, hrun, hended, hW, hsame⟩ := X1.leave (v := some (.ref w)) (fun h => by rw [Bd.returns] at h; cases h)
  refine ⟨_, _, ?_, hrun, hended, _, _, rfl, ?_, ⟨_, rfl⟩, hW, hsame.mono (by decide) (by decide)⟩
  ·exact X1.areturnOut hx rfl Bd.returns rfl (hb hby d2_3) hr
  ·show Qrm2 Z w h0 n0 _ T1.heap _
   rw [e1]
   exact ⟨rfl, N0, rfl⟩
theorem d3_0 : decode prog_13_method_1_code 0 = .ok (.aload_n 0, 1) := by decide +kernel
theorem d3_1 : decode prog_13_method_1_code 1 = .ok (.invokespecial 1, 3) := by decide +kernel
theorem d3_4 : decode prog_13_method_1_code 4 = .ok (.aload_n 0, 1) := by decide +kernel
theorem d3_5 : decode prog_13_method_1_code 5 = .ok (.iload_n 1, 1) := by decide +kernel
theorem d3_6 : decode prog_13_method_1_code 6 = .ok (.putfield 7, 3) := by decide +kernel
theorem d3_9 : decode prog_13_method_1_code 9 = .ok (.aload_n 0, 1) := by decide +kernel
theorem d3_10 : decode prog_13_method_1_code 10 = .ok (.iload_n 2, 1) := by decide +kernel
theorem d3_11 : decode prog_13_method_1_code 11 = .ok (.putfield 13, 3) := by decide +kernel
theorem d3_14 : decode prog_13_method_1_code 14 = .ok (.aload_n 0, 1) := by decide +kernel
theorem d3_15 : decode prog_13_method_1_code 15 = .ok (.lload_n 3, 1) := by decide +kernel
theorem d3_16 : decode prog_13_method_1_code 16 = .ok (.putfield 16, 3) := by decide +kernel
theorem d3_19 : decode prog_13_method_1_code 19 = .ok (.aload_n 0, 1) := by decide +kernel
theorem d3_20 : decode prog_13_method_1_code 20 = .ok (.aload 5, 2) := by decide +kernel
theorem d3_22 : decode prog_13_method_1_code 22 = .ok (.putfield 20, 3) := by decide +kernel
theorem d3_25 : decode prog_13_method_1_code 25 = .ok (.return_, 1) := by decide +kernel
theorem pn_1 : plainName "com/example/holdfast/holdfast/TakeAnswer" = true := by first | (simp [plainName, overriddenIn]; done) | decide +kernel
theorem ef_rm3 (m : MethodId) (x0 : Addr) (x1 : Int32) (x2 : Int32) (x3 : Int64) (x4 : Addr) : entryFrame m #[(.ref x0), (.int x1), (.int x2), (.long x3), (.ref x4)] 6 = mkF m 0 #[.val (.ref x0), .val (.int x1), .val (.int x2), .val (.long x3), .second, .val (.ref x4)] [] := by first | (simp [entryFrame, mkF, argsToLocals, Value.category]; done) | rfl
def Qrm3 (Z : State) (b : Addr) (q : Int64) (w : Addr) (h0 : Heap) (n0 : Nat) (v : Option Value) (h : Heap) (L : List Loc) : Prop := v = none ∧ Fr n0 L ∧ Keep h0 h [b] ∧ Exa Z h b "com/example/holdfast/holdfast/TakeAnswer" ∧ Fld Z h b "com/example/holdfast/holdfast/TakeAnswer" "held" "Z" (.int 0) ∧ Fld Z h b "com/example/holdfast/holdfast/TakeAnswer" "reentry" "Z" (.int 0) ∧ Fld Z h b "com/example/holdfast/holdfast/TakeAnswer" "holderLeaseMillis" "J" (.long q) ∧ Fld Z h b "com/example/holdfast/holdfast/TakeAnswer" "fencingToken" "Ljava/util/OptionalLong;" (.ref w)
set_option maxRecDepth 65536 in
set_option maxHeartbeats 40000000 in
theorem rm3 (l : Launch) (Z : State) (a0 : Array Value) (hw : ∀ d ∈ tables_1, d.before a0 Z = true) (ws : List Jvm.Cond) (b : Addr) (q : Int64) (w : Addr) (h0 : Heap) (n0 : Nat) (O : Old Z n0 h0) (E_b : Exa Z h0 b "com/example/holdfast/holdfast/TakeAnswer") (F_b_TakeAnswer_held : Fld Z h0 b "com/example/holdfast/holdfast/TakeAnswer" "held" "Z" (.int 0)) (F_b_TakeAnswer_reentry : Fld Z h0 b "com/example/holdfast/holdfast/TakeAnswer" "reentry" "Z" (.int 0)) (F_b_TakeAnswer_holderLeaseMillis : Fld Z h0 b "com/example/holdfast/holdfast/TakeAnswer" "holderLeaseMillis" "J" (.long (0 : Int64))) (F_b_TakeAnswer_fencingToken : Fld Z h0 b "com/example/holdfast/holdfast/TakeAnswer" "fencingToken" "Ljava/util/OptionalLong;" .null) (g_b : n0 ≤ b) :
    MetFree l (⟨"com/example/holdfast/holdfast/TakeAnswer", "<init>", "(ZZJLjava/util/OptionalLong;)V"⟩ : MethodName) (head1 (Jvm.Cond.code (⟨"com/example/holdfast/holdfast/TakeAnswer", "<init>", "(ZZJLjava/util/OptionalLong;)V"⟩ : MethodName) prog_13_method_1_code 6 none :: ws) ({ frames := 1, cells := 0, slots := 0, locals := 12 } : Room)) (fun a' U' => a' = #[(.ref b), (.int 0), (.int 0), (.long q), (.ref w)] ∧ Z.Warmed39 U'.vm ∧ U'.heap = h0) (fun _ _ _ _ _ => True) (fun _ U' o' W' => ∃ v' L', o' = .returned v' ∧ Qrm3 Z b q w h0 n0 v' W'.heap L' ∧ FrameEnd U' o' W' L' ({ frames := 1, cells := 0, slots := 0, locals := 12 } : Room).cells ({ frames := 1, cells := 0, slots := 0, locals := 12 } : Room).slots) := by
  refine MetFree.of_bodySF (plainFor_of_name pn_1) hisR ?_
  intro p e s m args below meth c s₁ Bd hml0 hP hK
  obtain ⟨rfl, hZ, hh⟩ := hP
  have hx := Bd.exec
  have hby := Bd.bytes
  have hml : c.maxLocals = 6 := hml0
  have hown : s.vm.findClass "com/example/holdfast/holdfast/TakeAnswer" = some m.cls := findClass_of_methodNamed Bd.named
  have hnm := (name_of_methodNamed Bd.named Bd.method).1
  have X0 : Stand p l e ({ frames := 1, cells := 0, slots := 0, locals := 12 } : Room) s m #[(.ref b), (.int 0), (.int 0), (.long q), (.ref w)] below meth c s₁ [] 0 0 := Stand.of_body Bd
  have e0 : s₁.heap = h0 := by rw [← hh, Bd.state]; rfl
  have N0 := Fr.nil n0
  have K0 := Keep.refl h0 [b]
  refine own_start (ef_rm3 m b (0 : Int32) (0 : Int32) q w) (Q := fun o' t' => ∃ v' L', o' = .returned v' ∧ Qrm3 Z b q w h0 n0 v' t'.heap L' ∧ FrameEnd s o' t' L' ({ frames := 1, cells := 0, slots := 0, locals := 12 } : Room).cells ({ frames := 1, cells := 0, slots := 0, locals := 12 } : Room).slots) ?_
  show own_Fin p e below (s₁.setTop (mkF m 0 #[.val (.ref b), .val (.int 0), .val (.int 0), .val (.long q), .second, .val (.ref w)] [])) _
  refine own_go (fun _ k => XS.aloadN X0.here hx rfl (hb hby d3_0) rfl rfl k) ?_
  show own_Fin p e below (s₁.setTop (mkF m 1 #[.val (.ref b), .val (.int 0), .val (.int 0), .val (.long q), .second, .val (.ref w)] [(.ref b)])) _
  obtain ⟨T3, X3, e3, st3⟩ := initO X0 hx hZ hown (ow hw 14) (ow hw 15) (ow hw 16) e0 (g := (mkF m 1 #[.val (.ref b), .val (.int 0), .val (.int 0), .val (.long q), .second, .val (.ref w)] [(.ref b)])) rfl (by rw [hml]; rfl) rfl (hb hby d3_1) (by decide) (W := 0) (by show 2 * 0 + _ ≤ _; exact Nat.le_of_eq rfl) (by decide)
  refine own_go (fun _ k => st3 _ k) ?_
  show own_Fin p e below (T3.setTop (mkF m 4 #[.val (.ref b), .val (.int 0), .val (.int 0), .val (.long q), .second, .val (.ref w)] [])) _
  refine own_go (fun _ k => XS.aloadN X3.here hx rfl (hb hby d3_4) rfl rfl (XS.iloadN X3.here hx rfl (hb hby d3_5) rfl k)) ?_
  show own_Fin p e below (T3.setTop (mkF m 6 #[.val (.ref b), .val (.int 0), .val (.int 0), .val (.long q), .second, .val (.ref w)] [(.int 0), (.ref b)])) _
  obtain ⟨T4, h4, X4, e4, W4, st4⟩ := putF X3 hx hZ hown (host := "") (Or.inl (ow hw 17)) Via.refl e3 F_b_TakeAnswer_held E_b (Or.inr ⟨(ow hw 18), rfl, hnm⟩) (ow hw 5) (ty := .boolean) (by decide) rfl rfl (g := (mkF m 6 #[.val (.ref b), .val (.int 0), .val (.int 0), .val (.long q), .second, .val (.ref w)] [(.int 0), (.ref b)])) rfl rfl (hb hby d3_6)
  refine own_go (fun _ k => st4 _ k) ?_
  have E_b := E_b.wr W4
  have F_b_TakeAnswer_reentry := F_b_TakeAnswer_reentry.other W4 (Or.inr (slot_ne (Or.inr (ow hw 20)) (Or.inr (ow hw 18)) (by decide) (t := .boolean) (t' := .boolean) (by decide) (by decide)))
  have F_b_TakeAnswer_holderLeaseMillis := F_b_TakeAnswer_holderLeaseMillis.other W4 (Or.inr (slot_ne (Or.inr (ow hw 22)) (Or.inr (ow hw 18)) (by decide) (t := .long) (t' := .boolean) (by decide) (by decide)))
  have F_b_TakeAnswer_fencingToken := F_b_TakeAnswer_fencingToken.other W4 (Or.inr (slot_ne (Or.inr (ow hw 24)) (Or.inr (ow hw 18)) (by decide) (t := (.object "java/util/OptionalLong")) (t' := .boolean) (by decide) (by decide)))
  have O := O.wr W4 g_b
  have K5 := K0.wr W4 (Or.inl (List.mem_of_getElem? (i := 0) rfl))
  have F_b_TakeAnswer_held := F_b_TakeAnswer_held.same W4
  have N4 := Fr.snoc X4 N0 g_b
  show own_Fin p e below (T4.setTop (mkF m 9 #[.val (.ref b), .val (.int 0), .val (.int 0), .val (.long q), .second, .val (.ref w)] [])) _
  refine own_go (fun _ k => XS.aloadN X4.here hx rfl (hb hby d3_9) rfl rfl (XS.iloadN X4.here hx rfl (hb hby d3_10) rfl k)) ?_
  show own_Fin p e below (T4.setTop (mkF m 11 #[.val (.ref b), .val (.int 0), .val (.int 0), .val (.long q), .second, .val (.ref w)] [(.int 0), (.ref b)])) _
  obtain ⟨T6, h6, X6, e6, W6, st6⟩ := putF X4 hx hZ hown (host := "") (Or.inl (ow hw 19)) Via.refl e4 F_b_TakeAnswer_reentry E_b (Or.inr ⟨(ow hw 20), rfl, hnm⟩) (ow hw 5) (ty := .boolean) (by decide) rfl rfl (g := (mkF m 11 #[.val (.ref b), .val (.int 0), .val (.int 0), .val (.long q), .second, .val (.ref w)] [(.int 0), (.ref b)])) rfl rfl (hb hby d3_11)
  refine own_go (fun _ k => st6 _ k) ?_
  have E_b := E_b.wr W6
  have F_b_TakeAnswer_held := F_b_TakeAnswer_held.other W6 (Or.inr (slot_ne (Or.inr (ow hw 18)) (Or.inr (ow hw 20)) (by decide) (t := .boolean) (t' := .boolean) (by decide) (by decide)))
  have F_b_TakeAnswer_holderLeaseMillis := F_b_TakeAnswer_holderLeaseMillis.other W6 (Or.inr (slot_ne (Or.inr (ow hw 22)) (Or.inr (ow hw 20)) (by decide) (t := .long) (t' := .boolean) (by decide) (by decide)))
  have F_b_TakeAnswer_fencingToken := F_b_TakeAnswer_fencingToken.other W6 (Or.inr (slot_ne (Or.inr (ow hw 24)) (Or.inr (ow hw 20)) (by decide) (t := (.object "java/util/OptionalLong")) (t' := .boolean) (by decide) (by decide)))
  have O := O.wr W6 g_b
  have K7 := K5.wr W6 (Or.inl (List.mem_of_getElem? (i := 0) rfl))
  have F_b_TakeAnswer_reentry := F_b_TakeAnswer_reentry.same W6
  have N6 := Fr.snoc X6 N4 g_b
  show own_Fin p e below (T6.setTop (mkF m 14 #[.val (.ref b), .val (.int 0), .val (.int 0), .val (.long q), .second, .val (.ref w)] [])) _
  refine own_go (fun _ k => XS.aloadN X6.here hx rfl (hb hby d3_14) rfl rfl (XS.lloadN X6.here hx rfl (hb hby d3_15) rfl k)) ?_
  show own_Fin p e below (T6.setTop (mkF m 16 #[.val (.ref b), .val (.int 0), .val (.int 0), .val (.long q), .second, .val (.ref w)] [(.long q), (.ref b)])) _
  obtain ⟨T8, h8, X8, e8, W8, st8⟩ := putF X6 hx hZ hown (host := "") (Or.inl (ow hw 21)) Via.refl e6 F_b_TakeAnswer_holderLeaseMillis E_b (Or.inr ⟨(ow hw 22), rfl, hnm⟩) (ow hw 5) (ty := .long) (by decide) rfl rfl (g := (mkF m 16 #[.val (.ref b), .val (.int 0), .val (.int 0), .val (.long q), .second, .val (.ref w)] [(.long q), (.ref b)])) rfl rfl (hb hby d3_16)
  refine own_go (fun _ k => st8 _ k) ?_
  have E_b := E_b.wr W8
  have F_b_TakeAnswer_held := F_b_TakeAnswer_held.other W8 (Or.inr (slot_ne (Or.inr (ow hw 18)) (Or.inr (ow hw 22)) (by decide) (t := .boolean) (t' := .long) (by decide) (by decide)))
  have F_b_TakeAnswer_reentry := F_b_TakeAnswer_reentry.other W8 (Or.inr (slot_ne (Or.inr (ow hw 20)) (Or.inr (ow hw 22)) (by decide) (t := .boolean) (t' := .long) (by decide) (by decide)))
  have F_b_TakeAnswer_fencingToken := F_b_TakeAnswer_fencingToken.other W8 (Or.inr (slot_ne (Or.inr (ow hw 24)) (Or.inr (ow hw 22)) (by decide) (t := (.object "java/util/OptionalLong")) (t' := .long) (by decide) (by decide)))
  have O := O.wr W8 g_b
  have K9 := K7.wr W8 (Or.inl (List.mem_of_getElem? (i := 0) rfl))
  have F_b_TakeAnswer_holderLeaseMillis := F_b_TakeAnswer_holderLeaseMillis.same W8
  have N8 := Fr.snoc X8 N6 g_b
  show own_Fin p e below (T8.setTop (mkF m 19 #[.val (.ref b), .val (.int 0), .val (.int 0), .val (.long q), .second, .val (.ref w)] [])) _
  refine own_go (fun _ k => XS.aloadN X8.here hx rfl (hb hby d3_19) rfl rfl (XS.aload X8.here hx rfl (hb hby d3_20) rfl rfl k)) ?_
  show own_Fin p e below (T8.setTop (mkF m 22 #[.val (.ref b), .val (.int 0), .val (.int 0), .val (.long q), .second, .val (.ref w)] [(.ref w), (.ref b)])) _
  obtain ⟨T10, h10, X10, e10, W10, st10⟩ := putF X8 hx hZ hown (host := "") (Or.inl (ow hw 23)) Via.refl e8 F_b_TakeAnswer_fencingToken E_b (Or.inr ⟨(ow hw 24), rfl, hnm⟩) (ow hw 5) (ty := (.object "java/util/OptionalLong")) (by decide) rfl rfl (g := (mkF m 22 #[.val (.ref b), .val (.int 0), .val (.int 0), .val (.long q), .second, .val (.ref w)] [(.ref w), (.ref b)])) rfl rfl (hb hby d3_22)
  refine own_go (fun _ k => st10 _ k) ?_
  have E_b := E_b.wr W10
  have F_b_TakeAnswer_held := F_b_TakeAnswer_held.other W10 (Or.inr (slot_ne (Or.inr (ow hw 18)) (Or.inr (ow hw 24)) (by decide) (t := .boolean) (t' := (.object "java/util/OptionalLong")) (by decide) (by decide)))
  have F_b_TakeAnswer_reentry := F_b_TakeAnswer_reentry.other W10 (Or.inr (slot_ne (Or.inr (ow hw 20)) (Or.inr (ow hw 24)) (by decide) (t := .boolean) (t' := (.object "java/util/OptionalLong")) (by decide) (by decide)))
  have F_b_TakeAnswer_holderLeaseMillis := F_b_TakeAnswer_holderLeaseMillis.other W10 (Or.inr (slot_ne (Or.inr (ow hw 22)) (Or.inr (ow hw 24)) (by decide) (t := .long) (t' := (.object "java/util/OptionalLong")) (by decide) (by decide)))
  have O := O.wr W10 g_b
  have K11 := K9.wr W10 (Or.inl (List.mem_of_getElem? (i := 0) rfl))
  have F_b_TakeAnswer_fencingToken := F_b_TakeAnswer_fencingToken.same W10
  have N10 := Fr.snoc X10 N8 g_b
  show own_Fin p e below (T10.setTop (mkF m 25 #[.val (.ref b), .val (.int 0), .val (.int 0), .val (.long q), .second, .val (.ref w)] [])) _
  obtain ⟨fs, hr, hrun, hended, hW, hsame⟩ := X10.leave (v := none) (fun _ => rfl)
  refine ⟨_, _, ?_, hrun, hended, _, _, rfl, ?_, ⟨_, rfl⟩, hW, hsame.mono (by decide) (by decide)⟩
  ·exact X10.returnOut hx Bd.returns (hb hby d3_25) hr
  ·show Qrm3 Z b q w h0 n0 _ T10.heap _
   rw [e10]
   exact ⟨rfl, N10, K11, E_b, F_b_TakeAnswer_held, F_b_TakeAnswer_reentry, F_b_TakeAnswer_holderLeaseMillis, F_b_TakeAnswer_fencingToken⟩
theorem d1_0 : decode prog_13_method_6_code 0 = .ok (.new 8, 3) := by decide +kernel
theorem d1_3 : decode prog_13_method_6_code 3 = .ok (.dup, 1) := by decide +kernel
theorem d1_4 : decode prog_13_method_6_code 4 = .ok (.iconst 0, 1) := by decide +kernel
theorem d1_5 : decode prog_13_method_6_code 5 = .ok (.iconst 0, 1) := by decide +kernel
theorem d1_6 : decode prog_13_method_6_code 6 = .ok (.lload_n 0, 1) := by decide +kernel
theorem d1_7 : decode prog_13_method_6_code 7 = .ok (.invokestatic 34, 3) := by decide +kernel
theorem pd_0 : parseMethodDescriptor "()Ljava/util/OptionalLong;" = some ⟨[], some (.object "java/util/OptionalLong")⟩ := by decide +kernel
theorem d1_10 : decode prog_13_method_6_code 10 = .ok (.invokespecial 28, 3) := by decide +kernel
theorem pd_1 : parseMethodDescriptor "(ZZJLjava/util/OptionalLong;)V" = some ⟨[.boolean, .boolean, .long, (.object "java/util/OptionalLong")], none⟩ := by decide +kernel
theorem d1_13 : decode prog_13_method_6_code 13 = .ok (.areturn, 1) := by decide +kernel
theorem ef_rm1 (m : MethodId) (x0 : Int64) : entryFrame m #[(.long x0)] 2 = mkF m 0 #[.val (.long x0), .second] [] := by first | (simp [entryFrame, mkF, argsToLocals, Value.category]; done) | rfl
def Qrm1 (Z : State) (q : Int64) (w : Addr) (h0 : Heap) (n0 : Nat) (v : Option Value) (h : Heap) (L : List Loc) : Prop := ∃ (b : Addr), v = some (.ref b) ∧ Fr n0 L ∧ Keep h0 h [] ∧ h0.size ≤ b ∧ Exa Z h b "com/example/holdfast/holdfast/TakeAnswer" ∧ Fld Z h b "com/example/holdfast/holdfast/TakeAnswer" "held" "Z" (.int 0) ∧ Fld Z h b "com/example/holdfast/holdfast/TakeAnswer" "reentry" "Z" (.int 0) ∧ Fld Z h b "com/example/holdfast/holdfast/TakeAnswer" "holderLeaseMillis" "J" (.long q) ∧ Fld Z h b "com/example/holdfast/holdfast/TakeAnswer" "fencingToken" "Ljava/util/OptionalLong;" (.ref w)
set_option maxRecDepth 65536 in
set_option maxHeartbeats 40000000 in
theorem rm1 (l : Launch) (Z : State) (a0 : Array Value) (hw : ∀ d ∈ tables_1, d.before a0 Z = true) (ws : List Jvm.Cond) (q : Int64) (w : Addr) (h0 : Heap) (n0 : Nat) (O : Old Z n0 h0) (S_OptionalLong_EMPTY : Sta Z Z.heap "java/util/OptionalLong" "EMPTY" "Ljava/util/OptionalLong;" (.ref w)) :
    MetFree l (⟨"com/example/holdfast/holdfast/TakeAnswer", "refused", "(J)Lcom/example/holdfast/holdfast/TakeAnswer;"⟩ : MethodName) (head1 (Jvm.Cond.code (⟨"com/example/holdfast/holdfast/TakeAnswer", "refused", "(J)Lcom/example/holdfast/holdfast/TakeAnswer;"⟩ : MethodName) prog_13_method_6_code 2 (some (.object "com/example/holdfast/holdfast/TakeAnswer")) :: ws) ({ frames := 2, cells := 1, slots := 4, locals := 30 } : Room)) (fun a' U' => a' = #[(.long q)] ∧ Z.Warmed39 U'.vm ∧ U'.heap = h0) (fun _ _ _ _ _ => True) (fun _ U' o' W' => ∃ v' L', o' = .returned v' ∧ Qrm1 Z q w h0 n0 v' W'.heap L' ∧ FrameEnd U' o' W' L' ({ frames := 2, cells := 1, slots := 4, locals := 30 } : Room).cells ({ frames := 2, cells := 1, slots := 4, locals := 30 } : Room).slots) := by
  refine MetFree.of_bodySF (plainFor_of_name pn_1) hisR ?_
  intro p e s m args below meth c s₁ Bd hml0 hP hK
  obtain ⟨rfl, hZ, hh⟩ := hP
  have hx := Bd.exec
  have hby := Bd.bytes
  have hml : c.maxLocals = 2 := hml0
  have hown : s.vm.findClass "com/example/holdfast/holdfast/TakeAnswer" = some m.cls := findClass_of_methodNamed Bd.named
  have hnm := (name_of_methodNamed Bd.named Bd.method).1
  have X0 : Stand p l e ({ frames := 2, cells := 1, slots := 4, locals := 30 } : Room) s m #[(.long q)] below meth c s₁ [] 0 0 := Stand.of_body Bd
  have e0 : s₁.heap = h0 := by rw [← hh, Bd.state]; rfl
  have N0 := Fr.nil n0
  have K0 := Keep.refl h0 []
  refine own_start (ef_rm1 m q) (Q := fun o' t' => ∃ v' L', o' = .returned v' ∧ Qrm1 Z q w h0 n0 v' t'.heap L' ∧ FrameEnd s o' t' L' ({ frames := 2, cells := 1, slots := 4, locals := 30 } : Room).cells ({ frames := 2, cells := 1, slots := 4, locals := 30 } : Room).slots) ?_
  show own_Fin p e below (s₁.setTop (mkF m 0 #[.val (.long q), .second] [])) _
  obtain ⟨T13, h13, X13, e13, E13, A13, D13, -, st13⟩ := newO X0 hx hZ hown (ow hw 4) (ow hw 5) (ow hw 2) e0 (g := (mkF m 0 #[.val (.long q), .second] [])) rfl (hb hby d1_0) (by decide) (by decide)
  obtain ⟨b13, g13⟩ : ∃ z, z = h0.size := ⟨_, rfl⟩
  rw [← g13] at A13 D13 st13
  refine own_go (fun _ k => st13 _ k) ?_
  have g_b13 : n0 ≤ b13 := Nat.le_trans (own_osz O) (Nat.le_of_eq g13.symm)
  have sz_b13 : h0.size ≤ b13 := Nat.le_trans K0.1 (Nat.le_of_eq g13.symm)
  have O := O.ext E13
  have K14 := K0.ext E13
  have E_b13 := A13
  have F_b13_TakeAnswer_held : Fld Z h13 b13 "com/example/holdfast/holdfast/TakeAnswer" "held" "Z" (.int 0) := D13 (Or.inr (ow hw 18)) (ty := .boolean) (by decide)
  have F_b13_TakeAnswer_reentry : Fld Z h13 b13 "com/example/holdfast/holdfast/TakeAnswer" "reentry" "Z" (.int 0) := D13 (Or.inr (ow hw 20)) (ty := .boolean) (by decide)
  have F_b13_TakeAnswer_holderLeaseMillis : Fld Z h13 b13 "com/example/holdfast/holdfast/TakeAnswer" "holderLeaseMillis" "J" (.long (0 : Int64)) := D13 (Or.inr (ow hw 22)) (ty := .long) (by decide)
  have F_b13_TakeAnswer_fencingToken : Fld Z h13 b13 "com/example/holdfast/holdfast/TakeAnswer" "fencingToken" "Ljava/util/OptionalLong;" .null := D13 (Or.inr (ow hw 24)) (ty := (.object "java/util/OptionalLong")) (by decide)
  show own_Fin p e below (T13.setTop (mkF m 3 #[.val (.long q), .second] [(.ref b13)])) _
  refine own_go (fun _ k => XS.dup X13.here hx rfl (hb hby d1_3) rfl rfl (XS.iconst X13.here hx rfl (hb hby d1_4) (XS.iconst X13.here hx rfl (hb hby d1_5) (XS.lloadN X13.here hx rfl (hb hby d1_6) rfl k)))) ?_
  show own_Fin p e below (T13.setTop (mkF m 7 #[.val (.long q), .second] [(.long q), (.int 0), (.int 0), (.ref b13), (.ref b13)])) _
  obtain ⟨_, _, ⟨T15, L15, k15, n15⟩, -, X15, ⟨Lc15, hQ15, l15, y15, z15⟩, st15⟩ := Jvm.LawKit.callS X13 hx (y := (⟨"java/util/OptionalLong", "empty", "()Ljava/util/OptionalLong;"⟩ : MethodName)) hown (mvT hZ (ow hw 6)) (mvT hZ (ow hw 7)) (mvT hZ (ow hw 8)) (mvT hZ (ow hw 9)) (by decide) (backOf (W := 6) (rm2 l Z a0 hw [] w h13 n0 O S_OptionalLong_EMPTY) hZ (ow hw 9) (ow hw 8) (by decide) (by decide)) (g := (mkF m 7 #[.val (.long q), .second] [(.long q), (.int 0), (.int 0), (.ref b13), (.ref b13)])) rfl (by rw [hml]; rfl) (argsL := []) (rest := [(.long q), (.int 0), (.int 0), (.ref b13), (.ref b13)]) (lenOf pd_0 rfl) rfl (by show 2 * 0 + _ ≤ _; exact Nat.le_of_eq rfl) (hb hby d1_7) (fun _ _ => ⟨rfl, e13, (by decide : 1 + 0 ≤ _), (by decide : 4 + 0 ≤ _)⟩)
  dsimp only [Pt.U, Pt.locs, Pt.cells, Pt.slots] at X15 l15 y15 z15 st15 hQ15
  subst l15 y15 z15
  obtain ⟨rfl, N15q, e15⟩ := hQ15
  refine own_go (fun _ k => st15 _ k) ?_
  have N15 := Fr.app N0 N15q
  show own_Fin p e below (T15.setTop (mkF m 10 #[.val (.long q), .second] [(.ref w), (.long q), (.int 0), (.int 0), (.ref b13), (.ref b13)])) _
  obtain ⟨_, _, ⟨T16, L16, k16, n16⟩, -, X16, ⟨Lc16, hQ16, l16, y16, z16⟩, st16⟩ := X15.specialBack hx (y := (⟨"com/example/holdfast/holdfast/TakeAnswer", "<init>", "(ZZJLjava/util/OptionalLong;)V"⟩ : MethodName)) rfl hown (mvT hZ (ow hw 11)) (mvT hZ (ow hw 12)) (mvT hZ (ow hw 13)) (by decide) (backOf (W := 1) (rm3 l Z a0 hw [] b13 q w h13 n0 O E_b13 F_b13_TakeAnswer_held F_b13_TakeAnswer_reentry F_b13_TakeAnswer_holderLeaseMillis F_b13_TakeAnswer_fencingToken g_b13) hZ (ow hw 13) (ow hw 2) (by decide) (by decide)) (g := (mkF m 10 #[.val (.long q), .second] [(.ref w), (.long q), (.int 0), (.int 0), (.ref b13), (.ref b13)])) rfl (by rw [hml]; rfl) (Steps.refl _) (a := b13) (argsL := [(.int 0), (.int 0), (.long q), (.ref w)]) (rest := [(.ref b13)]) (lenOf pd_1 rfl) rfl (by show 2 * 0 + _ ≤ _; exact Nat.le_of_eq rfl) (hb hby d1_10) (fun _ _ => ⟨rfl, e15, (by decide : 1 + 0 ≤ _), (by decide : 4 + 0 ≤ _)⟩)
  dsimp only [Pt.U, Pt.locs, Pt.cells, Pt.slots] at X16 l16 y16 z16 st16 hQ16
  subst l16 y16 z16
  obtain ⟨rfl, N16q, Kq16, P16_0, P16_1, P16_2, P16_3, P16_4⟩ := hQ16
  refine own_go (fun _ k => st16.trans k) ?_
  have N16 := Fr.app N15 N16q
  have E_b13 := E_b13.keep Kq16
  clear F_b13_TakeAnswer_held
  clear F_b13_TakeAnswer_reentry
  clear F_b13_TakeAnswer_holderLeaseMillis
  clear F_b13_TakeAnswer_fencingToken
  have O := O.keep Kq16 (allS g_b13 all0)
  have K17 := K14.trans Kq16 (allS (Or.inr sz_b13) all0)
  have E_b13 := P16_0
  have F_b13_TakeAnswer_held := P16_1
  have F_b13_TakeAnswer_reentry := P16_2
  have F_b13_TakeAnswer_holderLeaseMillis := P16_3
  have F_b13_TakeAnswer_fencingToken := P16_4
  show own_Fin p e below (T16.setTop (mkF m 13 #[.val (.long q), .second] [(.ref b13)])) _
  obtain ⟨fs, hr, hrun, hended, hW, hsame⟩ := X16.leave (v := some (.ref b13)) (fun h => by rw [Bd.returns] at h; cases h)
  refine ⟨_, _, ?_, hrun, hended, _, _, rfl, ?_, ⟨_, rfl⟩, hW, hsame.mono (by decide) (by decide)⟩
  ·exact X16.areturnOut hx rfl Bd.returns rfl (hb hby d1_13) hr
  ·show Qrm1 Z q w h0 n0 _ T16.heap _
   exact ⟨b13, rfl, N16, K17, sz_b13, E_b13, F_b13_TakeAnswer_held, F_b13_TakeAnswer_reentry, F_b13_TakeAnswer_holderLeaseMillis, F_b13_TakeAnswer_fencingToken⟩
theorem d5_0 : decode prog_13_method_8_code 0 = .ok (.aload_n 0, 1) := by decide +kernel
theorem d5_1 : decode prog_13_method_8_code 1 = .ok (.getfield 7, 3) := by decide +kernel
theorem d5_4 : decode prog_13_method_8_code 4 = .ok (.ireturn, 1) := by decide +kernel
theorem ef_rm5 (m : MethodId) (x0 : Addr) : entryFrame m #[(.ref x0)] 1 = mkF m 0 #[.val (.ref x0)] [] := by first | (simp [entryFrame, mkF, argsToLocals, Value.category]; done) | rfl
def Qrm5 (Z : State) (a : Addr) (h0 : Heap) (n0 : Nat) (v : Option Value) (h : Heap) (L : List Loc) : Prop := v = some (.int 0) ∧ Fr n0 L ∧ h = h0
set_option maxRecDepth 65536 in
set_option maxHeartbeats 40000000 in
theorem rm5 (l : Launch) (Z : State) (a0 : Array Value) (hw : ∀ d ∈ tables_1, d.before a0 Z = true) (ws : List Jvm.Cond) (a : Addr) (h0 : Heap) (n0 : Nat) (O : Old Z n0 h0) (F_a_TakeAnswer_held : Fld Z h0 a "com/example/holdfast/holdfast/TakeAnswer" "held" "Z" (.int 0)) :
    MetFree l (⟨"com/example/holdfast/holdfast/TakeAnswer", "isHeld", "()Z"⟩ : MethodName) (head1 (Jvm.Cond.code (⟨"com/example/holdfast/holdfast/TakeAnswer", "isHeld", "()Z"⟩ : MethodName) prog_13_method_8_code 1 (some .boolean) :: ws) ({ frames := 0, cells := 0, slots := 0, locals := 0 } : Room)) (fun a' U' => a' = #[(.ref a)] ∧ Z.Warmed39 U'.vm ∧ U'.heap = h0) (fun _ _ _ _ _ => True) (fun _ U' o' W' => ∃ v' L', o' = .returned v' ∧ Qrm5 Z a h0 n0 v' W'.heap L' ∧ FrameEnd U' o' W' L' ({ frames := 0, cells := 0, slots := 0, locals := 0 } : Room).cells ({ frames := 0, cells := 0, slots := 0, locals := 0 } : Room).slots) := by
  refine MetFree.of_bodySF (plainFor_of_name pn_1) hisR ?_
  intro p e s m args below meth c s₁ Bd hml0 hP hK
  obtain ⟨rfl, hZ, hh⟩ := hP
  have hx := Bd.exec
  have hby := Bd.bytes
  have hml : c.maxLocals = 1 := hml0
  have hown : s.vm.findClass "com/example/holdfast/holdfast/TakeAnswer" = some m.cls := findClass_of_methodNamed Bd.named
  have hnm := (name_of_methodNamed Bd.named Bd.method).1
  have X0 : Stand p l e ({ frames := 0, cells := 0, slots := 0, locals := 0 } : Room) s m #[(.ref a)] below meth c s₁ [] 0 0 := Stand.of_body Bd
  have e0 : s₁.heap = h0 := by rw [← hh, Bd.state]; rfl
  have N0 := Fr.nil n0
  refine own_start (ef_rm5 m a) (Q := fun o' t' => ∃ v' L', o' = .returned v' ∧ Qrm5 Z a h0 n0 v' t'.heap L' ∧ FrameEnd s o' t' L' ({ frames := 0, cells := 0, slots := 0, locals := 0 } : Room).cells ({ frames := 0, cells := 0, slots := 0, locals := 0 } : Room).slots) ?_
  show own_Fin p e below (s₁.setTop (mkF m 0 #[.val (.ref a)] [])) _
  refine own_go (fun _ k => XS.aloadN X0.here hx rfl (hb hby d5_0) rfl rfl k) ?_
  show own_Fin p e below (s₁.setTop (mkF m 1 #[.val (.ref a)] [(.ref a)])) _
  obtain ⟨T19, X19, e19, st19⟩ := getF X0 hx hZ hown (host := "") (Or.inl (ow hw 17)) Via.refl e0 F_a_TakeAnswer_held (g := (mkF m 1 #[.val (.ref a)] [(.ref a)])) rfl rfl (hb hby d5_1)
  refine own_go (fun _ k => st19 _ k) ?_
  show own_Fin p e below (T19.setTop (mkF m 4 #[.val (.ref a)] [(.int 0)])) _
  obtain ⟨fs, hr, hrun, hended, hW, hsame⟩ := X19.leave (v := some (.int 0)) (fun h => by rw [Bd.returns] at h; cases h)
  refine ⟨_, _, ?_, hrun, hended, _, _, rfl, ?_, ⟨_, rfl⟩, hW, hsame.mono (by decide) (by decide)⟩
  ·exact retN X19 hx (t := .boolean) Bd.returns (by simp) (hb hby d5_4) hr
  ·show Qrm5 Z a h0 n0 _ T19.heap _
   rw [e19]
   exact ⟨rfl, N0, rfl⟩
theorem d6_0 : decode prog_13_method_9_code 0 = .ok (.aload_n 0, 1) := by decide +kernel
theorem d6_1 : decode prog_13_method_9_code 1 = .ok (.getfield 13, 3) := by decide +kernel
theorem d6_4 : decode prog_13_method_9_code 4 = .ok (.ireturn, 1) := by decide +kernel
theorem ef_rm6 (m : MethodId) (x0 : Addr) : entryFrame m #[(.ref x0)] 1 = mkF m 0 #[.val (.ref x0)] [] := by first | (simp [entryFrame, mkF, argsToLocals, Value.category]; done) | rfl
def Qrm6 (Z : State) (a : Addr) (h0 : Heap) (n0 : Nat) (v : Option Value) (h : Heap) (L : List Loc) : Prop := v = some (.int 0) ∧ Fr n0 L ∧ h = h0
set_option maxRecDepth 65536 in
set_option maxHeartbeats 40000000 in
theorem rm6 (l : Launch) (Z : State) (a0 : Array Value) (hw : ∀ d ∈ tables_1, d.before a0 Z = true) (ws : List Jvm.Cond) (a : Addr) (h0 : Heap) (n0 : Nat) (O : Old Z n0 h0) (F_a_TakeAnswer_reentry : Fld Z h0 a "com/example/holdfast/holdfast/TakeAnswer" "reentry" "Z" (.int 0)) :
    MetFree l (⟨"com/example/holdfast/holdfast/TakeAnswer", "isReentry", "()Z"⟩ : MethodName) (head1 (Jvm.Cond.code (⟨"com/example/holdfast/holdfast/TakeAnswer", "isReentry", "()Z"⟩ : MethodName) prog_13_method_9_code 1 (some .boolean) :: ws) ({ frames := 0, cells := 0, slots := 0, locals := 0 } : Room)) (fun a' U' => a' = #[(.ref a)] ∧ Z.Warmed39 U'.vm ∧ U'.heap = h0) (fun _ _ _ _ _ => True) (fun _ U' o' W' => ∃ v' L', o' = .returned v' ∧ Qrm6 Z a h0 n0 v' W'.heap L' ∧ FrameEnd U' o' W' L' ({ frames := 0, cells := 0, slots := 0, locals := 0 } : Room).cells ({ frames := 0, cells := 0, slots := 0, locals := 0 } : Room).slots) := by
  refine MetFree.of_bodySF (plainFor_of_name pn_1) hisR ?_
  intro p e s m args below meth c s₁ Bd hml0 hP hK
  obtain ⟨rfl, hZ, hh⟩ := hP
  have hx := Bd.exec
  have hby := Bd.bytes
  have hml : c.maxLocals = 1 := hml0
  have hown : s.vm.findClass "com/example/holdfast/holdfast/TakeAnswer" = some m.cls := findClass_of_methodNamed Bd.named
  have hnm := (name_of_methodNamed Bd.named Bd.method).1
  have X0 : Stand p l e ({ frames := 0, cells := 0, slots := 0, locals := 0 } : Room) s m #[(.ref a)] below meth c s₁ [] 0 0 := Stand.of_body Bd
  have e0 : s₁.heap = h0 := by rw [← hh, Bd.state]; rfl
  have N0 := Fr.nil n0
  refine own_start (ef_rm6 m a) (Q := fun o' t' => ∃ v' L', o' = .returned v' ∧ Qrm6 Z a h0 n0 v' t'.heap L' ∧ FrameEnd s o' t' L' ({ frames := 0, cells := 0, slots := 0, locals := 0 } : Room).cells ({ frames := 0, cells := 0, slots := 0, locals := 0 } : Room).slots) ?_
  show own_Fin p e below (s₁.setTop (mkF m 0 #[.val (.ref a)] [])) _
  refine own_go (fun _ k => XS.aloadN X0.here hx rfl (hb hby d6_0) rfl rfl k) ?_
  show own_Fin p e below (s₁.setTop (mkF m 1 #[.val (.ref a)] [(.ref a)])) _
  obtain ⟨T21, X21, e21, st21⟩ := getF X0 hx hZ hown (host := "") (Or.inl (ow hw 19)) Via.refl e0 F_a_TakeAnswer_reentry (g := (mkF m 1 #[.val (.ref a)] [(.ref a)])) rfl rfl (hb hby d6_1)
  refine own_go (fun _ k => st21 _ k) ?_
  show own_Fin p e below (T21.setTop (mkF m 4 #[.val (.ref a)] [(.int 0)])) _
  obtain ⟨fs, hr, hrun, hended, hW, hsame⟩ := X21.leave (v := some (.int 0)) (fun h => by rw [Bd.returns] at h; cases h)
  refine ⟨_, _, ?_, hrun, hended, _, _, rfl, ?_, ⟨_, rfl⟩, hW, hsame.mono (by decide) (by decide)⟩
  ·exact retN X21 hx (t := .boolean) Bd.returns (by simp) (hb hby d6_4) hr
  ·show Qrm6 Z a h0 n0 _ T21.heap _
   rw [e21]
   exact ⟨rfl, N0, rfl⟩
theorem d7_0 : decode prog_13_method_10_code 0 = .ok (.aload_n 0, 1) := by decide +kernel
theorem d7_1 : decode prog_13_method_10_code 1 = .ok (.getfield 16, 3) := by decide +kernel
theorem d7_4 : decode prog_13_method_10_code 4 = .ok (.lreturn, 1) := by decide +kernel
theorem ef_rm7 (m : MethodId) (x0 : Addr) : entryFrame m #[(.ref x0)] 1 = mkF m 0 #[.val (.ref x0)] [] := by first | (simp [entryFrame, mkF, argsToLocals, Value.category]; done) | rfl
def Qrm7 (Z : State) (a : Addr) (q : Int64) (h0 : Heap) (n0 : Nat) (v : Option Value) (h : Heap) (L : List Loc) : Prop := v = some (.long q) ∧ Fr n0 L ∧ h = h0
set_option maxRecDepth 65536 in
set_option maxHeartbeats 40000000 in
theorem rm7 (l : Launch) (Z : State) (a0 : Array Value) (hw : ∀ d ∈ tables_1, d.before a0 Z = true) (ws : List Jvm.Cond) (a : Addr) (q : Int64) (h0 : Heap) (n0 : Nat) (O : Old Z n0 h0) (F_a_TakeAnswer_holderLeaseMillis : Fld Z h0 a "com/example/holdfast/holdfast/TakeAnswer" "holderLeaseMillis" "J" (.long q)) :
    MetFree l (⟨"com/example/holdfast/holdfast/TakeAnswer", "holderLeaseMillis", "()J"⟩ : MethodName) (head1 (Jvm.Cond.code (⟨"com/example/holdfast/holdfast/TakeAnswer", "holderLeaseMillis", "()J"⟩ : MethodName) prog_13_method_10_code 1 (some .long) :: ws) ({ frames := 0, cells := 0, slots := 0, locals := 0 } : Room)) (fun a' U' => a' = #[(.ref a)] ∧ Z.Warmed39 U'.vm ∧ U'.heap = h0) (fun _ _ _ _ _ => True) (fun _ U' o' W' => ∃ v' L', o' = .returned v' ∧ Qrm7 Z a q h0 n0 v' W'.heap L' ∧ FrameEnd U' o' W' L' ({ frames := 0, cells := 0, slots := 0, locals := 0 } : Room).cells ({ frames := 0, cells := 0, slots := 0, locals := 0 } : Room).slots) := by
  refine MetFree.of_bodySF (plainFor_of_name pn_1) hisR ?_
  intro p e s m args below meth c s₁ Bd hml0 hP hK
  obtain ⟨rfl, hZ, hh⟩ := hP
  have hx := Bd.exec
  have hby := Bd.bytes
  have hml : c.maxLocals = 1 := hml0
  have hown : s.vm.findClass "com/example/holdfast/holdfast/TakeAnswer" = some m.cls := findClass_of_methodNamed Bd.named
  have hnm := (name_of_methodNamed Bd.named Bd.method).1
  have X0 : Stand p l e ({ frames := 0, cells := 0, slots := 0, locals := 0 } : Room) s m #[(.ref a)] below meth c s₁ [] 0 0 := Stand.of_body Bd
  have e0 : s₁.heap = h0 := by rw [← hh, Bd.state]; rfl
  have N0 := Fr.nil n0
  refine own_start (ef_rm7 m a) (Q := fun o' t' => ∃ v' L', o' = .returned v' ∧ Qrm7 Z a q h0 n0 v' t'.heap L' ∧ FrameEnd s o' t' L' ({ frames := 0, cells := 0, slots := 0, locals := 0 } : Room).cells ({ frames := 0, cells := 0, slots := 0, locals := 0 } : Room).slots) ?_
  show own_Fin p e below (s₁.setTop (mkF m 0 #[.val (.ref a)] [])) _
  refine own_go (fun _ k => XS.aloadN X0.here hx rfl (hb hby d7_0) rfl rfl k) ?_
  show own_Fin p e below (s₁.setTop (mkF m 1 #[.val (.ref a)] [(.ref a)])) _
  obtain ⟨T23, X23, e23, st23⟩ := getF X0 hx hZ hown (host := "") (Or.inl (ow hw 21)) Via.refl e0 F_a_TakeAnswer_holderLeaseMillis (g := (mkF m 1 #[.val (.ref a)] [(.ref a)])) rfl rfl (hb hby d7_1)
  refine own_go (fun _ k => st23 _ k) ?_
  show own_Fin p e below (T23.setTop (mkF m 4 #[.val (.ref a)] [(.long q)])) _
  obtain ⟨fs, hr, hrun, hended, hW, hsame⟩ := X23.leave (v := some (.long q)) (fun h => by rw [Bd.returns] at h; cases h)
  refine ⟨_, _, ?_, hrun, hended, _, _, rfl, ?_, ⟨_, rfl⟩, hW, hsame.mono (by decide) (by decide)⟩
  ·exact own_retJ X23 hx Bd.returns (hb hby d7_4) hr
  ·show Qrm7 Z a q h0 n0 _ T23.heap _
   rw [e23]
   exact ⟨rfl, N0, rfl⟩
theorem d8_0 : decode prog_13_method_11_code 0 = .ok (.aload_n 0, 1) := by decide +kernel
theorem d8_1 : decode prog_13_method_11_code 1 = .ok (.getfield 20, 3) := by decide +kernel
theorem d8_4 : decode prog_13_method_11_code 4 = .ok (.areturn, 1) := by decide +kernel
theorem ef_rm8 (m : MethodId) (x0 : Addr) : entryFrame m #[(.ref x0)] 1 = mkF m 0 #[.val (.ref x0)] [] := by first | (simp [entryFrame, mkF, argsToLocals, Value.category]; done) | rfl
def Qrm8 (Z : State) (a : Addr) (w : Addr) (h0 : Heap) (n0 : Nat) (v : Option Value) (h : Heap) (L : List Loc) : Prop := v = some (.ref w) ∧ Fr n0 L ∧ h = h0
set_option maxRecDepth 65536 in
set_option maxHeartbeats 40000000 in
theorem rm8 (l : Launch) (Z : State) (a0 : Array Value) (hw : ∀ d ∈ tables_1, d.before a0 Z = true) (ws : List Jvm.Cond) (a : Addr) (w : Addr) (h0 : Heap) (n0 : Nat) (O : Old Z n0 h0) (F_a_TakeAnswer_fencingToken : Fld Z h0 a "com/example/holdfast/holdfast/TakeAnswer" "fencingToken" "Ljava/util/OptionalLong;" (.ref w)) :
    MetFree l (⟨"com/example/holdfast/holdfast/TakeAnswer", "fencingToken", "()Ljava/util/OptionalLong;"⟩ : MethodName) (head1 (Jvm.Cond.code (⟨"com/example/holdfast/holdfast/TakeAnswer", "fencingToken", "()Ljava/util/OptionalLong;"⟩ : MethodName) prog_13_method_11_code 1 (some (.object "java/util/OptionalLong")) :: ws) ({ frames := 0, cells := 0, slots := 0, locals := 0 } : Room)) (fun a' U' => a' = #[(.ref a)] ∧ Z.Warmed39 U'.vm ∧ U'.heap = h0) (fun _ _ _ _ _ => True) (fun _ U' o' W' => ∃ v' L', o' = .returned v' ∧ Qrm8 Z a w h0 n0 v' W'.heap L' ∧ FrameEnd U' o' W' L' ({ frames := 0, cells := 0, slots := 0, locals := 0 } : Room).cells ({ frames := 0, cells := 0, slots := 0, locals := 0 } : Room).slots) := by
  refine MetFree.of_bodySF (plainFor_of_name pn_1) hisR ?_
  intro p e s m args below meth c s₁ Bd hml0 hP hK
  obtain ⟨rfl, hZ, hh⟩ := hP
  have hx := Bd.exec
  have hby := Bd.bytes
  have hml : c.maxLocals = 1 := hml0
  have hown : s.vm.findClass "com/example/holdfast/holdfast/TakeAnswer" = some m.cls := findClass_of_methodNamed Bd.named
  have hnm := (name_of_methodNamed Bd.named Bd.method).1
  have X0 : Stand p l e ({ frames := 0, cells := 0, slots := 0, locals := 0 } : Room) s m #[(.ref a)] below meth c s₁ [] 0 0 := Stand.of_body Bd
  have e0 : s₁.heap = h0 := by rw [← hh, Bd.state]; rfl
  have N0 := Fr.nil n0
  refine own_start (ef_rm8 m a) (Q := fun o' t' => ∃ v' L', o' = .returned v' ∧ Qrm8 Z a w h0 n0 v' t'.heap L' ∧ FrameEnd s o' t' L' ({ frames := 0, cells := 0, slots := 0, locals := 0 } : Room).cells ({ frames := 0, cells := 0, slots := 0, locals := 0 } : Room).slots) ?_
  show own_Fin p e below (s₁.setTop (mkF m 0 #[.val (.ref a)] [])) _
  refine own_go (fun _ k => XS.aloadN X0.here hx rfl (hb hby d8_0) rfl rfl k) ?_
  show own_Fin p e below (s₁.setTop (mkF m 1 #[.val (.ref a)] [(.ref a)])) _
  obtain ⟨T25, X25, e25, st25⟩ := getF X0 hx hZ hown (host := "") (Or.inl (ow hw 23)) Via.refl e0 F_a_TakeAnswer_fencingToken (g := (mkF m 1 #[.val (.ref a)] [(.ref a)])) rfl rfl (hb hby d8_1)
  refine own_go (fun _ k => st25 _ k) ?_
  show own_Fin p e below (T25.setTop (mkF m 4 #[.val (.ref a)] [(.ref w)])) _
  obtain ⟨fs, hr, hrun, hended, hW, hsame⟩ := X25.leave (v := some (.ref w)) (fun h => by rw [Bd.returns] at h; cases h)
  refine ⟨_, _, ?_, hrun, hended, _, _, rfl, ?_, ⟨_, rfl⟩, hW, hsame.mono (by decide) (by decide)⟩
  ·exact X25.areturnOut hx rfl Bd.returns rfl (hb hby d8_4) hr
  ·show Qrm8 Z a w h0 n0 _ T25.heap _
   rw [e25]
   exact ⟨rfl, N0, rfl⟩
theorem d9_0 : decode prog_13_method_2_code 0 = .ok (.getstatic 24, 3) := by decide +kernel
theorem d9_3 : decode prog_13_method_2_code 3 = .ok (.areturn, 1) := by decide +kernel
theorem ef_rm9 (m : MethodId)  : entryFrame m #[] 0 = mkF m 0 #[] [] := by first | (simp [entryFrame, mkF, argsToLocals, Value.category]; done) | rfl
def Qrm9 (Z : State) (w : Addr) (h0 : Heap) (n0 : Nat) (v : Option Value) (h : Heap) (L : List Loc) : Prop := v = some (.ref w) ∧ Fr n0 L ∧ h = h0
set_option maxRecDepth 65536 in
set_option maxHeartbeats 40000000 in
theorem rm9 (l : Launch) (Z : State) (a0 : Array Value) (hw : ∀ d ∈ tables_1, d.before a0 Z = true) (ws : List Jvm.Cond) (w : Addr) (h0 : Heap) (n0 : Nat) (O : Old Z n0 h0) (S_TakeAnswer_BEGAN : Sta Z Z.heap "com/example/holdfast/holdfast/TakeAnswer" "BEGAN" "Lcom/example/holdfast/holdfast/TakeAnswer;" (.ref w)) :
    MetFree l (⟨"com/example/holdfast/holdfast/TakeAnswer", "began", "()Lcom/example/holdfast/holdfast/TakeAnswer;"⟩ : MethodName) (head1 (Jvm.Cond.code (⟨"com/example/holdfast/holdfast/TakeAnswer", "began", "()Lcom/example/holdfast/holdfast/TakeAnswer;"⟩ : MethodName) prog_13_method_2_code 0 (some (.object "com/example/holdfast/holdfast/TakeAnswer")) :: ws) ({ frames := 0, cells := 0, slots := 0, locals := 0 } : Room)) (fun a' U' => a' = #[] ∧ Z.Warmed39 U'.vm ∧ U'.heap = h0) (fun _ _ _ _ _ => True) (fun _ U' o' W' => ∃ v' L', o' = .returned v' ∧ Qrm9 Z w h0 n0 v' W'.heap L' ∧ FrameEnd U' o' W' L' ({ frames := 0, cells := 0, slots := 0, locals := 0 } : Room).cells ({ frames := 0, cells := 0, slots := 0, locals := 0 } : Room).slots) := by
  refine MetFree.of_bodySF (plainFor_of_name pn_1) hisR ?_
  intro p e s m args below meth c s₁ Bd hml0 hP hK
  obtain ⟨rfl, hZ, hh⟩ := hP
  have hx := Bd.exec
  have hby := Bd.bytes
  have hml : c.maxLocals = 0 := hml0
  have hown : s.vm.findClass "com/example/holdfast/holdfast/TakeAnswer" = some m.cls := findClass_of_methodNamed Bd.named
  have hnm := (name_of_methodNamed Bd.named Bd.method).1
  have X0 : Stand p l e ({ frames := 0, cells := 0, slots := 0, locals := 0 } : Room) s m #[] below meth c s₁ [] 0 0 := Stand.of_body Bd
  have e0 : s₁.heap = h0 := by rw [← hh, Bd.state]; rfl
  have N0 := Fr.nil n0
  refine own_start (ef_rm9 m ) (Q := fun o' t' => ∃ v' L', o' = .returned v' ∧ Qrm9 Z w h0 n0 v' t'.heap L' ∧ FrameEnd s o' t' L' ({ frames := 0, cells := 0, slots := 0, locals := 0 } : Room).cells ({ frames := 0, cells := 0, slots := 0, locals := 0 } : Room).slots) ?_
  show own_Fin p e below (s₁.setTop (mkF m 0 #[] [])) _
  obtain ⟨T27, X27, e27, st27⟩ := getS2 X0 hx hZ hown (host := "") (Or.inl (ow hw 48)) Via.refl e0 (S_TakeAnswer_BEGAN.ext O.2) (g := (mkF m 0 #[] [])) rfl (hb hby d9_0)
  refine own_go (fun _ k => st27 _ k) ?_
  show own_Fin p e below (T27.setTop (mkF m 3 #[] [(.ref w)])) _
  obtain ⟨fs, hr, hrun, hended, hW, hsame⟩ := X27.leave (v := some (.ref w)) (fun h => by rw [Bd.returns] at h; cases h)
  refine ⟨_, _, ?_, hrun, hended, _, _, rfl, ?_, ⟨_, rfl⟩, hW, hsame.mono (by decide) (by decide)⟩
  ·exact X27.areturnOut hx rfl Bd.returns rfl (hb hby d9_3) hr
  ·show Qrm9 Z w h0 n0 _ T27.heap _
   rw [e27]
   exact ⟨rfl, N0, rfl⟩
theorem pd_2 : parseMethodDescriptor "(J)Lcom/example/holdfast/holdfast/TakeAnswer;" = some ⟨[.long], some (.object "com/example/holdfast/holdfast/TakeAnswer")⟩ := by decide +kernel
theorem pd_3 : parseMethodDescriptor "()Z" = some ⟨[], some .boolean⟩ := by decide +kernel
theorem pd_4 : parseMethodDescriptor "()J" = some ⟨[], some .long⟩ := by decide +kernel
theorem pd_5 : parseMethodDescriptor "()Lcom/example/holdfast/holdfast/TakeAnswer;" = some ⟨[], some (.object "com/example/holdfast/holdfast/TakeAnswer")⟩ := by decide +kernel
theorem pn_2 : plainName "com/example/holdfast/holdfast/TakeAnswerRefusedPinLaw" = true := by first | (simp [plainName, overriddenIn]; done) | decide +kernel
theorem ef_rm0 (m : MethodId) (x0 : Int64) : entryFrame m #[(.long x0)] maxLocals = mkF m 0 #[.val (.long x0), .second, .unset, .unset, .unset, .unset, .unset] [] := by first | (simp [entryFrame, mkF, argsToLocals, Value.category, maxLocals]; done) | rfl
def Qrm0 (Z : State) (pa : Int64) (aE : Addr) (aB : Addr) (h0 : Heap) (n0 : Nat) (v : Option Value) (h : Heap) (L : List Loc) : Prop := v = some (.int 1) ∧ Fr n0 L ∧ Keep h0 h []
set_option maxRecDepth 65536 in
set_option maxHeartbeats 40000000 in
theorem rm0 (l : Launch) (Z : State) (a0 : Array Value) (hw : ∀ d ∈ tables_1, d.before a0 Z = true) (ws : List Jvm.Cond) (pa : Int64) (aE : Addr) (aB : Addr) (h0 : Heap) (n0 : Nat) (O : Old Z n0 h0) (S_OptionalLong_EMPTY : Sta Z Z.heap "java/util/OptionalLong" "EMPTY" "Ljava/util/OptionalLong;" (.ref aE)) (S_TakeAnswer_BEGAN : Sta Z Z.heap "com/example/holdfast/holdfast/TakeAnswer" "BEGAN" "Lcom/example/holdfast/holdfast/TakeAnswer;" (.ref aB)) (E_aB : Exa Z Z.heap aB "com/example/holdfast/holdfast/TakeAnswer") (F_aB_TakeAnswer_fencingToken : Fld Z Z.heap aB "com/example/holdfast/holdfast/TakeAnswer" "fencingToken" "Ljava/util/OptionalLong;" (.ref aE)) :
    MetFree l x (head1 (Jvm.Cond.code x code maxLocals ret :: ws) room_1) (fun a' U' => a' = #[(.long pa)] ∧ Z.Warmed39 U'.vm ∧ U'.heap = h0) (fun _ _ _ _ _ => True) (fun _ U' o' W' => ∃ v' L', o' = .returned v' ∧ Qrm0 Z pa aE aB h0 n0 v' W'.heap L' ∧ FrameEnd U' o' W' L' 1 4) := by
  refine MetFree.of_bodySF (plainFor_of_name pn_2) hisR ?_
  intro p e s m args below meth c s₁ Bd hml0 hP hK
  obtain ⟨rfl, hZ, hh⟩ := hP
  have hx := Bd.exec
  have hby := Bd.bytes
  have hml : c.maxLocals = 7 := hml0
  have hown : s.vm.findClass "com/example/holdfast/holdfast/TakeAnswerRefusedPinLaw" = some m.cls := findClass_of_methodNamed Bd.named
  have hnm := (name_of_methodNamed Bd.named Bd.method).1
  have X0 : Stand p l e room_1 s m #[(.long pa)] below meth c s₁ [] 0 0 := Stand.of_body Bd
  have e0 : s₁.heap = h0 := by rw [← hh, Bd.state]; rfl
  have N0 := Fr.nil n0
  have K0 := Keep.refl h0 []
  refine own_start (ef_rm0 m pa) (Q := fun o' t' => ∃ v' L', o' = .returned v' ∧ Qrm0 Z pa aE aB h0 n0 v' t'.heap L' ∧ FrameEnd s o' t' L' 1 4) ?_
  show own_Fin p e below (s₁.setTop (mkF m 0 #[.val (.long pa), .second, .unset, .unset, .unset, .unset, .unset] [])) _
  refine own_go (fun _ k => XS.lloadN X0.here hx rfl (hb hby at_0) rfl k) ?_
  show own_Fin p e below (s₁.setTop (mkF m 1 #[.val (.long pa), .second, .unset, .unset, .unset, .unset, .unset] [(.long pa)])) _
  obtain ⟨_, _, ⟨T29, L29, k29, n29⟩, -, X29, ⟨Lc29, hQ29, l29, y29, z29⟩, st29⟩ := Jvm.LawKit.callS X0 hx (y := (⟨"com/example/holdfast/holdfast/TakeAnswer", "refused", "(J)Lcom/example/holdfast/holdfast/TakeAnswer;"⟩ : MethodName)) hown (mvT hZ (ow hw 0)) (mvT hZ (ow hw 1)) (mvT hZ (ow hw 2)) (mvT hZ (ow hw 3)) (by decide) (backOf (W := 0) (rm1 l Z a0 hw [] pa aE h0 n0 O S_OptionalLong_EMPTY) hZ (ow hw 3) (ow hw 2) (by decide) (by decide)) (g := (mkF m 1 #[.val (.long pa), .second, .unset, .unset, .unset, .unset, .unset] [(.long pa)])) rfl (by rw [hml]; rfl) (argsL := [(.long pa)]) (rest := []) (lenOf pd_2 rfl) rfl (by show 2 * 0 + _ ≤ _; exact Nat.le_of_eq rfl) (hb hby at_1) (fun _ _ => ⟨rfl, e0, (by decide : 0 + 1 ≤ _), (by decide : 0 + 4 ≤ _)⟩)
  dsimp only [Pt.U, Pt.locs, Pt.cells, Pt.slots] at X29 l29 y29 z29 st29 hQ29
  subst l29 y29 z29
  obtain ⟨b30, rfl, N29q, Kq29, P29_0, P29_1, P29_2, P29_3, P29_4, P29_5⟩ := hQ29
  refine own_go (fun _ k => st29 _ k) ?_
  have N29 := Fr.app N0 N29q
  have g_b30 : n0 ≤ b30 := Nat.le_trans (own_osz O) P29_0
  have sz_b30 : h0.size ≤ b30 := Nat.le_trans K0.1 P29_0
  have O := O.keep Kq29 all0
  have K31 := K0.trans Kq29 all0
  have E_b30 := P29_1
  have F_b30_TakeAnswer_held := P29_2
  have F_b30_TakeAnswer_reentry := P29_3
  have F_b30_TakeAnswer_holderLeaseMillis := P29_4
  have F_b30_TakeAnswer_fencingToken := P29_5
  show own_Fin p e below (T29.setTop (mkF m 4 #[.val (.long pa), .second, .unset, .unset, .unset, .unset, .unset] [(.ref b30)])) _
  refine own_go (fun _ k => XS.astoreN X29.here hx rfl (hb hby at_4) rfl rfl (l' := #[.val (.long pa), .second, .val (.ref b30), .unset, .unset, .unset, .unset]) rfl (XS.aloadN X29.here hx rfl (hb hby at_5) rfl rfl k)) ?_
  show own_Fin p e below (T29.setTop (mkF m 6 #[.val (.long pa), .second, .val (.ref b30), .unset, .unset, .unset, .unset] [(.ref b30)])) _
  obtain ⟨cq32, kq32, q32a, q32b, q32c⟩ := isOf hZ rfl E_b30
  obtain ⟨_, _, ⟨T32, L32, k32, n32⟩, -, X32, ⟨Lc32, hQ32, l32, y32, z32⟩, st32⟩ := X29.virtualBack hx (y := (⟨"com/example/holdfast/holdfast/TakeAnswer", "isHeld", "()Z"⟩ : MethodName)) (z := (⟨"com/example/holdfast/holdfast/TakeAnswer", "isHeld", "()Z"⟩ : MethodName)) hown (mvT hZ (ow hw 25)) (mvT hZ (ow hw 26)) (notFace_of_selects (args := #[]) (mvT hZ (ow hw 28))) (mvT hZ (ow hw 28)) (mvT hZ (ow hw 27)) (by decide) (backOf (W := 0) (rm5 l Z a0 hw [] b30 (T29.heap) n0 O F_b30_TakeAnswer_held) hZ (ow hw 29) (ow hw 2) (by decide) (by decide)) q32a q32c (g := (mkF m 6 #[.val (.long pa), .second, .val (.ref b30), .unset, .unset, .unset, .unset] [(.ref b30)])) rfl (by rw [hml]; rfl) (Steps.refl _) (argsL := []) (rest := []) (lenOf pd_3 rfl) rfl (by show 2 * 0 + _ ≤ _; exact Nat.le_of_eq rfl) (hb hby at_6) (fun _ _ => ⟨rfl, rfl, (by decide : 1 + 0 ≤ _), (by decide : 4 + 0 ≤ _)⟩)
  dsimp only [Pt.U, Pt.locs, Pt.cells, Pt.slots] at X32 l32 y32 z32 st32 hQ32
  subst l32 y32 z32
  obtain ⟨rfl, N32q, e32⟩ := hQ32
  refine own_go (fun _ k => st32.trans k) ?_
  have N32 := Fr.app N29 N32q
  show own_Fin p e below (T32.setTop (mkF m 9 #[.val (.long pa), .second, .val (.ref b30), .unset, .unset, .unset, .unset] [(.int 0)])) _
  refine own_go (fun _ k => XS.ifNo X32.here hx rfl (hb hby at_9) rfl ((if0 _ _).trans (teq (by decide : (0 : Int32) = (0 : Int32))).2) (XS.iconst X32.here hx rfl (hb hby at_12) (XS.goto X32.here hx rfl (pc0 := 13) (pc' := 17) rfl (hb hby at_13) (by decide) (by decide) (XS.istoreN X32.here hx rfl (hb hby at_17) rfl (l' := #[.val (.long pa), .second, .val (.ref b30), .val (.int 1), .unset, .unset, .unset]) rfl (XS.aloadN X32.here hx rfl (hb hby at_18) rfl rfl k))))) ?_
  show own_Fin p e below (T32.setTop (mkF m 19 #[.val (.long pa), .second, .val (.ref b30), .val (.int 1), .unset, .unset, .unset] [(.ref b30)])) _
  obtain ⟨cq33, kq33, q33a, q33b, q33c⟩ := isOf hZ e32 E_b30
  obtain ⟨_, _, ⟨T33, L33, k33, n33⟩, -, X33, ⟨Lc33, hQ33, l33, y33, z33⟩, st33⟩ := X32.virtualBack hx (y := (⟨"com/example/holdfast/holdfast/TakeAnswer", "isReentry", "()Z"⟩ : MethodName)) (z := (⟨"com/example/holdfast/holdfast/TakeAnswer", "isReentry", "()Z"⟩ : MethodName)) hown (mvT hZ (ow hw 30)) (mvT hZ (ow hw 31)) (notFace_of_selects (args := #[]) (mvT hZ (ow hw 33))) (mvT hZ (ow hw 33)) (mvT hZ (ow hw 32)) (by decide) (backOf (W := 0) (rm6 l Z a0 hw [] b30 (T29.heap) n0 O F_b30_TakeAnswer_reentry) hZ (ow hw 34) (ow hw 2) (by decide) (by decide)) q33a q33c (g := (mkF m 19 #[.val (.long pa), .second, .val (.ref b30), .val (.int 1), .unset, .unset, .unset] [(.ref b30)])) rfl (by rw [hml]; rfl) (Steps.refl _) (argsL := []) (rest := []) (lenOf pd_3 rfl) rfl (by show 2 * 0 + _ ≤ _; exact Nat.le_of_eq rfl) (hb hby at_19) (fun _ _ => ⟨rfl, e32, (by decide : 1 + 0 ≤ _), (by decide : 4 + 0 ≤ _)⟩)
  dsimp only [Pt.U, Pt.locs, Pt.cells, Pt.slots] at X33 l33 y33 z33 st33 hQ33
  subst l33 y33 z33
  obtain ⟨rfl, N33q, e33⟩ := hQ33
  refine own_go (fun _ k => st33.trans k) ?_
  have N33 := Fr.app N32 N33q
  show own_Fin p e below (T33.setTop (mkF m 22 #[.val (.long pa), .second, .val (.ref b30), .val (.int 1), .unset, .unset, .unset] [(.int 0)])) _
  refine own_go (fun _ k => XS.ifNo X33.here hx rfl (hb hby at_22) rfl ((if0 _ _).trans (teq (by decide : (0 : Int32) = (0 : Int32))).2) (XS.iconst X33.here hx rfl (hb hby at_25) (XS.goto X33.here hx rfl (pc0 := 26) (pc' := 30) rfl (hb hby at_26) (by decide) (by decide) (XS.istore X33.here hx rfl (hb hby at_30) rfl (l' := #[.val (.long pa), .second, .val (.ref b30), .val (.int 1), .val (.int 1), .unset, .unset]) rfl (XS.aloadN X33.here hx rfl (hb hby at_32) rfl rfl k))))) ?_
  show own_Fin p e below (T33.setTop (mkF m 33 #[.val (.long pa), .second, .val (.ref b30), .val (.int 1), .val (.int 1), .unset, .unset] [(.ref b30)])) _
  obtain ⟨cq34, kq34, q34a, q34b, q34c⟩ := isOf hZ e33 E_b30
  obtain ⟨_, _, ⟨T34, L34, k34, n34⟩, -, X34, ⟨Lc34, hQ34, l34, y34, z34⟩, st34⟩ := X33.virtualBack hx (y := (⟨"com/example/holdfast/holdfast/TakeAnswer", "holderLeaseMillis", "()J"⟩ : MethodName)) (z := (⟨"com/example/holdfast/holdfast/TakeAnswer", "holderLeaseMillis", "()J"⟩ : MethodName)) hown (mvT hZ (ow hw 35)) (mvT hZ (ow hw 36)) (notFace_of_selects (args := #[]) (mvT hZ (ow hw 38))) (mvT hZ (ow hw 38)) (mvT hZ (ow hw 37)) (by decide) (backOf (W := 0) (rm7 l Z a0 hw [] b30 pa (T29.heap) n0 O F_b30_TakeAnswer_holderLeaseMillis) hZ (ow hw 39) (ow hw 2) (by decide) (by decide)) q34a q34c (g := (mkF m 33 #[.val (.long pa), .second, .val (.ref b30), .val (.int 1), .val (.int 1), .unset, .unset] [(.ref b30)])) rfl (by rw [hml]; rfl) (Steps.refl _) (argsL := []) (rest := []) (lenOf pd_4 rfl) rfl (by show 2 * 0 + _ ≤ _; exact Nat.le_of_eq rfl) (hb hby at_33) (fun _ _ => ⟨rfl, e33, (by decide : 1 + 0 ≤ _), (by decide : 4 + 0 ≤ _)⟩)
  dsimp only [Pt.U, Pt.locs, Pt.cells, Pt.slots] at X34 l34 y34 z34 st34 hQ34
  subst l34 y34 z34
  obtain ⟨rfl, N34q, e34⟩ := hQ34
  refine own_go (fun _ k => st34.trans k) ?_
  have N34 := Fr.app N33 N34q
  show own_Fin p e below (T34.setTop (mkF m 36 #[.val (.long pa), .second, .val (.ref b30), .val (.int 1), .val (.int 1), .unset, .unset] [(.long pa)])) _
  refine own_go (fun _ k => XS.lloadN X34.here hx rfl (hb hby at_36) rfl (XS.lcmp X34.here hx rfl (hb hby at_37) rfl (XS.ifNo X34.here hx rfl (hb hby at_38) rfl ((if0 _ _).trans (teq ((lw_eq _ _).mpr rfl)).2) (XS.iconst X34.here hx rfl (hb hby at_41) (XS.goto X34.here hx rfl (pc0 := 42) (pc' := 46) rfl (hb hby at_42) (by decide) (by decide) (XS.istore X34.here hx rfl (hb hby at_46) rfl (l' := #[.val (.long pa), .second, .val (.ref b30), .val (.int 1), .val (.int 1), .val (.int 1), .unset]) rfl (XS.aloadN X34.here hx rfl (hb hby at_48) rfl rfl k))))))) ?_
  show own_Fin p e below (T34.setTop (mkF m 49 #[.val (.long pa), .second, .val (.ref b30), .val (.int 1), .val (.int 1), .val (.int 1), .unset] [(.ref b30)])) _
  obtain ⟨cq35, kq35, q35a, q35b, q35c⟩ := isOf hZ e34 E_b30
  obtain ⟨_, _, ⟨T35, L35, k35, n35⟩, -, X35, ⟨Lc35, hQ35, l35, y35, z35⟩, st35⟩ := X34.virtualBack hx (y := (⟨"com/example/holdfast/holdfast/TakeAnswer", "fencingToken", "()Ljava/util/OptionalLong;"⟩ : MethodName)) (z := (⟨"com/example/holdfast/holdfast/TakeAnswer", "fencingToken", "()Ljava/util/OptionalLong;"⟩ : MethodName)) hown (mvT hZ (ow hw 40)) (mvT hZ (ow hw 41)) (notFace_of_selects (args := #[]) (mvT hZ (ow hw 43))) (mvT hZ (ow hw 43)) (mvT hZ (ow hw 42)) (by decide) (backOf (W := 0) (rm8 l Z a0 hw [] b30 aE (T29.heap) n0 O F_b30_TakeAnswer_fencingToken) hZ (ow hw 44) (ow hw 2) (by decide) (by decide)) q35a q35c (g := (mkF m 49 #[.val (.long pa), .second, .val (.ref b30), .val (.int 1), .val (.int 1), .val (.int 1), .unset] [(.ref b30)])) rfl (by rw [hml]; rfl) (Steps.refl _) (argsL := []) (rest := []) (lenOf pd_0 rfl) rfl (by show 2 * 0 + _ ≤ _; exact Nat.le_of_eq rfl) (hb hby at_49) (fun _ _ => ⟨rfl, e34, (by decide : 1 + 0 ≤ _), (by decide : 4 + 0 ≤ _)⟩)
  dsimp only [Pt.U, Pt.locs, Pt.cells, Pt.slots] at X35 l35 y35 z35 st35 hQ35
  subst l35 y35 z35
  obtain ⟨rfl, N35q, e35⟩ := hQ35
  refine own_go (fun _ k => st35.trans k) ?_
  have N35 := Fr.app N34 N35q
  show own_Fin p e below (T35.setTop (mkF m 52 #[.val (.long pa), .second, .val (.ref b30), .val (.int 1), .val (.int 1), .val (.int 1), .unset] [(.ref aE)])) _
  obtain ⟨_, _, ⟨T36, L36, k36, n36⟩, -, X36, ⟨Lc36, hQ36, l36, y36, z36⟩, st36⟩ := Jvm.LawKit.callS X35 hx (y := (⟨"com/example/holdfast/holdfast/TakeAnswer", "began", "()Lcom/example/holdfast/holdfast/TakeAnswer;"⟩ : MethodName)) hown (mvT hZ (ow hw 45)) (mvT hZ (ow hw 46)) (mvT hZ (ow hw 2)) (mvT hZ (ow hw 47)) (by decide) (backOf (W := 1) (rm9 l Z a0 hw [] aB (T29.heap) n0 O S_TakeAnswer_BEGAN) hZ (ow hw 47) (ow hw 2) (by decide) (by decide)) (g := (mkF m 52 #[.val (.long pa), .second, .val (.ref b30), .val (.int 1), .val (.int 1), .val (.int 1), .unset] [(.ref aE)])) rfl (by rw [hml]; rfl) (argsL := []) (rest := [(.ref aE)]) (lenOf pd_5 rfl) rfl (by show 2 * 0 + _ ≤ _; exact Nat.le_of_eq rfl) (hb hby at_52) (fun _ _ => ⟨rfl, e35, (by decide : 1 + 0 ≤ _), (by decide : 4 + 0 ≤ _)⟩)
  dsimp only [Pt.U, Pt.locs, Pt.cells, Pt.slots] at X36 l36 y36 z36 st36 hQ36
  subst l36 y36 z36
  obtain ⟨rfl, N36q, e36⟩ := hQ36
  refine own_go (fun _ k => st36 _ k) ?_
  have N36 := Fr.app N35 N36q
  show own_Fin p e below (T36.setTop (mkF m 55 #[.val (.long pa), .second, .val (.ref b30), .val (.int 1), .val (.int 1), .val (.int 1), .unset] [(.ref aB), (.ref aE)])) _
  obtain ⟨cq37, kq37, q37a, q37b, q37c⟩ := isOf hZ e36 (E_aB.ext O.2)
  obtain ⟨_, _, ⟨T37, L37, k37, n37⟩, -, X37, ⟨Lc37, hQ37, l37, y37, z37⟩, st37⟩ := X36.virtualBack hx (y := (⟨"com/example/holdfast/holdfast/TakeAnswer", "fencingToken", "()Ljava/util/OptionalLong;"⟩ : MethodName)) (z := (⟨"com/example/holdfast/holdfast/TakeAnswer", "fencingToken", "()Ljava/util/OptionalLong;"⟩ : MethodName)) hown (mvT hZ (ow hw 40)) (mvT hZ (ow hw 41)) (notFace_of_selects (args := #[]) (mvT hZ (ow hw 43))) (mvT hZ (ow hw 43)) (mvT hZ (ow hw 42)) (by decide) (backOf (W := 1) (rm8 l Z a0 hw [] aB aE (T29.heap) n0 O (F_aB_TakeAnswer_fencingToken.ext O.2)) hZ (ow hw 44) (ow hw 2) (by decide) (by decide)) q37a q37c (g := (mkF m 55 #[.val (.long pa), .second, .val (.ref b30), .val (.int 1), .val (.int 1), .val (.int 1), .unset] [(.ref aB), (.ref aE)])) rfl (by rw [hml]; rfl) (Steps.refl _) (argsL := []) (rest := [(.ref aE)]) (lenOf pd_0 rfl) rfl (by show 2 * 0 + _ ≤ _; exact Nat.le_of_eq rfl) (hb hby at_55) (fun _ _ => ⟨rfl, e36, (by decide : 1 + 0 ≤ _), (by decide : 4 + 0 ≤ _)⟩)
  dsimp only [Pt.U, Pt.locs, Pt.cells, Pt.slots] at X37 l37 y37 z37 st37 hQ37
  subst l37 y37 z37
  obtain ⟨rfl, N37q, e37⟩ := hQ37
  refine own_go (fun _ k => st37.trans k) ?_
  have N37 := Fr.app N36 N37q
  show own_Fin p e below (T37.setTop (mkF m 58 #[.val (.long pa), .second, .val (.ref b30), .val (.int 1), .val (.int 1), .val (.int 1), .unset] [(.ref aE), (.ref aE)])) _
  refine own_go (fun _ k => Jvm.RoadKit.acmp (g := (mkF m 58 #[.val (.long pa), .second, .val (.ref b30), .val (.int 1), .val (.int 1), .val (.int 1), .unset] [(.ref aE), (.ref aE)])) X37 hx rfl rfl rfl (pc0 := 58) (pc' := 61) (same := true) rfl (hb hby at_58) rfl (decide_eq_true rfl) (by decide) (by decide) k) ?_
  show own_Fin p e below (T37.setTop (mkF m 61 #[.val (.long pa), .second, .val (.ref b30), .val (.int 1), .val (.int 1), .val (.int 1), .unset] [])) _
  refine own_go (fun _ k => XS.iconst X37.here hx rfl (hb hby at_61) (XS.goto X37.here hx rfl (pc0 := 62) (pc' := 66) rfl (hb hby at_62) (by decide) (by decide) (XS.istore X37.here hx rfl (hb hby at_66) rfl (l' := #[.val (.long pa), .second, .val (.ref b30), .val (.int 1), .val (.int 1), .val (.int 1), .val (.int 1)]) rfl (XS.iloadN X37.here hx rfl (hb hby at_68) rfl (XS.ifNo X37.here hx rfl (hb hby at_69) rfl ((if0 _ _).trans (feq (by decide : ¬ ((1 : Int32) = (0 : Int32)))).1) (XS.iload X37.here hx rfl (hb hby at_72) rfl (XS.ifNo X37.here hx rfl (hb hby at_74) rfl ((if0 _ _).trans (feq (by decide : ¬ ((1 : Int32) = (0 : Int32)))).1) (XS.iload X37.here hx rfl (hb hby at_77) rfl (XS.ifNo X37.here hx rfl (hb hby at_79) rfl ((if0 _ _).trans (feq (by decide : ¬ ((1 : Int32) = (0 : Int32)))).1) (XS.iload X37.here hx rfl (hb hby at_82) rfl k)))))))))) ?_
  show own_Fin p e below (T37.setTop (mkF m 84 #[.val (.long pa), .second, .val (.ref b30), .val (.int 1), .val (.int 1), .val (.int 1), .val (.int 1)] [(.int 1)])) _
  refine own_go (fun _ k => XS.ifNo X37.here hx rfl (hb hby at_84) rfl ((if0 _ _).trans (feq (by decide : ¬ ((1 : Int32) = (0 : Int32)))).1) (XS.iconst X37.here hx rfl (hb hby at_87) (XS.goto X37.here hx rfl (pc0 := 88) (pc' := 92) rfl (hb hby at_88) (by decide) (by decide) k))) ?_
  show own_Fin p e below (T37.setTop (mkF m 92 #[.val (.long pa), .second, .val (.ref b30), .val (.int 1), .val (.int 1), .val (.int 1), .val (.int 1)] [(.int 1)])) _
  obtain ⟨fs, hr, hrun, hended, hW, hsame⟩ := X37.leave (v := some (.int 1)) (fun h => by rw [Bd.returns] at h; cases h)
  refine ⟨_, _, ?_, hrun, hended, _, _, rfl, ?_, ⟨_, rfl⟩, hW, hsame.mono (by decide) (by decide)⟩
  ·exact retN X37 hx (t := .boolean) Bd.returns (by simp) (hb hby at_92) hr
  ·show Qrm0 Z pa aE aB h0 n0 _ T37.heap _
   rw [e37]
   exact ⟨rfl, N37, K31⟩
set_option maxRecDepth 65536 in
set_option maxHeartbeats 40000000 in
theorem comes_1 {Post : Tables → Env → Array Value → State → Outcome → State → Prop} (hpost : ∀ tb e args s v u, (limb_1_1.after args s (.returned v) u = true ∧ limb_1_2.after args s (.returned v) u = true ∧ True) → FrameEnd s (.returned v) u (Jvm.fieldLocs frame_1_writes args s ++ Jvm.arrayLocs frame_1_arrays args s ++ Jvm.staticLocs frame_1_statics s) 16 128 → Post tb e args s (.returned v) u) :
    ArmFor flags0 classFile x code maxLocals ret World_1 tables_1 room_1 Calls_1 rest_1 Pre_1 Post := by
  intro l hfl _ _ p e ha hc hk s m args below hf hA hF happ hP
  obtain ⟨hcalls, hrest, hpre⟩ := hP
  obtain ⟨-, -, -, hnamed, -, -, -, hat⟩ := (Spec.applies_iff hf).mp happ
  obtain ⟨hg, hn⟩ := and_e (Cond.before_iff.mp (show (Jvm.Cond.and given_1 narrow_1).before args s = true from hpre))
  obtain ⟨g1, g2⟩ := and_e hg
  obtain ⟨w0, rfl⟩ : ∃ w0 : Value, args = #[w0] := by
    have hs : args.size = 1 := by simpa [Cond.value, given_1] using g1
    obtain ⟨L⟩ := args
    match L, hs with
    | [w0], _ => exact ⟨w0, rfl⟩
  have hw := fun d (hd : d ∈ tables_1) => atoms_spec (ws := Jvm.Cond.code x code maxLocals ret :: tables_1) hat d (List.mem_cons_of_mem _ hd)
  have hfit : Fit s := fun {y c} hc i hi => by
    obtain ⟨ha, rfl⟩ := Array.getElem?_eq_some_iff.mp hc
    have q := List.all_eq_true.mp ((Array.all_eq_true_iff_forall_mem.mp hF) _ (Array.getElem_mem ha)) i (List.mem_range.mpr hi)
    simpa [Array.getElem?_eq_getElem hi] using q
  obtain ⟨hsets, hown0⟩ := atoms_of _ (rest_1_c_eq ▸ (show rest_1_c.before _ s = true from hrest))
  obtain ⟨i0, ei0⟩ := isL_v g2
  obtain rfl : w0 = (.long i0) := Option.some.inj ei0
  obtain ⟨m1, m2⟩ := and_e hn
  have hx_st_BEGAN := m1
  obtain ⟨st_BEGAN, ev_st_BEGAN⟩ := exa_v hx_st_BEGAN
  have E_st_BEGAN := Exa.start ev_st_BEGAN hx_st_BEGAN
  have S_st_BEGAN := Sta.start ev_st_BEGAN (Or.inr ⟨(ow hw 2), (ow hw 49)⟩)
  have hx_st_EMPTY := (Cond.before_iff.mp (hsets _ (List.mem_of_getElem? (i := 2) rfl)))
  obtain ⟨st_EMPTY, ev_st_EMPTY⟩ := exa_v hx_st_EMPTY
  have E_st_EMPTY := Exa.start ev_st_EMPTY hx_st_EMPTY
  have S_st_EMPTY := Sta.start ev_st_EMPTY (Or.inl (hsets _ (List.mem_of_getElem? (i := 1) rfl)))
  have ev_st_EMPTY_isPresent := own_eqv (Cond.before_iff.mp (hsets _ (List.mem_of_getElem? (i := 3) rfl))) (Term.int_eval _) rfl
  have F_st_EMPTY_isPresent : Fld s s.heap st_EMPTY "java/util/OptionalLong" "isPresent" "Z" (.int 0) := Fld.start ((fld_at ev_st_EMPTY).symm.trans ev_st_EMPTY_isPresent)
  have ev_st_EMPTY_value := own_eqv (Cond.before_iff.mp (hsets _ (List.mem_of_getElem? (i := 4) rfl))) (long_at _) rfl
  have F_st_EMPTY_value : Fld s s.heap st_EMPTY "java/util/OptionalLong" "value" "J" (.long (0 : Int64)) := Fld.start ((fld_at ev_st_EMPTY).symm.trans ev_st_EMPTY_value)
  have ev_st_BEGAN_fencingToken := own_eqv m2 ev_st_EMPTY rfl
  have F_st_BEGAN_fencingToken : Fld s s.heap st_BEGAN "com/example/holdfast/holdfast/TakeAnswer" "fencingToken" "Ljava/util/OptionalLong;" (.ref st_EMPTY) := Fld.start ((fld_at ev_st_BEGAN).symm.trans ev_st_BEGAN_fencingToken)
  obtain ⟨n, o, h1, h2, h3, _, L, rfl, ⟨rfl, N, hK⟩, hq⟩ := rm0 l s _ hw tables_1 i0 st_EMPTY st_BEGAN s.heap s.heap.size (Old.start s) S_st_EMPTY S_st_BEGAN E_st_BEGAN F_st_BEGAN_fencingToken p e ha hc hk s m _ below hf ((Spec.applies_iff_loose hf).mp happ).1 ⟨rfl, State.Warmed39.refl s, rfl⟩ trivial
  refine ⟨n, _, h1, h2, h3, hpost _ _ _ _ _ _ ⟨Cond.after_iff.mpr rfl, Cond.after_iff.mpr (eq_i res_at (Term.int_eval (1)) rfl), trivial⟩ ⟨hq.1, hq.2.1, (hq.2.2.sift fun y hy => Or.inr (N y hy)).mono (by decide) (by decide)⟩⟩
theorem main_1_1 : Claimed_1_1 := comes_1 fun _ _ _ _ _ _ h hF => ⟨h.1, hF⟩
theorem main_1_2 : Claimed_1_2 := comes_1 fun _ _ _ _ _ _ h hF => ⟨h.2.1, hF⟩
end Jvm.Pilot.@@N@@
namespace Jvm.Pilot.@@N@@
open Jvm Jvm.ClassFile Sem Op Lib Jvm.Free Jvm.Stand Jvm.Pilot.@@N@@.Jvm.D
/-! MADE BY PROGRAM (witnessworld.py) out of the Statement's table words and the real class files: 10 classes; the members and pool entries that the words name. The judged class is class 1, her method 1. -/
namespace start1
open Jvm.ClassFile
def u (s : String) : CpInfo := .utf8 (stringToUtf16 s)
/-- a pool by its gaps: so many unusable entries, then the entry; so many at the end -/
def gap : Nat → List CpInfo → List CpInfo
  | 0, r => r
  | n + 1, r => .unusable :: gap n r
def poolList (es : List (Nat × CpInfo)) (last : Nat) : List CpInfo := es.foldr (fun e r => gap e.1 (e.2 :: r)) (gap last [])
def pool (es : List (Nat × CpInfo)) (last : Nat) : Array CpInfo := ⟨poolList es last⟩
def fileOf (pool : Array CpInfo) (this : Nat) (attrs : Array Attribute := #[]) (ms : Array MethodInfo := #[]) (fl : Nat := 33) (sup : Nat := 0) (ifs : Array Nat := #[]) (fds : Array FieldInfo := #[]) : ClassFile where
  minorVersion := 0
  majorVersion := 65
  constantPool := pool
  accessFlags := fl
  thisClass := this
  superClass := sup
  interfaces := ifs
  fields := fds
  methods := ms
  attributes := attrs
def plain (name : String) (sup : Option ClassId) : Class where
  name := name
  kind := .ordinary
  loader := none
  accessFlags := 33
  super := sup
  interfaces := #[]
  cf := none
  fields := #[]
  methods := #[]
  instanceTypes := #[]
  staticTypes := #[]
  resolved := #[]
  callSites := []
  init := .initialized
  statics := none
  mirror := none

def pool0 : Array CpInfo := pool [(5, u "<init>"), (0, u "()V"), (1, .class_ 10), (1, u "java/lang/Object")] 113

def k0c0 : Code := { maxStack := 0, maxLocals := 1, code := object_method_1_code, exceptionTable := #[], attributes := #[] }
def k0m0 : Method := { name := "<init>", desc := "()V", sig := { parameters := [], returnType := none }, accessFlags := 1, code := some k0c0 }
/-- java/lang/Object -/
def k0 : Class := { plain "java/lang/Object" none with
  accessFlags := 33
  interfaces := #[]
  cf := some (fileOf pool0 8 #[] #[{ accessFlags := 1, nameIndex := 5, descriptorIndex := 6, attributes := #[] }] 33 0 #[] #[])
  fields := #[]
  methods := #[k0m0]
  instanceTypes := #[]
  staticTypes := #[]
  resolved := Array.replicate 124 none
  statics := none }

def pool1 : Array CpInfo := pool [(2, .class_ 4), (1, u "java/lang/Object"), (0, u "<init>"), (0, u "()V"), (0, .methodref 8 9), (0, .class_ 10), (0, .nameAndType 11 12), (0, u "com/example/holdfast/holdfast/TakeAnswer"), (0, u "refused"), (0, u "(J)Lcom/example/holdfast/holdfast/TakeAnswer;"), (0, .methodref 8 14), (0, .nameAndType 15 16), (0, u "isHeld"), (0, u "()Z"), (0, .methodref 8 18), (0, .nameAndType 19 16), (0, u "isReentry"), (0, .methodref 8 21), (0, .nameAndType 22 23), (0, u "holderLeaseMillis"), (0, u "()J"), (0, .methodref 8 25), (0, .nameAndType 26 27), (0, u "fencingToken"), (0, u "()Ljava/util/OptionalLong;"), (0, .methodref 8 29), (0, .nameAndType 30 31), (0, u "began"), (0, u "()Lcom/example/holdfast/holdfast/TakeAnswer;"), (0, .class_ 33), (0, u "com/example/holdfast/holdfast/TakeAnswerRefusedPinLaw"), (2, u "law"), (0, u "(J)Z")] 3

def k1m0 : Method := { name := "<init>", desc := "()V", sig := { parameters := [], returnType := none }, accessFlags := 1, code := none }
def k1c1 : Code := { maxStack := 4, maxLocals := 7, code := code, exceptionTable := #[], attributes := #[] }
def k1m1 : Method := { name := "law", desc := "(J)Z", sig := { parameters := [.long], returnType := some .boolean }, accessFlags := 9, code := some k1c1 }
/-- com/example/holdfast/holdfast/TakeAnswerRefusedPinLaw -/
def k1 : Class := { plain "com/example/holdfast/holdfast/TakeAnswerRefusedPinLaw" (some 0) with
  accessFlags := 49
  interfaces := #[]
  cf := some (fileOf pool1 32 #[] #[{ accessFlags := 1, nameIndex := 5, descriptorIndex := 6, attributes := #[] }, { accessFlags := 9, nameIndex := 36, descriptorIndex := 37, attributes := #[] }] 49 2 #[] #[])
  fields := #[]
  methods := #[k1m0, k1m1]
  instanceTypes := #[]
  staticTypes := #[]
  resolved := Array.replicate 41 none
  statics := none }

def pool2 : Array CpInfo := pool [(1, .methodref 2 3), (0, .class_ 4), (0, .nameAndType 5 6), (0, u "java/lang/Object"), (0, u "<init>"), (0, u "()V"), (0, .fieldref 8 9), (0, .class_ 10), (0, .nameAndType 11 12), (0, u "com/example/holdfast/holdfast/TakeAnswer"), (0, u "held"), (0, u "Z"), (0, .fieldref 8 14), (0, .nameAndType 15 12), (0, u "reentry"), (0, .fieldref 8 17), (0, .nameAndType 18 19), (0, u "holderLeaseMillis"), (0, u "J"), (0, .fieldref 8 21), (0, .nameAndType 22 23), (0, u "fencingToken"), (0, u "Ljava/util/OptionalLong;"), (0, .fieldref 8 25), (0, .nameAndType 26 27), (0, u "BEGAN"), (0, u "Lcom/example/holdfast/holdfast/TakeAnswer;"), (0, .methodref 8 29), (0, .nameAndType 5 30), (0, u "(ZZJLjava/util/OptionalLong;)V"), (2, u "REENTERED"), (0, .methodref 35 36), (0, .class_ 37), (0, .nameAndType 38 39), (0, u "java/util/OptionalLong"), (0, u "empty"), (0, u "()Ljava/util/OptionalLong;"), (2, u "SLOT_MOVING"), (2, u "began"), (8, u "refused"), (0, u "(J)Lcom/example/holdfast/holdfast/TakeAnswer;"), (2, u "()Lcom/example/holdfast/holdfast/TakeAnswer;"), (1, u "isHeld"), (0, u "()Z"), (0, u "isReentry"), (0, u "()J")] 3

def k2c0 : Code := { maxStack := 3, maxLocals := 6, code := prog_13_method_1_code, exceptionTable := #[], attributes := #[] }
def k2m0 : Method := { name := "<init>", desc := "(ZZJLjava/util/OptionalLong;)V", sig := { parameters := [.boolean, .boolean, .long, (.object "java/util/OptionalLong")], returnType := none }, accessFlags := 2, code := some k2c0 }
def k2c1 : Code := { maxStack := 1, maxLocals := 0, code := prog_13_method_2_code, exceptionTable := #[], attributes := #[] }
def k2m1 : Method := { name := "began", desc := "()Lcom/example/holdfast/holdfast/TakeAnswer;", sig := { parameters := [], returnType := some (.object "com/example/holdfast/holdfast/TakeAnswer") }, accessFlags := 8, code := some k2c1 }
def k2c2 : Code := { maxStack := 7, maxLocals := 2, code := prog_13_method_6_code, exceptionTable := #[], attributes := #[] }
def k2m2 : Method := { name := "refused", desc := "(J)Lcom/example/holdfast/holdfast/TakeAnswer;", sig := { parameters := [.long], returnType := some (.object "com/example/holdfast/holdfast/TakeAnswer") }, accessFlags := 8, code := some k2c2 }
def k2c3 : Code := { maxStack := 1, maxLocals := 1, code := prog_13_method_8_code, exceptionTable := #[], attributes := #[] }
def k2m3 : Method := { name := "isHeld", desc := "()Z", sig := { parameters := [], returnType := some .boolean }, accessFlags := 0, code := some k2c3 }
def k2c4 : Code := { maxStack := 1, maxLocals := 1, code := prog_13_method_9_code, exceptionTable := #[], attributes := #[] }
def k2m4 : Method := { name := "isReentry", desc := "()Z", sig := { parameters := [], returnType := some .boolean }, accessFlags := 0, code := some k2c4 }
def k2c5 : Code := { maxStack := 2, maxLocals := 1, code := prog_13_method_10_code, exceptionTable := #[], attributes := #[] }
def k2m5 : Method := { name := "holderLeaseMillis", desc := "()J", sig := { parameters := [], returnType := some .long }, accessFlags := 0, code := some k2c5 }
def k2c6 : Code := { maxStack := 1, maxLocals := 1, code := prog_13_method_11_code, exceptionTable := #[], attributes := #[] }
def k2m6 : Method := { name := "fencingToken", desc := "()Ljava/util/OptionalLong;", sig := { parameters := [], returnType := some (.object "java/util/OptionalLong") }, accessFlags := 0, code := some k2c6 }
/-- com/example/holdfast/holdfast/TakeAnswer -/
def k2 : Class := { plain "com/example/holdfast/holdfast/TakeAnswer" (some 0) with
  accessFlags := 48
  interfaces := #[]
  cf := some (fileOf pool2 8 #[] #[{ accessFlags := 2, nameIndex := 5, descriptorIndex := 30, attributes := #[] }, { accessFlags := 8, nameIndex := 45, descriptorIndex := 58, attributes := #[] }, { accessFlags := 8, nameIndex := 54, descriptorIndex := 55, attributes := #[] }, { accessFlags := 0, nameIndex := 60, descriptorIndex := 61, attributes := #[] }, { accessFlags := 0, nameIndex := 62, descriptorIndex := 61, attributes := #[] }, { accessFlags := 0, nameIndex := 18, descriptorIndex := 63, attributes := #[] }, { accessFlags := 0, nameIndex := 22, descriptorIndex := 39, attributes := #[] }] 48 2 #[] #[{ accessFlags := 26, nameIndex := 26, descriptorIndex := 27, attributes := #[] }, { accessFlags := 26, nameIndex := 33, descriptorIndex := 27, attributes := #[] }, { accessFlags := 26, nameIndex := 42, descriptorIndex := 27, attributes := #[] }, { accessFlags := 18, nameIndex := 11, descriptorIndex := 12, attributes := #[] }, { accessFlags := 18, nameIndex := 15, descriptorIndex := 12, attributes := #[] }, { accessFlags := 18, nameIndex := 18, descriptorIndex := 19, attributes := #[] }, { accessFlags := 18, nameIndex := 22, descriptorIndex := 23, attributes := #[] }])
  fields := #[{ name := "BEGAN", type := (.object "com/example/holdfast/holdfast/TakeAnswer"), accessFlags := 26, slot := 0, constantValue := 0 }, { name := "REENTERED", type := (.object "com/example/holdfast/holdfast/TakeAnswer"), accessFlags := 26, slot := 1, constantValue := 0 }, { name := "SLOT_MOVING", type := (.object "com/example/holdfast/holdfast/TakeAnswer"), accessFlags := 26, slot := 2, constantValue := 0 }, { name := "held", type := .boolean, accessFlags := 18, slot := 0, constantValue := 0 }, { name := "reentry", type := .boolean, accessFlags := 18, slot := 1, constantValue := 0 }, { name := "holderLeaseMillis", type := .long, accessFlags := 18, slot := 2, constantValue := 0 }, { name := "fencingToken", type := (.object "java/util/OptionalLong"), accessFlags := 18, slot := 3, constantValue := 0 }]
  methods := #[k2m0, k2m1, k2m2, k2m3, k2m4, k2m5, k2m6]
  instanceTypes := #[.boolean, .boolean, .long, (.object "java/util/OptionalLong")]
  staticTypes := #[(.object "com/example/holdfast/holdfast/TakeAnswer"), (.object "com/example/holdfast/holdfast/TakeAnswer"), (.object "com/example/holdfast/holdfast/TakeAnswer")]
  resolved := Array.replicate 67 none
  statics := some 0 }

def pool3 : Array CpInfo := pool [(2, .class_ 4), (1, u "java/lang/Object"), (0, u "<init>"), (0, u "()V"), (1, .class_ 10), (1, u "java/util/OptionalLong"), (0, u "isPresent"), (0, u "Z"), (2, u "value"), (0, u "J"), (0, .fieldref 8 18), (0, .nameAndType 19 20), (0, u "EMPTY"), (0, u "Ljava/util/OptionalLong;"), (28, u "empty"), (46, u "()Ljava/util/OptionalLong;")] 41

def k3m0 : Method := { name := "<init>", desc := "()V", sig := { parameters := [], returnType := none }, accessFlags := 2, code := none }
def k3c1 : Code := { maxStack := 1, maxLocals := 0, code := jdk_2650_method_2_code, exceptionTable := #[], attributes := #[] }
def k3m1 : Method := { name := "empty", desc := "()Ljava/util/OptionalLong;", sig := { parameters := [], returnType := some (.object "java/util/OptionalLong") }, accessFlags := 9, code := some k3c1 }
/-- java/util/OptionalLong -/
def k3 : Class := { plain "java/util/OptionalLong" (some 0) with
  accessFlags := 49
  interfaces := #[]
  cf := some (fileOf pool3 8 #[] #[{ accessFlags := 2, nameIndex := 5, descriptorIndex := 6, attributes := #[] }, { accessFlags := 9, nameIndex := 49, descriptorIndex := 96, attributes := #[] }] 49 2 #[] #[{ accessFlags := 26, nameIndex := 19, descriptorIndex := 20, attributes := #[] }, { accessFlags := 18, nameIndex := 11, descriptorIndex := 12, attributes := #[] }, { accessFlags := 18, nameIndex := 15, descriptorIndex := 16, attributes := #[] }])
  fields := #[{ name := "EMPTY", type := (.object "java/util/OptionalLong"), accessFlags := 26, slot := 0, constantValue := 0 }, { name := "isPresent", type := .boolean, accessFlags := 18, slot := 0, constantValue := 0 }, { name := "value", type := .long, accessFlags := 18, slot := 1, constantValue := 0 }]
  methods := #[k3m0, k3m1]
  instanceTypes := #[.boolean, .long]
  staticTypes := #[(.object "java/util/OptionalLong")]
  resolved := Array.replicate 138 none
  statics := some 1 }

def pool4 : Array CpInfo := pool [(1, u "java/lang/Cloneable"), (0, .class_ 1), (0, u "java/lang/Object"), (0, .class_ 3)] 3

/-- java/lang/Cloneable -/
def k4 : Class := { plain "java/lang/Cloneable" (some 0) with
  accessFlags := 1537
  interfaces := #[]
  cf := some (fileOf pool4 2 #[] #[] 1537 4 #[] #[])
  fields := #[]
  methods := #[]
  instanceTypes := #[]
  staticTypes := #[]
  resolved := Array.replicate 8 none
  statics := none }

def pool5 : Array CpInfo := pool [(1, u "java/io/Serializable"), (0, .class_ 1), (0, u "java/lang/Object"), (0, .class_ 3)] 3

/-- java/io/Serializable -/
def k5 : Class := { plain "java/io/Serializable" (some 0) with
  accessFlags := 1537
  interfaces := #[]
  cf := some (fileOf pool5 2 #[] #[] 1537 4 #[] #[])
  fields := #[]
  methods := #[]
  instanceTypes := #[]
  staticTypes := #[]
  resolved := Array.replicate 8 none
  statics := none }

/-- the primitive byte -/
def k6 : Class := { plain "byte" none with kind := .primitive 'B', accessFlags := 0x411 }
/-- [B -/
def k7 : Class := { plain "[B" (some 0) with kind := .array 6 .byte, interfaces := #[4, 5], accessFlags := 1041 }

/-- the primitive int -/
def k8 : Class := { plain "int" none with kind := .primitive 'I', accessFlags := 0x411 }
/-- [I -/
def k9 : Class := { plain "[I" (some 0) with kind := .array 8 .int, interfaces := #[4, 5], accessFlags := 1041 }

def heap : Heap := #[{ cls := 2, slots := #[.ref 3, .null, .null], vm := .statics 2 },
  { cls := 3, slots := #[.ref 2], vm := .statics 3 },
  { cls := 3, slots := #[.int 0, .long 0], vm := .none },
  { cls := 2, slots := #[.int 1, .int 0, .long 0, .ref 2], vm := .none }]
def classes : Array Class := #[k0, k1, k2, k3, k4, k5, k6, k7, k8, k9]
def interned : List (Array UInt16 × Addr) := []
def slotsUsed : Nat := 10
def theMethod : MethodId := ⟨1, 1⟩
def args0 : Array Value := #[.long 5]
def aboutOver (below : List Frame) : State where
  vm := { classes := classes, interned := interned.toArray }
  heap := heap
  slotsUsed := slotsUsed
  threads := #[{ frames := .invoking theMethod args0 :: below }]
def below0 : List Frame := [.native { method := ⟨0, 0⟩, args := #[] }]
def about1 : State := aboutOver below0
def p0 : Program := .bare "" "" ""
def e0 : Env := launch0.env 0 0 0
theorem w_frames : about1.frames = Frame.invoking theMethod args0 :: below0 := rfl
set_option maxRecDepth 65536 in
theorem w_args : argsFit about1.vm theMethod args0 = true := by decide +kernel
set_option maxRecDepth 65536 in
theorem w_heap : heapFits about1 = true := by decide +kernel
set_option maxRecDepth 65536 in
theorem w_runnable : about1.curStatus? = some .runnable := by decide +kernel
set_option maxRecDepth 65536 in
theorem w_alone : about1.alone = true := by decide +kernel
set_option maxRecDepth 65536 in
theorem w_named : about1.methodNamed? x = some theMethod := by decide +kernel
set_option maxRecDepth 65536 in
theorem w_hears : about1.hears theMethod below0 = true := by decide +kernel
set_option maxRecDepth 65536 in
theorem w_ripe : about1.ripe theMethod args0 below0 = true := by decide +kernel
theorem w_running : about1.status = .running := rfl
set_option maxRecDepth 65536 in
theorem w_room : about1.hasRoom e0.platform room_1 = true :=
  launch0.hasRoom_least _ room_1 (by decide +kernel) (by decide +kernel) (by decide +kernel) (by decide +kernel) (by decide +kernel) (by decide +kernel)
theorem allAtoms_all (ts : List Jvm.Cond) (a : Array Jvm.Value) (st : Jvm.State) : (allAtoms ts).before a st = ts.all (fun c => c.before a st) := by
  induction ts with
  | nil => rfl
  | cons c t ih =>
    show (Jvm.Cond.and c (allAtoms t)).before a st = _
    rw [Jvm.Cond.before_and, ih, List.all_cons]
def words1 : List Jvm.Cond := Jvm.Cond.code x code maxLocals ret :: tables_1
/-- a 'code' word, met by the world's own term for the bytes: nothing is compared byte by byte -/
theorem code_word {y : MethodName} {bytes : ByteArray} {mx : Nat} {rt : Option FieldType} {a : Array Value} {s : State} {m : MethodId} {meth : Method} {c : Code} (h1 : s.methodNamed? y = some m) (h2 : s.vm.method? m = some meth) (h3 : meth.code = some c) (h4 : c.code = bytes)
    (h5 : (c.maxLocals == mx && c.exceptionTable.isEmpty && decide (c.maxStack ≤ mostOperands) && decide (meth.sig.returnType = rt) && !meth.locks && decide (parseMethodDescriptor y.desc = some meth.sig)) = true) : (Jvm.Cond.code y bytes mx rt).before a s = true := by
  simp only [Bool.and_eq_true, beq_iff_eq, Bool.not_eq_true', decide_eq_true_eq] at h5
  obtain ⟨⟨⟨⟨⟨g1, g2⟩, g3⟩, g4⟩, g5⟩, g6⟩ := h5
  simp [Cond.before, Cond.holds, Cond.value, h1, h2, h3, h4, g1, g2, g3, g4, g5, g6]
def isCode : Jvm.Cond → Bool
  | .code _ _ _ _ => true
  | _ => false
theorem all_split {L : List Jvm.Cond} {P : Jvm.Cond → Bool} (h1 : L.all (fun c => isCode c || P c) = true) (h2 : ∀ c ∈ L.filter isCode, P c = true) : L.all P = true := by
  refine List.all_eq_true.mpr fun c hc => ?_
  have h := List.all_eq_true.mp h1 c hc
  rcases Bool.eq_false_or_eq_true (isCode c) with hi | hi
  · exact h2 c (List.mem_filter.mpr ⟨hc, hi⟩)
  · simpa [hi] using h
set_option maxRecDepth 65536 in
theorem w_c0 : (Jvm.Cond.code x code maxLocals ret).before args0 about1 = true := code_word (m := ⟨1, 1⟩) (meth := k1m1) (c := k1c1) (by decide +kernel) rfl rfl rfl (by decide +kernel)
set_option maxRecDepth 65536 in
theorem w_c1 : (Jvm.Cond.code ({ cls := "com/example/holdfast/holdfast/TakeAnswer", name := "refused", desc := "(J)Lcom/example/holdfast/holdfast/TakeAnswer;" } : Jvm.MethodName) prog_13_method_6_code (2 : Nat) (Option.some (Jvm.ClassFile.FieldType.object "com/example/holdfast/holdfast/TakeAnswer"))).before args0 about1 = true := code_word (m := ⟨2, 2⟩) (meth := k2m2) (c := k2c2) (by decide +kernel) rfl rfl rfl (by decide +kernel)
set_option maxRecDepth 65536 in
theorem w_c2 : (Jvm.Cond.code ({ cls := "java/util/OptionalLong", name := "empty", desc := "()Ljava/util/OptionalLong;" } : Jvm.MethodName) jdk_2650_method_2_code (0 : Nat) (Option.some (Jvm.ClassFile.FieldType.object "java/util/OptionalLong"))).before args0 about1 = true := code_word (m := ⟨3, 1⟩) (meth := k3m1) (c := k3c1) (by decide +kernel) rfl rfl rfl (by decide +kernel)
set_option maxRecDepth 65536 in
theorem w_c3 : (Jvm.Cond.code ({ cls := "com/example/holdfast/holdfast/TakeAnswer", name := "<init>", desc := "(ZZJLjava/util/OptionalLong;)V" } : Jvm.MethodName) prog_13_method_1_code (6 : Nat) (Option.none : Option Jvm.ClassFile.FieldType)).before args0 about1 = true := code_word (m := ⟨2, 0⟩) (meth := k2m0) (c := k2c0) (by decide +kernel) rfl rfl rfl (by decide +kernel)
set_option maxRecDepth 65536 in
theorem w_c4 : (Jvm.Cond.code ({ cls := "java/lang/Object", name := "<init>", desc := "()V" } : Jvm.MethodName) object_method_1_code (1 : Nat) (Option.none : Option Jvm.ClassFile.FieldType)).before args0 about1 = true := code_word (m := ⟨0, 0⟩) (meth := k0m0) (c := k0c0) (by decide +kernel) rfl rfl rfl (by decide +kernel)
set_option maxRecDepth 65536 in
theorem w_c5 : (Jvm.Cond.code ({ cls := "com/example/holdfast/holdfast/TakeAnswer", name := "isHeld", desc := "()Z" } : Jvm.MethodName) prog_13_method_8_code (1 : Nat) (Option.some Jvm.ClassFile.FieldType.boolean)).before args0 about1 = true := code_word (m := ⟨2, 3⟩) (meth := k2m3) (c := k2c3) (by decide +kernel) rfl rfl rfl (by decide +kernel)
set_option maxRecDepth 65536 in
theorem w_c6 : (Jvm.Cond.code ({ cls := "com/example/holdfast/holdfast/TakeAnswer", name := "isReentry", desc := "()Z" } : Jvm.MethodName) prog_13_method_9_code (1 : Nat) (Option.some Jvm.ClassFile.FieldType.boolean)).before args0 about1 = true := code_word (m := ⟨2, 4⟩) (meth := k2m4) (c := k2c4) (by decide +kernel) rfl rfl rfl (by decide +kernel)
set_option maxRecDepth 65536 in
theorem w_c7 : (Jvm.Cond.code ({ cls := "com/example/holdfast/holdfast/TakeAnswer", name := "holderLeaseMillis", desc := "()J" } : Jvm.MethodName) prog_13_method_10_code (1 : Nat) (Option.some Jvm.ClassFile.FieldType.long)).before args0 about1 = true := code_word (m := ⟨2, 5⟩) (meth := k2m5) (c := k2c5) (by decide +kernel) rfl rfl rfl (by decide +kernel)
set_option maxRecDepth 65536 in
theorem w_c8 : (Jvm.Cond.code ({ cls := "com/example/holdfast/holdfast/TakeAnswer", name := "fencingToken", desc := "()Ljava/util/OptionalLong;" } : Jvm.MethodName) prog_13_method_11_code (1 : Nat) (Option.some (Jvm.ClassFile.FieldType.object "java/util/OptionalLong"))).before args0 about1 = true := code_word (m := ⟨2, 6⟩) (meth := k2m6) (c := k2c6) (by decide +kernel) rfl rfl rfl (by decide +kernel)
set_option maxRecDepth 65536 in
theorem w_c9 : (Jvm.Cond.code ({ cls := "com/example/holdfast/holdfast/TakeAnswer", name := "began", desc := "()Lcom/example/holdfast/holdfast/TakeAnswer;" } : Jvm.MethodName) prog_13_method_2_code (0 : Nat) (Option.some (Jvm.ClassFile.FieldType.object "com/example/holdfast/holdfast/TakeAnswer"))).before args0 about1 = true := code_word (m := ⟨2, 1⟩) (meth := k2m1) (c := k2c1) (by decide +kernel) rfl rfl rfl (by decide +kernel)
def codes1 : List Jvm.Cond := [Jvm.Cond.code x code maxLocals ret, Jvm.Cond.code ({ cls := "com/example/holdfast/holdfast/TakeAnswer", name := "refused", desc := "(J)Lcom/example/holdfast/holdfast/TakeAnswer;" } : Jvm.MethodName) prog_13_method_6_code (2 : Nat) (Option.some (Jvm.ClassFile.FieldType.object "com/example/holdfast/holdfast/TakeAnswer")), Jvm.Cond.code ({ cls := "java/util/OptionalLong", name := "empty", desc := "()Ljava/util/OptionalLong;" } : Jvm.MethodName) jdk_2650_method_2_code (0 : Nat) (Option.some (Jvm.ClassFile.FieldType.object "java/util/OptionalLong")), Jvm.Cond.code ({ cls := "com/example/holdfast/holdfast/TakeAnswer", name := "<init>", desc := "(ZZJLjava/util/OptionalLong;)V" } : Jvm.MethodName) prog_13_method_1_code (6 : Nat) (Option.none : Option Jvm.ClassFile.FieldType), Jvm.Cond.code ({ cls := "java/lang/Object", name := "<init>", desc := "()V" } : Jvm.MethodName) object_method_1_code (1 : Nat) (Option.none : Option Jvm.ClassFile.FieldType), Jvm.Cond.code ({ cls := "com/example/holdfast/holdfast/TakeAnswer", name := "isHeld", desc := "()Z" } : Jvm.MethodName) prog_13_method_8_code (1 : Nat) (Option.some Jvm.ClassFile.FieldType.boolean), Jvm.Cond.code ({ cls := "com/example/holdfast/holdfast/TakeAnswer", name := "isReentry", desc := "()Z" } : Jvm.MethodName) prog_13_method_9_code (1 : Nat) (Option.some Jvm.ClassFile.FieldType.boolean), Jvm.Cond.code ({ cls := "com/example/holdfast/holdfast/TakeAnswer", name := "holderLeaseMillis", desc := "()J" } : Jvm.MethodName) prog_13_method_10_code (1 : Nat) (Option.some Jvm.ClassFile.FieldType.long), Jvm.Cond.code ({ cls := "com/example/holdfast/holdfast/TakeAnswer", name := "fencingToken", desc := "()Ljava/util/OptionalLong;" } : Jvm.MethodName) prog_13_method_11_code (1 : Nat) (Option.some (Jvm.ClassFile.FieldType.object "java/util/OptionalLong")), Jvm.Cond.code ({ cls := "com/example/holdfast/holdfast/TakeAnswer", name := "began", desc := "()Lcom/example/holdfast/holdfast/TakeAnswer;" } : Jvm.MethodName) prog_13_method_2_code (0 : Nat) (Option.some (Jvm.ClassFile.FieldType.object "com/example/holdfast/holdfast/TakeAnswer"))]
set_option maxRecDepth 65536 in
theorem codes_eq : words1.filter isCode = codes1 := rfl
theorem w_codes : ∀ c ∈ words1.filter isCode, c.before args0 about1 = true := by
  rw [codes_eq]
  intro c hc
  simp only [codes1, List.mem_cons, List.not_mem_nil, or_false] at hc
  rcases hc with rfl | rfl | rfl | rfl | rfl | rfl | rfl | rfl | rfl | rfl
  · exact w_c0
  · exact w_c1
  · exact w_c2
  · exact w_c3
  · exact w_c4
  · exact w_c5
  · exact w_c6
  · exact w_c7
  · exact w_c8
  · exact w_c9
set_option maxRecDepth 65536 in
theorem w_t1 : (words1.take 24).all (fun c => isCode c || c.before args0 about1) = true := by decide +kernel
set_option maxRecDepth 65536 in
theorem w_t2 : ((words1.drop 24).take 24).all (fun c => isCode c || c.before args0 about1) = true := by decide +kernel
set_option maxRecDepth 65536 in
theorem w_t3 : ((words1.drop 24).drop 24).all (fun c => isCode c || c.before args0 about1) = true := by decide +kernel
theorem w_tables : (allAtoms (Jvm.Cond.code x code maxLocals ret :: tables_1)).before args0 about1 = true := by
  rw [allAtoms_all]
  show words1.all (fun c => c.before args0 about1) = true
  refine all_split ?_ w_codes
  rw [← List.take_append_drop 24 words1, List.all_append, w_t1, ← List.take_append_drop 24 (words1.drop 24), List.all_append, w_t2, w_t3]
  rfl
set_option maxRecDepth 65536 in
theorem w_rest : rest_1_c.before args0 about1 = true := by decide +kernel
set_option maxRecDepth 65536 in
theorem w_case : (Jvm.Cond.and given_1 narrow_1).before args0 about1 = true := by decide +kernel
theorem w_applies : (headSpec (Jvm.Cond.code x code maxLocals ret :: tables_1) room_1).applies x e0.platform about1 = true :=
  (Spec.applies_iff w_frames).mpr ⟨w_running, w_runnable, w_alone, w_named, w_hears, w_ripe, w_room, w_tables⟩
theorem atStart : AtStart classFile x code maxLocals ret World_1 tables_1 room_1 Calls_1 rest_1 Pre_1 launch0 p0 e0 about1 theMethod args0 below0 :=
  ⟨lists_1, trivial, launch0.admits_env _ _ _, launch0.least_env, fairChoices_fair.cas, fairChoices_fair.clock, w_frames, w_args, w_heap, w_applies, trivial, w_rest, w_case⟩
end start1
theorem witness_1 : WitnessClaimed_1 := ⟨start1.p0, start1.e0, start1.about1, start1.theMethod, start1.args0, start1.below0, start1.atStart⟩
end Jvm.Pilot.@@N@@
