import JvmDerived
import JvmDerived.Pilot.@@N@@Statement
import JvmDerived.Pilot.@@N@@Code
set_option linter.unusedVariables false
set_option linter.unusedSimpArgs false
namespace Jvm.RoadKit
open Sem ClassFile Op Lib Jvm.Stand Jvm.Free Jvm.LawKit
section New
variable {p : Program} {l : Launch} {e : Env} {R : Room} {s : State} {m : MethodId} {args : Array Value} {below : List Frame} {meth : Method} {c : Code} {T : State} {locs : List Loc} {cells slots : Nat}
theorem own_retI (X : Stand p l e R s m args below meth c T locs cells slots) (hx : p.tables.exec = Jvm.exec) {pc : Nat} {Ls : Array Slot} {z : Int32} {rest : List Value} (hret : meth.sig.returnType = some .int) (hd : decode c.code pc = .ok (.ireturn, 1)) {fs : List Frame}
    (hl : ∀ (f : JFrame) (acts : List Action), f.method = m → f.locked = none → f.entered = [] → (doReturn e (T.setTop f) acts (some (.int z))).1 = T.setFrames fs) : Steps p.tables e below (T.setTop (mkF m pc Ls (.int z :: rest))) (T.setFrames fs) :=
  retOut X hx hret rfl (Or.inl ⟨rfl, Or.inl rfl, z, rfl⟩) hd hl
theorem own_retJ (X : Stand p l e R s m args below meth c T locs cells slots) (hx : p.tables.exec = Jvm.exec) {pc : Nat} {Ls : Array Slot} {z : Int64} {rest : List Value} (hret : meth.sig.returnType = some .long) (hd : decode c.code pc = .ok (.lreturn, 1)) {fs : List Frame}
    (hl : ∀ (f : JFrame) (acts : List Action), f.method = m → f.locked = none → f.entered = [] → (doReturn e (T.setTop f) acts (some (.long z))).1 = T.setFrames fs) : Steps p.tables e below (T.setTop (mkF m pc Ls (.long z :: rest))) (T.setFrames fs) :=
  retOut X hx hret rfl (Or.inr (Or.inl ⟨rfl, rfl, z, rfl⟩)) hd hl
end New
/-- the rest of a walk: from here the run comes to an end with Q -/
def own_Fin (p : Program) (e : Env) (below : List Frame) (A : State) (Q : Outcome → State → Prop) : Prop :=
  ∃ t o, Steps p.tables e below A t ∧ t.status = .running ∧ Ended t below o ∧ Q o t
theorem own_go {p : Program} {e : Env} {below : List Frame} {A B : State} {Q : Outcome → State → Prop} (st : ∀ t, Steps p.tables e below A t → Steps p.tables e below B t) (k : own_Fin p e below A Q) : own_Fin p e below B Q := by
  obtain ⟨t, o, h, r⟩ := k; exact ⟨t, o, st t h, r⟩
theorem own_start {p : Program} {e : Env} {below : List Frame} {T : State} {g g' : JFrame} {Q : Outcome → State → Prop} (q : g = g') (k : own_Fin p e below (T.setTop g') Q) :
    ∃ t o, Steps p.tables e below (T.setTop g) t ∧ t.status = .running ∧ Ended t below o ∧ Q o t := by subst q; exact k
theorem own_cat {v : Value} (h : v.isRef = true) : v.category = 1 := by cases v <;> simp [Value.isRef] at h <;> rfl
theorem own_st1 {l l' : Array Slot} {i : Nat} {v : Value} (hold : (match l[i]? with | some .unset => true | some (.val w) => w.category == 1 | _ => false) = true) (hv : v.isRef = true) (e : l.setIfInBounds i (.val v) = l') : storeLocals l i v = some l' := by
  subst e
  cases h : l[i]? with
  | none => simp [h] at hold
  | some o =>
    refine Jvm.Free.XS.store1 h ?_ (own_cat hv)
    cases o with
    | unset => exact Or.inl rfl
    | second => simp [h] at hold
    | val w => simp [h] at hold; exact Or.inr ⟨w, rfl, hold⟩
theorem own_st2 {l l' : Array Slot} {i : Nat} {v : Value} {o : Slot} (hold : l[i]? = some o) (ho : One o) (hv : v.category = 1) (e : l.setIfInBounds i (.val v) = l') : storeLocals l i v = some l' := by
  subst e; exact Jvm.Free.XS.store1 hold ho hv
theorem own_fitR {v : Value} {C : String} (h : v.isRef = true) : fits (.object C) v = true := by cases v <;> simp [Value.isRef, fits] at h ⊢
theorem own_osz {Z : State} {n0 : Nat} {h : Heap} (O : Old Z n0 h) : n0 ≤ h.size := O.1 ▸ O.2.1
def own_bi (P : Prop) [Decidable P] : Int32 := if P then 1 else 0
theorem own_bi1 {P : Prop} [Decidable P] (h : P) : own_bi P = 1 := if_pos h
theorem own_bi0 {P : Prop} [Decidable P] (h : ¬ P) : own_bi P = 0 := if_neg h
theorem own_bz {P : Prop} [Decidable P] (h : ¬ P) : own_bi P = 0 := if_neg h
theorem own_bn {P : Prop} [Decidable P] (h : P) : ¬ own_bi P = 0 := by rw [own_bi1 h]; decide
theorem own_narb {P : Prop} [Decidable P] : nar .boolean (own_bi P) = own_bi P := by unfold own_bi; split <;> decide
theorem own_narbi (P : Prop) [Decidable P] : narrow .boolean (.int (own_bi P)) = .int (own_bi P) := by unfold own_bi; split <;> rfl
theorem own_fitbi (P : Prop) [Decidable P] : fits .boolean (.int (own_bi P)) = true := by unfold own_bi; split <;> rfl
theorem own_e1 {P : Prop} [Decidable P] (h : P) : ¬ own_bi P = 0 := by rw [own_bi1 h]; decide
theorem own_e0 {P : Prop} [Decidable P] (h : ¬ P) : ¬ own_bi P = 1 := by rw [own_bi0 h]; decide
theorem own_retB {p : Program} {l : Launch} {e : Env} {R : Room} {s : State} {m : MethodId} {args : Array Value} {below : List Frame} {meth : Method} {c : Code} {T : State} {locs : List Loc} {cells slots : Nat} (X : Stand p l e R s m args below meth c T locs cells slots) (hx : p.tables.exec = Jvm.exec) {pc : Nat} {Ls : Array Slot} {P : Prop} [Decidable P] {rest : List Value} (hret : meth.sig.returnType = some .boolean) (hd : decode c.code pc = .ok (.ireturn, 1)) {fs : List Frame}
    (hl : ∀ (f : JFrame) (acts : List Action), f.method = m → f.locked = none → f.entered = [] → (doReturn e (T.setTop f) acts (some (.int (own_bi P)))).1 = T.setFrames fs) : Steps p.tables e below (T.setTop (mkF m pc Ls (.int (own_bi P) :: rest))) (T.setFrames fs) :=
  retN X hx (t := .boolean) hret (by simp) hd (by rw [own_narb]; exact hl)
theorem own_eqv {args : Array Value} {f s : State} {o : Option Outcome} {idx : List Nat} {a b : Term} {v : Value} (h : (Cond.eq a b).value args f o s idx = some true) (hb : b.eval args f o idx s = some v) (hk : (match v with | .int _ => true | .long _ => true | .ref _ => true | .null => true | _ => false) = true) : a.eval args f o idx s = some v := by
  obtain ⟨x, y, h1, h2, h3, h4⟩ := cmp_v (Or.inl h)
  rw [hb] at h2; cases h2
  rw [h1]
  cases x <;> cases v <;> simp [Kin, Value.isRef] at h3 h4 hk <;> simp [Cond.value, h1, hb] at h ⊢ <;> exact h
theorem own_eqBi {v : Option Value} {P : Prop} [Decidable P] (h : (v = some (.int 1) ∧ P) ∨ (v = some (.int 0) ∧ ¬ P)) : v = some (.int (own_bi P)) := by
  rcases h with ⟨h, q⟩ | ⟨h, q⟩
  · rw [h, own_bi1 q]
  · rw [h, own_bi0 q]
theorem own_up {cs : List Int32} (h : ∀ c ∈ cs, ¬ c < 0 ∧ ¬ (255 : Int32) < c) : ∀ c ∈ cs, ¬ c < 0 ∧ ¬ (65535 : Int32) < c := fun c hc => ⟨(h c hc).1, fun q => (h c hc).2 (by
  rw [Int32.lt_iff_toInt_lt] at q ⊢
  have e1 : (65535 : Int32).toInt = 65535 := by decide
  have e2 : (255 : Int32).toInt = 255 := by decide
  omega)⟩
theorem own_narid {a : Int32} (h : ¬ a < 0 ∧ ¬ (255 : Int32) < a) : nar .char a = a := by
  have e0 : (0 : Int32).toInt = 0 := by decide
  have e2 : (255 : Int32).toInt = 255 := by decide
  obtain ⟨h1, h2⟩ := h
  rw [Int32.lt_iff_toInt_lt] at h1 h2
  have q := c_i2c a
  rw [← Int32.toInt_inj]
  show a.toUInt32.toUInt16.toUInt32.toInt32.toInt = a.toInt
  omega
theorem own_nez {args : Array Value} {f s : State} {o : Option Outcome} {idx : List Nat} {t : Term} {z : Int32} (ev : t.eval args f o idx s = some (.int z)) (h : (Cond.not (Cond.eq t (Term.int 0))).value args f o s idx = some true) : ¬ z = 0 := by
  intro q; subst q; have h' := not_v h; simp [Cond.value, ev, Term.eval] at h'
theorem own_notOf {Z : State} {a0 : Array Value} {C O K : String} {n : Nat} (w : (Cond.superclass C O).before a0 Z = true) (w0 : (Cond.noSuperclass O).before a0 Z = true) (wi : (Cond.instantiable K n).before a0 Z = true) (hn : C ≠ K) (ho : O ≠ K) : ∃ c t, Z.vm.findClass C = some c ∧ Z.vm.findClass K = some t ∧ Z.vm.assignable c t = false := by
  obtain ⟨t, kt, g0, g2, g5, g7, -⟩ := Cond.instantiable_spec wi
  obtain ⟨c, h0⟩ := found_sup w
  obtain ⟨p, k, kp, h1, h2, h3, h4, h5, -, h7⟩ := Cond.superclass_spec h0 w
  obtain ⟨c', k', j1, j2, j3, -, -⟩ := Cond.noSuperclass_spec w0
  cases j1.symm.trans h1
  have ne := ids_ne h0 g0 hn
  have neo := ids_ne h1 g0 ho
  have g7' : kt.isInterface = false := by cases h : kt.isInterface <;> simp [h] at g7 ⊢
  have hs : ∀ fuel, Z.vm.isSubclassAux fuel c t = false := by
    intro fuel
    cases fuel with
    | zero => rfl
    | succ f =>
      cases f with
      | zero => simp [Vm.isSubclassAux, ne, h2, h4]
      | succ f => simp [Vm.isSubclassAux, ne, h2, h4, neo, j2, j3]
  refine ⟨c, t, h0, g0, ?_⟩
  show Z.vm.assignableAux (255 + 1) c t = false
  simp [Vm.assignableAux, ne, h2, g2, h5, g5, g7', Vm.isSubclass, hs]
theorem own_selS {args : Array Value} {s : State} {y w z : MethodName} {C : String} (h : (Cond.selects C w z).before args s = true) (e : z.cls = y.cls) (hpriv : s.PrivateAt y) (hinst : (Cond.instanceMethod y).before args s = true) (hy : y.cls ≠ "java/lang/invoke/MethodHandle" ∧ y.cls ≠ "java/lang/invoke/VarHandle") : (Cond.selects y.cls y y).before args s = true := by
  obtain ⟨c2, r2, m2, q1, q2, q3, q4, kP, hkP, hkPi⟩ := Cond.selects_spec h
  exact selects_self_of_private (c := m2.cls) (by rw [← e]; exact findClass_of_methodNamed q3) hkP hkPi hpriv hinst hy
theorem own_same {args : Array Value} {s : State} {y w z : MethodName} {C : String} (hinst : (Cond.instanceMethod y).before args s = true) (h : (Cond.selects C w z).before args s = true) (e : z.cls = y.cls) (hy : y.cls ≠ "java/lang/invoke/MethodHandle" ∧ y.cls ≠ "java/lang/invoke/VarHandle") : (Cond.sameMethod y.cls y.cls y.name y.desc).before args s = true := by
  obtain ⟨c2, r2, m2, q1, q2, q3, q4, kP, hkP, hkPi⟩ := Cond.selects_spec h
  obtain ⟨mk, methM, hnamed, hmethM, -, -⟩ := Cond.instanceMethod_spec hinst
  have hf : s.methodFound? y.cls y.name y.desc = some mk := State.methodFound?_of_named hnamed hy
  have hc : s.vm.findClass y.cls = some m2.cls := by rw [← e]; exact findClass_of_methodNamed q3
  have hn : s.methodNamed? ⟨y.cls, y.name, y.desc⟩ = some mk := hnamed
  simp [Cond.before, Cond.holds, Cond.value, hc, hf, hn, hkP, hkPi]
theorem own_nf {args : Array Value} {s : State} {y w z : MethodName} {C : String} (h : (Cond.selects C w z).before args s = true) (e : z.cls = y.cls) : NotFace s y := fun r0 h0 => by
  obtain ⟨c2, r2, m2, q1, q2, q3, q4, kP, hkP, hkPi⟩ := Cond.selects_spec h
  have a := findClass_of_methodNamed q3
  have b := findClass_of_methodNamed h0
  rw [e] at a
  have hc : m2.cls = r0.cls := Option.some.inj (a.symm.trans b)
  exact ⟨kP, by rw [← hc]; exact hkP, hkPi⟩
theorem own_selI {args : Array Value} {s : State} {y : MethodName} {n : Nat} (h : (Cond.instantiable y.cls n).before args s = true) (hpriv : s.PrivateAt y) (hinst : (Cond.instanceMethod y).before args s = true) (hy : y.cls ≠ "java/lang/invoke/MethodHandle" ∧ y.cls ≠ "java/lang/invoke/VarHandle") : (Cond.selects y.cls y y).before args s = true := by
  obtain ⟨c, k, h1, h2, h3, h4, -⟩ := Cond.instantiable_spec h
  exact selects_self_of_private h1 h2 (by cases hq : k.isInterface <;> simp [hq] at h4 ⊢) hpriv hinst hy
theorem own_selP {args : Array Value} {s : State} {y : MethodName} {S : String} (h : (Cond.superclass y.cls S).before args s = true) (hpriv : s.PrivateAt y) (hinst : (Cond.instanceMethod y).before args s = true) (hy : y.cls ≠ "java/lang/invoke/MethodHandle" ∧ y.cls ≠ "java/lang/invoke/VarHandle") : (Cond.selects y.cls y y).before args s = true := by
  obtain ⟨c, hc⟩ := found_sup h
  obtain ⟨p, k, kp, h1, h2, h3, h4, h5, h6, h7⟩ := Cond.superclass_spec hc h
  exact selects_self_of_private hc h2 h7 hpriv hinst hy
end Jvm.RoadKit
namespace Jvm.Pilot.@@N@@
open Jvm Jvm.ClassFile Sem Op Lib Jvm.Free Jvm.Stand Jvm.LawKit Jvm.RoadKit Bundle Jvm.Pilot.@@N@@.Jvm.D
theorem ow {Z : State} {a0 : Array Value} (hw : ∀ d ∈ tables_1, d.before a0 Z = true) (i : Nat) {d : Jvm.Cond} (h : tables_1[i]? = some d := by rfl) : d.before a0 Z = true := hw d (List.mem_of_getElem? h)
theorem d2_0 : decode jdk_30_method_1_code 0 = .ok (.aload_n 0, 1) := by decide +kernel
theorem d2_1 : decode jdk_30_method_1_code 1 = .ok (.invokespecial 1, 3) := by decide +kernel
theorem d2_4 : decode jdk_30_method_1_code 4 = .ok (.return_, 1) := by decide +kernel
theorem pn_0 : plainName "java/lang/Record" = true := by first | (simp [plainName, overriddenIn]; done) | decide +kernel
theorem ef_rm2 (m : MethodId) (x0 : Addr) : entryFrame m #[(.ref x0)] 1 = mkF m 0 #[.val (.ref x0)] [] := by first | (simp [entryFrame, mkF, argsToLocals, Value.category]; done) | rfl
def Qrm2 (Z : State) (b : Addr) (h0 : Heap) (n0 : Nat) (v : Option Value) (h : Heap) (L : List Loc) : Prop := v = none ∧ Fr n0 L ∧ h = h0
set_option maxRecDepth 65536 in
set_option maxHeartbeats 40000000 in
theorem rm2 (l : Launch) (Z : State) (a0 : Array Value) (hw : ∀ d ∈ tables_1, d.before a0 Z = true) (ws : List Jvm.Cond) (b : Addr) (h0 : Heap) (n0 : Nat) :
    MetFree l (⟨"java/lang/Record", "<init>", "()V"⟩ : MethodName) (head1 (Jvm.Cond.code (⟨"java/lang/Record", "<init>", "()V"⟩ : MethodName) jdk_30_method_1_code 1 none :: ws) ({ frames := 1, cells := 0, slots := 0, locals := 12 } : Room)) (fun a' U' => a' = #[(.ref b)] ∧ Z.Warmed39 U'.vm ∧ U'.heap = h0) (fun _ _ _ _ _ => True) (fun _ U' o' W' => ∃ v' L', o' = .returned v' ∧ Qrm2 Z b h0 n0 v' W'.heap L' ∧ FrameEnd U' o' W' L' ({ frames := 1, cells := 0, slots := 0, locals := 12 } : Room).cells ({ frames := 1, cells := 0, slots := 0, locals := 12 } : Room).slots) := by
  refine MetFree.of_bodySF (plainFor_of_name pn_0) hisR ?_
  intro p e s m args below meth c s₁ Bd hml0 hP hK
  obtain ⟨rfl, hZ, hh⟩ := hP
  have hx := Bd.exec
  have hby := Bd.bytes
  have hml : c.maxLocals = 1 := hml0
  have hown : s.vm.findClass "java/lang/Record" = some m.cls := findClass_of_methodNamed Bd.named
  have hnm := (name_of_methodNamed Bd.named Bd.method).1
  have X0 : Stand p l e ({ frames := 1, cells := 0, slots := 0, locals := 12 } : Room) s m #[(.ref b)] below meth c s₁ [] 0 0 := Stand.of_body Bd
  have e0 : s₁.heap = h0 := by rw [← hh, Bd.state]; rfl
  have N0 := Fr.nil n0
  refine own_start (ef_rm2 m b) (Q := fun o' t' => ∃ v' L', o' = .returned v' ∧ Qrm2 Z b h0 n0 v' t'.heap L' ∧ FrameEnd s o' t' L' ({ frames := 1, cells := 0, slots := 0, locals := 12 } : Room).cells ({ frames := 1, cells := 0, slots := 0, locals := 12 } : Room).slots) ?_
  show own_Fin p e below (s₁.setTop (mkF m 0 #[.val (.ref b)] [])) _
  refine own_go (fun _ k => XS.aloadN X0.here hx rfl (hb hby d2_0) rfl rfl k) ?_
  show own_Fin p e below (s₁.setTop (mkF m 1 #[.val (.ref b)] [(.ref b)])) _
  obtain ⟨T1, X1, e1, st1⟩ := initO X0 hx hZ hown (ow hw 15) (ow hw 16) (ow hw 17) e0 (g := (mkF m 1 #[.val (.ref b)] [(.ref b)])) rfl (by rw [hml]; rfl) rfl (hb hby d2_1) (by decide) (W := 0) (by show 2 * 0 + _ ≤ _; exact Nat.le_of_eq rfl) (by decide)
  refine own_go (fun _ k => st1 _ k) ?_
  show own_Fin p e below (T1.setTop (mkF m 4 #[.val (.ref b)] [])) _
  obtain ⟨fs, hr, hrun, hended, hW, hsame⟩ := X1.leave (v := none) (fun _ => rfl)
  refine ⟨_, _, ?_, hrun, hended, _, _, rfl, ?_, ⟨_, rfl⟩, hW, hsame.mono (by decide) (by decide)⟩
  ·exact X1.returnOut hx Bd.returns (hb hby d2_4) hr
  ·show Qrm2 Z b h0 n0 _ T1.heap _
   rw [e1]
   exact ⟨rfl, N0, rfl⟩
theorem d1_0 : decode prog_33_method_1_code 0 = .ok (.aload_n 0, 1) := by decide +kernel
theorem d1_1 : decode prog_33_method_1_code 1 = .ok (.invokespecial 1, 3) := by decide +kernel
theorem pd_0 : parseMethodDescriptor "()V" = some ⟨[], none⟩ := by decide +kernel
theorem d1_4 : decode prog_33_method_1_code 4 = .ok (.lload_n 1, 1) := by decide +kernel
theorem d1_5 : decode prog_33_method_1_code 5 = .ok (.lconst 1, 1) := by decide +kernel
theorem d1_6 : decode prog_33_method_1_code 6 = .ok (.lcmp, 1) := by decide +kernel
theorem d1_7 : decode prog_33_method_1_code 7 = .ok (.ifCond .ge 17, 3) := by decide +kernel
theorem d1_24 : decode prog_33_method_1_code 24 = .ok (.iload_n 3, 1) := by decide +kernel
theorem d1_25 : decode prog_33_method_1_code 25 = .ok (.iconst 1, 1) := by decide +kernel
theorem d1_26 : decode prog_33_method_1_code 26 = .ok (.if_icmp .lt 9, 3) := by decide +kernel
theorem d1_29 : decode prog_33_method_1_code 29 = .ok (.iload_n 3, 1) := by decide +kernel
theorem d1_30 : decode prog_33_method_1_code 30 = .ok (.bipush 64, 2) := by decide +kernel
theorem d1_32 : decode prog_33_method_1_code 32 = .ok (.if_icmp .le 17, 3) := by decide +kernel
theorem d1_49 : decode prog_33_method_1_code 49 = .ok (.aload_n 0, 1) := by decide +kernel
theorem d1_50 : decode prog_33_method_1_code 50 = .ok (.lload_n 1, 1) := by decide +kernel
theorem d1_51 : decode prog_33_method_1_code 51 = .ok (.putfield 21, 3) := by decide +kernel
theorem d1_54 : decode prog_33_method_1_code 54 = .ok (.aload_n 0, 1) := by decide +kernel
theorem d1_55 : decode prog_33_method_1_code 55 = .ok (.iload_n 3, 1) := by decide +kernel
theorem d1_56 : decode prog_33_method_1_code 56 = .ok (.putfield 25, 3) := by decide +kernel
theorem d1_59 : decode prog_33_method_1_code 59 = .ok (.return_, 1) := by decide +kernel
theorem pn_1 : plainName "com/example/generous_sieve/generoussieve/math/Shape" = true := by first | (simp [plainName, overriddenIn]; done) | decide +kernel
theorem ef_rm1 (m : MethodId) (x0 : Addr) (x1 : Int64) (x2 : Int32) : entryFrame m #[(.ref x0), (.long x1), (.int x2)] 4 = mkF m 0 #[.val (.ref x0), .val (.long x1), .second, .val (.int x2)] [] := by first | (simp [entryFrame, mkF, argsToLocals, Value.category]; done) | rfl
def Qrm1 (Z : State) (b : Addr) (q : Int64) (pa : Int32) (h0 : Heap) (n0 : Nat) (v : Option Value) (h : Heap) (L : List Loc) : Prop := v = none ∧ Fr n0 L ∧ Keep h0 h [b] ∧ Exa Z h b "com/example/generous_sieve/generoussieve/math/Shape" ∧ Fld Z h b "com/example/generous_sieve/generoussieve/math/Shape" "bits" "J" (.long q)
set_option maxRecDepth 65536 in
set_option maxHeartbeats 40000000 in
theorem rm1 (l : Launch) (Z : State) (a0 : Array Value) (hw : ∀ d ∈ tables_1, d.before a0 Z = true) (ws : List Jvm.Cond) (b : Addr) (q : Int64) (pa : Int32) (h0 : Heap) (n0 : Nat) (O : Old Z n0 h0) (E_b : Exa Z h0 b "com/example/generous_sieve/generoussieve/math/Shape") (F_b_Shape_bits : Fld Z h0 b "com/example/generous_sieve/generoussieve/math/Shape" "bits" "J" (.long (0 : Int64))) (F_b_Shape_hashes : Fld Z h0 b "com/example/generous_sieve/generoussieve/math/Shape" "hashes" "I" (.int 0)) (g_b : n0 ≤ b) (hq : ¬ (q < (1 : Int64))) (hp1 : ¬ (pa < (1 : Int32))) (hp2 : ¬ ((64 : Int32) < pa)) :
    MetFree l (⟨"com/example/generous_sieve/generoussieve/math/Shape", "<init>", "(JI)V"⟩ : MethodName) (head1 (Jvm.Cond.code (⟨"com/example/generous_sieve/generoussieve/math/Shape", "<init>", "(JI)V"⟩ : MethodName) prog_33_method_1_code 4 none :: ws) ({ frames := 2, cells := 0, slots := 0, locals := 24 } : Room)) (fun a' U' => a' = #[(.ref b), (.long q), (.int pa)] ∧ Z.Warmed39 U'.vm ∧ U'.heap = h0) (fun _ _ _ _ _ => True) (fun _ U' o' W' => ∃ v' L', o' = .returned v' ∧ Qrm1 Z b q pa h0 n0 v' W'.heap L' ∧ FrameEnd U' o' W' L' ({ frames := 2, cells := 0, slots := 0, locals := 24 } : Room).cells ({ frames := 2, cells := 0, slots := 0, locals := 24 } : Room).slots) := by
  refine MetFree.of_bodySF (plainFor_of_name pn_1) hisR ?_
  intro p e s m args below meth c s₁ Bd hml0 hP hK
  obtain ⟨rfl, hZ, hh⟩ := hP
  have hx := Bd.exec
  have hby := Bd.bytes
  have hml : c.maxLocals = 4 := hml0
  have hown : s.vm.findClass "com/example/generous_sieve/generoussieve/math/Shape" = some m.cls := findClass_of_methodNamed Bd.named
  have hnm := (name_of_methodNamed Bd.named Bd.method).1
  have X0 : Stand p l e ({ frames := 2, cells := 0, slots := 0, locals := 24 } : Room) s m #[(.ref b), (.long q), (.int pa)] below meth c s₁ [] 0 0 := Stand.of_body Bd
  have e0 : s₁.heap = h0 := by rw [← hh, Bd.state]; rfl
  have N0 := Fr.nil n0
  have K0 := Keep.refl h0 [b]
  refine own_start (ef_rm1 m b q pa) (Q := fun o' t' => ∃ v' L', o' = .returned v' ∧ Qrm1 Z b q pa h0 n0 v' t'.heap L' ∧ FrameEnd s o' t' L' ({ frames := 2, cells := 0, slots := 0, locals := 24 } : Room).cells ({ frames := 2, cells := 0, slots := 0, locals := 24 } : Room).slots) ?_
  show own_Fin p e below (s₁.setTop (mkF m 0 #[.val (.ref b), .val (.long q), .second, .val (.int pa)] [])) _
  refine own_go (fun _ k => XS.aloadN X0.here hx rfl (hb hby d1_0) rfl rfl k) ?_
  show own_Fin p e below (s₁.setTop (mkF m 1 #[.val (.ref b), .val (.long q), .second, .val (.int pa)] [(.ref b)])) _
  obtain ⟨_, _, ⟨T3, L3, k3, n3⟩, -, X3, ⟨Lc3, hQ3, l3, y3, z3⟩, st3⟩ := X0.specialBack hx (y := (⟨"java/lang/Record", "<init>", "()V"⟩ : MethodName)) rfl hown (mvT hZ (ow hw 10)) (mvT hZ (ow hw 11)) (mvT hZ (ow hw 14)) (by decide) (backOf (W := 0) (rm2 l Z a0 hw [] b h0 n0 ) hZ (ow hw 14) (ow hw 13) (by decide) (by decide)) (g := (mkF m 1 #[.val (.ref b), .val (.long q), .second, .val (.int pa)] [(.ref b)])) rfl (by rw [hml]; rfl) (Steps.refl _) (a := b) (argsL := []) (rest := []) (lenOf pd_0 rfl) rfl (by show 2 * 0 + _ ≤ _; exact Nat.le_of_eq rfl) (hb hby d1_1) (fun _ _ => ⟨rfl, e0, (by decide : 0 + 0 ≤ _), (by decide : 0 + 0 ≤ _)⟩)
  dsimp only [Pt.U, Pt.locs, Pt.cells, Pt.slots] at X3 l3 y3 z3 st3 hQ3
  subst l3 y3 z3
  obtain ⟨rfl, N3q, e3⟩ := hQ3
  refine own_go (fun _ k => st3.trans k) ?_
  have N3 := Fr.app N0 N3q
  show own_Fin p e below (T3.setTop (mkF m 4 #[.val (.ref b), .val (.long q), .second, .val (.int pa)] [])) _
  refine own_go (fun _ k => XS.lloadN X3.here hx rfl (hb hby d1_4) rfl (XS.lconst X3.here hx rfl (hb hby d1_5) (XS.lcmp X3.here hx rfl (hb hby d1_6) rfl (XS.ifYes X3.here hx rfl (pc0 := 7) (pc' := 24) rfl (hb hby d1_7) rfl ((if0 _ _).trans (flt (fun q => hq ((lw_lt _ _).mp q))).2.1) (by decide) (by decide) (XS.iloadN X3.here hx rfl (hb hby d1_24) rfl (XS.iconst X3.here hx rfl (hb hby d1_25) (XS.icmpNo X3.here hx rfl (hb hby d1_26) rfl (flt hp1).1 (XS.iloadN X3.here hx rfl (hb hby d1_29) rfl (XS.bipush X3.here hx rfl (hb hby d1_30) (XS.icmpYes X3.here hx rfl (pc0 := 32) (pc' := 49) rfl (hb hby d1_32) rfl (flt hp2).2.2.2 (by decide) (by decide) k)))))))))) ?_
  show own_Fin p e below (T3.setTop (mkF m 49 #[.val (.ref b), .val (.long q), .second, .val (.int pa)] [])) _
  refine own_go (fun _ k => XS.aloadN X3.here hx rfl (hb hby d1_49) rfl rfl (XS.lloadN X3.here hx rfl (hb hby d1_50) rfl k)) ?_
  show own_Fin p e below (T3.setTop (mkF m 51 #[.val (.ref b), .val (.long q), .second, .val (.int pa)] [(.long q), (.ref b)])) _
  obtain ⟨T4, h4, X4, e4, W4, st4⟩ := putF X3 hx hZ hown (host := "") (Or.inl (ow hw 18)) Via.refl e3 F_b_Shape_bits E_b (Or.inr ⟨(ow hw 19), rfl, hnm⟩) (ow hw 5) (ty := .long) (by decide) rfl rfl (g := (mkF m 51 #[.val (.ref b), .val (.long q), .second, .val (.int pa)] [(.long q), (.ref b)])) rfl rfl (hb hby d1_51)
  refine own_go (fun _ k => st4 _ k) ?_
  have E_b := E_b.wr W4
  have F_b_Shape_hashes := F_b_Shape_hashes.other W4 (Or.inr (slot_ne (Or.inr (ow hw 21)) (Or.inr (ow hw 19)) (by decide) (t := .int) (t' := .long) (by decide) (by decide)))
  have O := O.wr W4 g_b
  have K5 := K0.wr W4 (Or.inl (List.mem_of_getElem? (i := 0) rfl))
  have F_b_Shape_bits := F_b_Shape_bits.same W4
  have N4 := Fr.snoc X4 N3 g_b
  show own_Fin p e below (T4.setTop (mkF m 54 #[.val (.ref b), .val (.long q), .second, .val (.int pa)] [])) _
  refine own_go (fun _ k => XS.aloadN X4.here hx rfl (hb hby d1_54) rfl rfl (XS.iloadN X4.here hx rfl (hb hby d1_55) rfl k)) ?_
  show own_Fin p e below (T4.setTop (mkF m 56 #[.val (.ref b), .val (.long q), .second, .val (.int pa)] [(.int pa), (.ref b)])) _
  obtain ⟨T6, h6, X6, e6, W6, st6⟩ := putF X4 hx hZ hown (host := "") (Or.inl (ow hw 20)) Via.refl e4 F_b_Shape_hashes E_b (Or.inr ⟨(ow hw 21), rfl, hnm⟩) (ow hw 5) (ty := .int) (by decide) rfl rfl (g := (mkF m 56 #[.val (.ref b), .val (.long q), .second, .val (.int pa)] [(.int pa), (.ref b)])) rfl rfl (hb hby d1_56)
  refine own_go (fun _ k => st6 _ k) ?_
  have E_b := E_b.wr W6
  have F_b_Shape_bits := F_b_Shape_bits.other W6 (Or.inr (slot_ne (Or.inr (ow hw 19)) (Or.inr (ow hw 21)) (by decide) (t := .long) (t' := .int) (by decide) (by decide)))
  have O := O.wr W6 g_b
  have K7 := K5.wr W6 (Or.inl (List.mem_of_getElem? (i := 0) rfl))
  have F_b_Shape_hashes := F_b_Shape_hashes.same W6
  have N6 := Fr.snoc X6 N4 g_b
  show own_Fin p e below (T6.setTop (mkF m 59 #[.val (.ref b), .val (.long q), .second, .val (.int pa)] [])) _
  obtain ⟨fs, hr, hrun, hended, hW, hsame⟩ := X6.leave (v := none) (fun _ => rfl)
  refine ⟨_, _, ?_, hrun, hended, _, _, rfl, ?_, ⟨_, rfl⟩, hW, hsame.mono (by decide) (by decide)⟩
  ·exact X6.returnOut hx Bd.returns (hb hby d1_59) hr
  ·show Qrm1 Z b q pa h0 n0 _ T6.heap _
   rw [e6]
   exact ⟨rfl, N6, K7, E_b, F_b_Shape_bits⟩
theorem d5_0 : decode prog_33_method_11_code 0 = .ok (.aload_n 0, 1) := by decide +kernel
theorem d5_1 : decode prog_33_method_11_code 1 = .ok (.getfield 21, 3) := by decide +kernel
theorem d5_4 : decode prog_33_method_11_code 4 = .ok (.lreturn, 1) := by decide +kernel
theorem ef_rm5 (m : MethodId) (x0 : Addr) : entryFrame m #[(.ref x0)] 1 = mkF m 0 #[.val (.ref x0)] [] := by first | (simp [entryFrame, mkF, argsToLocals, Value.category]; done) | rfl
def Qrm5 (Z : State) (a : Addr) (q : Int64) (h0 : Heap) (n0 : Nat) (v : Option Value) (h : Heap) (L : List Loc) : Prop := v = some (.long q) ∧ Fr n0 L ∧ h = h0
set_option maxRecDepth 65536 in
set_option maxHeartbeats 40000000 in
theorem rm5 (l : Launch) (Z : State) (a0 : Array Value) (hw : ∀ d ∈ tables_1, d.before a0 Z = true) (ws : List Jvm.Cond) (a : Addr) (q : Int64) (h0 : Heap) (n0 : Nat) (O : Old Z n0 h0) (F_a_Shape_bits : Fld Z h0 a "com/example/generous_sieve/generoussieve/math/Shape" "bits" "J" (.long q)) :
    MetFree l (⟨"com/example/generous_sieve/generoussieve/math/Shape", "bits", "()J"⟩ : MethodName) (head1 (Jvm.Cond.code (⟨"com/example/generous_sieve/generoussieve/math/Shape", "bits", "()J"⟩ : MethodName) prog_33_method_11_code 1 (some .long) :: ws) ({ frames := 0, cells := 0, slots := 0, locals := 0 } : Room)) (fun a' U' => a' = #[(.ref a)] ∧ Z.Warmed39 U'.vm ∧ U'.heap = h0) (fun _ _ _ _ _ => True) (fun _ U' o' W' => ∃ v' L', o' = .returned v' ∧ Qrm5 Z a q h0 n0 v' W'.heap L' ∧ FrameEnd U' o' W' L' ({ frames := 0, cells := 0, slots := 0, locals := 0 } : Room).cells ({ frames := 0, cells := 0, slots := 0, locals := 0 } : Room).slots) := by
  refine MetFree.of_bodySF (plainFor_of_name pn_1) hisR ?_
  intro p e s m args below meth c s₁ Bd hml0 hP hK
  obtain ⟨rfl, hZ, hh⟩ := hP
  have hx := Bd.exec
  have hby := Bd.bytes
  have hml : c.maxLocals = 1 := hml0
  have hown : s.vm.findClass "com/example/generous_sieve/generoussieve/math/Shape" = some m.cls := findClass_of_methodNamed Bd.named
  have hnm := (name_of_methodNamed Bd.named Bd.method).1
  have X0 : Stand p l e ({ frames := 0, cells := 0, slots := 0, locals := 0 } : Room) s m #[(.ref a)] below meth c s₁ [] 0 0 := Stand.of_body Bd
  have e0 : s₁.heap = h0 := by rw [← hh, Bd.state]; rfl
  have N0 := Fr.nil n0
  refine own_start (ef_rm5 m a) (Q := fun o' t' => ∃ v' L', o' = .returned v' ∧ Qrm5 Z a q h0 n0 v' t'.heap L' ∧ FrameEnd s o' t' L' ({ frames := 0, cells := 0, slots := 0, locals := 0 } : Room).cells ({ frames := 0, cells := 0, slots := 0, locals := 0 } : Room).slots) ?_
  show own_Fin p e below (s₁.setTop (mkF m 0 #[.val (.ref a)] [])) _
  refine own_go (fun _ k => XS.aloadN X0.here hx rfl (hb hby d5_0) rfl rfl k) ?_
  show own_Fin p e below (s₁.setTop (mkF m 1 #[.val (.ref a)] [(.ref a)])) _
  obtain ⟨T9, X9, e9, st9⟩ := getF X0 hx hZ hown (host := "") (Or.inl (ow hw 18)) Via.refl e0 F_a_Shape_bits (g := (mkF m 1 #[.val (.ref a)] [(.ref a)])) rfl rfl (hb hby d5_1)
  refine own_go (fun _ k => st9 _ k) ?_
  show own_Fin p e below (T9.setTop (mkF m 4 #[.val (.ref a)] [(.long q)])) _
  obtain ⟨fs, hr, hrun, hended, hW, hsame⟩ := X9.leave (v := some (.long q)) (fun h => by rw [Bd.returns] at h; cases h)
  refine ⟨_, _, ?_, hrun, hended, _, _, rfl, ?_, ⟨_, rfl⟩, hW, hsame.mono (by decide) (by decide)⟩
  ·exact own_retJ X9 hx Bd.returns (hb hby d5_4) hr
  ·show Qrm5 Z a q h0 n0 _ T9.heap _
   rw [e9]
   exact ⟨rfl, N0, rfl⟩
theorem d6_0 : decode prog_22_method_11_code 0 = .ok (.bipush 64, 2) := by decide +kernel
theorem d6_2 : decode prog_22_method_11_code 2 = .ok (.aload_n 0, 1) := by decide +kernel
theorem d6_3 : decode prog_22_method_11_code 3 = .ok (.getfield 47, 3) := by decide +kernel
theorem d6_6 : decode prog_22_method_11_code 6 = .ok (.idiv, 1) := by decide +kernel
theorem d6_7 : decode prog_22_method_11_code 7 = .ok (.ireturn, 1) := by decide +kernel
theorem pn_2 : plainName "com/example/generous_sieve/generoussieve/format/FilterKind" = true := by first | (simp [plainName, overriddenIn]; done) | decide +kernel
theorem ef_rmcpP (m : MethodId) (x0 : Addr) : entryFrame m #[(.ref x0)] 1 = mkF m 0 #[.val (.ref x0)] [] := by first | (simp [entryFrame, mkF, argsToLocals, Value.category]; done) | rfl
def QrmcpP (Z : State) (a : Addr) (h0 : Heap) (n0 : Nat) (v : Option Value) (h : Heap) (L : List Loc) : Prop := v = some (.int 64) ∧ Fr n0 L ∧ h = h0
set_option maxRecDepth 65536 in
set_option maxHeartbeats 40000000 in
theorem rmcpP (l : Launch) (Z : State) (a0 : Array Value) (hw : ∀ d ∈ tables_1, d.before a0 Z = true) (ws : List Jvm.Cond) (a : Addr) (h0 : Heap) (n0 : Nat) (O : Old Z n0 h0) (F_a_FilterKind_cellBits : Fld Z h0 a "com/example/generous_sieve/generoussieve/format/FilterKind" "cellBits" "I" (.int 1)) :
    MetFree l (⟨"com/example/generous_sieve/generoussieve/format/FilterKind", "cellsPerWord", "()I"⟩ : MethodName) (head1 (Jvm.Cond.code (⟨"com/example/generous_sieve/generoussieve/format/FilterKind", "cellsPerWord", "()I"⟩ : MethodName) prog_22_method_11_code 1 (some .int) :: ws) ({ frames := 0, cells := 0, slots := 0, locals := 0 } : Room)) (fun a' U' => a' = #[(.ref a)] ∧ Z.Warmed39 U'.vm ∧ U'.heap = h0) (fun _ _ _ _ _ => True) (fun _ U' o' W' => ∃ v' L', o' = .returned v' ∧ QrmcpP Z a h0 n0 v' W'.heap L' ∧ FrameEnd U' o' W' L' ({ frames := 0, cells := 0, slots := 0, locals := 0 } : Room).cells ({ frames := 0, cells := 0, slots := 0, locals := 0 } : Room).slots) := by
  refine MetFree.of_bodySF (plainFor_of_name pn_2) hisR ?_
  intro p e s m args below meth c s₁ Bd hml0 hP hK
  obtain ⟨rfl, hZ, hh⟩ := hP
  have hx := Bd.exec
  have hby := Bd.bytes
  have hml : c.maxLocals = 1 := hml0
  have hown : s.vm.findClass "com/example/generous_sieve/generoussieve/format/FilterKind" = some m.cls := findClass_of_methodNamed Bd.named
  have hnm := (name_of_methodNamed Bd.named Bd.method).1
  have X0 : Stand p l e ({ frames := 0, cells := 0, slots := 0, locals := 0 } : Room) s m #[(.ref a)] below meth c s₁ [] 0 0 := Stand.of_body Bd
  have e0 : s₁.heap = h0 := by rw [← hh, Bd.state]; rfl
  have N0 := Fr.nil n0
  refine own_start (ef_rmcpP m a) (Q := fun o' t' => ∃ v' L', o' = .returned v' ∧ QrmcpP Z a h0 n0 v' t'.heap L' ∧ FrameEnd s o' t' L' ({ frames := 0, cells := 0, slots := 0, locals := 0 } : Room).cells ({ frames := 0, cells := 0, slots := 0, locals := 0 } : Room).slots) ?_
  show own_Fin p e below (s₁.setTop (mkF m 0 #[.val (.ref a)] [])) _
  refine own_go (fun _ k => XS.bipush X0.here hx rfl (hb hby d6_0) (XS.aloadN X0.here hx rfl (hb hby d6_2) rfl rfl k)) ?_
  show own_Fin p e below (s₁.setTop (mkF m 3 #[.val (.ref a)] [(.ref a), (.int 64)])) _
  obtain ⟨T11, X11, e11, st11⟩ := getF X0 hx hZ hown (host := "") (Or.inl (ow hw 36)) Via.refl e0 F_a_FilterKind_cellBits (g := (mkF m 3 #[.val (.ref a)] [(.ref a), (.int 64)])) rfl rfl (hb hby d6_3)
  refine own_go (fun _ k => st11 _ k) ?_
  show own_Fin p e below (T11.setTop (mkF m 6 #[.val (.ref a)] [(.int 1), (.int 64)])) _
  refine own_go (fun _ k => XS.idiv X11.here hx rfl (hb hby d6_6) rfl (by decide) k) ?_
  show own_Fin p e below (T11.setTop (mkF m 7 #[.val (.ref a)] [(.int 64)])) _
  obtain ⟨fs, hr, hrun, hended, hW, hsame⟩ := X11.leave (v := some (.int 64)) (fun h => by rw [Bd.returns] at h; cases h)
  refine ⟨_, _, ?_, hrun, hended, _, _, rfl, ?_, ⟨_, rfl⟩, hW, hsame.mono (by decide) (by decide)⟩
  ·exact own_retI X11 hx Bd.returns (hb hby d6_7) hr
  ·show QrmcpP Z a h0 n0 _ T11.heap _
   rw [e11]
   exact ⟨rfl, N0, rfl⟩
theorem d4_0 : decode prog_22_method_5_code 0 = .ok (.aload_n 1, 1) := by decide +kernel
theorem d4_1 : decode prog_22_method_5_code 1 = .ok (.invokevirtual 55, 3) := by decide +kernel
theorem pd_1 : parseMethodDescriptor "()J" = some ⟨[], some .long⟩ := by decide +kernel
theorem d4_4 : decode prog_22_method_5_code 4 = .ok (.lconst 1, 1) := by decide +kernel
theorem d4_5 : decode prog_22_method_5_code 5 = .ok (.lsub, 1) := by decide +kernel
theorem d4_6 : decode prog_22_method_5_code 6 = .ok (.aload_n 0, 1) := by decide +kernel
theorem d4_7 : decode prog_22_method_5_code 7 = .ok (.invokevirtual 61, 3) := by decide +kernel
theorem pd_2 : parseMethodDescriptor "()I" = some ⟨[], some .int⟩ := by decide +kernel
theorem d4_10 : decode prog_22_method_5_code 10 = .ok (.i2l, 1) := by decide +kernel
theorem d4_11 : decode prog_22_method_5_code 11 = .ok (.ldiv, 1) := by decide +kernel
theorem d4_12 : decode prog_22_method_5_code 12 = .ok (.lconst 1, 1) := by decide +kernel
theorem d4_13 : decode prog_22_method_5_code 13 = .ok (.ladd, 1) := by decide +kernel
theorem d4_14 : decode prog_22_method_5_code 14 = .ok (.lreturn, 1) := by decide +kernel
theorem ef_rmwP (m : MethodId) (x0 : Addr) (x1 : Addr) : entryFrame m #[(.ref x0), (.ref x1)] 2 = mkF m 0 #[.val (.ref x0), .val (.ref x1)] [] := by first | (simp [entryFrame, mkF, argsToLocals, Value.category]; done) | rfl
def QrmwP (Z : State) (a : Addr) (b : Addr) (q : Int64) (h0 : Heap) (n0 : Nat) (v : Option Value) (h : Heap) (L : List Loc) : Prop := v = some (.long (((q - (1 : Int64)) / (64 : Int64)) + (1 : Int64))) ∧ Fr n0 L ∧ h = h0
set_option maxRecDepth 65536 in
set_option maxHeartbeats 40000000 in
theorem rmwP (l : Launch) (Z : State) (a0 : Array Value) (hw : ∀ d ∈ tables_1, d.before a0 Z = true) (ws : List Jvm.Cond) (a : Addr) (b : Addr) (q : Int64) (h0 : Heap) (n0 : Nat) (O : Old Z n0 h0) (E_a : Exa Z h0 a "com/example/generous_sieve/generoussieve/format/FilterKind") (E_b : Exa Z h0 b "com/example/generous_sieve/generoussieve/math/Shape") (F_b_Shape_bits : Fld Z h0 b "com/example/generous_sieve/generoussieve/math/Shape" "bits" "J" (.long q)) (F_a_FilterKind_cellBits : Fld Z h0 a "com/example/generous_sieve/generoussieve/format/FilterKind" "cellBits" "I" (.int 1)) :
    MetFree l (⟨"com/example/generous_sieve/generoussieve/format/FilterKind", "words", "(Lcom/example/generous_sieve/generoussieve/math/Shape;)J"⟩ : MethodName) (head1 (Jvm.Cond.code (⟨"com/example/generous_sieve/generoussieve/format/FilterKind", "words", "(Lcom/example/generous_sieve/generoussieve/math/Shape;)J"⟩ : MethodName) prog_22_method_5_code 2 (some .long) :: ws) ({ frames := 1, cells := 0, slots := 0, locals := 14 } : Room)) (fun a' U' => a' = #[(.ref a), (.ref b)] ∧ Z.Warmed39 U'.vm ∧ U'.heap = h0) (fun _ _ _ _ _ => True) (fun _ U' o' W' => ∃ v' L', o' = .returned v' ∧ QrmwP Z a b q h0 n0 v' W'.heap L' ∧ FrameEnd U' o' W' L' ({ frames := 1, cells := 0, slots := 0, locals := 14 } : Room).cells ({ frames := 1, cells := 0, slots := 0, locals := 14 } : Room).slots) := by
  refine MetFree.of_bodySF (plainFor_of_name pn_2) hisR ?_
  intro p e s m args below meth c s₁ Bd hml0 hP hK
  obtain ⟨rfl, hZ, hh⟩ := hP
  have hx := Bd.exec
  have hby := Bd.bytes
  have hml : c.maxLocals = 2 := hml0
  have hown : s.vm.findClass "com/example/generous_sieve/generoussieve/format/FilterKind" = some m.cls := findClass_of_methodNamed Bd.named
  have hnm := (name_of_methodNamed Bd.named Bd.method).1
  have X0 : Stand p l e ({ frames := 1, cells := 0, slots := 0, locals := 14 } : Room) s m #[(.ref a), (.ref b)] below meth c s₁ [] 0 0 := Stand.of_body Bd
  have e0 : s₁.heap = h0 := by rw [← hh, Bd.state]; rfl
  have N0 := Fr.nil n0
  refine own_start (ef_rmwP m a b) (Q := fun o' t' => ∃ v' L', o' = .returned v' ∧ QrmwP Z a b q h0 n0 v' t'.heap L' ∧ FrameEnd s o' t' L' ({ frames := 1, cells := 0, slots := 0, locals := 14 } : Room).cells ({ frames := 1, cells := 0, slots := 0, locals := 14 } : Room).slots) ?_
  show own_Fin p e below (s₁.setTop (mkF m 0 #[.val (.ref a), .val (.ref b)] [])) _
  refine own_go (fun _ k => XS.aloadN X0.here hx rfl (hb hby d4_0) rfl rfl k) ?_
  show own_Fin p e below (s₁.setTop (mkF m 1 #[.val (.ref a), .val (.ref b)] [(.ref b)])) _
  obtain ⟨cq13, kq13, q13a, q13b, q13c⟩ := isOf hZ e0 E_b
  obtain ⟨_, _, ⟨T13, L13, k13, n13⟩, -, X13, ⟨Lc13, hQ13, l13, y13, z13⟩, st13⟩ := X0.virtualBack hx (y := (⟨"com/example/generous_sieve/generoussieve/math/Shape", "bits", "()J"⟩ : MethodName)) (z := (⟨"com/example/generous_sieve/generoussieve/math/Shape", "bits", "()J"⟩ : MethodName)) hown (mvT hZ (ow hw 27)) (mvT hZ (ow hw 28)) (notFace_of_selects (args := #[]) (mvT hZ (ow hw 30))) (mvT hZ (ow hw 30)) (mvT hZ (ow hw 29)) (by decide) (backOf (W := 0) (rm5 l Z a0 hw [] b q h0 n0 O F_b_Shape_bits) hZ (ow hw 31) (ow hw 6) (by decide) (by decide)) q13a q13c (g := (mkF m 1 #[.val (.ref a), .val (.ref b)] [(.ref b)])) rfl (by rw [hml]; rfl) (Steps.refl _) (argsL := []) (rest := []) (lenOf pd_1 rfl) rfl (by show 2 * 0 + _ ≤ _; exact Nat.le_of_eq rfl) (hb hby d4_1) (fun _ _ => ⟨rfl, e0, (by decide : 0 + 0 ≤ _), (by decide : 0 + 0 ≤ _)⟩)
  dsimp only [Pt.U, Pt.locs, Pt.cells, Pt.slots] at X13 l13 y13 z13 st13 hQ13
  subst l13 y13 z13
  obtain ⟨rfl, N13q, e13⟩ := hQ13
  refine own_go (fun _ k => st13.trans k) ?_
  have N13 := Fr.app N0 N13q
  show own_Fin p e below (T13.setTop (mkF m 4 #[.val (.ref a), .val (.ref b)] [(.long q)])) _
  refine own_go (fun _ k => XS.lconst X13.here hx rfl (hb hby d4_4) (XS.lsub X13.here hx rfl (hb hby d4_5) rfl (XS.aloadN X13.here hx rfl (hb hby d4_6) rfl rfl k))) ?_
  show own_Fin p e below (T13.setTop (mkF m 7 #[.val (.ref a), .val (.ref b)] [(.ref a), (.long (q - (1 : Int64)))])) _
  obtain ⟨cq14, q14, q14'⟩ := E_a.cell
  obtain ⟨_, _, ⟨T14, L14, k14, n14⟩, -, X14, ⟨Lc14, hQ14, l14, y14, z14⟩, st14⟩ := X13.privateBack hx (y := (⟨"com/example/generous_sieve/generoussieve/format/FilterKind", "cellsPerWord", "()I"⟩ : MethodName)) hown (mvT hZ (ow hw 32)) (mvT hZ (ow hw 33)) (own_selS (mvT hZ (ow hw 25)) (by exact rfl) (Cond.privateMethod_at (mvP hZ (ow hw 34) (args := #[]))) (mvT hZ (ow hw 33)) (by decide)) (Cond.privateMethod_at (mvP hZ (ow hw 34) (args := #[]))) (mvT hZ (ow hw 35)) (by decide) (backOf (W := 2) (rmcpP l Z a0 hw [] a h0 n0 O F_a_FilterKind_cellBits) hZ (ow hw 35) (ow hw 2) (by decide) (by decide)) (g := (mkF m 7 #[.val (.ref a), .val (.ref b)] [(.ref a), (.long (q - (1 : Int64)))])) rfl (by rw [hml]; rfl) (Steps.refl _) (a := a) (by rw [e13]; exact q14) q14' (argsL := []) (rest := [(.long (q - (1 : Int64)))]) (lenOf pd_2 rfl) rfl (by show 2 * 0 + _ ≤ _; exact Nat.le_of_eq rfl) (hb hby d4_7) (fun _ _ => ⟨rfl, e13, (by decide : 0 + 0 ≤ _), (by decide : 0 + 0 ≤ _)⟩)
  dsimp only [Pt.U, Pt.locs, Pt.cells, Pt.slots] at X14 l14 y14 z14 st14 hQ14
  subst l14 y14 z14
  obtain ⟨rfl, N14q, e14⟩ := hQ14
  refine own_go (fun _ k => st14.trans k) ?_
  have N14 := Fr.app N13 N14q
  show own_Fin p e below (T14.setTop (mkF m 10 #[.val (.ref a), .val (.ref b)] [(.int 64), (.long (q - (1 : Int64)))])) _
  refine own_go (fun _ k => XS.i2l X14.here hx rfl (hb hby d4_10) rfl (XS.ldiv X14.here hx rfl (hb hby d4_11) rfl (by decide) (XS.lconst X14.here hx rfl (hb hby d4_12) (XS.ladd X14.here hx rfl (hb hby d4_13) rfl k)))) ?_
  show own_Fin p e below (T14.setTop (mkF m 14 #[.val (.ref a), .val (.ref b)] [(.long (((q - (1 : Int64)) / (64 : Int64)) + (1 : Int64)))])) _
  obtain ⟨fs, hr, hrun, hended, hW, hsame⟩ := X14.leave (v := some (.long (((q - (1 : Int64)) / (64 : Int64)) + (1 : Int64)))) (fun h => by rw [Bd.returns] at h; cases h)
  refine ⟨_, _, ?_, hrun, hended, _, _, rfl, ?_, ⟨_, rfl⟩, hW, hsame.mono (by decide) (by decide)⟩
  ·exact own_retJ X14 hx Bd.returns (hb hby d4_14) hr
  ·show QrmwP Z a b q h0 n0 _ T14.heap _
   rw [e14]
   exact ⟨rfl, N14, rfl⟩
theorem ef_rmcpC (m : MethodId) (x0 : Addr) : entryFrame m #[(.ref x0)] 1 = mkF m 0 #[.val (.ref x0)] [] := by first | (simp [entryFrame, mkF, argsToLocals, Value.category]; done) | rfl
def QrmcpC (Z : State) (a : Addr) (h0 : Heap) (n0 : Nat) (v : Option Value) (h : Heap) (L : List Loc) : Prop := v = some (.int 16) ∧ Fr n0 L ∧ h = h0
set_option maxRecDepth 65536 in
set_option maxHeartbeats 40000000 in
theorem rmcpC (l : Launch) (Z : State) (a0 : Array Value) (hw : ∀ d ∈ tables_1, d.before a0 Z = true) (ws : List Jvm.Cond) (a : Addr) (h0 : Heap) (n0 : Nat) (O : Old Z n0 h0) (F_a_FilterKind_cellBits : Fld Z h0 a "com/example/generous_sieve/generoussieve/format/FilterKind" "cellBits" "I" (.int 4)) :
    MetFree l (⟨"com/example/generous_sieve/generoussieve/format/FilterKind", "cellsPerWord", "()I"⟩ : MethodName) (head1 (Jvm.Cond.code (⟨"com/example/generous_sieve/generoussieve/format/FilterKind", "cellsPerWord", "()I"⟩ : MethodName) prog_22_method_11_code 1 (some .int) :: ws) ({ frames := 0, cells := 0, slots := 0, locals := 0 } : Room)) (fun a' U' => a' = #[(.ref a)] ∧ Z.Warmed39 U'.vm ∧ U'.heap = h0) (fun _ _ _ _ _ => True) (fun _ U' o' W' => ∃ v' L', o' = .returned v' ∧ QrmcpC Z a h0 n0 v' W'.heap L' ∧ FrameEnd U' o' W' L' ({ frames := 0, cells := 0, slots := 0, locals := 0 } : Room).cells ({ frames := 0, cells := 0, slots := 0, locals := 0 } : Room).slots) := by
  refine MetFree.of_bodySF (plainFor_of_name pn_2) hisR ?_
  intro p e s m args below meth c s₁ Bd hml0 hP hK
  obtain ⟨rfl, hZ, hh⟩ := hP
  have hx := Bd.exec
  have hby := Bd.bytes
  have hml : c.maxLocals = 1 := hml0
  have hown : s.vm.findClass "com/example/generous_sieve/generoussieve/format/FilterKind" = some m.cls := findClass_of_methodNamed Bd.named
  have hnm := (name_of_methodNamed Bd.named Bd.method).1
  have X0 : Stand p l e ({ frames := 0, cells := 0, slots := 0, locals := 0 } : Room) s m #[(.ref a)] below meth c s₁ [] 0 0 := Stand.of_body Bd
  have e0 : s₁.heap = h0 := by rw [← hh, Bd.state]; rfl
  have N0 := Fr.nil n0
  refine own_start (ef_rmcpC m a) (Q := fun o' t' => ∃ v' L', o' = .returned v' ∧ QrmcpC Z a h0 n0 v' t'.heap L' ∧ FrameEnd s o' t' L' ({ frames := 0, cells := 0, slots := 0, locals := 0 } : Room).cells ({ frames := 0, cells := 0, slots := 0, locals := 0 } : Room).slots) ?_
  show own_Fin p e below (s₁.setTop (mkF m 0 #[.val (.ref a)] [])) _
  refine own_go (fun _ k => XS.bipush X0.here hx rfl (hb hby d6_0) (XS.aloadN X0.here hx rfl (hb hby d6_2) rfl rfl k)) ?_
  show own_Fin p e below (s₁.setTop (mkF m 3 #[.val (.ref a)] [(.ref a), (.int 64)])) _
  obtain ⟨T16, X16, e16, st16⟩ := getF X0 hx hZ hown (host := "") (Or.inl (ow hw 36)) Via.refl e0 F_a_FilterKind_cellBits (g := (mkF m 3 #[.val (.ref a)] [(.ref a), (.int 64)])) rfl rfl (hb hby d6_3)
  refine own_go (fun _ k => st16 _ k) ?_
  show own_Fin p e below (T16.setTop (mkF m 6 #[.val (.ref a)] [(.int 4), (.int 64)])) _
  refine own_go (fun _ k => XS.idiv X16.here hx rfl (hb hby d6_6) rfl (by decide) k) ?_
  show own_Fin p e below (T16.setTop (mkF m 7 #[.val (.ref a)] [(.int 16)])) _
  obtain ⟨fs, hr, hrun, hended, hW, hsame⟩ := X16.leave (v := some (.int 16)) (fun h => by rw [Bd.returns] at h; cases h)
  refine ⟨_, _, ?_, hrun, hended, _, _, rfl, ?_, ⟨_, rfl⟩, hW, hsame.mono (by decide) (by decide)⟩
  ·exact own_retI X16 hx Bd.returns (hb hby d6_7) hr
  ·show QrmcpC Z a h0 n0 _ T16.heap _
   rw [e16]
   exact ⟨rfl, N0, rfl⟩
theorem ef_rmwC (m : MethodId) (x0 : Addr) (x1 : Addr) : entryFrame m #[(.ref x0), (.ref x1)] 2 = mkF m 0 #[.val (.ref x0), .val (.ref x1)] [] := by first | (simp [entryFrame, mkF, argsToLocals, Value.category]; done) | rfl
def QrmwC (Z : State) (a : Addr) (b : Addr) (q : Int64) (h0 : Heap) (n0 : Nat) (v : Option Value) (h : Heap) (L : List Loc) : Prop := v = some (.long (((q - (1 : Int64)) / (16 : Int64)) + (1 : Int64))) ∧ Fr n0 L ∧ h = h0
set_option maxRecDepth 65536 in
set_option maxHeartbeats 40000000 in
theorem rmwC (l : Launch) (Z : State) (a0 : Array Value) (hw : ∀ d ∈ tables_1, d.before a0 Z = true) (ws : List Jvm.Cond) (a : Addr) (b : Addr) (q : Int64) (h0 : Heap) (n0 : Nat) (O : Old Z n0 h0) (E_a : Exa Z h0 a "com/example/generous_sieve/generoussieve/format/FilterKind") (E_b : Exa Z h0 b "com/example/generous_sieve/generoussieve/math/Shape") (F_b_Shape_bits : Fld Z h0 b "com/example/generous_sieve/generoussieve/math/Shape" "bits" "J" (.long q)) (F_a_FilterKind_cellBits : Fld Z h0 a "com/example/generous_sieve/generoussieve/format/FilterKind" "cellBits" "I" (.int 4)) :
    MetFree l (⟨"com/example/generous_sieve/generoussieve/format/FilterKind", "words", "(Lcom/example/generous_sieve/generoussieve/math/Shape;)J"⟩ : MethodName) (head1 (Jvm.Cond.code (⟨"com/example/generous_sieve/generoussieve/format/FilterKind", "words", "(Lcom/example/generous_sieve/generoussieve/math/Shape;)J"⟩ : MethodName) prog_22_method_5_code 2 (some .long) :: ws) ({ frames := 1, cells := 0, slots := 0, locals := 14 } : Room)) (fun a' U' => a' = #[(.ref a), (.ref b)] ∧ Z.Warmed39 U'.vm ∧ U'.heap = h0) (fun _ _ _ _ _ => True) (fun _ U' o' W' => ∃ v' L', o' = .returned v' ∧ QrmwC Z a b q h0 n0 v' W'.heap L' ∧ FrameEnd U' o' W' L' ({ frames := 1, cells := 0, slots := 0, locals := 14 } : Room).cells ({ frames := 1, cells := 0, slots := 0, locals := 14 } : Room).slots) := by
  refine MetFree.of_bodySF (plainFor_of_name pn_2) hisR ?_
  intro p e s m args below meth c s₁ Bd hml0 hP hK
  obtain ⟨rfl, hZ, hh⟩ := hP
  have hx := Bd.exec
  have hby := Bd.bytes
  have hml : c.maxLocals = 2 := hml0
  have hown : s.vm.findClass "com/example/generous_sieve/generoussieve/format/FilterKind" = some m.cls := findClass_of_methodNamed Bd.named
  have hnm := (name_of_methodNamed Bd.named Bd.method).1
  have X0 : Stand p l e ({ frames := 1, cells := 0, slots := 0, locals := 14 } : Room) s m #[(.ref a), (.ref b)] below meth c s₁ [] 0 0 := Stand.of_body Bd
  have e0 : s₁.heap = h0 := by rw [← hh, Bd.state]; rfl
  have N0 := Fr.nil n0
  refine own_start (ef_rmwC m a b) (Q := fun o' t' => ∃ v' L', o' = .returned v' ∧ QrmwC Z a b q h0 n0 v' t'.heap L' ∧ FrameEnd s o' t' L' ({ frames := 1, cells := 0, slots := 0, locals := 14 } : Room).cells ({ frames := 1, cells := 0, slots := 0, locals := 14 } : Room).slots) ?_
  show own_Fin p e below (s₁.setTop (mkF m 0 #[.val (.ref a), .val (.ref b)] [])) _
  refine own_go (fun _ k => XS.aloadN X0.here hx rfl (hb hby d4_0) rfl rfl k) ?_
  show own_Fin p e below (s₁.setTop (mkF m 1 #[.val (.ref a), .val (.ref b)] [(.ref b)])) _
  obtain ⟨cq18, kq18, q18a, q18b, q18c⟩ := isOf hZ e0 E_b
  obtain ⟨_, _, ⟨T18, L18, k18, n18⟩, -, X18, ⟨Lc18, hQ18, l18, y18, z18⟩, st18⟩ := X0.virtualBack hx (y := (⟨"com/example/generous_sieve/generoussieve/math/Shape", "bits", "()J"⟩ : MethodName)) (z := (⟨"com/example/generous_sieve/generoussieve/math/Shape", "bits", "()J"⟩ : MethodName)) hown (mvT hZ (ow hw 27)) (mvT hZ (ow hw 28)) (notFace_of_selects (args := #[]) (mvT hZ (ow hw 30))) (mvT hZ (ow hw 30)) (mvT hZ (ow hw 29)) (by decide) (backOf (W := 0) (rm5 l Z a0 hw [] b q h0 n0 O F_b_Shape_bits) hZ (ow hw 31) (ow hw 6) (by decide) (by decide)) q18a q18c (g := (mkF m 1 #[.val (.ref a), .val (.ref b)] [(.ref b)])) rfl (by rw [hml]; rfl) (Steps.refl _) (argsL := []) (rest := []) (lenOf pd_1 rfl) rfl (by show 2 * 0 + _ ≤ _; exact Nat.le_of_eq rfl) (hb hby d4_1) (fun _ _ => ⟨rfl, e0, (by decide : 0 + 0 ≤ _), (by decide : 0 + 0 ≤ _)⟩)
  dsimp only [Pt.U, Pt.locs, Pt.cells, Pt.slots] at X18 l18 y18 z18 st18 hQ18
  subst l18 y18 z18
  obtain ⟨rfl, N18q, e18⟩ := hQ18
  refine own_go (fun _ k => st18.trans k) ?_
  have N18 := Fr.app N0 N18q
  show own_Fin p e below (T18.setTop (mkF m 4 #[.val (.ref a), .val (.ref b)] [(.long q)])) _
  refine own_go (fun _ k => XS.lconst X18.here hx rfl (hb hby d4_4) (XS.lsub X18.here hx rfl (hb hby d4_5) rfl (XS.aloadN X18.here hx rfl (hb hby d4_6) rfl rfl k))) ?_
  show own_Fin p e below (T18.setTop (mkF m 7 #[.val (.ref a), .val (.ref b)] [(.ref a), (.long (q - (1 : Int64)))])) _
  obtain ⟨cq19, q19, q19'⟩ := E_a.cell
  obtain ⟨_, _, ⟨T19, L19, k19, n19⟩, -, X19, ⟨Lc19, hQ19, l19, y19, z19⟩, st19⟩ := X18.privateBack hx (y := (⟨"com/example/generous_sieve/generoussieve/format/FilterKind", "cellsPerWord", "()I"⟩ : MethodName)) hown (mvT hZ (ow hw 32)) (mvT hZ (ow hw 33)) (own_selS (mvT hZ (ow hw 25)) (by exact rfl) (Cond.privateMethod_at (mvP hZ (ow hw 34) (args := #[]))) (mvT hZ (ow hw 33)) (by decide)) (Cond.privateMethod_at (mvP hZ (ow hw 34) (args := #[]))) (mvT hZ (ow hw 35)) (by decide) (backOf (W := 2) (rmcpC l Z a0 hw [] a h0 n0 O F_a_FilterKind_cellBits) hZ (ow hw 35) (ow hw 2) (by decide) (by decide)) (g := (mkF m 7 #[.val (.ref a), .val (.ref b)] [(.ref a), (.long (q - (1 : Int64)))])) rfl (by rw [hml]; rfl) (Steps.refl _) (a := a) (by rw [e18]; exact q19) q19' (argsL := []) (rest := [(.long (q - (1 : Int64)))]) (lenOf pd_2 rfl) rfl (by show 2 * 0 + _ ≤ _; exact Nat.le_of_eq rfl) (hb hby d4_7) (fun _ _ => ⟨rfl, e18, (by decide : 0 + 0 ≤ _), (by decide : 0 + 0 ≤ _)⟩)
  dsimp only [Pt.U, Pt.locs, Pt.cells, Pt.slots] at X19 l19 y19 z19 st19 hQ19
  subst l19 y19 z19
  obtain ⟨rfl, N19q, e19⟩ := hQ19
  refine own_go (fun _ k => st19.trans k) ?_
  have N19 := Fr.app N18 N19q
  show own_Fin p e below (T19.setTop (mkF m 10 #[.val (.ref a), .val (.ref b)] [(.int 16), (.long (q - (1 : Int64)))])) _
  refine own_go (fun _ k => XS.i2l X19.here hx rfl (hb hby d4_10) rfl (XS.ldiv X19.here hx rfl (hb hby d4_11) rfl (by decide) (XS.lconst X19.here hx rfl (hb hby d4_12) (XS.ladd X19.here hx rfl (hb hby d4_13) rfl k)))) ?_
  show own_Fin p e below (T19.setTop (mkF m 14 #[.val (.ref a), .val (.ref b)] [(.long (((q - (1 : Int64)) / (16 : Int64)) + (1 : Int64)))])) _
  obtain ⟨fs, hr, hrun, hended, hW, hsame⟩ := X19.leave (v := some (.long (((q - (1 : Int64)) / (16 : Int64)) + (1 : Int64)))) (fun h => by rw [Bd.returns] at h; cases h)
  refine ⟨_, _, ?_, hrun, hended, _, _, rfl, ?_, ⟨_, rfl⟩, hW, hsame.mono (by decide) (by decide)⟩
  ·exact own_retJ X19 hx Bd.returns (hb hby d4_14) hr
  ·show QrmwC Z a b q h0 n0 _ T19.heap _
   rw [e19]
   exact ⟨rfl, N19, rfl⟩
theorem own_pos (q : Int64) (h : ¬ (q &&& (9223372036854775807 : Int64)) = (0 : Int64)) : ¬ ((q &&& (9223372036854775807 : Int64)) < (1 : Int64)) := by
  have h1 := c_maskL q 9223372036854775807 63 (by decide) (by decide)
  rw [← Int64.toInt_inj] at h
  rw [Int64.lt_iff_toInt_lt]
  have e0 : (0 : Int64).toInt = 0 := by decide
  have e1 : (1 : Int64).toInt = 1 := by decide
  omega
theorem own_h1 (p : Int32) : ¬ (((p &&& (63 : Int32)) + (1 : Int32)) < (1 : Int32)) := by
  have h1 := c_mask p 63 6 (by decide) (by decide)
  have h2 := c_iadd (p &&& 63) 1
  have h3 := rng32 ((p &&& 63) + 1)
  rw [Int32.lt_iff_toInt_lt]
  have e1 : (1 : Int32).toInt = 1 := by decide
  omega
theorem own_h2 (p : Int32) : ¬ ((64 : Int32) < ((p &&& (63 : Int32)) + (1 : Int32))) := by
  have h1 := c_mask p 63 6 (by decide) (by decide)
  have h2 := c_iadd (p &&& 63) 1
  have h3 := rng32 ((p &&& 63) + 1)
  rw [Int32.lt_iff_toInt_lt]
  have e1 : (1 : Int32).toInt = 1 := by decide
  have e64 : (64 : Int32).toInt = 64 := by decide
  omega
theorem own_wP (b : Int64) (hb : ¬ (b < (1 : Int64))) (z : Int64) (hz : z = if (b &&& (63 : Int64)) = (0 : Int64) then (0 : Int64) else (1 : Int64)) : (((b - (1 : Int64)) / (64 : Int64)) + (1 : Int64)) = (((b.toUInt64 >>> ((6 : Int32) &&& 0x3f).toInt64.toUInt64).toInt64) + z) := by
  have h1 := c_maskL b 63 6 (by decide) (by decide)
  have h2 := c_lsub b 1
  have h3 := rng64 b
  have h4 := rng64 (b - 1)
  have e0 : (0 : Int64).toInt = 0 := by decide
  have e1 : (1 : Int64).toInt = 1 := by decide
  rw [Int64.lt_iff_toInt_lt] at hb
  have h5 := (c_ldiv (b - 1) 64 64 (by decide) (by decide)).1 (by omega)
  have h6 := c_lushr b 6 6 (by decide) (by decide)
  have h7 := c_ladd ((b - 1) / 64) 1
  have h8 := c_ladd ((b.toUInt64 >>> ((6 : Int32) &&& 0x3f).toInt64.toUInt64).toInt64) z
  have h9 := rng64 (((b - 1) / 64) + 1)
  have h10 := rng64 (((b.toUInt64 >>> ((6 : Int32) &&& 0x3f).toInt64.toUInt64).toInt64) + z)
  rw [← Int64.toInt_inj]
  by_cases hm : (b &&& (63 : Int64)) = (0 : Int64)
  · rw [if_pos hm] at hz; subst hz
    rw [← Int64.toInt_inj] at hm
    omega
  · rw [if_neg hm] at hz; subst hz
    rw [← Int64.toInt_inj] at hm
    omega
theorem own_wC (b : Int64) (hb : ¬ (b < (1 : Int64))) (z : Int64) (hz : z = if (b &&& (15 : Int64)) = (0 : Int64) then (0 : Int64) else (1 : Int64)) : (((b - (1 : Int64)) / (16 : Int64)) + (1 : Int64)) = (((b.toUInt64 >>> ((4 : Int32) &&& 0x3f).toInt64.toUInt64).toInt64) + z) := by
  have h1 := c_maskL b 15 4 (by decide) (by decide)
  have h2 := c_lsub b 1
  have h3 := rng64 b
  have h4 := rng64 (b - 1)
  have e0 : (0 : Int64).toInt = 0 := by decide
  have e1 : (1 : Int64).toInt = 1 := by decide
  rw [Int64.lt_iff_toInt_lt] at hb
  have h5 := (c_ldiv (b - 1) 16 16 (by decide) (by decide)).1 (by omega)
  have h6 := c_lushr b 4 4 (by decide) (by decide)
  have h7 := c_ladd ((b - 1) / 16) 1
  have h8 := c_ladd ((b.toUInt64 >>> ((4 : Int32) &&& 0x3f).toInt64.toUInt64).toInt64) z
  have h9 := rng64 (((b - 1) / 16) + 1)
  have h10 := rng64 (((b.toUInt64 >>> ((4 : Int32) &&& 0x3f).toInt64.toUInt64).toInt64) + z)
  rw [← Int64.toInt_inj]
  by_cases hm : (b &&& (15 : Int64)) = (0 : Int64)
  · rw [if_pos hm] at hz; subst hz
    rw [← Int64.toInt_inj] at hm
    omega
  · rw [if_neg hm] at hz; subst hz
    rw [← Int64.toInt_inj] at hm
    omega
theorem pd_3 : parseMethodDescriptor "(JI)V" = some ⟨[.long, .int], none⟩ := by decide +kernel
theorem pd_4 : parseMethodDescriptor "(Lcom/example/generous_sieve/generoussieve/math/Shape;)J" = some ⟨[(.object "com/example/generous_sieve/generoussieve/math/Shape")], some .long⟩ := by decide +kernel
theorem pn_3 : plainName "com/example/generous_sieve/generoussieve/format/FilterKindWordsPinLaw" = true := by first | (simp [plainName, overriddenIn]; done) | decide +kernel
theorem ef_rm0 (m : MethodId) (x0 : Int64) (x1 : Int32) (x2 : Int32) : entryFrame m #[(.long x0), (.int x1), (.int x2)] maxLocals = mkF m 0 #[.val (.long x0), .second, .val (.int x1), .val (.int x2), .unset, .unset, .unset, .unset, .unset, .unset, .unset, .unset, .unset, .unset, .unset, .unset, .unset] [] := by first | (simp [entryFrame, mkF, argsToLocals, Value.category, maxLocals]; done) | rfl
def Qrm0 (Z : State) (q : Int64) (p1 : Int32) (p2 : Int32) (aC : Addr) (aP : Addr) (h0 : Heap) (n0 : Nat) (v : Option Value) (h : Heap) (L : List Loc) : Prop := v = some (.int 1) ∧ Fr n0 L ∧ Keep h0 h []
set_option maxRecDepth 65536 in
set_option maxHeartbeats 40000000 in
theorem rm0 (l : Launch) (Z : State) (a0 : Array Value) (hw : ∀ d ∈ tables_1, d.before a0 Z = true) (ws : List Jvm.Cond) (q : Int64) (p1 : Int32) (p2 : Int32) (aC : Addr) (aP : Addr) (h0 : Heap) (n0 : Nat) (O : Old Z n0 h0) (S_FilterKind_COUNTING : Sta Z Z.heap "com/example/generous_sieve/generoussieve/format/FilterKind" "COUNTING" "Lcom/example/generous_sieve/generoussieve/format/FilterKind;" (.ref aC)) (E_aC : Exa Z Z.heap aC "com/example/generous_sieve/generoussieve/format/FilterKind") (F_aC_FilterKind_cellBits : Fld Z Z.heap aC "com/example/generous_sieve/generoussieve/format/FilterKind" "cellBits" "I" (.int 4)) (S_FilterKind_PLAIN : Sta Z Z.heap "com/example/generous_sieve/generoussieve/format/FilterKind" "PLAIN" "Lcom/example/generous_sieve/generoussieve/format/FilterKind;" (.ref aP)) (E_aP : Exa Z Z.heap aP "com/example/generous_sieve/generoussieve/format/FilterKind") (F_aP_FilterKind_cellBits : Fld Z Z.heap aP "com/example/generous_sieve/generoussieve/format/FilterKind" "cellBits" "I" (.int 1)) :
    MetFree l x (head1 (Jvm.Cond.code x code maxLocals ret :: ws) room_1) (fun a' U' => a' = #[(.long q), (.int p1), (.int p2)] ∧ Z.Warmed39 U'.vm ∧ U'.heap = h0) (fun _ _ _ _ _ => True) (fun _ U' o' W' => ∃ v' L', o' = .returned v' ∧ Qrm0 Z q p1 p2 aC aP h0 n0 v' W'.heap L' ∧ FrameEnd U' o' W' L' 1 2) := by
  refine MetFree.of_bodySF (plainFor_of_name pn_3) hisR ?_
  intro p e s m args below meth c s₁ Bd hml0 hP hK
  obtain ⟨rfl, hZ, hh⟩ := hP
  have hx := Bd.exec
  have hby := Bd.bytes
  have hml : c.maxLocals = 17 := hml0
  have hown : s.vm.findClass "com/example/generous_sieve/generoussieve/format/FilterKindWordsPinLaw" = some m.cls := findClass_of_methodNamed Bd.named
  have hnm := (name_of_methodNamed Bd.named Bd.method).1
  have X0 : Stand p l e room_1 s m #[(.long q), (.int p1), (.int p2)] below meth c s₁ [] 0 0 := Stand.of_body Bd
  have e0 : s₁.heap = h0 := by rw [← hh, Bd.state]; rfl
  have N0 := Fr.nil n0
  have K0 := Keep.refl h0 []
  refine own_start (ef_rm0 m q p1 p2) (Q := fun o' t' => ∃ v' L', o' = .returned v' ∧ Qrm0 Z q p1 p2 aC aP h0 n0 v' t'.heap L' ∧ FrameEnd s o' t' L' 1 2) ?_
  show own_Fin p e below (s₁.setTop (mkF m 0 #[.val (.long q), .second, .val (.int p1), .val (.int p2), .unset, .unset, .unset, .unset, .unset, .unset, .unset, .unset, .unset, .unset, .unset, .unset, .unset] [])) _
  refine own_go (fun _ k => XS.lloadN X0.here hx rfl (hb hby at_0) rfl k) ?_
  show own_Fin p e below (s₁.setTop (mkF m 1 #[.val (.long q), .second, .val (.int p1), .val (.int p2), .unset, .unset, .unset, .unset, .unset, .unset, .unset, .unset, .unset, .unset, .unset, .unset, .unset] [(.long q)])) _
  refine own_go (fun _ k => X0.ldc2Long hx hown (mvT hZ (ow hw 0)) (g := (mkF m 1 #[.val (.long q), .second, .val (.int p1), .val (.int p2), .unset, .unset, .unset, .unset, .unset, .unset, .unset, .unset, .unset, .unset, .unset, .unset, .unset] [(.long q)])) rfl (hb hby at_1) _ k) ?_
  show own_Fin p e below (s₁.setTop (mkF m 4 #[.val (.long q), .second, .val (.int p1), .val (.int p2), .unset, .unset, .unset, .unset, .unset, .unset, .unset, .unset, .unset, .unset, .unset, .unset, .unset] [(.long (9223372036854775807 : Int64)), (.long q)])) _
  refine own_go (fun _ k => XS.land X0.here hx rfl (hb hby at_4) rfl (XS.lstore X0.here hx rfl (hb hby at_5) rfl (l' := #[.val (.long q), .second, .val (.int p1), .val (.int p2), .val (.long (q &&& (9223372036854775807 : Int64))), .second, .unset, .unset, .unset, .unset, .unset, .unset, .unset, .unset, .unset, .unset, .unset]) rfl k)) ?_
  show own_Fin p e below (s₁.setTop (mkF m 7 #[.val (.long q), .second, .val (.int p1), .val (.int p2), .val (.long (q &&& (9223372036854775807 : Int64))), .second, .unset, .unset, .unset, .unset, .unset, .unset, .unset, .unset, .unset, .unset, .unset] [])) _
  have jn : ∀ (bq : Int64), ¬ (bq < (1 : Int64)) → own_Fin p e below (s₁.setTop (mkF m 17 #[.val (.long q), .second, .val (.int p1), .val (.int p2), .val (.long bq), .second, .unset, .unset, .unset, .unset, .unset, .unset, .unset, .unset, .unset, .unset, .unset] [])) (fun o' t' => ∃ v' L', o' = .returned v' ∧ Qrm0 Z q p1 p2 aC aP h0 n0 v' t'.heap L' ∧ FrameEnd s o' t' L' 1 2) := by
   intro bq hbq
   show own_Fin p e below (s₁.setTop (mkF m 17 #[.val (.long q), .second, .val (.int p1), .val (.int p2), .val (.long bq), .second, .unset, .unset, .unset, .unset, .unset, .unset, .unset, .unset, .unset, .unset, .unset] [])) _
   refine own_go (fun _ k => XS.iloadN X0.here hx rfl (hb hby at_17) rfl (XS.bipush X0.here hx rfl (hb hby at_18) (XS.iand X0.here hx rfl (hb hby at_20) rfl (XS.iconst X0.here hx rfl (hb hby at_21) (XS.iadd X0.here hx rfl (hb hby at_22) rfl (XS.istore X0.here hx rfl (hb hby at_23) rfl (l' := #[.val (.long q), .second, .val (.int p1), .val (.int p2), .val (.long bq), .second, .val (.int ((p1 &&& (63 : Int32)) + (1 : Int32))), .unset, .unset, .unset, .unset, .unset, .unset, .unset, .unset, .unset, .unset]) rfl (XS.iloadN X0.here hx rfl (hb hby at_25) rfl (XS.iconst X0.here hx rfl (hb hby at_26) (XS.iand X0.here hx rfl (hb hby at_27) rfl k))))))))) ?_
   show own_Fin p e below (s₁.setTop (mkF m 28 #[.val (.long q), .second, .val (.int p1), .val (.int p2), .val (.long bq), .second, .val (.int ((p1 &&& (63 : Int32)) + (1 : Int32))), .unset, .unset, .unset, .unset, .unset, .unset, .unset, .unset, .unset, .unset] [(.int (p2 &&& (1 : Int32)))])) _
   by_cases hc28_21 : (p2 &&& (1 : Int32)) = (0 : Int32)
   ·refine own_go (fun _ k => XS.ifNo X0.here hx rfl (hb hby at_28) rfl ((if0 _ _).trans (teq hc28_21).2) (XS.iconst X0.here hx rfl (hb hby at_31) (XS.goto X0.here hx rfl (pc0 := 32) (pc' := 36) rfl (hb hby at_32) (by decide) (by decide) (XS.istore X0.here hx rfl (hb hby at_36) rfl (l' := #[.val (.long q), .second, .val (.int p1), .val (.int p2), .val (.long bq), .second, .val (.int ((p1 &&& (63 : Int32)) + (1 : Int32))), .val (.int 1), .unset, .unset, .unset, .unset, .unset, .unset, .unset, .unset, .unset]) rfl (XS.iload X0.here hx rfl (hb hby at_38) rfl (XS.ifNo X0.here hx rfl (hb hby at_40) rfl ((if0 _ _).trans (feq (by decide : ¬ ((1 : Int32) = (0 : Int32)))).1) k)))))) ?_
    show own_Fin p e below (s₁.setTop (mkF m 43 #[.val (.long q), .second, .val (.int p1), .val (.int p2), .val (.long bq), .second, .val (.int ((p1 &&& (63 : Int32)) + (1 : Int32))), .val (.int 1), .unset, .unset, .unset, .unset, .unset, .unset, .unset, .unset, .unset] [])) _
    obtain ⟨T22, X22, e22, st22⟩ := getS2 X0 hx hZ hown (host := "") (Or.inl (ow hw 39)) Via.refl e0 (S_FilterKind_PLAIN.ext O.2) (g := (mkF m 43 #[.val (.long q), .second, .val (.int p1), .val (.int p2), .val (.long bq), .second, .val (.int ((p1 &&& (63 : Int32)) + (1 : Int32))), .val (.int 1), .unset, .unset, .unset, .unset, .unset, .unset, .unset, .unset, .unset] [])) rfl (hb hby at_43)
    refine own_go (fun _ k => st22 _ k) ?_
    show own_Fin p e below (T22.setTop (mkF m 46 #[.val (.long q), .second, .val (.int p1), .val (.int p2), .val (.long bq), .second, .val (.int ((p1 &&& (63 : Int32)) + (1 : Int32))), .val (.int 1), .unset, .unset, .unset, .unset, .unset, .unset, .unset, .unset, .unset] [(.ref aP)])) _
    refine own_go (fun _ k => XS.goto X22.here hx rfl (pc0 := 46) (pc' := 52) rfl (hb hby at_46) (by decide) (by decide) (XS.astore X22.here hx rfl (hb hby at_52) rfl rfl (l' := #[.val (.long q), .second, .val (.int p1), .val (.int p2), .val (.long bq), .second, .val (.int ((p1 &&& (63 : Int32)) + (1 : Int32))), .val (.int 1), .val (.ref aP), .unset, .unset, .unset, .unset, .unset, .unset, .unset, .unset]) rfl k)) ?_
    show own_Fin p e below (T22.setTop (mkF m 54 #[.val (.long q), .second, .val (.int p1), .val (.int p2), .val (.long bq), .second, .val (.int ((p1 &&& (63 : Int32)) + (1 : Int32))), .val (.int 1), .val (.ref aP), .unset, .unset, .unset, .unset, .unset, .unset, .unset, .unset] [])) _
    obtain ⟨T23, h23, X23, e23, E23, A23, D23, -, st23⟩ := newO X22 hx hZ hown (ow hw 4) (ow hw 5) (ow hw 6) e22 (g := (mkF m 54 #[.val (.long q), .second, .val (.int p1), .val (.int p2), .val (.long bq), .second, .val (.int ((p1 &&& (63 : Int32)) + (1 : Int32))), .val (.int 1), .val (.ref aP), .unset, .unset, .unset, .unset, .unset, .unset, .unset, .unset] [])) rfl (hb hby at_54) (by decide) (by decide)
    obtain ⟨b23, g23⟩ : ∃ z, z = h0.size := ⟨_, rfl⟩
    rw [← g23] at A23 D23 st23
    refine own_go (fun _ k => st23 _ k) ?_
    have g_b23 : n0 ≤ b23 := Nat.le_trans (own_osz O) (Nat.le_of_eq g23.symm)
    have sz_b23 : h0.size ≤ b23 := Nat.le_trans K0.1 (Nat.le_of_eq g23.symm)
    have O := O.ext E23
    have K24 := K0.ext E23
    have E_b23 := A23
    have F_b23_Shape_bits : Fld Z h23 b23 "com/example/generous_sieve/generoussieve/math/Shape" "bits" "J" (.long (0 : Int64)) := D23 (Or.inr (ow hw 19)) (ty := .long) (by decide)
    have F_b23_Shape_hashes : Fld Z h23 b23 "com/example/generous_sieve/generoussieve/math/Shape" "hashes" "I" (.int 0) := D23 (Or.inr (ow hw 21)) (ty := .int) (by decide)
    show own_Fin p e below (T23.setTop (mkF m 57 #[.val (.long q), .second, .val (.int p1), .val (.int p2), .val (.long bq), .second, .val (.int ((p1 &&& (63 : Int32)) + (1 : Int32))), .val (.int 1), .val (.ref aP), .unset, .unset, .unset, .unset, .unset, .unset, .unset, .unset] [(.ref b23)])) _
    refine own_go (fun _ k => XS.dup X23.here hx rfl (hb hby at_57) rfl rfl (XS.lload X23.here hx rfl (hb hby at_58) rfl (XS.iload X23.here hx rfl (hb hby at_60) rfl k))) ?_
    show own_Fin p e below (T23.setTop (mkF m 62 #[.val (.long q), .second, .val (.int p1), .val (.int p2), .val (.long bq), .second, .val (.int ((p1 &&& (63 : Int32)) + (1 : Int32))), .val (.int 1), .val (.ref aP), .unset, .unset, .unset, .unset, .unset, .unset, .unset, .unset] [(.int ((p1 &&& (63 : Int32)) + (1 : Int32))), (.long bq), (.ref b23), (.ref b23)])) _
    obtain ⟨_, _, ⟨T25, L25, k25, n25⟩, -, X25, ⟨Lc25, hQ25, l25, y25, z25⟩, st25⟩ := X23.specialBack hx (y := (⟨"com/example/generous_sieve/generoussieve/math/Shape", "<init>", "(JI)V"⟩ : MethodName)) rfl hown (mvT hZ (ow hw 7)) (mvT hZ (ow hw 8)) (mvT hZ (ow hw 9)) (by decide) (backOf (W := 1) (rm1 l Z a0 hw [] b23 bq ((p1 &&& (63 : Int32)) + (1 : Int32)) h23 n0 O E_b23 F_b23_Shape_bits F_b23_Shape_hashes g_b23 hbq (own_h1 _) (own_h2 _)) hZ (ow hw 9) (ow hw 6) (by decide) (by decide)) (g := (mkF m 62 #[.val (.long q), .second, .val (.int p1), .val (.int p2), .val (.long bq), .second, .val (.int ((p1 &&& (63 : Int32)) + (1 : Int32))), .val (.int 1), .val (.ref aP), .unset, .unset, .unset, .unset, .unset, .unset, .unset, .unset] [(.int ((p1 &&& (63 : Int32)) + (1 : Int32))), (.long bq), (.ref b23), (.ref b23)])) rfl (by rw [hml]; rfl) (Steps.refl _) (a := b23) (argsL := [(.long bq), (.int ((p1 &&& (63 : Int32)) + (1 : Int32)))]) (rest := [(.ref b23)]) (lenOf pd_3 rfl) rfl (by show 2 * 0 + _ ≤ _; exact Nat.le_of_eq rfl) (hb hby at_62) (fun _ _ => ⟨rfl, e23, (by decide : 1 + 0 ≤ _), (by decide : 2 + 0 ≤ _)⟩)
    dsimp only [Pt.U, Pt.locs, Pt.cells, Pt.slots] at X25 l25 y25 z25 st25 hQ25
    subst l25 y25 z25
    obtain ⟨rfl, N25q, Kq25, P25_0, P25_1⟩ := hQ25
    refine own_go (fun _ k => st25.trans k) ?_
    have N25 := Fr.app N0 N25q
    have E_b23 := E_b23.keep Kq25
    clear F_b23_Shape_bits
    clear F_b23_Shape_hashes
    have O := O.keep Kq25 (allS g_b23 all0)
    have K26 := K24.trans Kq25 (allS (Or.inr sz_b23) all0)
    have E_b23 := P25_0
    have F_b23_Shape_bits := P25_1
    show own_Fin p e below (T25.setTop (mkF m 65 #[.val (.long q), .second, .val (.int p1), .val (.int p2), .val (.long bq), .second, .val (.int ((p1 &&& (63 : Int32)) + (1 : Int32))), .val (.int 1), .val (.ref aP), .unset, .unset, .unset, .unset, .unset, .unset, .unset, .unset] [(.ref b23)])) _
    refine own_go (fun _ k => XS.astore X25.here hx rfl (hb hby at_65) rfl rfl (l' := #[.val (.long q), .second, .val (.int p1), .val (.int p2), .val (.long bq), .second, .val (.int ((p1 &&& (63 : Int32)) + (1 : Int32))), .val (.int 1), .val (.ref aP), .val (.ref b23), .unset, .unset, .unset, .unset, .unset, .unset, .unset]) rfl (XS.aload X25.here hx rfl (hb hby at_67) rfl rfl (XS.aload X25.here hx rfl (hb hby at_69) rfl rfl k))) ?_
    show own_Fin p e below (T25.setTop (mkF m 71 #[.val (.long q), .second, .val (.int p1), .val (.int p2), .val (.long bq), .second, .val (.int ((p1 &&& (63 : Int32)) + (1 : Int32))), .val (.int 1), .val (.ref aP), .val (.ref b23), .unset, .unset, .unset, .unset, .unset, .unset, .unset] [(.ref b23), (.ref aP)])) _
    obtain ⟨cq27, kq27, q27a, q27b, q27c⟩ := isOf hZ rfl (E_aP.ext O.2)
    obtain ⟨_, _, ⟨T27, L27, k27, n27⟩, -, X27, ⟨Lc27, hQ27, l27, y27, z27⟩, st27⟩ := X25.virtualBack hx (y := (⟨"com/example/generous_sieve/generoussieve/format/FilterKind", "words", "(Lcom/example/generous_sieve/generoussieve/math/Shape;)J"⟩ : MethodName)) (z := (⟨"com/example/generous_sieve/generoussieve/format/FilterKind", "words", "(Lcom/example/generous_sieve/generoussieve/math/Shape;)J"⟩ : MethodName)) hown (mvT hZ (ow hw 22)) (mvT hZ (ow hw 23)) (notFace_of_selects (args := #[]) (mvT hZ (ow hw 25))) (mvT hZ (ow hw 25)) (mvT hZ (ow hw 24)) (by decide) (backOf (W := 0) (rmwP l Z a0 hw [] aP b23 bq (T25.heap) n0 O (E_aP.ext O.2) E_b23 F_b23_Shape_bits (F_aP_FilterKind_cellBits.ext O.2)) hZ (ow hw 26) (ow hw 2) (by decide) (by decide)) q27a q27c (g := (mkF m 71 #[.val (.long q), .second, .val (.int p1), .val (.int p2), .val (.long bq), .second, .val (.int ((p1 &&& (63 : Int32)) + (1 : Int32))), .val (.int 1), .val (.ref aP), .val (.ref b23), .unset, .unset, .unset, .unset, .unset, .unset, .unset] [(.ref b23), (.ref aP)])) rfl (by rw [hml]; rfl) (Steps.refl _) (argsL := [(.ref b23)]) (rest := []) (lenOf pd_4 rfl) rfl (by show 2 * 0 + _ ≤ _; exact Nat.le_of_eq rfl) (hb hby at_71) (fun _ _ => ⟨rfl, rfl, (by decide : 1 + 0 ≤ _), (by decide : 2 + 0 ≤ _)⟩)
    dsimp only [Pt.U, Pt.locs, Pt.cells, Pt.slots] at X27 l27 y27 z27 st27 hQ27
    subst l27 y27 z27
    obtain ⟨rfl, N27q, e27⟩ := hQ27
    refine own_go (fun _ k => st27.trans k) ?_
    have N27 := Fr.app N25 N27q
    show own_Fin p e below (T27.setTop (mkF m 74 #[.val (.long q), .second, .val (.int p1), .val (.int p2), .val (.long bq), .second, .val (.int ((p1 &&& (63 : Int32)) + (1 : Int32))), .val (.int 1), .val (.ref aP), .val (.ref b23), .unset, .unset, .unset, .unset, .unset, .unset, .unset] [(.long (((bq - (1 : Int64)) / (64 : Int64)) + (1 : Int64)))])) _
    refine own_go (fun _ k => XS.lstore X27.here hx rfl (hb hby at_74) rfl (l' := #[.val (.long q), .second, .val (.int p1), .val (.int p2), .val (.long bq), .second, .val (.int ((p1 &&& (63 : Int32)) + (1 : Int32))), .val (.int 1), .val (.ref aP), .val (.ref b23), .val (.long (((bq - (1 : Int64)) / (64 : Int64)) + (1 : Int64))), .second, .unset, .unset, .unset, .unset, .unset]) rfl (XS.iload X27.here hx rfl (hb hby at_76) rfl (XS.ifNo X27.here hx rfl (hb hby at_78) rfl ((if0 _ _).trans (feq (by decide : ¬ ((1 : Int32) = (0 : Int32)))).1) (XS.bipush X27.here hx rfl (hb hby at_81) (XS.goto X27.here hx rfl (pc0 := 83) (pc' := 87) rfl (hb hby at_83) (by decide) (by decide) (XS.istore X27.here hx rfl (hb hby at_87) rfl (l' := #[.val (.long q), .second, .val (.int p1), .val (.int p2), .val (.long bq), .second, .val (.int ((p1 &&& (63 : Int32)) + (1 : Int32))), .val (.int 1), .val (.ref aP), .val (.ref b23), .val (.long (((bq - (1 : Int64)) / (64 : Int64)) + (1 : Int64))), .second, .val (.int 6), .unset, .unset, .unset, .unset]) rfl (XS.iload X27.here hx rfl (hb hby at_89) rfl (XS.ifNo X27.here hx rfl (hb hby at_91) rfl ((if0 _ _).trans (feq (by decide : ¬ ((1 : Int32) = (0 : Int32)))).1) k)))))))) ?_
    show own_Fin p e below (T27.setTop (mkF m 94 #[.val (.long q), .second, .val (.int p1), .val (.int p2), .val (.long bq), .second, .val (.int ((p1 &&& (63 : Int32)) + (1 : Int32))), .val (.int 1), .val (.ref aP), .val (.ref b23), .val (.long (((bq - (1 : Int64)) / (64 : Int64)) + (1 : Int64))), .second, .val (.int 6), .unset, .unset, .unset, .unset] [])) _
    refine own_go (fun _ k => X27.ldc2Long hx hown (mvT hZ (ow hw 41)) (g := (mkF m 94 #[.val (.long q), .second, .val (.int p1), .val (.int p2), .val (.long bq), .second, .val (.int ((p1 &&& (63 : Int32)) + (1 : Int32))), .val (.int 1), .val (.ref aP), .val (.ref b23), .val (.long (((bq - (1 : Int64)) / (64 : Int64)) + (1 : Int64))), .second, .val (.int 6), .unset, .unset, .unset, .unset] [])) rfl (hb hby at_94) _ k) ?_
    show own_Fin p e below (T27.setTop (mkF m 97 #[.val (.long q), .second, .val (.int p1), .val (.int p2), .val (.long bq), .second, .val (.int ((p1 &&& (63 : Int32)) + (1 : Int32))), .val (.int 1), .val (.ref aP), .val (.ref b23), .val (.long (((bq - (1 : Int64)) / (64 : Int64)) + (1 : Int64))), .second, .val (.int 6), .unset, .unset, .unset, .unset] [(.long (63 : Int64))])) _
    refine own_go (fun _ k => XS.goto X27.here hx rfl (pc0 := 97) (pc' := 103) rfl (hb hby at_97) (by decide) (by decide) (XS.lstore X27.here hx rfl (hb hby at_103) rfl (l' := #[.val (.long q), .second, .val (.int p1), .val (.int p2), .val (.long bq), .second, .val (.int ((p1 &&& (63 : Int32)) + (1 : Int32))), .val (.int 1), .val (.ref aP), .val (.ref b23), .val (.long (((bq - (1 : Int64)) / (64 : Int64)) + (1 : Int64))), .second, .val (.int 6), .val (.long (63 : Int64)), .second, .unset, .unset]) rfl (XS.lload X27.here hx rfl (hb hby at_105) rfl (XS.iload X27.here hx rfl (hb hby at_107) rfl (XS.lushr X27.here hx rfl (hb hby at_109) rfl (XS.lload X27.here hx rfl (hb hby at_110) rfl (XS.lload X27.here hx rfl (hb hby at_112) rfl (XS.land X27.here hx rfl (hb hby at_114) rfl (XS.lconst X27.here hx rfl (hb hby at_115) (XS.lcmp X27.here hx rfl (hb hby at_116) rfl k)))))))))) ?_
    show own_Fin p e below (T27.setTop (mkF m 117 #[.val (.long q), .second, .val (.int p1), .val (.int p2), .val (.long bq), .second, .val (.int ((p1 &&& (63 : Int32)) + (1 : Int32))), .val (.int 1), .val (.ref aP), .val (.ref b23), .val (.long (((bq - (1 : Int64)) / (64 : Int64)) + (1 : Int64))), .second, .val (.int 6), .val (.long (63 : Int64)), .second, .unset, .unset] [(.int (lcmpW (bq &&& (63 : Int64)) (0 : Int64))), (.long ((bq.toUInt64 >>> ((6 : Int32) &&& 0x3f).toInt64.toUInt64).toInt64))])) _
    by_cases hc117_28 : (bq &&& (63 : Int64)) = (0 : Int64)
    ·refine own_go (fun _ k => XS.ifYes X27.here hx rfl (pc0 := 117) (pc' := 124) rfl (hb hby at_117) rfl ((if0 _ _).trans (teq ((lw_eq _ _).mpr hc117_28)).1) (by decide) (by decide) (XS.lconst X27.here hx rfl (hb hby at_124) (XS.ladd X27.here hx rfl (hb hby at_125) rfl (XS.lstore X27.here hx rfl (hb hby at_126) rfl (l' := #[.val (.long q), .second, .val (.int p1), .val (.int p2), .val (.long bq), .second, .val (.int ((p1 &&& (63 : Int32)) + (1 : Int32))), .val (.int 1), .val (.ref aP), .val (.ref b23), .val (.long (((bq - (1 : Int64)) / (64 : Int64)) + (1 : Int64))), .second, .val (.int 6), .val (.long (63 : Int64)), .second, .val (.long (((bq.toUInt64 >>> ((6 : Int32) &&& 0x3f).toInt64.toUInt64).toInt64) + (0 : Int64))), .second]) rfl (XS.lload X27.here hx rfl (hb hby at_128) rfl (XS.lload X27.here hx rfl (hb hby at_130) rfl (XS.lcmp X27.here hx rfl (hb hby at_132) rfl (XS.ifNo X27.here hx rfl (hb hby at_133) rfl ((if0 _ _).trans (teq ((lw_eq _ _).mpr (own_wP bq hbq _ (by simp [hc117_28]) : (((bq - (1 : Int64)) / (64 : Int64)) + (1 : Int64)) = (((bq.toUInt64 >>> ((6 : Int32) &&& 0x3f).toInt64.toUInt64).toInt64) + (0 : Int64))))).2) (XS.iconst X27.here hx rfl (hb hby at_136) (XS.goto X27.here hx rfl (pc0 := 137) (pc' := 141) rfl (hb hby at_137) (by decide) (by decide) k)))))))))) ?_
     show own_Fin p e below (T27.setTop (mkF m 141 #[.val (.long q), .second, .val (.int p1), .val (.int p2), .val (.long bq), .second, .val (.int ((p1 &&& (63 : Int32)) + (1 : Int32))), .val (.int 1), .val (.ref aP), .val (.ref b23), .val (.long (((bq - (1 : Int64)) / (64 : Int64)) + (1 : Int64))), .second, .val (.int 6), .val (.long (63 : Int64)), .second, .val (.long (((bq.toUInt64 >>> ((6 : Int32) &&& 0x3f).toInt64.toUInt64).toInt64) + (0 : Int64))), .second] [(.int 1)])) _
     obtain ⟨fs, hr, hrun, hended, hW, hsame⟩ := X27.leave (v := some (.int 1)) (fun h => by rw [Bd.returns] at h; cases h)
     refine ⟨_, _, ?_, hrun, hended, _, _, rfl, ?_, ⟨_, rfl⟩, hW, hsame.mono (by decide) (by decide)⟩
     ·exact retN X27 hx (t := .boolean) Bd.returns (by simp) (hb hby at_141) hr
     ·show Qrm0 Z q p1 p2 aC aP h0 n0 _ T27.heap _
      rw [e27]
      exact ⟨rfl, N27, K26⟩
    ·refine own_go (fun _ k => XS.ifNo X27.here hx rfl (hb hby at_117) rfl ((if0 _ _).trans (feq (fun q => hc117_28 ((lw_eq _ _).mp q))).1) (XS.lconst X27.here hx rfl (hb hby at_120) (XS.goto X27.here hx rfl (pc0 := 121) (pc' := 125) rfl (hb hby at_121) (by decide) (by decide) (XS.ladd X27.here hx rfl (hb hby at_125) rfl (XS.lstore X27.here hx rfl (hb hby at_126) rfl (l' := #[.val (.long q), .second, .val (.int p1), .val (.int p2), .val (.long bq), .second, .val (.int ((p1 &&& (63 : Int32)) + (1 : Int32))), .val (.int 1), .val (.ref aP), .val (.ref b23), .val (.long (((bq - (1 : Int64)) / (64 : Int64)) + (1 : Int64))), .second, .val (.int 6), .val (.long (63 : Int64)), .second, .val (.long (((bq.toUInt64 >>> ((6 : Int32) &&& 0x3f).toInt64.toUInt64).toInt64) + (1 : Int64))), .second]) rfl (XS.lload X27.here hx rfl (hb hby at_128) rfl (XS.lload X27.here hx rfl (hb hby at_130) rfl (XS.lcmp X27.here hx rfl (hb hby at_132) rfl (XS.ifNo X27.here hx rfl (hb hby at_133) rfl ((if0 _ _).trans (teq ((lw_eq _ _).mpr (own_wP bq hbq _ (by simp [hc117_28]) : (((bq - (1 : Int64)) / (64 : Int64)) + (1 : Int64)) = (((bq.toUInt64 >>> ((6 : Int32) &&& 0x3f).toInt64.toUInt64).toInt64) + (1 : Int64))))).2) (XS.iconst X27.here hx rfl (hb hby at_136) k)))))))))) ?_
     show own_Fin p e below (T27.setTop (mkF m 137 #[.val (.long q), .second, .val (.int p1), .val (.int p2), .val (.long bq), .second, .val (.int ((p1 &&& (63 : Int32)) + (1 : Int32))), .val (.int 1), .val (.ref aP), .val (.ref b23), .val (.long (((bq - (1 : Int64)) / (64 : Int64)) + (1 : Int64))), .second, .val (.int 6), .val (.long (63 : Int64)), .second, .val (.long (((bq.toUInt64 >>> ((6 : Int32) &&& 0x3f).toInt64.toUInt64).toInt64) + (1 : Int64))), .second] [(.int 1)])) _
     refine own_go (fun _ k => XS.goto X27.here hx rfl (pc0 := 137) (pc' := 141) rfl (hb hby at_137) (by decide) (by decide) k) ?_
     show own_Fin p e below (T27.setTop (mkF m 141 #[.val (.long q), .second, .val (.int p1), .val (.int p2), .val (.long bq), .second, .val (.int ((p1 &&& (63 : Int32)) + (1 : Int32))), .val (.int 1), .val (.ref aP), .val (.ref b23), .val (.long (((bq - (1 : Int64)) / (64 : Int64)) + (1 : Int64))), .second, .val (.int 6), .val (.long (63 : Int64)), .second, .val (.long (((bq.toUInt64 >>> ((6 : Int32) &&& 0x3f).toInt64.toUInt64).toInt64) + (1 : Int64))), .second] [(.int 1)])) _
     obtain ⟨fs, hr, hrun, hended, hW, hsame⟩ := X27.leave (v := some (.int 1)) (fun h => by rw [Bd.returns] at h; cases h)
     refine ⟨_, _, ?_, hrun, hended, _, _, rfl, ?_, ⟨_, rfl⟩, hW, hsame.mono (by decide) (by decide)⟩
     ·exact retN X27 hx (t := .boolean) Bd.returns (by simp) (hb hby at_141) hr
     ·show Qrm0 Z q p1 p2 aC aP h0 n0 _ T27.heap _
      rw [e27]
      exact ⟨rfl, N27, K26⟩
   ·refine own_go (fun _ k => XS.ifYes X0.here hx rfl (pc0 := 28) (pc' := 35) rfl (hb hby at_28) rfl ((if0 _ _).trans (feq hc28_21).2) (by decide) (by decide) (XS.iconst X0.here hx rfl (hb hby at_35) (XS.istore X0.here hx rfl (hb hby at_36) rfl (l' := #[.val (.long q), .second, .val (.int p1), .val (.int p2), .val (.long bq), .second, .val (.int ((p1 &&& (63 : Int32)) + (1 : Int32))), .val (.int 0), .unset, .unset, .unset, .unset, .unset, .unset, .unset, .unset, .unset]) rfl (XS.iload X0.here hx rfl (hb hby at_38) rfl (XS.ifYes X0.here hx rfl (pc0 := 40) (pc' := 49) rfl (hb hby at_40) rfl ((if0 _ _).trans (teq (by decide : (0 : Int32) = (0 : Int32))).1) (by decide) (by decide) k))))) ?_
    show own_Fin p e below (s₁.setTop (mkF m 49 #[.val (.long q), .second, .val (.int p1), .val (.int p2), .val (.long bq), .second, .val (.int ((p1 &&& (63 : Int32)) + (1 : Int32))), .val (.int 0), .unset, .unset, .unset, .unset, .unset, .unset, .unset, .unset, .unset] [])) _
    obtain ⟨T31, X31, e31, st31⟩ := getS2 X0 hx hZ hown (host := "") (Or.inl (ow hw 1)) Via.refl e0 (S_FilterKind_COUNTING.ext O.2) (g := (mkF m 49 #[.val (.long q), .second, .val (.int p1), .val (.int p2), .val (.long bq), .second, .val (.int ((p1 &&& (63 : Int32)) + (1 : Int32))), .val (.int 0), .unset, .unset, .unset, .unset, .unset, .unset, .unset, .unset, .unset] [])) rfl (hb hby at_49)
    refine own_go (fun _ k => st31 _ k) ?_
    show own_Fin p e below (T31.setTop (mkF m 52 #[.val (.long q), .second, .val (.int p1), .val (.int p2), .val (.long bq), .second, .val (.int ((p1 &&& (63 : Int32)) + (1 : Int32))), .val (.int 0), .unset, .unset, .unset, .unset, .unset, .unset, .unset, .unset, .unset] [(.ref aC)])) _
    refine own_go (fun _ k => XS.astore X31.here hx rfl (hb hby at_52) rfl rfl (l' := #[.val (.long q), .second, .val (.int p1), .val (.int p2), .val (.long bq), .second, .val (.int ((p1 &&& (63 : Int32)) + (1 : Int32))), .val (.int 0), .val (.ref aC), .unset, .unset, .unset, .unset, .unset, .unset, .unset, .unset]) rfl k) ?_
    show own_Fin p e below (T31.setTop (mkF m 54 #[.val (.long q), .second, .val (.int p1), .val (.int p2), .val (.long bq), .second, .val (.int ((p1 &&& (63 : Int32)) + (1 : Int32))), .val (.int 0), .val (.ref aC), .unset, .unset, .unset, .unset, .unset, .unset, .unset, .unset] [])) _
    obtain ⟨T32, h32, X32, e32, E32, A32, D32, -, st32⟩ := newO X31 hx hZ hown (ow hw 4) (ow hw 5) (ow hw 6) e31 (g := (mkF m 54 #[.val (.long q), .second, .val (.int p1), .val (.int p2), .val (.long bq), .second, .val (.int ((p1 &&& (63 : Int32)) + (1 : Int32))), .val (.int 0), .val (.ref aC), .unset, .unset, .unset, .unset, .unset, .unset, .unset, .unset] [])) rfl (hb hby at_54) (by decide) (by decide)
    obtain ⟨b32, g32⟩ : ∃ z, z = h0.size := ⟨_, rfl⟩
    rw [← g32] at A32 D32 st32
    refine own_go (fun _ k => st32 _ k) ?_
    have g_b32 : n0 ≤ b32 := Nat.le_trans (own_osz O) (Nat.le_of_eq g32.symm)
    have sz_b32 : h0.size ≤ b32 := Nat.le_trans K0.1 (Nat.le_of_eq g32.symm)
    have O := O.ext E32
    have K33 := K0.ext E32
    have E_b32 := A32
    have F_b32_Shape_bits : Fld Z h32 b32 "com/example/generous_sieve/generoussieve/math/Shape" "bits" "J" (.long (0 : Int64)) := D32 (Or.inr (ow hw 19)) (ty := .long) (by decide)
    have F_b32_Shape_hashes : Fld Z h32 b32 "com/example/generous_sieve/generoussieve/math/Shape" "hashes" "I" (.int 0) := D32 (Or.inr (ow hw 21)) (ty := .int) (by decide)
    show own_Fin p e below (T32.setTop (mkF m 57 #[.val (.long q), .second, .val (.int p1), .val (.int p2), .val (.long bq), .second, .val (.int ((p1 &&& (63 : Int32)) + (1 : Int32))), .val (.int 0), .val (.ref aC), .unset, .unset, .unset, .unset, .unset, .unset, .unset, .unset] [(.ref b32)])) _
    refine own_go (fun _ k => XS.dup X32.here hx rfl (hb hby at_57) rfl rfl (XS.lload X32.here hx rfl (hb hby at_58) rfl (XS.iload X32.here hx rfl (hb hby at_60) rfl k))) ?_
    show own_Fin p e below (T32.setTop (mkF m 62 #[.val (.long q), .second, .val (.int p1), .val (.int p2), .val (.long bq), .second, .val (.int ((p1 &&& (63 : Int32)) + (1 : Int32))), .val (.int 0), .val (.ref aC), .unset, .unset, .unset, .unset, .unset, .unset, .unset, .unset] [(.int ((p1 &&& (63 : Int32)) + (1 : Int32))), (.long bq), (.ref b32), (.ref b32)])) _
    obtain ⟨_, _, ⟨T34, L34, k34, n34⟩, -, X34, ⟨Lc34, hQ34, l34, y34, z34⟩, st34⟩ := X32.specialBack hx (y := (⟨"com/example/generous_sieve/generoussieve/math/Shape", "<init>", "(JI)V"⟩ : MethodName)) rfl hown (mvT hZ (ow hw 7)) (mvT hZ (ow hw 8)) (mvT hZ (ow hw 9)) (by decide) (backOf (W := 1) (rm1 l Z a0 hw [] b32 bq ((p1 &&& (63 : Int32)) + (1 : Int32)) h32 n0 O E_b32 F_b32_Shape_bits F_b32_Shape_hashes g_b32 hbq (own_h1 _) (own_h2 _)) hZ (ow hw 9) (ow hw 6) (by decide) (by decide)) (g := (mkF m 62 #[.val (.long q), .second, .val (.int p1), .val (.int p2), .val (.long bq), .second, .val (.int ((p1 &&& (63 : Int32)) + (1 : Int32))), .val (.int 0), .val (.ref aC), .unset, .unset, .unset, .unset, .unset, .unset, .unset, .unset] [(.int ((p1 &&& (63 : Int32)) + (1 : Int32))), (.long bq), (.ref b32), (.ref b32)])) rfl (by rw [hml]; rfl) (Steps.refl _) (a := b32) (argsL := [(.long bq), (.int ((p1 &&& (63 : Int32)) + (1 : Int32)))]) (rest := [(.ref b32)]) (lenOf pd_3 rfl) rfl (by show 2 * 0 + _ ≤ _; exact Nat.le_of_eq rfl) (hb hby at_62) (fun _ _ => ⟨rfl, e32, (by decide : 1 + 0 ≤ _), (by decide : 2 + 0 ≤ _)⟩)
    dsimp only [Pt.U, Pt.locs, Pt.cells, Pt.slots] at X34 l34 y34 z34 st34 hQ34
    subst l34 y34 z34
    obtain ⟨rfl, N34q, Kq34, P34_0, P34_1⟩ := hQ34
    refine own_go (fun _ k => st34.trans k) ?_
    have N34 := Fr.app N0 N34q
    have E_b32 := E_b32.keep Kq34
    clear F_b32_Shape_bits
    clear F_b32_Shape_hashes
    have O := O.keep Kq34 (allS g_b32 all0)
    have K35 := K33.trans Kq34 (allS (Or.inr sz_b32) all0)
    have E_b32 := P34_0
    have F_b32_Shape_bits := P34_1
    show own_Fin p e below (T34.setTop (mkF m 65 #[.val (.long q), .second, .val (.int p1), .val (.int p2), .val (.long bq), .second, .val (.int ((p1 &&& (63 : Int32)) + (1 : Int32))), .val (.int 0), .val (.ref aC), .unset, .unset, .unset, .unset, .unset, .unset, .unset, .unset] [(.ref b32)])) _
    refine own_go (fun _ k => XS.astore X34.here hx rfl (hb hby at_65) rfl rfl (l' := #[.val (.long q), .second, .val (.int p1), .val (.int p2), .val (.long bq), .second, .val (.int ((p1 &&& (63 : Int32)) + (1 : Int32))), .val (.int 0), .val (.ref aC), .val (.ref b32), .unset, .unset, .unset, .unset, .unset, .unset, .unset]) rfl (XS.aload X34.here hx rfl (hb hby at_67) rfl rfl (XS.aload X34.here hx rfl (hb hby at_69) rfl rfl k))) ?_
    show own_Fin p e below (T34.setTop (mkF m 71 #[.val (.long q), .second, .val (.int p1), .val (.int p2), .val (.long bq), .second, .val (.int ((p1 &&& (63 : Int32)) + (1 : Int32))), .val (.int 0), .val (.ref aC), .val (.ref b32), .unset, .unset, .unset, .unset, .unset, .unset, .unset] [(.ref b32), (.ref aC)])) _
    obtain ⟨cq36, kq36, q36a, q36b, q36c⟩ := isOf hZ rfl (E_aC.ext O.2)
    obtain ⟨_, _, ⟨T36, L36, k36, n36⟩, -, X36, ⟨Lc36, hQ36, l36, y36, z36⟩, st36⟩ := X34.virtualBack hx (y := (⟨"com/example/generous_sieve/generoussieve/format/FilterKind", "words", "(Lcom/example/generous_sieve/generoussieve/math/Shape;)J"⟩ : MethodName)) (z := (⟨"com/example/generous_sieve/generoussieve/format/FilterKind", "words", "(Lcom/example/generous_sieve/generoussieve/math/Shape;)J"⟩ : MethodName)) hown (mvT hZ (ow hw 22)) (mvT hZ (ow hw 23)) (notFace_of_selects (args := #[]) (mvT hZ (ow hw 25))) (mvT hZ (ow hw 25)) (mvT hZ (ow hw 24)) (by decide) (backOf (W := 0) (rmwC l Z a0 hw [] aC b32 bq (T34.heap) n0 O (E_aC.ext O.2) E_b32 F_b32_Shape_bits (F_aC_FilterKind_cellBits.ext O.2)) hZ (ow hw 26) (ow hw 2) (by decide) (by decide)) q36a q36c (g := (mkF m 71 #[.val (.long q), .second, .val (.int p1), .val (.int p2), .val (.long bq), .second, .val (.int ((p1 &&& (63 : Int32)) + (1 : Int32))), .val (.int 0), .val (.ref aC), .val (.ref b32), .unset, .unset, .unset, .unset, .unset, .unset, .unset] [(.ref b32), (.ref aC)])) rfl (by rw [hml]; rfl) (Steps.refl _) (argsL := [(.ref b32)]) (rest := []) (lenOf pd_4 rfl) rfl (by show 2 * 0 + _ ≤ _; exact Nat.le_of_eq rfl) (hb hby at_71) (fun _ _ => ⟨rfl, rfl, (by decide : 1 + 0 ≤ _), (by decide : 2 + 0 ≤ _)⟩)
    dsimp only [Pt.U, Pt.locs, Pt.cells, Pt.slots] at X36 l36 y36 z36 st36 hQ36
    subst l36 y36 z36
    obtain ⟨rfl, N36q, e36⟩ := hQ36
    refine own_go (fun _ k => st36.trans k) ?_
    have N36 := Fr.app N34 N36q
    show own_Fin p e below (T36.setTop (mkF m 74 #[.val (.long q), .second, .val (.int p1), .val (.int p2), .val (.long bq), .second, .val (.int ((p1 &&& (63 : Int32)) + (1 : Int32))), .val (.int 0), .val (.ref aC), .val (.ref b32), .unset, .unset, .unset, .unset, .unset, .unset, .unset] [(.long (((bq - (1 : Int64)) / (16 : Int64)) + (1 : Int64)))])) _
    refine own_go (fun _ k => XS.lstore X36.here hx rfl (hb hby at_74) rfl (l' := #[.val (.long q), .second, .val (.int p1), .val (.int p2), .val (.long bq), .second, .val (.int ((p1 &&& (63 : Int32)) + (1 : Int32))), .val (.int 0), .val (.ref aC), .val (.ref b32), .val (.long (((bq - (1 : Int64)) / (16 : Int64)) + (1 : Int64))), .second, .unset, .unset, .unset, .unset, .unset]) rfl (XS.iload X36.here hx rfl (hb hby at_76) rfl (XS.ifYes X36.here hx rfl (pc0 := 78) (pc' := 86) rfl (hb hby at_78) rfl ((if0 _ _).trans (teq (by decide : (0 : Int32) = (0 : Int32))).1) (by decide) (by decide) (XS.iconst X36.here hx rfl (hb hby at_86) (XS.istore X36.here hx rfl (hb hby at_87) rfl (l' := #[.val (.long q), .second, .val (.int p1), .val (.int p2), .val (.long bq), .second, .val (.int ((p1 &&& (63 : Int32)) + (1 : Int32))), .val (.int 0), .val (.ref aC), .val (.ref b32), .val (.long (((bq - (1 : Int64)) / (16 : Int64)) + (1 : Int64))), .second, .val (.int 4), .unset, .unset, .unset, .unset]) rfl (XS.iload X36.here hx rfl (hb hby at_89) rfl (XS.ifYes X36.here hx rfl (pc0 := 91) (pc' := 100) rfl (hb hby at_91) rfl ((if0 _ _).trans (teq (by decide : (0 : Int32) = (0 : Int32))).1) (by decide) (by decide) k))))))) ?_
    show own_Fin p e below (T36.setTop (mkF m 100 #[.val (.long q), .second, .val (.int p1), .val (.int p2), .val (.long bq), .second, .val (.int ((p1 &&& (63 : Int32)) + (1 : Int32))), .val (.int 0), .val (.ref aC), .val (.ref b32), .val (.long (((bq - (1 : Int64)) / (16 : Int64)) + (1 : Int64))), .second, .val (.int 4), .unset, .unset, .unset, .unset] [])) _
    refine own_go (fun _ k => X36.ldc2Long hx hown (mvT hZ (ow hw 38)) (g := (mkF m 100 #[.val (.long q), .second, .val (.int p1), .val (.int p2), .val (.long bq), .second, .val (.int ((p1 &&& (63 : Int32)) + (1 : Int32))), .val (.int 0), .val (.ref aC), .val (.ref b32), .val (.long (((bq - (1 : Int64)) / (16 : Int64)) + (1 : Int64))), .second, .val (.int 4), .unset, .unset, .unset, .unset] [])) rfl (hb hby at_100) _ k) ?_
    show own_Fin p e below (T36.setTop (mkF m 103 #[.val (.long q), .second, .val (.int p1), .val (.int p2), .val (.long bq), .second, .val (.int ((p1 &&& (63 : Int32)) + (1 : Int32))), .val (.int 0), .val (.ref aC), .val (.ref b32), .val (.long (((bq - (1 : Int64)) / (16 : Int64)) + (1 : Int64))), .second, .val (.int 4), .unset, .unset, .unset, .unset] [(.long (15 : Int64))])) _
    refine own_go (fun _ k => XS.lstore X36.here hx rfl (hb hby at_103) rfl (l' := #[.val (.long q), .second, .val (.int p1), .val (.int p2), .val (.long bq), .second, .val (.int ((p1 &&& (63 : Int32)) + (1 : Int32))), .val (.int 0), .val (.ref aC), .val (.ref b32), .val (.long (((bq - (1 : Int64)) / (16 : Int64)) + (1 : Int64))), .second, .val (.int 4), .val (.long (15 : Int64)), .second, .unset, .unset]) rfl (XS.lload X36.here hx rfl (hb hby at_105) rfl (XS.iload X36.here hx rfl (hb hby at_107) rfl (XS.lushr X36.here hx rfl (hb hby at_109) rfl (XS.lload X36.here hx rfl (hb hby at_110) rfl (XS.lload X36.here hx rfl (hb hby at_112) rfl (XS.land X36.here hx rfl (hb hby at_114) rfl (XS.lconst X36.here hx rfl (hb hby at_115) (XS.lcmp X36.here hx rfl (hb hby at_116) rfl k))))))))) ?_
    show own_Fin p e below (T36.setTop (mkF m 117 #[.val (.long q), .second, .val (.int p1), .val (.int p2), .val (.long bq), .second, .val (.int ((p1 &&& (63 : Int32)) + (1 : Int32))), .val (.int 0), .val (.ref aC), .val (.ref b32), .val (.long (((bq - (1 : Int64)) / (16 : Int64)) + (1 : Int64))), .second, .val (.int 4), .val (.long (15 : Int64)), .second, .unset, .unset] [(.int (lcmpW (bq &&& (15 : Int64)) (0 : Int64))), (.long ((bq.toUInt64 >>> ((4 : Int32) &&& 0x3f).toInt64.toUInt64).toInt64))])) _
    by_cases hc117_37 : (bq &&& (15 : Int64)) = (0 : Int64)
    ·refine own_go (fun _ k => XS.ifYes X36.here hx rfl (pc0 := 117) (pc' := 124) rfl (hb hby at_117) rfl ((if0 _ _).trans (teq ((lw_eq _ _).mpr hc117_37)).1) (by decide) (by decide) (XS.lconst X36.here hx rfl (hb hby at_124) (XS.ladd X36.here hx rfl (hb hby at_125) rfl (XS.lstore X36.here hx rfl (hb hby at_126) rfl (l' := #[.val (.long q), .second, .val (.int p1), .val (.int p2), .val (.long bq), .second, .val (.int ((p1 &&& (63 : Int32)) + (1 : Int32))), .val (.int 0), .val (.ref aC), .val (.ref b32), .val (.long (((bq - (1 : Int64)) / (16 : Int64)) + (1 : Int64))), .second, .val (.int 4), .val (.long (15 : Int64)), .second, .val (.long (((bq.toUInt64 >>> ((4 : Int32) &&& 0x3f).toInt64.toUInt64).toInt64) + (0 : Int64))), .second]) rfl (XS.lload X36.here hx rfl (hb hby at_128) rfl (XS.lload X36.here hx rfl (hb hby at_130) rfl (XS.lcmp X36.here hx rfl (hb hby at_132) rfl (XS.ifNo X36.here hx rfl (hb hby at_133) rfl ((if0 _ _).trans (teq ((lw_eq _ _).mpr (own_wC bq hbq _ (by simp [hc117_37]) : (((bq - (1 : Int64)) / (16 : Int64)) + (1 : Int64)) = (((bq.toUInt64 >>> ((4 : Int32) &&& 0x3f).toInt64.toUInt64).toInt64) + (0 : Int64))))).2) (XS.iconst X36.here hx rfl (hb hby at_136) (XS.goto X36.here hx rfl (pc0 := 137) (pc' := 141) rfl (hb hby at_137) (by decide) (by decide) k)))))))))) ?_
     show own_Fin p e below (T36.setTop (mkF m 141 #[.val (.long q), .second, .val (.int p1), .val (.int p2), .val (.long bq), .second, .val (.int ((p1 &&& (63 : Int32)) + (1 : Int32))), .val (.int 0), .val (.ref aC), .val (.ref b32), .val (.long (((bq - (1 : Int64)) / (16 : Int64)) + (1 : Int64))), .second, .val (.int 4), .val (.long (15 : Int64)), .second, .val (.long (((bq.toUInt64 >>> ((4 : Int32) &&& 0x3f).toInt64.toUInt64).toInt64) + (0 : Int64))), .second] [(.int 1)])) _
     obtain ⟨fs, hr, hrun, hended, hW, hsame⟩ := X36.leave (v := some (.int 1)) (fun h => by rw [Bd.returns] at h; cases h)
     refine ⟨_, _, ?_, hrun, hended, _, _, rfl, ?_, ⟨_, rfl⟩, hW, hsame.mono (by decide) (by decide)⟩
     ·exact retN X36 hx (t := .boolean) Bd.returns (by simp) (hb hby at_141) hr
     ·show Qrm0 Z q p1 p2 aC aP h0 n0 _ T36.heap _
      rw [e36]
      exact ⟨rfl, N36, K35⟩
    ·refine own_go (fun _ k => XS.ifNo X36.here hx rfl (hb hby at_117) rfl ((if0 _ _).trans (feq (fun q => hc117_37 ((lw_eq _ _).mp q))).1) (XS.lconst X36.here hx rfl (hb hby at_120) (XS.goto X36.here hx rfl (pc0 := 121) (pc' := 125) rfl (hb hby at_121) (by decide) (by decide) (XS.ladd X36.here hx rfl (hb hby at_125) rfl (XS.lstore X36.here hx rfl (hb hby at_126) rfl (l' := #[.val (.long q), .second, .val (.int p1), .val (.int p2), .val (.long bq), .second, .val (.int ((p1 &&& (63 : Int32)) + (1 : Int32))), .val (.int 0), .val (.ref aC), .val (.ref b32), .val (.long (((bq - (1 : Int64)) / (16 : Int64)) + (1 : Int64))), .second, .val (.int 4), .val (.long (15 : Int64)), .second, .val (.long (((bq.toUInt64 >>> ((4 : Int32) &&& 0x3f).toInt64.toUInt64).toInt64) + (1 : Int64))), .second]) rfl (XS.lload X36.here hx rfl (hb hby at_128) rfl (XS.lload X36.here hx rfl (hb hby at_130) rfl (XS.lcmp X36.here hx rfl (hb hby at_132) rfl (XS.ifNo X36.here hx rfl (hb hby at_133) rfl ((if0 _ _).trans (teq ((lw_eq _ _).mpr (own_wC bq hbq _ (by simp [hc117_37]) : (((bq - (1 : Int64)) / (16 : Int64)) + (1 : Int64)) = (((bq.toUInt64 >>> ((4 : Int32) &&& 0x3f).toInt64.toUInt64).toInt64) + (1 : Int64))))).2) (XS.iconst X36.here hx rfl (hb hby at_136) k)))))))))) ?_
     show own_Fin p e below (T36.setTop (mkF m 137 #[.val (.long q), .second, .val (.int p1), .val (.int p2), .val (.long bq), .second, .val (.int ((p1 &&& (63 : Int32)) + (1 : Int32))), .val (.int 0), .val (.ref aC), .val (.ref b32), .val (.long (((bq - (1 : Int64)) / (16 : Int64)) + (1 : Int64))), .second, .val (.int 4), .val (.long (15 : Int64)), .second, .val (.long (((bq.toUInt64 >>> ((4 : Int32) &&& 0x3f).toInt64.toUInt64).toInt64) + (1 : Int64))), .second] [(.int 1)])) _
     refine own_go (fun _ k => XS.goto X36.here hx rfl (pc0 := 137) (pc' := 141) rfl (hb hby at_137) (by decide) (by decide) k) ?_
     show own_Fin p e below (T36.setTop (mkF m 141 #[.val (.long q), .second, .val (.int p1), .val (.int p2), .val (.long bq), .second, .val (.int ((p1 &&& (63 : Int32)) + (1 : Int32))), .val (.int 0), .val (.ref aC), .val (.ref b32), .val (.long (((bq - (1 : Int64)) / (16 : Int64)) + (1 : Int64))), .second, .val (.int 4), .val (.long (15 : Int64)), .second, .val (.long (((bq.toUInt64 >>> ((4 : Int32) &&& 0x3f).toInt64.toUInt64).toInt64) + (1 : Int64))), .second] [(.int 1)])) _
     obtain ⟨fs, hr, hrun, hended, hW, hsame⟩ := X36.leave (v := some (.int 1)) (fun h => by rw [Bd.returns] at h; cases h)
     refine ⟨_, _, ?_, hrun, hended, _, _, rfl, ?_, ⟨_, rfl⟩, hW, hsame.mono (by decide) (by decide)⟩
     ·exact retN X36 hx (t := .boolean) Bd.returns (by simp) (hb hby at_141) hr
     ·show Qrm0 Z q p1 p2 aC aP h0 n0 _ T36.heap _
      rw [e36]
      exact ⟨rfl, N36, K35⟩
  show own_Fin p e below (s₁.setTop (mkF m 7 #[.val (.long q), .second, .val (.int p1), .val (.int p2), .val (.long (q &&& (9223372036854775807 : Int64))), .second, .unset, .unset, .unset, .unset, .unset, .unset, .unset, .unset, .unset, .unset, .unset] [])) _
  refine own_go (fun _ k => XS.lload X0.here hx rfl (hb hby at_7) rfl (XS.lconst X0.here hx rfl (hb hby at_9) (XS.lcmp X0.here hx rfl (hb hby at_10) rfl k))) ?_
  show own_Fin p e below (s₁.setTop (mkF m 11 #[.val (.long q), .second, .val (.int p1), .val (.int p2), .val (.long (q &&& (9223372036854775807 : Int64))), .second, .unset, .unset, .unset, .unset, .unset, .unset, .unset, .unset, .unset, .unset, .unset] [(.int (lcmpW (q &&& (9223372036854775807 : Int64)) (0 : Int64)))])) _
  by_cases hc11_40 : (q &&& (9223372036854775807 : Int64)) = (0 : Int64)
  ·refine own_go (fun _ k => XS.ifNo X0.here hx rfl (hb hby at_11) rfl ((if0 _ _).trans (teq ((lw_eq _ _).mpr hc11_40)).2) (XS.lconst X0.here hx rfl (hb hby at_14) (XS.lstore X0.here hx rfl (hb hby at_15) rfl (l' := #[.val (.long q), .second, .val (.int p1), .val (.int p2), .val (.long (1 : Int64)), .second, .unset, .unset, .unset, .unset, .unset, .unset, .unset, .unset, .unset, .unset, .unset]) rfl k))) ?_
   show own_Fin p e below (s₁.setTop (mkF m 17 #[.val (.long q), .second, .val (.int p1), .val (.int p2), .val (.long (1 : Int64)), .second, .unset, .unset, .unset, .unset, .unset, .unset, .unset, .unset, .unset, .unset, .unset] [])) _
   exact jn (1 : Int64) (by decide)
  ·refine own_go (fun _ k => XS.ifYes X0.here hx rfl (pc0 := 11) (pc' := 17) rfl (hb hby at_11) rfl ((if0 _ _).trans (feq (fun q => hc11_40 ((lw_eq _ _).mp q))).2) (by decide) (by decide) k) ?_
   show own_Fin p e below (s₁.setTop (mkF m 17 #[.val (.long q), .second, .val (.int p1), .val (.int p2), .val (.long (q &&& (9223372036854775807 : Int64))), .second, .unset, .unset, .unset, .unset, .unset, .unset, .unset, .unset, .unset, .unset, .unset] [])) _
   exact jn (q &&& (9223372036854775807 : Int64)) (own_pos _ hc11_40)
set_option maxRecDepth 65536 in
set_option maxHeartbeats 40000000 in
theorem comes_1 {Post : Tables → Env → Array Value → State → Outcome → State → Prop} (hpost : ∀ tb e args s v u, (limb_1_1.after args s (.returned v) u = true ∧ limb_1_2.after args s (.returned v) u = true ∧ True) → FrameEnd s (.returned v) u (Jvm.fieldLocs frame_1_writes args s ++ Jvm.arrayLocs frame_1_arrays args s ++ Jvm.staticLocs frame_1_statics s) 16 128 → Post tb e args s (.returned v) u) :
    ArmFor flags0 classFile x code maxLocals ret World_1 tables_1 room_1 Calls_1 rest_1 Pre_1 Post := by
  intro l hfl _ _ p e ha hc hk s m args below hf hA hF happ hP
  obtain ⟨hcalls, hrest, hpre⟩ := hP
  obtain ⟨-, -, -, hnamed, -, -, -, hat⟩ := (Spec.applies_iff hf).mp happ
  obtain ⟨hg, hn⟩ := and_e (Cond.before_iff.mp (show (Jvm.Cond.and given_1 narrow_1).before args s = true from hpre))
  obtain ⟨g1, g2⟩ := and_e hg
  obtain ⟨g3, g4⟩ := and_e g2
  obtain ⟨g5, g6⟩ := and_e g4
  obtain ⟨w0, w1, w2, rfl⟩ : ∃ w0 w1 w2 : Value, args = #[w0, w1, w2] := by
    have hs : args.size = 3 := by simpa [Cond.value, given_1] using g1
    obtain ⟨L⟩ := args
    match L, hs with
    | [w0, w1, w2], _ => exact ⟨w0, w1, w2, rfl⟩
  have hw := fun d (hd : d ∈ tables_1) => atoms_spec (ws := Jvm.Cond.code x code maxLocals ret :: tables_1) hat d (List.mem_cons_of_mem _ hd)
  have hfit : Fit s := fun {y c} hc i hi => by
    obtain ⟨ha, rfl⟩ := Array.getElem?_eq_some_iff.mp hc
    have q := List.all_eq_true.mp ((Array.all_eq_true_iff_forall_mem.mp hF) _ (Array.getElem_mem ha)) i (List.mem_range.mpr hi)
    simpa [Array.getElem?_eq_getElem hi] using q
  obtain ⟨i0, ei0⟩ := isL_v g3
  obtain rfl : w0 = (.long i0) := Option.some.inj ei0
  obtain ⟨i1, ei1⟩ := is_v g5
  obtain rfl : w1 = (.int i1) := Option.some.inj ei1
  obtain ⟨i2, ei2⟩ := is_v g6
  obtain rfl : w2 = (.int i2) := Option.some.inj ei2
  obtain ⟨m1, m2⟩ := and_e hn
  obtain ⟨m3, m4⟩ := and_e m2
  obtain ⟨m5, m6⟩ := and_e m4
  have hx_st_COUNTING := m1
  obtain ⟨st_COUNTING, ev_st_COUNTING⟩ := exa_v hx_st_COUNTING
  have E_st_COUNTING := Exa.start ev_st_COUNTING hx_st_COUNTING
  have S_st_COUNTING := Sta.start ev_st_COUNTING (Or.inr ⟨(ow hw 2), (ow hw 3)⟩)
  have ev_st_COUNTING_cellBits := own_eqv m3 (Term.int_eval _) rfl
  have F_st_COUNTING_cellBits : Fld s s.heap st_COUNTING "com/example/generous_sieve/generoussieve/format/FilterKind" "cellBits" "I" (.int 4) := Fld.start ((fld_at ev_st_COUNTING).symm.trans ev_st_COUNTING_cellBits)
  have hx_st_PLAIN := m5
  obtain ⟨st_PLAIN, ev_st_PLAIN⟩ := exa_v hx_st_PLAIN
  have E_st_PLAIN := Exa.start ev_st_PLAIN hx_st_PLAIN
  have S_st_PLAIN := Sta.start ev_st_PLAIN (Or.inr ⟨(ow hw 2), (ow hw 40)⟩)
  have ev_st_PLAIN_cellBits := own_eqv m6 (Term.int_eval _) rfl
  have F_st_PLAIN_cellBits : Fld s s.heap st_PLAIN "com/example/generous_sieve/generoussieve/format/FilterKind" "cellBits" "I" (.int 1) := Fld.start ((fld_at ev_st_PLAIN).symm.trans ev_st_PLAIN_cellBits)
  obtain ⟨n, o, h1, h2, h3, _, L, rfl, ⟨rfl, N, hK⟩, hq⟩ := rm0 l s _ hw tables_1 i0 i1 i2 st_COUNTING st_PLAIN s.heap s.heap.size (Old.start s) S_st_COUNTING E_st_COUNTING F_st_COUNTING_cellBits S_st_PLAIN E_st_PLAIN F_st_PLAIN_cellBits p e ha hc hk s m _ below hf ((Spec.applies_iff_loose hf).mp happ).1 ⟨rfl, State.Warmed39.refl s, rfl⟩ trivial
  refine ⟨n, _, h1, h2, h3, hpost _ _ _ _ _ _ ⟨Cond.after_iff.mpr rfl, Cond.after_iff.mpr (eq_i res_at (Term.int_eval (1)) rfl), trivial⟩ ⟨hq.1, hq.2.1, (hq.2.2.sift fun y hy => Or.inr (N y hy)).mono (by decide) (by decide)⟩⟩
theorem main_1_1 : Claimed_1_1 := comes_1 fun _ _ _ _ _ _ h hF => ⟨h.1, hF⟩
theorem main_1_2 : Claimed_1_2 := comes_1 fun _ _ _ _ _ _ h hF => ⟨h.2.1, hF⟩
end Jvm.Pilot.@@N@@
namespace Jvm.Pilot.@@N@@
open Jvm Jvm.ClassFile Sem Op Lib Jvm.Free Jvm.Stand Jvm.Pilot.@@N@@.Jvm.D
/-! MADE BY PROGRAM (witnessworld.py) out of the Statement's table words and the real class files: 14 classes; the members and pool entries that the words name. The judged class is class 1, her method 1. -/
namespace start1
open Jvm.ClassFile
def u (s : String) : CpInfo := .utf8 (stringToUtf16 s)
/-- a pool by its gaps: so many unusable entries, then the entry; so many at the end -/
def gap : Nat → List CpInfo → List CpInfo
  | 0, r => r
  | n + 1, r => .unusable :: gap n r
def poolList (es : List (Nat × CpInfo)) (last : Nat) : List CpInfo := es.foldr (fun e r => gap e.1 (e.2 :: r)) (gap last [])
def pool (es : List (Nat × CpInfo)) (last : Nat) : Array CpInfo := ⟨poolList es last⟩
def fileOf (pool : Array CpInfo) (this : Nat) (attrs : Array Attribute := #[]) (ms : Array MethodInfo := #[]) (fl : Nat := 33) (sup : Nat := 0) (ifs : Array Nat := #[]) (fds : Array FieldInfo := #[]) : ClassFile where
  minorVersion := 0
  majorVersion := 65
  constantPool := pool
  accessFlags := fl
  thisClass := this
  superClass := sup
  interfaces := ifs
  fields := fds
  methods := ms
  attributes := attrs
def plain (name : String) (sup : Option ClassId) : Class where
  name := name
  kind := .ordinary
  loader := none
  accessFlags := 33
  super := sup
  interfaces := #[]
  cf := none
  fields := #[]
  methods := #[]
  instanceTypes := #[]
  staticTypes := #[]
  resolved := #[]
  callSites := []
  init := .initialized
  statics := none
  mirror := none

def pool0 : Array CpInfo := pool [(5, u "<init>"), (0, u "()V"), (1, .class_ 10), (1, u "java/lang/Object")] 113

def k0c0 : Code := { maxStack := 0, maxLocals := 1, code := object_method_1_code, exceptionTable := #[], attributes := #[] }
def k0m0 : Method := { name := "<init>", desc := "()V", sig := { parameters := [], returnType := none }, accessFlags := 1, code := some k0c0 }
/-- java/lang/Object -/
def k0 : Class := { plain "java/lang/Object" none with
  accessFlags := 33
  interfaces := #[]
  cf := some (fileOf pool0 8 #[] #[{ accessFlags := 1, nameIndex := 5, descriptorIndex := 6, attributes := #[] }] 33 0 #[] #[])
  fields := #[]
  methods := #[k0m0]
  instanceTypes := #[]
  staticTypes := #[]
  resolved := Array.replicate 124 none
  statics := none }

def pool1 : Array CpInfo := pool [(2, .class_ 4), (1, u "java/lang/Object"), (0, u "<init>"), (0, u "()V"), (2, .long 9223372036854775807), (1, .fieldref 12 13), (0, .class_ 14), (0, .nameAndType 15 16), (0, u "com/example/generous_sieve/generoussieve/format/FilterKind"), (0, u "PLAIN"), (0, u "Lcom/example/generous_sieve/generoussieve/format/FilterKind;"), (0, .fieldref 12 18), (0, .nameAndType 19 16), (0, u "COUNTING"), (0, .class_ 21), (0, u "com/example/generous_sieve/generoussieve/math/Shape"), (0, .methodref 20 23), (0, .nameAndType 5 24), (0, u "(JI)V"), (0, .methodref 12 26), (0, .nameAndType 27 28), (0, u "words"), (0, u "(Lcom/example/generous_sieve/generoussieve/math/Shape;)J"), (0, .long 63), (1, .long 15), (1, .class_ 34), (0, u "com/example/generous_sieve/generoussieve/format/FilterKindWordsPinLaw"), (2, u "law"), (0, u "(JII)Z")] 3

def k1m0 : Method := { name := "<init>", desc := "()V", sig := { parameters := [], returnType := none }, accessFlags := 1, code := none }
def k1c1 : Code := { maxStack := 6, maxLocals := 17, code := code, exceptionTable := #[], attributes := #[] }
def k1m1 : Method := { name := "law", desc := "(JII)Z", sig := { parameters := [.long, .int, .int], returnType := some .boolean }, accessFlags := 9, code := some k1c1 }
/-- com/example/generous_sieve/generoussieve/format/FilterKindWordsPinLaw -/
def k1 : Class := { plain "com/example/generous_sieve/generoussieve/format/FilterKindWordsPinLaw" (some 0) with
  accessFlags := 49
  interfaces := #[]
  cf := some (fileOf pool1 33 #[] #[{ accessFlags := 1, nameIndex := 5, descriptorIndex := 6, attributes := #[] }, { accessFlags := 9, nameIndex := 37, descriptorIndex := 38, attributes := #[] }] 49 2 #[] #[])
  fields := #[]
  methods := #[k1m0, k1m1]
  instanceTypes := #[]
  staticTypes := #[]
  resolved := Array.replicate 42 none
  statics := none }

def pool2 : Array CpInfo := pool [(1, .class_ 2), (0, u "java/lang/constant/Constable"), (0, .class_ 4), (0, u "java/lang/Object")] 6

/-- java/lang/constant/Constable -/
def k2 : Class := { plain "java/lang/constant/Constable" (some 0) with
  accessFlags := 1537
  interfaces := #[]
  cf := some (fileOf pool2 1 #[] #[] 1537 3 #[] #[])
  fields := #[]
  methods := #[]
  instanceTypes := #[]
  staticTypes := #[]
  resolved := Array.replicate 11 none
  statics := none }

def pool3 : Array CpInfo := pool [(1, .class_ 2), (0, u "java/lang/Comparable"), (0, .class_ 4), (0, u "java/lang/Object")] 7

/-- java/lang/Comparable -/
def k3 : Class := { plain "java/lang/Comparable" (some 0) with
  accessFlags := 1537
  interfaces := #[]
  cf := some (fileOf pool3 1 #[] #[] 1537 3 #[] #[])
  fields := #[]
  methods := #[]
  instanceTypes := #[]
  staticTypes := #[]
  resolved := Array.replicate 12 none
  statics := none }

def pool4 : Array CpInfo := pool [(1, .class_ 2), (0, u "java/io/Serializable"), (0, .class_ 4), (0, u "java/lang/Object")] 2

/-- java/io/Serializable -/
def k4 : Class := { plain "java/io/Serializable" (some 0) with
  accessFlags := 1537
  interfaces := #[]
  cf := some (fileOf pool4 1 #[] #[] 1537 3 #[] #[])
  fields := #[]
  methods := #[]
  instanceTypes := #[]
  staticTypes := #[]
  resolved := Array.replicate 7 none
  statics := none }

def pool5 : Array CpInfo := pool [(2, .class_ 4), (1, u "java/lang/Enum"), (0, u "name"), (0, u "Ljava/lang/String;"), (2, u "ordinal"), (0, u "I"), (1, .class_ 14), (1, u "java/lang/Object"), (4, u "hash"), (86, .class_ 108), (1, u "java/lang/Enum$EnumDesc"), (2, .class_ 112), (0, u "java/lang/constant/Constable"), (0, .class_ 114), (0, u "java/lang/Comparable"), (0, .class_ 116), (0, u "java/io/Serializable")] 87

/-- java/lang/Enum -/
def k5 : Class := { plain "java/lang/Enum" (some 0) with
  accessFlags := 1057
  interfaces := #[2, 3, 4]
  cf := some (fileOf pool5 2 #[.nestMembers #[106]] #[] 1057 12 #[111, 113, 115] #[{ accessFlags := 18, nameIndex := 5, descriptorIndex := 6, attributes := #[] }, { accessFlags := 18, nameIndex := 9, descriptorIndex := 10, attributes := #[] }, { accessFlags := 2, nameIndex := 19, descriptorIndex := 10, attributes := #[] }])
  fields := #[{ name := "name", type := (.object "java/lang/String"), accessFlags := 18, slot := 0, constantValue := 0 }, { name := "ordinal", type := .int, accessFlags := 18, slot := 1, constantValue := 0 }, { name := "hash", type := .int, accessFlags := 2, slot := 2, constantValue := 0 }]
  methods := #[]
  instanceTypes := #[(.object "java/lang/String"), .int, .int]
  staticTypes := #[]
  resolved := Array.replicate 204 none
  statics := none }

def pool6 : Array CpInfo := pool [(3, .class_ 4), (0, u "com/example/generous_sieve/generoussieve/format/FilterKind"), (2, u "PLAIN"), (0, u "Lcom/example/generous_sieve/generoussieve/format/FilterKind;"), (2, u "COUNTING"), (2, u "$VALUES"), (0, u "[Lcom/example/generous_sieve/generoussieve/format/FilterKind;"), (6, .class_ 24), (1, u "java/lang/Enum"), (20, u "marker"), (0, u "[B"), (0, .fieldref 3 48), (0, .nameAndType 49 50), (0, u "cellBits"), (0, u "I"), (2, u "cell"), (0, u "Ljava/lang/String;"), (0, .methodref 56 57), (0, .class_ 58), (0, .nameAndType 59 60), (0, u "com/example/generous_sieve/generoussieve/math/Shape"), (0, u "bits"), (0, u "()J"), (0, .methodref 3 62), (0, .nameAndType 63 64), (0, u "cellsPerWord"), (0, u "()I"), (16, u "words"), (0, u "(Lcom/example/generous_sieve/generoussieve/math/Shape;)J"), (36, u "MAX_WORDS"), (0, u "J")] 35

def k6c0 : Code := { maxStack := 4, maxLocals := 2, code := prog_22_method_5_code, exceptionTable := #[], attributes := #[] }
def k6m0 : Method := { name := "words", desc := "(Lcom/example/generous_sieve/generoussieve/math/Shape;)J", sig := { parameters := [(.object "com/example/generous_sieve/generoussieve/math/Shape")], returnType := some .long }, accessFlags := 1, code := some k6c0 }
def k6c1 : Code := { maxStack := 2, maxLocals := 1, code := prog_22_method_11_code, exceptionTable := #[], attributes := #[] }
def k6m1 : Method := { name := "cellsPerWord", desc := "()I", sig := { parameters := [], returnType := some .int }, accessFlags := 2, code := some k6c1 }
/-- com/example/generous_sieve/generoussieve/format/FilterKind -/
def k6 : Class := { plain "com/example/generous_sieve/generoussieve/format/FilterKind" (some 5) with
  accessFlags := 16433
  interfaces := #[]
  cf := some (fileOf pool6 3 #[] #[{ accessFlags := 1, nameIndex := 81, descriptorIndex := 82, attributes := #[] }, { accessFlags := 2, nameIndex := 63, descriptorIndex := 64, attributes := #[] }] 16433 22 #[] #[{ accessFlags := 16409, nameIndex := 7, descriptorIndex := 8, attributes := #[] }, { accessFlags := 16409, nameIndex := 11, descriptorIndex := 8, attributes := #[] }, { accessFlags := 26, nameIndex := 119, descriptorIndex := 120, attributes := #[] }, { accessFlags := 18, nameIndex := 45, descriptorIndex := 46, attributes := #[] }, { accessFlags := 18, nameIndex := 49, descriptorIndex := 50, attributes := #[] }, { accessFlags := 18, nameIndex := 53, descriptorIndex := 54, attributes := #[] }, { accessFlags := 4122, nameIndex := 14, descriptorIndex := 15, attributes := #[] }])
  fields := #[{ name := "PLAIN", type := (.object "com/example/generous_sieve/generoussieve/format/FilterKind"), accessFlags := 16409, slot := 0, constantValue := 0 }, { name := "COUNTING", type := (.object "com/example/generous_sieve/generoussieve/format/FilterKind"), accessFlags := 16409, slot := 1, constantValue := 0 }, { name := "MAX_WORDS", type := .long, accessFlags := 26, slot := 2, constantValue := 0 }, { name := "marker", type := (.array .byte), accessFlags := 18, slot := 3, constantValue := 0 }, { name := "cellBits", type := .int, accessFlags := 18, slot := 4, constantValue := 0 }, { name := "cell", type := (.object "java/lang/String"), accessFlags := 18, slot := 5, constantValue := 0 }, { name := "$VALUES", type := (.array (.object "com/example/generous_sieve/generoussieve/format/FilterKind")), accessFlags := 4122, slot := 3, constantValue := 0 }]
  methods := #[k6m0, k6m1]
  instanceTypes := #[(.object "java/lang/String"), .int, .int, (.array .byte), .int, (.object "java/lang/String")]
  staticTypes := #[(.object "com/example/generous_sieve/generoussieve/format/FilterKind"), (.object "com/example/generous_sieve/generoussieve/format/FilterKind"), .long, (.array (.object "com/example/generous_sieve/generoussieve/format/FilterKind"))]
  resolved := Array.replicate 156 none
  statics := some 0 }

def pool7 : Array CpInfo := pool [(1, .methodref 2 3), (0, .class_ 4), (0, .nameAndType 5 6), (0, u "java/lang/Object"), (0, u "<init>"), (0, u "()V"), (0, .class_ 8), (0, u "java/lang/Record")] 13

def k7c0 : Code := { maxStack := 1, maxLocals := 1, code := jdk_30_method_1_code, exceptionTable := #[], attributes := #[] }
def k7m0 : Method := { name := "<init>", desc := "()V", sig := { parameters := [], returnType := none }, accessFlags := 4, code := some k7c0 }
/-- java/lang/Record -/
def k7 : Class := { plain "java/lang/Record" (some 0) with
  accessFlags := 1057
  interfaces := #[]
  cf := some (fileOf pool7 7 #[] #[{ accessFlags := 4, nameIndex := 5, descriptorIndex := 6, attributes := #[] }] 1057 2 #[] #[])
  fields := #[]
  methods := #[k7m0]
  instanceTypes := #[]
  staticTypes := #[]
  resolved := Array.replicate 22 none
  statics := none }

def pool8 : Array CpInfo := pool [(1, .methodref 2 3), (0, .class_ 4), (0, .nameAndType 5 6), (0, u "java/lang/Record"), (0, u "<init>"), (0, u "()V"), (9, .class_ 17), (0, u "com/example/generous_sieve/generoussieve/math/Shape"), (3, .fieldref 16 22), (0, .nameAndType 23 24), (0, u "bits"), (0, u "J"), (0, .fieldref 16 26), (0, .nameAndType 27 28), (0, u "hashes"), (0, u "I"), (11, u "(JI)V"), (42, u "MAX_HASHES"), (14, u "()J")] 41

def k8c0 : Code := { maxStack := 4, maxLocals := 4, code := prog_33_method_1_code, exceptionTable := #[], attributes := #[] }
def k8m0 : Method := { name := "<init>", desc := "(JI)V", sig := { parameters := [.long, .int], returnType := none }, accessFlags := 1, code := some k8c0 }
def k8c1 : Code := { maxStack := 2, maxLocals := 1, code := prog_33_method_11_code, exceptionTable := #[], attributes := #[] }
def k8m1 : Method := { name := "bits", desc := "()J", sig := { parameters := [], returnType := some .long }, accessFlags := 1, code := some k8c1 }
/-- com/example/generous_sieve/generoussieve/math/Shape -/
def k8 : Class := { plain "com/example/generous_sieve/generoussieve/math/Shape" (some 7) with
  accessFlags := 49
  interfaces := #[]
  cf := some (fileOf pool8 16 #[] #[{ accessFlags := 1, nameIndex := 5, descriptorIndex := 40, attributes := #[] }, { accessFlags := 1, nameIndex := 23, descriptorIndex := 98, attributes := #[] }] 49 2 #[] #[{ accessFlags := 18, nameIndex := 23, descriptorIndex := 24, attributes := #[] }, { accessFlags := 18, nameIndex := 27, descriptorIndex := 28, attributes := #[] }, { accessFlags := 25, nameIndex := 83, descriptorIndex := 28, attributes := #[] }])
  fields := #[{ name := "bits", type := .long, accessFlags := 18, slot := 0, constantValue := 0 }, { name := "hashes", type := .int, accessFlags := 18, slot := 1, constantValue := 0 }, { name := "MAX_HASHES", type := .int, accessFlags := 25, slot := 0, constantValue := 0 }]
  methods := #[k8m0, k8m1]
  instanceTypes := #[.long, .int]
  staticTypes := #[.int]
  resolved := Array.replicate 140 none
  statics := none }

def pool9 : Array CpInfo := pool [(1, u "java/lang/Cloneable"), (0, .class_ 1), (0, u "java/lang/Object"), (0, .class_ 3)] 3

/-- java/lang/Cloneable -/
def k9 : Class := { plain "java/lang/Cloneable" (some 0) with
  accessFlags := 1537
  interfaces := #[]
  cf := some (fileOf pool9 2 #[] #[] 1537 4 #[] #[])
  fields := #[]
  methods := #[]
  instanceTypes := #[]
  staticTypes := #[]
  resolved := Array.replicate 8 none
  statics := none }

/-- the primitive byte -/
def k10 : Class := { plain "byte" none with kind := .primitive 'B', accessFlags := 0x411 }
/-- [B -/
def k11 : Class := { plain "[B" (some 0) with kind := .array 10 .byte, interfaces := #[9, 4], accessFlags := 1041 }

/-- the primitive int -/
def k12 : Class := { plain "int" none with kind := .primitive 'I', accessFlags := 0x411 }
/-- [I -/
def k13 : Class := { plain "[I" (some 0) with kind := .array 12 .int, interfaces := #[9, 4], accessFlags := 1041 }

def heap : Heap := #[{ cls := 6, slots := #[.ref 1, .ref 2, .long 0, .null], vm := .statics 6 },
  { cls := 6, slots := #[.null, .int 0, .int 0, .null, .int 1, .null], vm := .none },
  { cls := 6, slots := #[.null, .int 1, .int 0, .null, .int 4, .null], vm := .none }]
def classes : Array Class := #[k0, k1, k2, k3, k4, k5, k6, k7, k8, k9, k10, k11, k12, k13]
def interned : List (Array UInt16 × Addr) := []
def slotsUsed : Nat := 16
def theMethod : MethodId := ⟨1, 1⟩
def args0 : Array Value := #[.long 5, .int 3, .int 4]
def aboutOver (below : List Frame) : State where
  vm := { classes := classes, interned := interned.toArray }
  heap := heap
  slotsUsed := slotsUsed
  threads := #[{ frames := .invoking theMethod args0 :: below }]
def below0 : List Frame := [.native { method := ⟨0, 0⟩, args := #[] }]
def about1 : State := aboutOver below0
def p0 : Program := .bare "" "" ""
def e0 : Env := launch0.env 0 0 0
theorem w_frames : about1.frames = Frame.invoking theMethod args0 :: below0 := rfl
set_option maxRecDepth 65536 in
theorem w_args : argsFit about1.vm theMethod args0 = true := by decide +kernel
set_option maxRecDepth 65536 in
theorem w_heap : heapFits about1 = true := by decide +kernel
set_option maxRecDepth 65536 in
theorem w_runnable : about1.curStatus? = some .runnable := by decide +kernel
set_option maxRecDepth 65536 in
theorem w_alone : about1.alone = true := by decide +kernel
set_option maxRecDepth 65536 in
theorem w_named : about1.methodNamed? x = some theMethod := by decide +kernel
set_option maxRecDepth 65536 in
theorem w_hears : about1.hears theMethod below0 = true := by decide +kernel
set_option maxRecDepth 65536 in
theorem w_ripe : about1.ripe theMethod args0 below0 = true := by decide +kernel
theorem w_running : about1.status = .running := rfl
set_option maxRecDepth 65536 in
theorem w_room : about1.hasRoom e0.platform room_1 = true :=
  launch0.hasRoom_least _ room_1 (by decide +kernel) (by decide +kernel) (by decide +kernel) (by decide +kernel) (by decide +kernel) (by decide +kernel)
theorem allAtoms_all (ts : List Jvm.Cond) (a : Array Jvm.Value) (st : Jvm.State) : (allAtoms ts).before a st = ts.all (fun c => c.before a st) := by
  induction ts with
  | nil => rfl
  | cons c t ih =>
    show (Jvm.Cond.and c (allAtoms t)).before a st = _
    rw [Jvm.Cond.before_and, ih, List.all_cons]
def words1 : List Jvm.Cond := Jvm.Cond.code x code maxLocals ret :: tables_1
/-- a 'code' word, met by the world's own term for the bytes: nothing is compared byte by byte -/
theorem code_word {y : MethodName} {bytes : ByteArray} {mx : Nat} {rt : Option FieldType} {a : Array Value} {s : State} {m : MethodId} {meth : Method} {c : Code} (h1 : s.methodNamed? y = some m) (h2 : s.vm.method? m = some meth) (h3 : meth.code = some c) (h4 : c.code = bytes)
    (h5 : (c.maxLocals == mx && c.exceptionTable.isEmpty && decide (c.maxStack ≤ mostOperands) && decide (meth.sig.returnType = rt) && !meth.locks && decide (parseMethodDescriptor y.desc = some meth.sig)) = true) : (Jvm.Cond.code y bytes mx rt).before a s = true := by
  simp only [Bool.and_eq_true, beq_iff_eq, Bool.not_eq_true', decide_eq_true_eq] at h5
  obtain ⟨⟨⟨⟨⟨g1, g2⟩, g3⟩, g4⟩, g5⟩, g6⟩ := h5
  simp [Cond.before, Cond.holds, Cond.value, h1, h2, h3, h4, g1, g2, g3, g4, g5, g6]
def isCode : Jvm.Cond → Bool
  | .code _ _ _ _ => true
  | _ => false
theorem all_split {L : List Jvm.Cond} {P : Jvm.Cond → Bool} (h1 : L.all (fun c => isCode c || P c) = true) (h2 : ∀ c ∈ L.filter isCode, P c = true) : L.all P = true := by
  refine List.all_eq_true.mpr fun c hc => ?_
  have h := List.all_eq_true.mp h1 c hc
  rcases Bool.eq_false_or_eq_true (isCode c) with hi | hi
  · exact h2 c (List.mem_filter.mpr ⟨hc, hi⟩)
  · simpa [hi] using h
set_option maxRecDepth 65536 in
theorem w_c0 : (Jvm.Cond.code x code maxLocals ret).before args0 about1 = true := code_word (m := ⟨1, 1⟩) (meth := k1m1) (c := k1c1) (by decide +kernel) rfl rfl rfl (by decide +kernel)
set_option maxRecDepth 65536 in
theorem w_c1 : (Jvm.Cond.code ({ cls := "com/example/generous_sieve/generoussieve/math/Shape", name := "<init>", desc := "(JI)V" } : Jvm.MethodName) prog_33_method_1_code (4 : Nat) (Option.none : Option Jvm.ClassFile.FieldType)).before args0 about1 = true := code_word (m := ⟨8, 0⟩) (meth := k8m0) (c := k8c0) (by decide +kernel) rfl rfl rfl (by decide +kernel)
set_option maxRecDepth 65536 in
theorem w_c2 : (Jvm.Cond.code ({ cls := "java/lang/Record", name := "<init>", desc := "()V" } : Jvm.MethodName) jdk_30_method_1_code (1 : Nat) (Option.none : Option Jvm.ClassFile.FieldType)).before args0 about1 = true := code_word (m := ⟨7, 0⟩) (meth := k7m0) (c := k7c0) (by decide +kernel) rfl rfl rfl (by decide +kernel)
set_option maxRecDepth 65536 in
theorem w_c3 : (Jvm.Cond.code ({ cls := "java/lang/Object", name := "<init>", desc := "()V" } : Jvm.MethodName) object_method_1_code (1 : Nat) (Option.none : Option Jvm.ClassFile.FieldType)).before args0 about1 = true := code_word (m := ⟨0, 0⟩) (meth := k0m0) (c := k0c0) (by decide +kernel) rfl rfl rfl (by decide +kernel)
set_option maxRecDepth 65536 in
theorem w_c4 : (Jvm.Cond.code ({ cls := "com/example/generous_sieve/generoussieve/format/FilterKind", name := "words", desc := "(Lcom/example/generous_sieve/generoussieve/math/Shape;)J" } : Jvm.MethodName) prog_22_method_5_code (2 : Nat) (Option.some Jvm.ClassFile.FieldType.long)).before args0 about1 = true := code_word (m := ⟨6, 0⟩) (meth := k6m0) (c := k6c0) (by decide +kernel) rfl rfl rfl (by decide +kernel)
set_option maxRecDepth 65536 in
theorem w_c5 : (Jvm.Cond.code ({ cls := "com/example/generous_sieve/generoussieve/math/Shape", name := "bits", desc := "()J" } : Jvm.MethodName) prog_33_method_11_code (1 : Nat) (Option.some Jvm.ClassFile.FieldType.long)).before args0 about1 = true := code_word (m := ⟨8, 1⟩) (meth := k8m1) (c := k8c1) (by decide +kernel) rfl rfl rfl (by decide +kernel)
set_option maxRecDepth 65536 in
theorem w_c6 : (Jvm.Cond.code ({ cls := "com/example/generous_sieve/generoussieve/format/FilterKind", name := "cellsPerWord", desc := "()I" } : Jvm.MethodName) prog_22_method_11_code (1 : Nat) (Option.some Jvm.ClassFile.FieldType.int)).before args0 about1 = true := code_word (m := ⟨6, 1⟩) (meth := k6m1) (c := k6c1) (by decide +kernel) rfl rfl rfl (by decide +kernel)
def codes1 : List Jvm.Cond := [Jvm.Cond.code x code maxLocals ret, Jvm.Cond.code ({ cls := "com/example/generous_sieve/generoussieve/math/Shape", name := "<init>", desc := "(JI)V" } : Jvm.MethodName) prog_33_method_1_code (4 : Nat) (Option.none : Option Jvm.ClassFile.FieldType), Jvm.Cond.code ({ cls := "java/lang/Record", name := "<init>", desc := "()V" } : Jvm.MethodName) jdk_30_method_1_code (1 : Nat) (Option.none : Option Jvm.ClassFile.FieldType), Jvm.Cond.code ({ cls := "java/lang/Object", name := "<init>", desc := "()V" } : Jvm.MethodName) object_method_1_code (1 : Nat) (Option.none : Option Jvm.ClassFile.FieldType), Jvm.Cond.code ({ cls := "com/example/generous_sieve/generoussieve/format/FilterKind", name := "words", desc := "(Lcom/example/generous_sieve/generoussieve/math/Shape;)J" } : Jvm.MethodName) prog_22_method_5_code (2 : Nat) (Option.some Jvm.ClassFile.FieldType.long), Jvm.Cond.code ({ cls := "com/example/generous_sieve/generoussieve/math/Shape", name := "bits", desc := "()J" } : Jvm.MethodName) prog_33_method_11_code (1 : Nat) (Option.some Jvm.ClassFile.FieldType.long), Jvm.Cond.code ({ cls := "com/example/generous_sieve/generoussieve/format/FilterKind", name := "cellsPerWord", desc := "()I" } : Jvm.MethodName) prog_22_method_11_code (1 : Nat) (Option.some Jvm.ClassFile.FieldType.int)]
set_option maxRecDepth 65536 in
theorem codes_eq : words1.filter isCode = codes1 := rfl
theorem w_codes : ∀ c ∈ words1.filter isCode, c.before args0 about1 = true := by
  rw [codes_eq]
  intro c hc
  simp only [codes1, List.mem_cons, List.not_mem_nil, or_false] at hc
  rcases hc with rfl | rfl | rfl | rfl | rfl | rfl | rfl
  · exact w_c0
  · exact w_c1
  · exact w_c2
  · exact w_c3
  · exact w_c4
  · exact w_c5
  · exact w_c6
set_option maxRecDepth 65536 in
theorem w_t1 : (words1.take 24).all (fun c => isCode c || c.before args0 about1) = true := by decide +kernel
set_option maxRecDepth 65536 in
theorem w_t2 : (words1.drop 24).all (fun c => isCode c || c.before args0 about1) = true := by decide +kernel
theorem w_tables : (allAtoms (Jvm.Cond.code x code maxLocals ret :: tables_1)).before args0 about1 = true := by
  rw [allAtoms_all]
  show words1.all (fun c => c.before args0 about1) = true
  refine all_split ?_ w_codes
  rw [← List.take_append_drop 24 words1, List.all_append, w_t1, w_t2]
  rfl
set_option maxRecDepth 65536 in
theorem w_case : (Jvm.Cond.and given_1 narrow_1).before args0 about1 = true := by decide +kernel
theorem w_applies : (headSpec (Jvm.Cond.code x code maxLocals ret :: tables_1) room_1).applies x e0.platform about1 = true :=
  (Spec.applies_iff w_frames).mpr ⟨w_running, w_runnable, w_alone, w_named, w_hears, w_ripe, w_room, w_tables⟩
theorem atStart : AtStart classFile x code maxLocals ret World_1 tables_1 room_1 Calls_1 rest_1 Pre_1 launch0 p0 e0 about1 theMethod args0 below0 :=
  ⟨lists_1, trivial, launch0.admits_env _ _ _, launch0.least_env, fairChoices_fair.cas, fairChoices_fair.clock, w_frames, w_args, w_heap, w_applies, trivial, trivial, w_case⟩
end start1
theorem witness_1 : WitnessClaimed_1 := ⟨start1.p0, start1.e0, start1.about1, start1.theMethod, start1.args0, start1.below0, start1.atStart⟩
end Jvm.Pilot.@@N@@
